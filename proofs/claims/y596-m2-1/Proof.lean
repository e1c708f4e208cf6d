import JvmDerived
import JvmDerived.Pilot.@@N@@Statement
import JvmDerived.Pilot.@@N@@Code
set_option linter.unusedVariables false
set_option linter.unusedSimpArgs false
namespace Jvm.OwnKit
open Sem ClassFile Op Lib Jvm.Stand Jvm.Free Jvm.LawKit Jvm.RoadKit
section OwnGo
variable {p : Program} {l : Launch} {e : Env} {R : Room} {s : State} {m : MethodId} {args : Array Value} {below : List Frame} {meth : Method} {c : Code} {T : State} {locs : List Loc} {cells slots : Nat} {Z : State} {a0 : Array Value} {h : Heap}
/-- from the state t the run comes to an end of which P holds -/
def OGo (tb : Tables) (e : Env) (below : List Frame) (P : Outcome → State → Prop) (t : State) : Prop :=
  ∃ s₂ o, Steps tb e below t s₂ ∧ s₂.status = .running ∧ Ended s₂ below o ∧ P o s₂
theorem ogo {tb : Tables} {P : Outcome → State → Prop} {t t' : State} (k : ∀ u, Steps tb e below t' u → Steps tb e below t u) (g : OGo tb e below P t') : OGo tb e below P t := by
  obtain ⟨s₂, o, h1, h2⟩ := g
  exact ⟨s₂, o, k _ h1, h2⟩
theorem ogoT {tb : Tables} {P : Outcome → State → Prop} {t t' : State} (k : Steps tb e below t t') (g : OGo tb e below P t') : OGo tb e below P t := ogo (fun _ q => k.trans q) g
/-- the end of a body: returned, the heap as Q says, the frame kept -/
abbrev OFin (s : State) (Q : Option Value → Heap → List Loc → Prop) (K N : Nat) : Outcome → State → Prop :=
  fun o U => ∃ v L, o = .returned v ∧ Q v U.heap L ∧ FrameEnd s o U L K N
/-- a body's contract -/
def OMet (l : Launch) (Z : State) (y : MethodName) (bytes : ByteArray) (maxL : Nat) (ret : Option FieldType) (rm : Room) (as : Array Value) (h : Heap) (Q : Option Value → Heap → List Loc → Prop) : Prop :=
  ∀ ws : List Jvm.Cond, MetFree l y (head1 (Jvm.Cond.code y bytes maxL ret :: ws) rm) (fun a U => a = as ∧ Z.Warmed39 U.vm ∧ U.heap = h) (fun _ _ _ _ _ => True) (fun _ U o U' => ∃ v L, o = .returned v ∧ Q v U'.heap L ∧ FrameEnd U o U' L rm.cells rm.slots)
/-- a body that returns w and writes nothing -/
abbrev OPure (w : Option Value) (h : Heap) : Option Value → Heap → List Loc → Prop := fun v h' L => v = w ∧ L = [] ∧ h' = h
theorem oret (X : Stand p l e R s m args below meth c T locs cells slots) (hx : p.tables.exec = Jvm.exec) (hlk : meth.locks = false) {pc : Nat} {Ls : Array Slot} {w : Value} {t : FieldType} {i : Instr} {rest : List Value} (hret : meth.sig.returnType = some t) (hn : narrow t w = w)
    (hi : (i = .ireturn ∧ (t = .int ∨ t = .boolean ∨ t = .byte ∨ t = .char ∨ t = .short) ∧ ∃ z, w = .int z) ∨ (i = .lreturn ∧ t = .long ∧ ∃ z, w = .long z) ∨ (i = .dreturn ∧ t = .double ∧ ∃ z, w = .double z) ∨ (i = .freturn ∧ t = .float ∧ ∃ z, w = .float z) ∨ (i = .areturn ∧ t.isReference = true ∧ w.isRef = true))
    (hd : decode c.code pc = .ok (i, 1)) {K N : Nat} (hk : cells ≤ K) (hs : slots ≤ N) {Q : Option Value → Heap → List Loc → Prop} (hQ : Q (some w) T.heap locs) :
    OGo p.tables e below (OFin s Q K N) (T.setTop (mkF m pc Ls (w :: rest))) := by
  obtain ⟨fs, hr, hrun, hended, hW, hsame⟩ := X.leave (v := some w) (fun h => by rw [hret] at h; cases h) hlk
  exact ⟨_, _, retOut X hx hret hn hi hd hr, hrun, hended, _, _, rfl, hQ, ⟨_, rfl⟩, hW, hsame.mono hk hs⟩
theorem oretV (X : Stand p l e R s m args below meth c T locs cells slots) (hx : p.tables.exec = Jvm.exec) (hlk : meth.locks = false) {pc : Nat} {Ls : Array Slot} (hret : meth.sig.returnType = none)
    (hd : decode c.code pc = .ok (.return_, 1)) {K N : Nat} (hk : cells ≤ K) (hs : slots ≤ N) {Q : Option Value → Heap → List Loc → Prop} (hQ : Q none T.heap locs) :
    OGo p.tables e below (OFin s Q K N) (T.setTop (mkF m pc Ls [])) := by
  obtain ⟨fs, hr, hrun, hended, hW, hsame⟩ := X.leave (v := none) (fun _ => rfl) hlk
  exact ⟨_, _, X.returnOut hx hret hd hr, hrun, hended, _, _, rfl, hQ, ⟨_, rfl⟩, hW, hsame.mono hk hs⟩
abbrev OPlain (y : MethodName) : Prop := y.cls ≠ "java/lang/invoke/MethodHandle" ∧ y.cls ≠ "java/lang/invoke/VarHandle"
/-- a static call by its contract -/
theorem ocallQ (X : Stand p l e R s m args below meth c T locs cells slots) (hx : p.tables.exec = Jvm.exec) (hZ : Z.Warmed39 s.vm) (eT : T.heap = h) {own : String} {index : Nat} {y : MethodName} {bytes : ByteArray} {maxL : Nat} {ret : Option FieldType} {rm : Room} {as : Array Value} {Q : Option Value → Heap → List Loc → Prop} (hM : OMet l Z y bytes maxL ret rm as h Q)
    (hown : s.vm.findClass own = some m.cls) (w1 : (Jvm.Cond.methodLink own index y).before a0 Z = true) (w2 : (Jvm.Cond.static y).before a0 Z = true) (w3 : (Jvm.Cond.initialized y.cls).before a0 Z = true) (w4 : (Jvm.Cond.code y bytes maxL ret).before a0 Z = true) (hy : OPlain y)
    {g : JFrame} (hg : g.method = m) (hsize : g.locals.size = c.maxLocals) (argsL rest : List Value) (has : argsL.toArray = as) (hlen : ∀ sig, parseMethodDescriptor y.desc = some sig → argsL.length = sig.parameters.length) (hstack : g.stack = argsL.reverse ++ rest) (hdg : decode c.code g.pc = .ok (.invokestatic index, 3))
    (W : Nat) (hW : 2 * g.monitorRoom + (rest.map fun v => v.category).sum ≤ W) (hf : rm.frames + 1 ≤ R.frames) (hl : W + (maxL + 11) + rm.locals ≤ R.locals) (hc : cells + rm.cells ≤ R.cells) (hs : slots + rm.slots ≤ R.slots) :
    ∃ (v : Option Value) (T' : State) (h' : Heap) (L : List Loc), T'.heap = h' ∧ Q v h' L ∧ Stand p l e R s m args below meth c T' (locs ++ L) (cells + rm.cells) (slots + rm.slots) ∧
      ∀ target, Steps p.tables e below (T'.setTop { g with pc := g.pc + 3, stack := v.toList ++ rest }) target → Steps p.tables e below (T.setTop g) target := by
  obtain ⟨v, vm₁, ⟨T', L', k', n'⟩, -, X', ⟨L, hQ, l1, l2, l3⟩, st⟩ := Jvm.LawKit.callS X hx (y := y) hown (mvT hZ w1) (mvT hZ w2) (mvT hZ w3) (mvT hZ w4) hy (backOf (W := W) (hM []) hZ w4 w3 hf hl) (g := g) hg hsize (argsL := argsL) (rest := rest) hlen hstack hW hdg (fun _ _ => ⟨has, eT, hc, hs⟩)
  dsimp only [Pt.U, Pt.locs, Pt.cells, Pt.slots] at X' l1 l2 l3 st hQ
  subst l1 l2 l3
  exact ⟨v, T', _, L, rfl, hQ, X', st⟩
/-- a static call of a body that writes nothing -/
theorem ocallP (X : Stand p l e R s m args below meth c T locs cells slots) (hx : p.tables.exec = Jvm.exec) (hZ : Z.Warmed39 s.vm) (eT : T.heap = h) {own : String} {index : Nat} {y : MethodName} {bytes : ByteArray} {maxL : Nat} {ret : Option FieldType} {rm : Room} {as : Array Value} {w : Option Value} (hM : OMet l Z y bytes maxL ret rm as h (OPure w h))
    (hown : s.vm.findClass own = some m.cls) (w1 : (Jvm.Cond.methodLink own index y).before a0 Z = true) (w2 : (Jvm.Cond.static y).before a0 Z = true) (w3 : (Jvm.Cond.initialized y.cls).before a0 Z = true) (w4 : (Jvm.Cond.code y bytes maxL ret).before a0 Z = true) (hy : OPlain y)
    {g : JFrame} (hg : g.method = m) (hsize : g.locals.size = c.maxLocals) (argsL rest : List Value) (has : argsL.toArray = as) (hlen : ∀ sig, parseMethodDescriptor y.desc = some sig → argsL.length = sig.parameters.length) (hstack : g.stack = argsL.reverse ++ rest) (hdg : decode c.code g.pc = .ok (.invokestatic index, 3))
    (W : Nat) (hW : 2 * g.monitorRoom + (rest.map fun v => v.category).sum ≤ W) (hf : rm.frames + 1 ≤ R.frames) (hl : W + (maxL + 11) + rm.locals ≤ R.locals) (hc : cells + rm.cells ≤ R.cells) (hs : slots + rm.slots ≤ R.slots) (z1 : rm.cells = 0) (z2 : rm.slots = 0) :
    ∃ T' : State, Stand p l e R s m args below meth c T' locs cells slots ∧ T'.heap = h ∧
      ∀ target, Steps p.tables e below (T'.setTop { g with pc := g.pc + 3, stack := w.toList ++ rest }) target → Steps p.tables e below (T.setTop g) target := by
  obtain ⟨v, T', h', L, e2, ⟨rfl, rfl, e'⟩, X', st⟩ := ocallQ X hx hZ eT hM hown w1 w2 w3 w4 hy hg hsize argsL rest has hlen hstack hdg W hW hf hl hc hs
  rw [z1, z2, List.append_nil] at X'
  exact ⟨T', X', e2.trans e', st⟩
/-- an instance call by its contract -/
theorem ovirtQ (X : Stand p l e R s m args below meth c T locs cells slots) (hx : p.tables.exec = Jvm.exec) (hZ : Z.Warmed39 s.vm) (eT : T.heap = h) {own C : String} {index : Nat} {y : MethodName} {bytes : ByteArray} {maxL : Nat} {ret : Option FieldType} {rm : Room} {as : Array Value} {Q : Option Value → Heap → List Loc → Prop} (hM : OMet l Z y bytes maxL ret rm as h Q)
    (hown : s.vm.findClass own = some m.cls) (w1 : (Jvm.Cond.methodLink own index y).before a0 Z = true) (w2 : (Jvm.Cond.declares y).before a0 Z = true) (w3 : (Jvm.Cond.selects C y y).before a0 Z = true) (w4 : (Jvm.Cond.instanceMethod y).before a0 Z = true) (w5 : (Jvm.Cond.initialized y.cls).before a0 Z = true) (w6 : (Jvm.Cond.code y bytes maxL ret).before a0 Z = true) (hy : OPlain y) {b : Addr} (E : Exa Z h b C)
    {g : JFrame} (hg : g.method = m) (hsize : g.locals.size = c.maxLocals) (argsL rest : List Value) (has : (.ref b :: argsL).toArray = as) (hlen : ∀ sig, parseMethodDescriptor y.desc = some sig → argsL.length = sig.parameters.length) (hstack : g.stack = argsL.reverse ++ .ref b :: rest) (hdg : decode c.code g.pc = .ok (.invokevirtual index, 3))
    (W : Nat) (hW : 2 * g.monitorRoom + (rest.map fun v => v.category).sum ≤ W) (hf : rm.frames + 1 ≤ R.frames) (hl : W + (maxL + 11) + rm.locals ≤ R.locals) (hc : cells + rm.cells ≤ R.cells) (hs : slots + rm.slots ≤ R.slots) :
    ∃ (v : Option Value) (T' : State) (h' : Heap) (L : List Loc), T'.heap = h' ∧ Q v h' L ∧ Stand p l e R s m args below meth c T' (locs ++ L) (cells + rm.cells) (slots + rm.slots) ∧
      ∀ target, Steps p.tables e below (T'.setTop { g with pc := g.pc + 3, stack := v.toList ++ rest }) target → Steps p.tables e below (T.setTop g) target := by
  obtain ⟨cq, kq, qa, -, qc⟩ := isOf (T := T) hZ eT E
  have w3' : (Jvm.Cond.selects C y y).before args s = true := mvT hZ w3
  obtain ⟨v, vm₁, ⟨T', L', k', n'⟩, -, X', ⟨L, hQ, l1, l2, l3⟩, st⟩ := X.virtualBack hx (y := y) (z := y) hown (mvT hZ w1) (mvT hZ w2) (notFace_of_selects w3') w3' (mvT hZ w4) hy (backOf (W := W) (hM []) hZ w6 w5 hf hl) qa qc (g := g) hg hsize (Steps.refl _) (argsL := argsL) (rest := rest) hlen hstack hW hdg (fun _ _ => ⟨has, eT, hc, hs⟩)
  dsimp only [Pt.U, Pt.locs, Pt.cells, Pt.slots] at X' l1 l2 l3 st hQ
  subst l1 l2 l3
  exact ⟨v, T', _, L, rfl, hQ, X', fun _ k => st.trans k⟩
theorem ovirtP (X : Stand p l e R s m args below meth c T locs cells slots) (hx : p.tables.exec = Jvm.exec) (hZ : Z.Warmed39 s.vm) (eT : T.heap = h) {own C : String} {index : Nat} {y : MethodName} {bytes : ByteArray} {maxL : Nat} {ret : Option FieldType} {rm : Room} {as : Array Value} {w : Option Value} (hM : OMet l Z y bytes maxL ret rm as h (OPure w h))
    (hown : s.vm.findClass own = some m.cls) (w1 : (Jvm.Cond.methodLink own index y).before a0 Z = true) (w2 : (Jvm.Cond.declares y).before a0 Z = true) (w3 : (Jvm.Cond.selects C y y).before a0 Z = true) (w4 : (Jvm.Cond.instanceMethod y).before a0 Z = true) (w5 : (Jvm.Cond.initialized y.cls).before a0 Z = true) (w6 : (Jvm.Cond.code y bytes maxL ret).before a0 Z = true) (hy : OPlain y) {b : Addr} (E : Exa Z h b C)
    {g : JFrame} (hg : g.method = m) (hsize : g.locals.size = c.maxLocals) (argsL rest : List Value) (has : (.ref b :: argsL).toArray = as) (hlen : ∀ sig, parseMethodDescriptor y.desc = some sig → argsL.length = sig.parameters.length) (hstack : g.stack = argsL.reverse ++ .ref b :: rest) (hdg : decode c.code g.pc = .ok (.invokevirtual index, 3))
    (W : Nat) (hW : 2 * g.monitorRoom + (rest.map fun v => v.category).sum ≤ W) (hf : rm.frames + 1 ≤ R.frames) (hl : W + (maxL + 11) + rm.locals ≤ R.locals) (hc : cells + rm.cells ≤ R.cells) (hs : slots + rm.slots ≤ R.slots) (z1 : rm.cells = 0) (z2 : rm.slots = 0) :
    ∃ T' : State, Stand p l e R s m args below meth c T' locs cells slots ∧ T'.heap = h ∧
      ∀ target, Steps p.tables e below (T'.setTop { g with pc := g.pc + 3, stack := w.toList ++ rest }) target → Steps p.tables e below (T.setTop g) target := by
  obtain ⟨v, T', h', L, e2, ⟨rfl, rfl, e'⟩, X', st⟩ := ovirtQ X hx hZ eT hM hown w1 w2 w3 w4 w5 w6 hy E hg hsize argsL rest has hlen hstack hdg W hW hf hl hc hs
  rw [z1, z2, List.append_nil] at X'
  exact ⟨T', X', e2.trans e', st⟩
/-- a constructor by its contract -/
theorem ospecQ (X : Stand p l e R s m args below meth c T locs cells slots) (hx : p.tables.exec = Jvm.exec) (hZ : Z.Warmed39 s.vm) (eT : T.heap = h) {own : String} {index : Nat} {y : MethodName} {bytes : ByteArray} {maxL : Nat} {rm : Room} {as : Array Value} {Q : Option Value → Heap → List Loc → Prop} (hM : OMet l Z y bytes maxL none rm as h Q)
    (hyi : y.name = "<init>") (hown : s.vm.findClass own = some m.cls) (w1 : (Jvm.Cond.methodLink own index y).before a0 Z = true) (w4 : (Jvm.Cond.instanceMethod y).before a0 Z = true) (w5 : (Jvm.Cond.initialized y.cls).before a0 Z = true) (w6 : (Jvm.Cond.code y bytes maxL none).before a0 Z = true) (hy : OPlain y) {b : Addr}
    {g : JFrame} (hg : g.method = m) (hsize : g.locals.size = c.maxLocals) (argsL rest : List Value) (has : (.ref b :: argsL).toArray = as) (hlen : ∀ sig, parseMethodDescriptor y.desc = some sig → argsL.length = sig.parameters.length) (hstack : g.stack = argsL.reverse ++ .ref b :: rest) (hdg : decode c.code g.pc = .ok (.invokespecial index, 3))
    (W : Nat) (hW : 2 * g.monitorRoom + (rest.map fun v => v.category).sum ≤ W) (hf : rm.frames + 1 ≤ R.frames) (hl : W + (maxL + 11) + rm.locals ≤ R.locals) (hc : cells + rm.cells ≤ R.cells) (hs : slots + rm.slots ≤ R.slots) :
    ∃ (v : Option Value) (T' : State) (h' : Heap) (L : List Loc), T'.heap = h' ∧ Q v h' L ∧ Stand p l e R s m args below meth c T' (locs ++ L) (cells + rm.cells) (slots + rm.slots) ∧
      ∀ target, Steps p.tables e below (T'.setTop { g with pc := g.pc + 3, stack := v.toList ++ rest }) target → Steps p.tables e below (T.setTop g) target := by
  obtain ⟨v, vm₁, ⟨T', L', k', n'⟩, -, X', ⟨L, hQ, l1, l2, l3⟩, st⟩ := X.specialBack hx (y := y) hyi hown (mvT hZ w1) (mvT hZ w4) (mvT hZ w6) hy (backOf (W := W) (hM []) hZ w6 w5 hf hl) (g := g) hg hsize (Steps.refl _) (a := b) (argsL := argsL) (rest := rest) hlen hstack hW hdg (fun _ _ => ⟨has, eT, hc, hs⟩)
  dsimp only [Pt.U, Pt.locs, Pt.cells, Pt.slots] at X' l1 l2 l3 st hQ
  subst l1 l2 l3
  exact ⟨v, T', _, L, rfl, hQ, X', fun _ k => st.trans k⟩
theorem onb {z : Int32} (q : z = 0 ∨ z = 1) : narrow .boolean (.int z) = .int z := by rcases q with rfl | rfl <;> rfl
theorem ofb {z : Int32} (q : z = 0 ∨ z = 1) : fits .boolean (.int z) = true := by rcases q with rfl | rfl <;> rfl
theorem oif01 {c : Prop} [Decidable c] {a b : Int32} (qa : a = 0 ∨ a = 1) (qb : b = 0 ∨ b = 1) : (if c then a else b) = 0 ∨ (if c then a else b) = 1 := by split <;> assumption
/-! arrays by a function of the place -/
variable {ty : FieldType} {a b : Addr} {n : Nat} {f f' : Nat → Value} {h' : Heap} {ws : List Addr} {sl : Nat} {v : Value}
def OAr (Z : State) (h : Heap) (a : Addr) (ty : FieldType) (n : Nat) (f : Nat → Value) : Prop :=
  ∃ c : Cell, Arr Z h a c ty ∧ c.slots.size = n ∧ (∀ j, j < n → c.slots[j]? = some (f j)) ∧ ∀ j, j < n → fits ty (f j) = true
theorem OAr.lt (F : OAr Z h a ty n f) : a < h.size := by obtain ⟨c, A, -⟩ := F; exact A.lt
theorem OAr.ext (F : OAr Z h a ty n f) (E : Ext h h') : OAr Z h' a ty n f := by obtain ⟨c, A, r⟩ := F; exact ⟨c, A.ext E, r⟩
theorem OAr.other (F : OAr Z h b ty n f) (W : Wr h h' a sl v) (q : b ≠ a) : OAr Z h' b ty n f := by obtain ⟨c, A, r⟩ := F; exact ⟨c, A.other W q, r⟩
theorem OAr.keep (F : OAr Z h a ty n f) (K : Keep h h' ws) (q : a ∉ ws) : OAr Z h' a ty n f := by obtain ⟨c, A, r⟩ := F; exact ⟨c, ⟨K.2.1 a c A.1 q, A.2⟩, r⟩
theorem OAr.conv (F : OAr Z h a ty n f) (q : ∀ j, j < n → f j = f' j) : OAr Z h a ty n f' := by
  obtain ⟨c, A, S, H, G⟩ := F
  exact ⟨c, A, S, fun j hj => by rw [← q j hj]; exact H j hj, fun j hj => by rw [← q j hj]; exact G j hj⟩
theorem OAr.new {k : ClassId} {z : Int32} (A : Arr Z h a (newA k ty z) ty) (q : z.toNatClampNeg = n) : OAr Z h a ty n (fun _ => defaultValue ty) :=
  ⟨_, A, (sz_new _ _ _).trans q, fun j hj => by simp [newA, q, hj], fun j _ => by cases ty <;> rfl⟩
theorem OAr.set (F : OAr Z h a ty n f) (W : Wr h h' a sl v) (hv : fits ty v = true) : OAr Z h' a ty n (fun j => if j = sl then v else f j) := by
  obtain ⟨c, A, S, H, G⟩ := F
  refine ⟨_, A.same W, by rw [sz_set]; exact S, fun j hj => ?_, fun j hj => ?_⟩
  · show (c.slots.setIfInBounds sl v)[j]? = _
    rw [Array.getElem?_setIfInBounds]
    by_cases q : j = sl
    · subst q; simp [S, hj]
    · rw [if_neg (fun z => q z.symm), H j hj]; simp [q]
  · by_cases q : j = sl
    · simp [q, hv]
    · simp [q, G j hj]
theorem oidx {j : Int32} (h0 : 0 ≤ j.toInt) (h1 : j.toInt < (n : Int)) : ¬ (j < 0) ∧ j.toNatClampNeg < n := by
  refine ⟨fun q => ?_, ?_⟩
  · rw [Int32.lt_iff_toInt_lt] at q; have : (0 : Int32).toInt = 0 := rfl; omega
  · simp only [Int32.toNatClampNeg]; omega
theorem oin {c : Cell} {j : Int32} (S : c.slots.size = n) (h0 : 0 ≤ j.toInt) (h1 : j.toInt < (n : Int)) : ¬ (j < 0 ∨ c.slots.size ≤ j.toNatClampNeg) := by
  obtain ⟨q1, q2⟩ := oidx h0 h1
  rw [S]; exact fun z => z.elim q1 (fun u => Nat.not_le.mpr q2 u)
theorem ostB (X : Stand p l e R s m args below meth c T locs cells slots) (hx : p.tables.exec = Jvm.exec) (hZ : Z.Warmed39 s.vm) (eT : T.heap = h) (F : OAr Z h a .byte n f) {j x : Int32} (h0 : 0 ≤ j.toInt) (h1 : j.toInt < (n : Int)) {g : JFrame} (hg : g.method = m) {rest : List Value} (hs : g.stack = .int x :: .int j :: .ref a :: rest) (hd : decode c.code g.pc = .ok (.bastore, 1)) :
    ∃ T' h', Stand p l e R s m args below meth c T' (locs ++ [⟨a, j.toNatClampNeg⟩]) cells slots ∧ T'.heap = h' ∧ Wr h h' a j.toNatClampNeg (.int x.toInt8.toInt32) ∧ OAr Z h' a .byte n (fun i => if i = j.toNatClampNeg then .int x.toInt8.toInt32 else f i) ∧ ∀ target, Steps p.tables e below (T'.setTop { g with pc := g.pc + 1, stack := rest }) target → Steps p.tables e below (T.setTop g) target := by
  obtain ⟨cl, A, S, H, G⟩ := F
  obtain ⟨T', h', X', e', W, st⟩ := stB X hx hZ eT A (j := j) (x := x) (oin S h0 h1) hg hs hd
  exact ⟨T', h', X', e', W, OAr.set ⟨cl, A, S, H, G⟩ W (fits_nar_byte x), st⟩
theorem ostI (X : Stand p l e R s m args below meth c T locs cells slots) (hx : p.tables.exec = Jvm.exec) (hZ : Z.Warmed39 s.vm) (eT : T.heap = h) (F : OAr Z h a .int n f) {j x : Int32} (h0 : 0 ≤ j.toInt) (h1 : j.toInt < (n : Int)) {g : JFrame} (hg : g.method = m) {rest : List Value} (hs : g.stack = .int x :: .int j :: .ref a :: rest) (hd : decode c.code g.pc = .ok (.iastore, 1)) :
    ∃ T' h', Stand p l e R s m args below meth c T' (locs ++ [⟨a, j.toNatClampNeg⟩]) cells slots ∧ T'.heap = h' ∧ Wr h h' a j.toNatClampNeg (.int x) ∧ OAr Z h' a .int n (fun i => if i = j.toNatClampNeg then .int x else f i) ∧ ∀ target, Steps p.tables e below (T'.setTop { g with pc := g.pc + 1, stack := rest }) target → Steps p.tables e below (T.setTop g) target := by
  obtain ⟨cl, A, S, H, G⟩ := F
  obtain ⟨T', h', X', e', W, st⟩ := stI X hx hZ eT A (j := j) (x := x) (oin S h0 h1) hg hs hd
  exact ⟨T', h', X', e', W, OAr.set ⟨cl, A, S, H, G⟩ W rfl, st⟩
theorem ostJ (X : Stand p l e R s m args below meth c T locs cells slots) (hx : p.tables.exec = Jvm.exec) (hZ : Z.Warmed39 s.vm) (eT : T.heap = h) (F : OAr Z h a .long n f) {j : Int32} {x : Int64} (h0 : 0 ≤ j.toInt) (h1 : j.toInt < (n : Int)) {g : JFrame} (hg : g.method = m) {rest : List Value} (hs : g.stack = .long x :: .int j :: .ref a :: rest) (hd : decode c.code g.pc = .ok (.lastore, 1)) :
    ∃ T' h', Stand p l e R s m args below meth c T' (locs ++ [⟨a, j.toNatClampNeg⟩]) cells slots ∧ T'.heap = h' ∧ Wr h h' a j.toNatClampNeg (.long x) ∧ OAr Z h' a .long n (fun i => if i = j.toNatClampNeg then .long x else f i) ∧ ∀ target, Steps p.tables e below (T'.setTop { g with pc := g.pc + 1, stack := rest }) target → Steps p.tables e below (T.setTop g) target := by
  obtain ⟨cl, A, S, H, G⟩ := F
  obtain ⟨T', h', X', e', W, st⟩ := stJ X hx hZ eT A (j := j) (x := x) (oin S h0 h1) hg hs hd
  exact ⟨T', h', X', e', W, OAr.set ⟨cl, A, S, H, G⟩ W rfl, st⟩
theorem oldB (X : Stand p l e R s m args below meth c T locs cells slots) (hx : p.tables.exec = Jvm.exec) (hZ : Z.Warmed39 s.vm) (eT : T.heap = h) (F : OAr Z h a .byte n f) {j : Int32} (h0 : 0 ≤ j.toInt) (h1 : j.toInt < (n : Int)) {g : JFrame} (hg : g.method = m) {rest : List Value} (hs : g.stack = .int j :: .ref a :: rest) (hd : decode c.code g.pc = .ok (.baload, 1)) :
    ∀ target, Steps p.tables e below (T.setTop { g with pc := g.pc + 1, stack := f j.toNatClampNeg :: rest }) target → Steps p.tables e below (T.setTop g) target := by
  obtain ⟨cl, A, S, H, G⟩ := F
  exact fun t k => X.baloadBytes hx (by rw [eT]; exact A.1) (State.isArrayOf_alike hZ.alike A.2.1) A.2.2 (oin S h0 h1) (H _ (oidx h0 h1).2) hg hs hd t k
theorem oldI (X : Stand p l e R s m args below meth c T locs cells slots) (hx : p.tables.exec = Jvm.exec) (hZ : Z.Warmed39 s.vm) (eT : T.heap = h) (F : OAr Z h a .int n f) {j : Int32} (h0 : 0 ≤ j.toInt) (h1 : j.toInt < (n : Int)) {g : JFrame} (hg : g.method = m) {rest : List Value} (hs : g.stack = .int j :: .ref a :: rest) (hd : decode c.code g.pc = .ok (.iaload, 1)) :
    ∀ target, Steps p.tables e below (T.setTop { g with pc := g.pc + 1, stack := f j.toNatClampNeg :: rest }) target → Steps p.tables e below (T.setTop g) target := by
  obtain ⟨cl, A, S, H, G⟩ := F
  exact fun t k => X.iaload hx (by rw [eT]; exact A.1) (State.isArrayOf_alike hZ.alike A.2.1) A.2.2 (oin S h0 h1) (H _ (oidx h0 h1).2) hg hs hd t k
theorem oldJ (X : Stand p l e R s m args below meth c T locs cells slots) (hx : p.tables.exec = Jvm.exec) (hZ : Z.Warmed39 s.vm) (eT : T.heap = h) (F : OAr Z h a .long n f) {j : Int32} (h0 : 0 ≤ j.toInt) (h1 : j.toInt < (n : Int)) {g : JFrame} (hg : g.method = m) {rest : List Value} (hs : g.stack = .int j :: .ref a :: rest) (hd : decode c.code g.pc = .ok (.laload, 1)) :
    ∀ target, Steps p.tables e below (T.setTop { g with pc := g.pc + 1, stack := f j.toNatClampNeg :: rest }) target → Steps p.tables e below (T.setTop g) target := by
  obtain ⟨cl, A, S, H, G⟩ := F
  exact fun t k => X.laload hx (by rw [eT]; exact A.1) (State.isArrayOf_alike hZ.alike A.2.1) A.2.2 (oin S h0 h1) (H _ (oidx h0 h1).2) hg hs hd t k
theorem oalen (X : Stand p l e R s m args below meth c T locs cells slots) (hx : p.tables.exec = Jvm.exec) (hZ : Z.Warmed39 s.vm) (eT : T.heap = h) (F : OAr Z h a ty n f) {g : JFrame} (hg : g.method = m) {rest : List Value} (hs : g.stack = .ref a :: rest) (hd : decode c.code g.pc = .ok (.arraylength, 1)) :
    ∀ target, Steps p.tables e below (T.setTop { g with pc := g.pc + 1, stack := .int n.toInt32 :: rest }) target → Steps p.tables e below (T.setTop g) target := by
  obtain ⟨cl, A, S, H, G⟩ := F
  subst S
  exact fun t k => X.arraylength hx (by rw [eT]; exact A.1) (State.isArrayOf_alike hZ.alike A.2.1) hg hs hd t k
theorem oclone (X : Stand p l e R s m args below meth c T locs cells slots) (hx : p.tables.exec = Jvm.exec) (hZ : Z.Warmed39 s.vm) {own ad : String} {index : Nat} (hown : s.vm.findClass own = some m.cls)
    (w1 : (Jvm.Cond.methodLink own index ⟨ad, "clone", "()Ljava/lang/Object;"⟩).before a0 Z = true) (w2 : (Jvm.Cond.sameMethod ad "java/lang/Object" "clone" "()Ljava/lang/Object;").before a0 Z = true) (w3 : (Jvm.Cond.native ⟨"java/lang/Object", "clone", "()Ljava/lang/Object;"⟩).before a0 Z = true)
    (w4 : (Jvm.Cond.instanceMethod ⟨"java/lang/Object", "clone", "()Ljava/lang/Object;"⟩).before a0 Z = true) (w5 : (Jvm.Cond.selects ad ⟨ad, "clone", "()Ljava/lang/Object;"⟩ ⟨"java/lang/Object", "clone", "()Ljava/lang/Object;"⟩).before a0 Z = true) (w6 : (Jvm.Cond.castable ad "java/lang/Cloneable").before a0 Z = true)
    (eT : T.heap = h) (F : OAr Z h a ty n f) (E : Exa Z h a ad) {g : JFrame} (hg : g.method = m) (hsize : g.locals.size = c.maxLocals) {rest : List Value} (hs : g.stack = .ref a :: rest) (hd : decode c.code g.pc = .ok (.invokevirtual index, 3))
    (hf : 1 ≤ R.frames) (W : Nat) (hW : 2 * g.monitorRoom + (rest.map fun v => v.category).sum ≤ W) (hl : W + 14 ≤ R.locals) (hc : cells + 1 ≤ R.cells) (hsl : slots + n ≤ R.slots) :
    ∃ T' h', Stand p l e R s m args below meth c T' locs (cells + 1) (slots + n) ∧ T'.heap = h' ∧ Ext h h' ∧ OAr Z h' h.size ty n f ∧ Exa Z h' h.size ad ∧
      ∀ target, Steps p.tables e below (T'.setTop { g with pc := g.pc + 3, stack := .ref h.size :: rest }) target → Steps p.tables e below (T.setTop g) target := by
  obtain ⟨cl, A, S, H, G⟩ := F
  have FC : FitC Z cl := fitC_of A fun i hi v hv => by rw [H i (S ▸ hi)] at hv; cases hv; exact G i (S ▸ hi)
  obtain ⟨T', h', X', e', ex, A', E', st⟩ := cloneA X hx hZ hown w1 w2 w3 w4 w5 w6 eT A E FC hg hsize hs hd hf hW hl (Nat.le_of_eq S) hc hsl
  exact ⟨T', h', X', e', ex, ⟨cloneOf cl, A', S, H, G⟩, E', st⟩
end OwnGo
end Jvm.OwnKit
namespace Jvm.Pilot.@@N@@
open Jvm Jvm.ClassFile Sem Op Lib Jvm.Free Jvm.Stand Jvm.LawKit Jvm.RoadKit Bundle Jvm.OwnKit Jvm.Pilot.@@N@@.Jvm.D
theorem d1_0 : decode prog_31_method_3_code 0 = .ok (.lload_n 0, 1) := by decide +kernel
theorem d1_1 : decode prog_31_method_3_code 1 = .ok (.ldc2_w 64, 3) := by decide +kernel
theorem d1_4 : decode prog_31_method_3_code 4 = .ok (.land, 1) := by decide +kernel
theorem d1_5 : decode prog_31_method_3_code 5 = .ok (.lstore_n 2, 1) := by decide +kernel
theorem d1_6 : decode prog_31_method_3_code 6 = .ok (.lload_n 2, 1) := by decide +kernel
theorem d1_7 : decode prog_31_method_3_code 7 = .ok (.ldc2_w 64, 3) := by decide +kernel
theorem d1_10 : decode prog_31_method_3_code 10 = .ok (.lcmp, 1) := by decide +kernel
theorem d1_11 : decode prog_31_method_3_code 11 = .ok (.ifCond .ne 8, 3) := by decide +kernel
theorem d1_14 : decode prog_31_method_3_code 14 = .ok (.ldc 66, 2) := by decide +kernel
theorem d1_16 : decode prog_31_method_3_code 16 = .ok (.goto 5, 3) := by decide +kernel
theorem d1_19 : decode prog_31_method_3_code 19 = .ok (.lload_n 2, 1) := by decide +kernel
theorem d1_20 : decode prog_31_method_3_code 20 = .ok (.l2i, 1) := by decide +kernel
theorem d1_21 : decode prog_31_method_3_code 21 = .ok (.ireturn, 1) := by decide +kernel
theorem pn_1 : plainName "com/example/bouncr/bouncr/KeyTrace" = true := by first | (simp [plainName, overriddenIn]; done) | decide +kernel
theorem ef_1 (m : MethodId) (x0 : Int64) : entryFrame m #[(.long x0)] 4 = mkF m 0 #[.val (.long x0), .second, .unset, .unset] [] := by first | (simp [entryFrame, mkF, argsToLocals, Value.category]; done) | rfl
def failF (q : Int64)  : Int32 := (let w_1_2 : Int32 := (if (q &&& (8388607 : Int64)) = (8388607 : Int64) then (2147483647 : Int32) else ((q &&& (8388607 : Int64)).toInt32)); w_1_2)
set_option maxRecDepth 65536 in
set_option maxHeartbeats 40000000 in
theorem rm1 (l : Launch) (Z : State) (a0 : Array Value) (hw : ∀ d ∈ tables_1, d.before a0 Z = true) (q : Int64)  (h0 : Heap)  :
    OMet l Z (⟨"com/example/bouncr/bouncr/KeyTrace", "failures", "(J)I"⟩ : MethodName) prog_31_method_3_code 4 (some .int) ({ frames := 0, cells := 0, slots := 0, locals := 0 } : Room) #[(.long q)] h0 (OPure (some (.int (failF q))) h0) := by
  intro ws
  refine MetFree.of_bodySF (plainFor_of_name pn_1) hisR ?_
  intro p e s m args below meth c s₁ Bd hml0 hP hK
  obtain ⟨rfl, hZ, hh⟩ := hP
  have hx := Bd.exec
  have hby := Bd.bytes
  have hml : c.maxLocals = 4 := hml0
  have hown : s.vm.findClass "com/example/bouncr/bouncr/KeyTrace" = some m.cls := findClass_of_methodNamed Bd.named
  have hnm := (name_of_methodNamed Bd.named Bd.method).1
  have hlk : meth.locks = false := Bd.notSynchronized
  have X0 : Stand p l e ({ frames := 0, cells := 0, slots := 0, locals := 0 } : Room) s m #[(.long q)] below meth c s₁ [] 0 0 := Stand.of_body Bd
  have e0 : s₁.heap = h0 := by rw [← hh, Bd.state]; rfl
  refine (?_ : OGo p.tables e below (OFin s (OPure (some (.int (failF q))) h0) 0 0) _)
  refine ogo (fun _ k => castTop (ef_1 m q) k) ?_
  show OGo _ _ _ _ (s₁.setTop (mkF m 0 #[.val (.long q), .second, .unset, .unset] []))
  refine ogo (fun _ k => XS.lloadN X0.here hx rfl (hb hby d1_0) rfl k) ?_
  show OGo _ _ _ _ (s₁.setTop (mkF m 1 #[.val (.long q), .second, .unset, .unset] [(.long q)]))
  refine ogo (fun _ k => X0.ldc2J hx hown (mvT hZ (hw _ (List.mem_of_getElem? (i := 5) rfl))) rfl (hb hby d1_1) k) ?_
  show OGo _ _ _ _ (s₁.setTop (mkF m 4 #[.val (.long q), .second, .unset, .unset] [(.long (8388607 : Int64)), (.long q)]))
  refine ogo (fun _ k => XS.land X0.here hx rfl (hb hby d1_4) rfl k) ?_
  show OGo _ _ _ _ (s₁.setTop (mkF m 5 #[.val (.long q), .second, .unset, .unset] [(.long (q &&& (8388607 : Int64)))]))
  refine ogo (fun _ k => XS.lstoreN X0.here hx rfl (hb hby d1_5) rfl (l' := #[.val (.long q), .second, .val (.long (q &&& (8388607 : Int64))), .second]) rfl k) ?_
  show OGo _ _ _ _ (s₁.setTop (mkF m 6 #[.val (.long q), .second, .val (.long (q &&& (8388607 : Int64))), .second] []))
  refine ogo (fun _ k => XS.lloadN X0.here hx rfl (hb hby d1_6) rfl k) ?_
  show OGo _ _ _ _ (s₁.setTop (mkF m 7 #[.val (.long q), .second, .val (.long (q &&& (8388607 : Int64))), .second] [(.long (q &&& (8388607 : Int64)))]))
  refine ogo (fun _ k => X0.ldc2J hx hown (mvT hZ (hw _ (List.mem_of_getElem? (i := 5) rfl))) rfl (hb hby d1_7) k) ?_
  show OGo _ _ _ _ (s₁.setTop (mkF m 10 #[.val (.long q), .second, .val (.long (q &&& (8388607 : Int64))), .second] [(.long (8388607 : Int64)), (.long (q &&& (8388607 : Int64)))]))
  refine ogo (fun _ k => XS.lcmp X0.here hx rfl (hb hby d1_10) rfl k) ?_
  show OGo _ _ _ _ (s₁.setTop (mkF m 11 #[.val (.long q), .second, .val (.long (q &&& (8388607 : Int64))), .second] [(.int (lcmpW (q &&& (8388607 : Int64)) (8388607 : Int64)))]))
  suffices J_1_3 : ∀ (w_1_2 : Int32) (hw_1_2 : w_1_2 = (if (q &&& (8388607 : Int64)) = (8388607 : Int64) then (2147483647 : Int32) else ((q &&& (8388607 : Int64)).toInt32))), OGo p.tables e below (OFin s (OPure (some (.int (failF q))) h0) 0 0) (s₁.setTop (mkF m 21 #[.val (.long q), .second, .val (.long (q &&& (8388607 : Int64))), .second] [(.int w_1_2)])) by
    by_cases hc_1_1 : (q &&& (8388607 : Int64)) = (8388607 : Int64)
    · refine ogo (fun _ k => XS.ifNo X0.here hx rfl (hb hby d1_11) rfl ((if0 _ _).trans (teq ((lw_eq _ _).mpr hc_1_1)).2) k) ?_
      show OGo _ _ _ _ (s₁.setTop (mkF m 14 #[.val (.long q), .second, .val (.long (q &&& (8388607 : Int64))), .second] []))
      refine ogo (fun _ k => X0.ldcI hx hown (mvT hZ (hw _ (List.mem_of_getElem? (i := 7) rfl))) rfl (hb hby d1_14) k) ?_
      show OGo _ _ _ _ (s₁.setTop (mkF m 16 #[.val (.long q), .second, .val (.long (q &&& (8388607 : Int64))), .second] [(.int (2147483647 : Int32))]))
      refine ogo (fun _ k => XS.goto X0.here hx rfl (pc0 := 16) (pc' := 21) rfl (hb hby d1_16) (by decide) (by decide) k) ?_
      show OGo _ _ _ _ (s₁.setTop (mkF m 21 #[.val (.long q), .second, .val (.long (q &&& (8388607 : Int64))), .second] [(.int (2147483647 : Int32))]))
      exact J_1_3 _ (if_pos hc_1_1).symm
    · refine ogo (fun _ k => XS.ifYes X0.here hx rfl (pc0 := 11) (pc' := 19) rfl (hb hby d1_11) rfl ((if0 _ _).trans (feq (fun q => hc_1_1 ((lw_eq _ _).mp q))).2) (by decide) (by decide) k) ?_
      show OGo _ _ _ _ (s₁.setTop (mkF m 19 #[.val (.long q), .second, .val (.long (q &&& (8388607 : Int64))), .second] []))
      refine ogo (fun _ k => XS.lloadN X0.here hx rfl (hb hby d1_19) rfl k) ?_
      show OGo _ _ _ _ (s₁.setTop (mkF m 20 #[.val (.long q), .second, .val (.long (q &&& (8388607 : Int64))), .second] [(.long (q &&& (8388607 : Int64)))]))
      refine ogo (fun _ k => XS.l2i X0.here hx rfl (hb hby d1_20) rfl k) ?_
      show OGo _ _ _ _ (s₁.setTop (mkF m 21 #[.val (.long q), .second, .val (.long (q &&& (8388607 : Int64))), .second] [(.int ((q &&& (8388607 : Int64)).toInt32))]))
      exact J_1_3 _ (if_neg hc_1_1).symm
  intro w_1_2 hw_1_2
  exact oret X0 hx hlk Bd.returns rfl (Or.inl ⟨rfl, Or.inl rfl, _, rfl⟩) (hb hby d1_21) (by decide) (by decide) ⟨by subst_vars; rfl, rfl, e0⟩
theorem pn_0 : plainName "com/example/bouncr/bouncr/KeyTraceFailuresPinLaw" = true := by first | (simp [plainName, overriddenIn]; done) | decide +kernel
theorem ef_0 (m : MethodId) (x0 : Int64) (x1 : Int32) : entryFrame m #[(.long x0), (.int x1)] maxLocals = mkF m 0 #[.val (.long x0), .second, .val (.int x1), .unset, .unset, .unset, .unset, .unset, .unset, .unset, .unset, .unset] [] := by first | (simp [entryFrame, mkF, argsToLocals, Value.category, maxLocals]; done) | rfl
theorem pd__J_I : parseMethodDescriptor "(J)I" = some ⟨[.long], some .int⟩ := by decide +kernel
theorem own_low (u v : Int64) (h0 : 0 ≤ v.toInt) (h1 : v.toInt < 8388608) : ((u <<< ((23 : Int32) &&& 0x3f).toInt64) + v) &&& (8388607 : Int64) = v := by
  apply Int64.toInt_inj.mp
  rw [c_maskL _ (8388607 : Int64) 23 (by decide) (by decide)]
  have h2 := c_ladd (u <<< ((23 : Int32) &&& 0x3f).toInt64) v
  have h3 := c_lshl u (23 : Int32) 23 (by decide)
  omega
theorem own_fail (u v : Int64) (h0 : 0 ≤ v.toInt) (h1 : v.toInt < 8388608) : failF ((u <<< ((23 : Int32) &&& 0x3f).toInt64) + v) = if v = (8388607 : Int64) then (2147483647 : Int32) else v.toInt32 := by
  simp only [failF, own_low u v h0 h1]
theorem plain0 (va : Int64) (vb : Int32) (w_0_1 : Int32) (hw_0_1 : w_0_1 = (vb &&& (8388607 : Int32))) (w_0_2 : Int64) (hw_0_2 : w_0_2 = (va <<< ((23 : Int32) &&& 0x3f).toInt64)) (w_0_3 : Int64) (hw_0_3 : w_0_3 = (w_0_2 + (w_0_1.toInt64))) (w_0_5 : Int32) (hw_0_5 : w_0_5 = (if w_0_1 = (8388607 : Int32) then (2147483647 : Int32) else w_0_1)) (w_0_10 : Int32) (hw_0_10 : w_0_10 = (if (failF w_0_3) = w_0_5 then (1 : Int32) else (0 : Int32))) (w_0_15 : Int32) (hw_0_15 : w_0_15 = (if (failF (w_0_2 + (8388607 : Int64))) = (2147483647 : Int32) then (1 : Int32) else (0 : Int32))) (w_0_20 : Int32) (hw_0_20 : w_0_20 = (if (failF (w_0_2 + (8388606 : Int64))) = (8388606 : Int32) then (1 : Int32) else (0 : Int32))) (w_0_32 : Int32) (hw_0_32 : w_0_32 = (if w_0_10 = (0 : Int32) then (0 : Int32) else (if w_0_15 = (0 : Int32) then (0 : Int32) else (if w_0_20 = (0 : Int32) then (0 : Int32) else (1 : Int32))))) : w_0_32 = (1 : Int32) := by
  have hc : w_0_1.toInt = vb.toInt % (2 ^ 23 : Nat) := by rw [hw_0_1]; exact c_mask vb (8388607 : Int32) 23 (by decide) (by decide)
  have hc0 : 0 ≤ w_0_1.toInt := by omega
  have hc1 : w_0_1.toInt < 8388608 := by omega
  have f1 : failF w_0_3 = w_0_5 := by
    rw [hw_0_3, hw_0_2, own_fail va w_0_1.toInt64 (by rw [c_i2l]; exact hc0) (by rw [c_i2l]; exact hc1), hw_0_5]
    by_cases q : w_0_1 = (8388607 : Int32)
    · subst q; rfl
    · have q' : ¬ w_0_1.toInt64 = (8388607 : Int64) := fun z => q (Int32.toInt_inj.mp (by rw [← c_i2l, z]; rfl))
      rw [if_neg q, if_neg q']
      apply Int32.toInt_inj.mp
      have := c_l2i w_0_1.toInt64
      rw [c_i2l] at this
      have r1 := rng32 w_0_1
      have r2 := rng32 w_0_1.toInt64.toInt32
      omega
  have f2 : failF (w_0_2 + (8388607 : Int64)) = (2147483647 : Int32) := by
    rw [hw_0_2, own_fail va (8388607 : Int64) (by decide) (by decide)]; rfl
  have f3 : failF (w_0_2 + (8388606 : Int64)) = (8388606 : Int32) := by
    rw [hw_0_2, own_fail va (8388606 : Int64) (by decide) (by decide)]; rfl
  rw [if_pos f1] at hw_0_10; rw [if_pos f2] at hw_0_15; rw [if_pos f3] at hw_0_20
  subst hw_0_10 hw_0_15 hw_0_20 hw_0_32
  rfl
set_option maxRecDepth 65536 in
set_option maxHeartbeats 40000000 in
theorem rm0 (l : Launch) (Z : State) (a0 : Array Value) (hw : ∀ d ∈ tables_1, d.before a0 Z = true) (ws : List Jvm.Cond) (va : Int64) (vb : Int32) (h0 : Heap) (n0 : Nat) (Z0 : n0 ≤ h0.size)  :
    MetFree l x (head1 (Jvm.Cond.code x code maxLocals ret :: ws) room_1) (fun a U => a = #[(.long va), (.int vb)] ∧ Z.Warmed39 U.vm ∧ U.heap = h0) (fun _ _ _ _ _ => True) (fun _ U o U' => ∃ v L, o = .returned v ∧ (v = some (.int 1) ∧ Fr n0 L) ∧ FrameEnd U o U' L 0 0) := by
  refine MetFree.of_bodySF (plainFor_of_name pn_0) hisR ?_
  intro p e s m args below meth c s₁ Bd hml0 hP hK
  obtain ⟨rfl, hZ, hh⟩ := hP
  have hx := Bd.exec
  have hby := Bd.bytes
  have hml : c.maxLocals = 12 := hml0
  have hown : s.vm.findClass "com/example/bouncr/bouncr/KeyTraceFailuresPinLaw" = some m.cls := findClass_of_methodNamed Bd.named
  have hnm := (name_of_methodNamed Bd.named Bd.method).1
  have hlk : meth.locks = false := Bd.notSynchronized
  have X0 : Stand p l e room_1 s m #[(.long va), (.int vb)] below meth c s₁ [] 0 0 := Stand.of_body Bd
  have e0 : s₁.heap = h0 := by rw [← hh, Bd.state]; rfl
  have N0 := Fr.nil n0
  refine (?_ : OGo p.tables e below (OFin s (fun v _ L => v = some (.int 1) ∧ Fr n0 L) 0 0) _)
  refine ogo (fun _ k => castTop (ef_0 m va vb) k) ?_
  show OGo _ _ _ _ (s₁.setTop (mkF m 0 #[.val (.long va), .second, .val (.int vb), .unset, .unset, .unset, .unset, .unset, .unset, .unset, .unset, .unset] []))
  refine ogo (fun _ k => XS.iloadN X0.here hx rfl (hb hby at_0) rfl k) ?_
  show OGo _ _ _ _ (s₁.setTop (mkF m 1 #[.val (.long va), .second, .val (.int vb), .unset, .unset, .unset, .unset, .unset, .unset, .unset, .unset, .unset] [(.int vb)]))
  refine ogo (fun _ k => X0.ldcI hx hown (mvT hZ (hw _ (List.mem_of_getElem? (i := 0) rfl))) rfl (hb hby at_1) k) ?_
  show OGo _ _ _ _ (s₁.setTop (mkF m 3 #[.val (.long va), .second, .val (.int vb), .unset, .unset, .unset, .unset, .unset, .unset, .unset, .unset, .unset] [(.int (8388607 : Int32)), (.int vb)]))
  refine ogo (fun _ k => XS.iand X0.here hx rfl (hb hby at_3) rfl k) ?_
  show OGo _ _ _ _ (s₁.setTop (mkF m 4 #[.val (.long va), .second, .val (.int vb), .unset, .unset, .unset, .unset, .unset, .unset, .unset, .unset, .unset] [(.int (vb &&& (8388607 : Int32)))]))
  suffices Nw_0_1 : ∀ w_0_1 : Int32, w_0_1 = (vb &&& (8388607 : Int32)) → OGo p.tables e below (OFin s (fun v _ L => v = some (.int 1) ∧ Fr n0 L) 0 0) (s₁.setTop (mkF m 4 #[.val (.long va), .second, .val (.int vb), .unset, .unset, .unset, .unset, .unset, .unset, .unset, .unset, .unset] [(.int w_0_1)])) from Nw_0_1 _ rfl
  intro w_0_1 hw_0_1
  refine ogo (fun _ k => XS.istoreN X0.here hx rfl (hb hby at_4) rfl (l' := #[.val (.long va), .second, .val (.int vb), .val (.int w_0_1), .unset, .unset, .unset, .unset, .unset, .unset, .unset, .unset]) rfl k) ?_
  show OGo _ _ _ _ (s₁.setTop (mkF m 5 #[.val (.long va), .second, .val (.int vb), .val (.int w_0_1), .unset, .unset, .unset, .unset, .unset, .unset, .unset, .unset] []))
  refine ogo (fun _ k => XS.lloadN X0.here hx rfl (hb hby at_5) rfl k) ?_
  show OGo _ _ _ _ (s₁.setTop (mkF m 6 #[.val (.long va), .second, .val (.int vb), .val (.int w_0_1), .unset, .unset, .unset, .unset, .unset, .unset, .unset, .unset] [(.long va)]))
  refine ogo (fun _ k => XS.bipush X0.here hx rfl (hb hby at_6) k) ?_
  show OGo _ _ _ _ (s₁.setTop (mkF m 8 #[.val (.long va), .second, .val (.int vb), .val (.int w_0_1), .unset, .unset, .unset, .unset, .unset, .unset, .unset, .unset] [(.int (23 : Int32)), (.long va)]))
  refine ogo (fun _ k => XS.lshl X0.here hx rfl (hb hby at_8) rfl k) ?_
  show OGo _ _ _ _ (s₁.setTop (mkF m 9 #[.val (.long va), .second, .val (.int vb), .val (.int w_0_1), .unset, .unset, .unset, .unset, .unset, .unset, .unset, .unset] [(.long (va <<< ((23 : Int32) &&& 0x3f).toInt64))]))
  suffices Nw_0_2 : ∀ w_0_2 : Int64, w_0_2 = (va <<< ((23 : Int32) &&& 0x3f).toInt64) → OGo p.tables e below (OFin s (fun v _ L => v = some (.int 1) ∧ Fr n0 L) 0 0) (s₁.setTop (mkF m 9 #[.val (.long va), .second, .val (.int vb), .val (.int w_0_1), .unset, .unset, .unset, .unset, .unset, .unset, .unset, .unset] [(.long w_0_2)])) from Nw_0_2 _ rfl
  intro w_0_2 hw_0_2
  refine ogo (fun _ k => XS.lstore X0.here hx rfl (hb hby at_9) rfl (l' := #[.val (.long va), .second, .val (.int vb), .val (.int w_0_1), .val (.long w_0_2), .second, .unset, .unset, .unset, .unset, .unset, .unset]) rfl k) ?_
  show OGo _ _ _ _ (s₁.setTop (mkF m 11 #[.val (.long va), .second, .val (.int vb), .val (.int w_0_1), .val (.long w_0_2), .second, .unset, .unset, .unset, .unset, .unset, .unset] []))
  refine ogo (fun _ k => XS.lload X0.here hx rfl (hb hby at_11) rfl k) ?_
  show OGo _ _ _ _ (s₁.setTop (mkF m 13 #[.val (.long va), .second, .val (.int vb), .val (.int w_0_1), .val (.long w_0_2), .second, .unset, .unset, .unset, .unset, .unset, .unset] [(.long w_0_2)]))
  refine ogo (fun _ k => XS.iloadN X0.here hx rfl (hb hby at_13) rfl k) ?_
  show OGo _ _ _ _ (s₁.setTop (mkF m 14 #[.val (.long va), .second, .val (.int vb), .val (.int w_0_1), .val (.long w_0_2), .second, .unset, .unset, .unset, .unset, .unset, .unset] [(.int w_0_1), (.long w_0_2)]))
  refine ogo (fun _ k => XS.i2l X0.here hx rfl (hb hby at_14) rfl k) ?_
  show OGo _ _ _ _ (s₁.setTop (mkF m 15 #[.val (.long va), .second, .val (.int vb), .val (.int w_0_1), .val (.long w_0_2), .second, .unset, .unset, .unset, .unset, .unset, .unset] [(.long (w_0_1.toInt64)), (.long w_0_2)]))
  refine ogo (fun _ k => XS.ladd X0.here hx rfl (hb hby at_15) rfl k) ?_
  show OGo _ _ _ _ (s₁.setTop (mkF m 16 #[.val (.long va), .second, .val (.int vb), .val (.int w_0_1), .val (.long w_0_2), .second, .unset, .unset, .unset, .unset, .unset, .unset] [(.long (w_0_2 + (w_0_1.toInt64)))]))
  suffices Nw_0_3 : ∀ w_0_3 : Int64, w_0_3 = (w_0_2 + (w_0_1.toInt64)) → OGo p.tables e below (OFin s (fun v _ L => v = some (.int 1) ∧ Fr n0 L) 0 0) (s₁.setTop (mkF m 16 #[.val (.long va), .second, .val (.int vb), .val (.int w_0_1), .val (.long w_0_2), .second, .unset, .unset, .unset, .unset, .unset, .unset] [(.long w_0_3)])) from Nw_0_3 _ rfl
  intro w_0_3 hw_0_3
  refine ogo (fun _ k => XS.lstore X0.here hx rfl (hb hby at_16) rfl (l' := #[.val (.long va), .second, .val (.int vb), .val (.int w_0_1), .val (.long w_0_2), .second, .val (.long w_0_3), .second, .unset, .unset, .unset, .unset]) rfl k) ?_
  show OGo _ _ _ _ (s₁.setTop (mkF m 18 #[.val (.long va), .second, .val (.int vb), .val (.int w_0_1), .val (.long w_0_2), .second, .val (.long w_0_3), .second, .unset, .unset, .unset, .unset] []))
  refine ogo (fun _ k => XS.iloadN X0.here hx rfl (hb hby at_18) rfl k) ?_
  show OGo _ _ _ _ (s₁.setTop (mkF m 19 #[.val (.long va), .second, .val (.int vb), .val (.int w_0_1), .val (.long w_0_2), .second, .val (.long w_0_3), .second, .unset, .unset, .unset, .unset] [(.int w_0_1)]))
  refine ogo (fun _ k => X0.ldcI hx hown (mvT hZ (hw _ (List.mem_of_getElem? (i := 0) rfl))) rfl (hb hby at_19) k) ?_
  show OGo _ _ _ _ (s₁.setTop (mkF m 21 #[.val (.long va), .second, .val (.int vb), .val (.int w_0_1), .val (.long w_0_2), .second, .val (.long w_0_3), .second, .unset, .unset, .unset, .unset] [(.int (8388607 : Int32)), (.int w_0_1)]))
  suffices J_0_6 : ∀ (w_0_5 : Int32) (hw_0_5 : w_0_5 = (if w_0_1 = (8388607 : Int32) then (2147483647 : Int32) else w_0_1)), OGo p.tables e below (OFin s (fun v _ L => v = some (.int 1) ∧ Fr n0 L) 0 0) (s₁.setTop (mkF m 30 #[.val (.long va), .second, .val (.int vb), .val (.int w_0_1), .val (.long w_0_2), .second, .val (.long w_0_3), .second, .unset, .unset, .unset, .unset] [(.int w_0_5)])) by
    by_cases hc_0_4 : w_0_1 = (8388607 : Int32)
    · refine ogo (fun _ k => XS.icmpNo X0.here hx rfl (hb hby at_21) rfl (teq hc_0_4).2 k) ?_
      show OGo _ _ _ _ (s₁.setTop (mkF m 24 #[.val (.long va), .second, .val (.int vb), .val (.int w_0_1), .val (.long w_0_2), .second, .val (.long w_0_3), .second, .unset, .unset, .unset, .unset] []))
      refine ogo (fun _ k => X0.ldcI hx hown (mvT hZ (hw _ (List.mem_of_getElem? (i := 8) rfl))) rfl (hb hby at_24) k) ?_
      show OGo _ _ _ _ (s₁.setTop (mkF m 26 #[.val (.long va), .second, .val (.int vb), .val (.int w_0_1), .val (.long w_0_2), .second, .val (.long w_0_3), .second, .unset, .unset, .unset, .unset] [(.int (2147483647 : Int32))]))
      refine ogo (fun _ k => XS.goto X0.here hx rfl (pc0 := 26) (pc' := 30) rfl (hb hby at_26) (by decide) (by decide) k) ?_
      show OGo _ _ _ _ (s₁.setTop (mkF m 30 #[.val (.long va), .second, .val (.int vb), .val (.int w_0_1), .val (.long w_0_2), .second, .val (.long w_0_3), .second, .unset, .unset, .unset, .unset] [(.int (2147483647 : Int32))]))
      exact J_0_6 _ (if_pos hc_0_4).symm
    · refine ogo (fun _ k => XS.icmpYes X0.here hx rfl (pc0 := 21) (pc' := 29) rfl (hb hby at_21) rfl (feq hc_0_4).2 (by decide) (by decide) k) ?_
      show OGo _ _ _ _ (s₁.setTop (mkF m 29 #[.val (.long va), .second, .val (.int vb), .val (.int w_0_1), .val (.long w_0_2), .second, .val (.long w_0_3), .second, .unset, .unset, .unset, .unset] []))
      refine ogo (fun _ k => XS.iloadN X0.here hx rfl (hb hby at_29) rfl k) ?_
      show OGo _ _ _ _ (s₁.setTop (mkF m 30 #[.val (.long va), .second, .val (.int vb), .val (.int w_0_1), .val (.long w_0_2), .second, .val (.long w_0_3), .second, .unset, .unset, .unset, .unset] [(.int w_0_1)]))
      exact J_0_6 _ (if_neg hc_0_4).symm
  intro w_0_5 hw_0_5
  refine ogo (fun _ k => XS.istore X0.here hx rfl (hb hby at_30) rfl (l' := #[.val (.long va), .second, .val (.int vb), .val (.int w_0_1), .val (.long w_0_2), .second, .val (.long w_0_3), .second, .val (.int w_0_5), .unset, .unset, .unset]) rfl k) ?_
  show OGo _ _ _ _ (s₁.setTop (mkF m 32 #[.val (.long va), .second, .val (.int vb), .val (.int w_0_1), .val (.long w_0_2), .second, .val (.long w_0_3), .second, .val (.int w_0_5), .unset, .unset, .unset] []))
  refine ogo (fun _ k => XS.lload X0.here hx rfl (hb hby at_32) rfl k) ?_
  show OGo _ _ _ _ (s₁.setTop (mkF m 34 #[.val (.long va), .second, .val (.int vb), .val (.int w_0_1), .val (.long w_0_2), .second, .val (.long w_0_3), .second, .val (.int w_0_5), .unset, .unset, .unset] [(.long w_0_3)]))
  obtain ⟨T_0_8, X_0_8, e_0_8, st_0_8⟩ := ocallP X0 hx hZ e0 (rm1 l Z a0 hw w_0_3  h0 ) hown (hw _ (List.mem_of_getElem? (i := 1) rfl)) (hw _ (List.mem_of_getElem? (i := 2) rfl)) (hw _ (List.mem_of_getElem? (i := 3) rfl)) (hw _ (List.mem_of_getElem? (i := 4) rfl)) (by decide) (g := (mkF m 34 #[.val (.long va), .second, .val (.int vb), .val (.int w_0_1), .val (.long w_0_2), .second, .val (.long w_0_3), .second, .val (.int w_0_5), .unset, .unset, .unset] [(.long w_0_3)])) rfl (by rw [hml]; rfl) [(.long w_0_3)] [] rfl (lenOf pd__J_I rfl) rfl (hb hby at_34) 0 (by show 2 * 0 + _ ≤ _; exact Nat.le_of_eq rfl) (by decide) (by decide) (by decide) (by decide) rfl rfl
  refine ogo (fun _ k => st_0_8 _ k) ?_
  show OGo _ _ _ _ (T_0_8.setTop (mkF m 37 #[.val (.long va), .second, .val (.int vb), .val (.int w_0_1), .val (.long w_0_2), .second, .val (.long w_0_3), .second, .val (.int w_0_5), .unset, .unset, .unset] [(.int (failF w_0_3))]))
  refine ogo (fun _ k => XS.iload X_0_8.here hx rfl (hb hby at_37) rfl k) ?_
  show OGo _ _ _ _ (T_0_8.setTop (mkF m 39 #[.val (.long va), .second, .val (.int vb), .val (.int w_0_1), .val (.long w_0_2), .second, .val (.long w_0_3), .second, .val (.int w_0_5), .unset, .unset, .unset] [(.int w_0_5), (.int (failF w_0_3))]))
  suffices J_0_11 : ∀ (w_0_10 : Int32) (hw_0_10 : w_0_10 = (if (failF w_0_3) = w_0_5 then (1 : Int32) else (0 : Int32))), OGo p.tables e below (OFin s (fun v _ L => v = some (.int 1) ∧ Fr n0 L) 0 0) (T_0_8.setTop (mkF m 47 #[.val (.long va), .second, .val (.int vb), .val (.int w_0_1), .val (.long w_0_2), .second, .val (.long w_0_3), .second, .val (.int w_0_5), .unset, .unset, .unset] [(.int w_0_10)])) by
    by_cases hc_0_9 : (failF w_0_3) = w_0_5
    · refine ogo (fun _ k => XS.icmpNo X_0_8.here hx rfl (hb hby at_39) rfl (teq hc_0_9).2 k) ?_
      show OGo _ _ _ _ (T_0_8.setTop (mkF m 42 #[.val (.long va), .second, .val (.int vb), .val (.int w_0_1), .val (.long w_0_2), .second, .val (.long w_0_3), .second, .val (.int w_0_5), .unset, .unset, .unset] []))
      refine ogo (fun _ k => XS.iconst X_0_8.here hx rfl (hb hby at_42) k) ?_
      show OGo _ _ _ _ (T_0_8.setTop (mkF m 43 #[.val (.long va), .second, .val (.int vb), .val (.int w_0_1), .val (.long w_0_2), .second, .val (.long w_0_3), .second, .val (.int w_0_5), .unset, .unset, .unset] [(.int (1 : Int32))]))
      refine ogo (fun _ k => XS.goto X_0_8.here hx rfl (pc0 := 43) (pc' := 47) rfl (hb hby at_43) (by decide) (by decide) k) ?_
      show OGo _ _ _ _ (T_0_8.setTop (mkF m 47 #[.val (.long va), .second, .val (.int vb), .val (.int w_0_1), .val (.long w_0_2), .second, .val (.long w_0_3), .second, .val (.int w_0_5), .unset, .unset, .unset] [(.int (1 : Int32))]))
      exact J_0_11 _ (if_pos hc_0_9).symm
    · refine ogo (fun _ k => XS.icmpYes X_0_8.here hx rfl (pc0 := 39) (pc' := 46) rfl (hb hby at_39) rfl (feq hc_0_9).2 (by decide) (by decide) k) ?_
      show OGo _ _ _ _ (T_0_8.setTop (mkF m 46 #[.val (.long va), .second, .val (.int vb), .val (.int w_0_1), .val (.long w_0_2), .second, .val (.long w_0_3), .second, .val (.int w_0_5), .unset, .unset, .unset] []))
      refine ogo (fun _ k => XS.iconst X_0_8.here hx rfl (hb hby at_46) k) ?_
      show OGo _ _ _ _ (T_0_8.setTop (mkF m 47 #[.val (.long va), .second, .val (.int vb), .val (.int w_0_1), .val (.long w_0_2), .second, .val (.long w_0_3), .second, .val (.int w_0_5), .unset, .unset, .unset] [(.int (0 : Int32))]))
      exact J_0_11 _ (if_neg hc_0_9).symm
  intro w_0_10 hw_0_10
  refine ogo (fun _ k => XS.istore X_0_8.here hx rfl (hb hby at_47) rfl (l' := #[.val (.long va), .second, .val (.int vb), .val (.int w_0_1), .val (.long w_0_2), .second, .val (.long w_0_3), .second, .val (.int w_0_5), .val (.int w_0_10), .unset, .unset]) rfl k) ?_
  show OGo _ _ _ _ (T_0_8.setTop (mkF m 49 #[.val (.long va), .second, .val (.int vb), .val (.int w_0_1), .val (.long w_0_2), .second, .val (.long w_0_3), .second, .val (.int w_0_5), .val (.int w_0_10), .unset, .unset] []))
  refine ogo (fun _ k => XS.lload X_0_8.here hx rfl (hb hby at_49) rfl k) ?_
  show OGo _ _ _ _ (T_0_8.setTop (mkF m 51 #[.val (.long va), .second, .val (.int vb), .val (.int w_0_1), .val (.long w_0_2), .second, .val (.long w_0_3), .second, .val (.int w_0_5), .val (.int w_0_10), .unset, .unset] [(.long w_0_2)]))
  refine ogo (fun _ k => X_0_8.ldc2J hx hown (mvT hZ (hw _ (List.mem_of_getElem? (i := 6) rfl))) rfl (hb hby at_51) k) ?_
  show OGo _ _ _ _ (T_0_8.setTop (mkF m 54 #[.val (.long va), .second, .val (.int vb), .val (.int w_0_1), .val (.long w_0_2), .second, .val (.long w_0_3), .second, .val (.int w_0_5), .val (.int w_0_10), .unset, .unset] [(.long (8388607 : Int64)), (.long w_0_2)]))
  refine ogo (fun _ k => XS.ladd X_0_8.here hx rfl (hb hby at_54) rfl k) ?_
  show OGo _ _ _ _ (T_0_8.setTop (mkF m 55 #[.val (.long va), .second, .val (.int vb), .val (.int w_0_1), .val (.long w_0_2), .second, .val (.long w_0_3), .second, .val (.int w_0_5), .val (.int w_0_10), .unset, .unset] [(.long (w_0_2 + (8388607 : Int64)))]))
  obtain ⟨T_0_13, X_0_13, e_0_13, st_0_13⟩ := ocallP X_0_8 hx hZ e_0_8 (rm1 l Z a0 hw (w_0_2 + (8388607 : Int64))  h0 ) hown (hw _ (List.mem_of_getElem? (i := 1) rfl)) (hw _ (List.mem_of_getElem? (i := 2) rfl)) (hw _ (List.mem_of_getElem? (i := 3) rfl)) (hw _ (List.mem_of_getElem? (i := 4) rfl)) (by decide) (g := (mkF m 55 #[.val (.long va), .second, .val (.int vb), .val (.int w_0_1), .val (.long w_0_2), .second, .val (.long w_0_3), .second, .val (.int w_0_5), .val (.int w_0_10), .unset, .unset] [(.long (w_0_2 + (8388607 : Int64)))])) rfl (by rw [hml]; rfl) [(.long (w_0_2 + (8388607 : Int64)))] [] rfl (lenOf pd__J_I rfl) rfl (hb hby at_55) 0 (by show 2 * 0 + _ ≤ _; exact Nat.le_of_eq rfl) (by decide) (by decide) (by decide) (by decide) rfl rfl
  refine ogo (fun _ k => st_0_13 _ k) ?_
  show OGo _ _ _ _ (T_0_13.setTop (mkF m 58 #[.val (.long va), .second, .val (.int vb), .val (.int w_0_1), .val (.long w_0_2), .second, .val (.long w_0_3), .second, .val (.int w_0_5), .val (.int w_0_10), .unset, .unset] [(.int (failF (w_0_2 + (8388607 : Int64))))]))
  refine ogo (fun _ k => X_0_13.ldcI hx hown (mvT hZ (hw _ (List.mem_of_getElem? (i := 8) rfl))) rfl (hb hby at_58) k) ?_
  show OGo _ _ _ _ (T_0_13.setTop (mkF m 60 #[.val (.long va), .second, .val (.int vb), .val (.int w_0_1), .val (.long w_0_2), .second, .val (.long w_0_3), .second, .val (.int w_0_5), .val (.int w_0_10), .unset, .unset] [(.int (2147483647 : Int32)), (.int (failF (w_0_2 + (8388607 : Int64))))]))
  suffices J_0_16 : ∀ (w_0_15 : Int32) (hw_0_15 : w_0_15 = (if (failF (w_0_2 + (8388607 : Int64))) = (2147483647 : Int32) then (1 : Int32) else (0 : Int32))), OGo p.tables e below (OFin s (fun v _ L => v = some (.int 1) ∧ Fr n0 L) 0 0) (T_0_13.setTop (mkF m 68 #[.val (.long va), .second, .val (.int vb), .val (.int w_0_1), .val (.long w_0_2), .second, .val (.long w_0_3), .second, .val (.int w_0_5), .val (.int w_0_10), .unset, .unset] [(.int w_0_15)])) by
    by_cases hc_0_14 : (failF (w_0_2 + (8388607 : Int64))) = (2147483647 : Int32)
    · refine ogo (fun _ k => XS.icmpNo X_0_13.here hx rfl (hb hby at_60) rfl (teq hc_0_14).2 k) ?_
      show OGo _ _ _ _ (T_0_13.setTop (mkF m 63 #[.val (.long va), .second, .val (.int vb), .val (.int w_0_1), .val (.long w_0_2), .second, .val (.long w_0_3), .second, .val (.int w_0_5), .val (.int w_0_10), .unset, .unset] []))
      refine ogo (fun _ k => XS.iconst X_0_13.here hx rfl (hb hby at_63) k) ?_
      show OGo _ _ _ _ (T_0_13.setTop (mkF m 64 #[.val (.long va), .second, .val (.int vb), .val (.int w_0_1), .val (.long w_0_2), .second, .val (.long w_0_3), .second, .val (.int w_0_5), .val (.int w_0_10), .unset, .unset] [(.int (1 : Int32))]))
      refine ogo (fun _ k => XS.goto X_0_13.here hx rfl (pc0 := 64) (pc' := 68) rfl (hb hby at_64) (by decide) (by decide) k) ?_
      show OGo _ _ _ _ (T_0_13.setTop (mkF m 68 #[.val (.long va), .second, .val (.int vb), .val (.int w_0_1), .val (.long w_0_2), .second, .val (.long w_0_3), .second, .val (.int w_0_5), .val (.int w_0_10), .unset, .unset] [(.int (1 : Int32))]))
      exact J_0_16 _ (if_pos hc_0_14).symm
    · refine ogo (fun _ k => XS.icmpYes X_0_13.here hx rfl (pc0 := 60) (pc' := 67) rfl (hb hby at_60) rfl (feq hc_0_14).2 (by decide) (by decide) k) ?_
      show OGo _ _ _ _ (T_0_13.setTop (mkF m 67 #[.val (.long va), .second, .val (.int vb), .val (.int w_0_1), .val (.long w_0_2), .second, .val (.long w_0_3), .second, .val (.int w_0_5), .val (.int w_0_10), .unset, .unset] []))
      refine ogo (fun _ k => XS.iconst X_0_13.here hx rfl (hb hby at_67) k) ?_
      show OGo _ _ _ _ (T_0_13.setTop (mkF m 68 #[.val (.long va), .second, .val (.int vb), .val (.int w_0_1), .val (.long w_0_2), .second, .val (.long w_0_3), .second, .val (.int w_0_5), .val (.int w_0_10), .unset, .unset] [(.int (0 : Int32))]))
      exact J_0_16 _ (if_neg hc_0_14).symm
  intro w_0_15 hw_0_15
  refine ogo (fun _ k => XS.istore X_0_13.here hx rfl (hb hby at_68) rfl (l' := #[.val (.long va), .second, .val (.int vb), .val (.int w_0_1), .val (.long w_0_2), .second, .val (.long w_0_3), .second, .val (.int w_0_5), .val (.int w_0_10), .val (.int w_0_15), .unset]) rfl k) ?_
  show OGo _ _ _ _ (T_0_13.setTop (mkF m 70 #[.val (.long va), .second, .val (.int vb), .val (.int w_0_1), .val (.long w_0_2), .second, .val (.long w_0_3), .second, .val (.int w_0_5), .val (.int w_0_10), .val (.int w_0_15), .unset] []))
  refine ogo (fun _ k => XS.lload X_0_13.here hx rfl (hb hby at_70) rfl k) ?_
  show OGo _ _ _ _ (T_0_13.setTop (mkF m 72 #[.val (.long va), .second, .val (.int vb), .val (.int w_0_1), .val (.long w_0_2), .second, .val (.long w_0_3), .second, .val (.int w_0_5), .val (.int w_0_10), .val (.int w_0_15), .unset] [(.long w_0_2)]))
  refine ogo (fun _ k => X_0_13.ldc2J hx hown (mvT hZ (hw _ (List.mem_of_getElem? (i := 9) rfl))) rfl (hb hby at_72) k) ?_
  show OGo _ _ _ _ (T_0_13.setTop (mkF m 75 #[.val (.long va), .second, .val (.int vb), .val (.int w_0_1), .val (.long w_0_2), .second, .val (.long w_0_3), .second, .val (.int w_0_5), .val (.int w_0_10), .val (.int w_0_15), .unset] [(.long (8388606 : Int64)), (.long w_0_2)]))
  refine ogo (fun _ k => XS.ladd X_0_13.here hx rfl (hb hby at_75) rfl k) ?_
  show OGo _ _ _ _ (T_0_13.setTop (mkF m 76 #[.val (.long va), .second, .val (.int vb), .val (.int w_0_1), .val (.long w_0_2), .second, .val (.long w_0_3), .second, .val (.int w_0_5), .val (.int w_0_10), .val (.int w_0_15), .unset] [(.long (w_0_2 + (8388606 : Int64)))]))
  obtain ⟨T_0_18, X_0_18, e_0_18, st_0_18⟩ := ocallP X_0_13 hx hZ e_0_13 (rm1 l Z a0 hw (w_0_2 + (8388606 : Int64))  h0 ) hown (hw _ (List.mem_of_getElem? (i := 1) rfl)) (hw _ (List.mem_of_getElem? (i := 2) rfl)) (hw _ (List.mem_of_getElem? (i := 3) rfl)) (hw _ (List.mem_of_getElem? (i := 4) rfl)) (by decide) (g := (mkF m 76 #[.val (.long va), .second, .val (.int vb), .val (.int w_0_1), .val (.long w_0_2), .second, .val (.long w_0_3), .second, .val (.int w_0_5), .val (.int w_0_10), .val (.int w_0_15), .unset] [(.long (w_0_2 + (8388606 : Int64)))])) rfl (by rw [hml]; rfl) [(.long (w_0_2 + (8388606 : Int64)))] [] rfl (lenOf pd__J_I rfl) rfl (hb hby at_76) 0 (by show 2 * 0 + _ ≤ _; exact Nat.le_of_eq rfl) (by decide) (by decide) (by decide) (by decide) rfl rfl
  refine ogo (fun _ k => st_0_18 _ k) ?_
  show OGo _ _ _ _ (T_0_18.setTop (mkF m 79 #[.val (.long va), .second, .val (.int vb), .val (.int w_0_1), .val (.long w_0_2), .second, .val (.long w_0_3), .second, .val (.int w_0_5), .val (.int w_0_10), .val (.int w_0_15), .unset] [(.int (failF (w_0_2 + (8388606 : Int64))))]))
  refine ogo (fun _ k => X_0_18.ldcI hx hown (mvT hZ (hw _ (List.mem_of_getElem? (i := 10) rfl))) rfl (hb hby at_79) k) ?_
  show OGo _ _ _ _ (T_0_18.setTop (mkF m 81 #[.val (.long va), .second, .val (.int vb), .val (.int w_0_1), .val (.long w_0_2), .second, .val (.long w_0_3), .second, .val (.int w_0_5), .val (.int w_0_10), .val (.int w_0_15), .unset] [(.int (8388606 : Int32)), (.int (failF (w_0_2 + (8388606 : Int64))))]))
  suffices J_0_21 : ∀ (w_0_20 : Int32) (hw_0_20 : w_0_20 = (if (failF (w_0_2 + (8388606 : Int64))) = (8388606 : Int32) then (1 : Int32) else (0 : Int32))), OGo p.tables e below (OFin s (fun v _ L => v = some (.int 1) ∧ Fr n0 L) 0 0) (T_0_18.setTop (mkF m 89 #[.val (.long va), .second, .val (.int vb), .val (.int w_0_1), .val (.long w_0_2), .second, .val (.long w_0_3), .second, .val (.int w_0_5), .val (.int w_0_10), .val (.int w_0_15), .unset] [(.int w_0_20)])) by
    by_cases hc_0_19 : (failF (w_0_2 + (8388606 : Int64))) = (8388606 : Int32)
    · refine ogo (fun _ k => XS.icmpNo X_0_18.here hx rfl (hb hby at_81) rfl (teq hc_0_19).2 k) ?_
      show OGo _ _ _ _ (T_0_18.setTop (mkF m 84 #[.val (.long va), .second, .val (.int vb), .val (.int w_0_1), .val (.long w_0_2), .second, .val (.long w_0_3), .second, .val (.int w_0_5), .val (.int w_0_10), .val (.int w_0_15), .unset] []))
      refine ogo (fun _ k => XS.iconst X_0_18.here hx rfl (hb hby at_84) k) ?_
      show OGo _ _ _ _ (T_0_18.setTop (mkF m 85 #[.val (.long va), .second, .val (.int vb), .val (.int w_0_1), .val (.long w_0_2), .second, .val (.long w_0_3), .second, .val (.int w_0_5), .val (.int w_0_10), .val (.int w_0_15), .unset] [(.int (1 : Int32))]))
      refine ogo (fun _ k => XS.goto X_0_18.here hx rfl (pc0 := 85) (pc' := 89) rfl (hb hby at_85) (by decide) (by decide) k) ?_
      show OGo _ _ _ _ (T_0_18.setTop (mkF m 89 #[.val (.long va), .second, .val (.int vb), .val (.int w_0_1), .val (.long w_0_2), .second, .val (.long w_0_3), .second, .val (.int w_0_5), .val (.int w_0_10), .val (.int w_0_15), .unset] [(.int (1 : Int32))]))
      exact J_0_21 _ (if_pos hc_0_19).symm
    · refine ogo (fun _ k => XS.icmpYes X_0_18.here hx rfl (pc0 := 81) (pc' := 88) rfl (hb hby at_81) rfl (feq hc_0_19).2 (by decide) (by decide) k) ?_
      show OGo _ _ _ _ (T_0_18.setTop (mkF m 88 #[.val (.long va), .second, .val (.int vb), .val (.int w_0_1), .val (.long w_0_2), .second, .val (.long w_0_3), .second, .val (.int w_0_5), .val (.int w_0_10), .val (.int w_0_15), .unset] []))
      refine ogo (fun _ k => XS.iconst X_0_18.here hx rfl (hb hby at_88) k) ?_
      show OGo _ _ _ _ (T_0_18.setTop (mkF m 89 #[.val (.long va), .second, .val (.int vb), .val (.int w_0_1), .val (.long w_0_2), .second, .val (.long w_0_3), .second, .val (.int w_0_5), .val (.int w_0_10), .val (.int w_0_15), .unset] [(.int (0 : Int32))]))
      exact J_0_21 _ (if_neg hc_0_19).symm
  intro w_0_20 hw_0_20
  refine ogo (fun _ k => XS.istore X_0_18.here hx rfl (hb hby at_89) rfl (l' := #[.val (.long va), .second, .val (.int vb), .val (.int w_0_1), .val (.long w_0_2), .second, .val (.long w_0_3), .second, .val (.int w_0_5), .val (.int w_0_10), .val (.int w_0_15), .val (.int w_0_20)]) rfl k) ?_
  show OGo _ _ _ _ (T_0_18.setTop (mkF m 91 #[.val (.long va), .second, .val (.int vb), .val (.int w_0_1), .val (.long w_0_2), .second, .val (.long w_0_3), .second, .val (.int w_0_5), .val (.int w_0_10), .val (.int w_0_15), .val (.int w_0_20)] []))
  refine ogo (fun _ k => XS.iload X_0_18.here hx rfl (hb hby at_91) rfl k) ?_
  show OGo _ _ _ _ (T_0_18.setTop (mkF m 93 #[.val (.long va), .second, .val (.int vb), .val (.int w_0_1), .val (.long w_0_2), .second, .val (.long w_0_3), .second, .val (.int w_0_5), .val (.int w_0_10), .val (.int w_0_15), .val (.int w_0_20)] [(.int w_0_10)]))
  suffices J_0_33 : ∀ (w_0_32 : Int32) (hw_0_32 : w_0_32 = (if w_0_10 = (0 : Int32) then (0 : Int32) else (if w_0_15 = (0 : Int32) then (0 : Int32) else (if w_0_20 = (0 : Int32) then (0 : Int32) else (1 : Int32))))), OGo p.tables e below (OFin s (fun v _ L => v = some (.int 1) ∧ Fr n0 L) 0 0) (T_0_18.setTop (mkF m 111 #[.val (.long va), .second, .val (.int vb), .val (.int w_0_1), .val (.long w_0_2), .second, .val (.long w_0_3), .second, .val (.int w_0_5), .val (.int w_0_10), .val (.int w_0_15), .val (.int w_0_20)] [(.int w_0_32)])) by
    by_cases hc_0_23 : w_0_10 = (0 : Int32)
    · refine ogo (fun _ k => XS.ifYes X_0_18.here hx rfl (pc0 := 93) (pc' := 110) rfl (hb hby at_93) rfl ((if0 _ _).trans (teq hc_0_23).1) (by decide) (by decide) k) ?_
      show OGo _ _ _ _ (T_0_18.setTop (mkF m 110 #[.val (.long va), .second, .val (.int vb), .val (.int w_0_1), .val (.long w_0_2), .second, .val (.long w_0_3), .second, .val (.int w_0_5), .val (.int w_0_10), .val (.int w_0_15), .val (.int w_0_20)] []))
      refine ogo (fun _ k => XS.iconst X_0_18.here hx rfl (hb hby at_110) k) ?_
      show OGo _ _ _ _ (T_0_18.setTop (mkF m 111 #[.val (.long va), .second, .val (.int vb), .val (.int w_0_1), .val (.long w_0_2), .second, .val (.long w_0_3), .second, .val (.int w_0_5), .val (.int w_0_10), .val (.int w_0_15), .val (.int w_0_20)] [(.int (0 : Int32))]))
      exact J_0_33 _ (if_pos hc_0_23).symm
    · refine ogo (fun _ k => XS.ifNo X_0_18.here hx rfl (hb hby at_93) rfl ((if0 _ _).trans (feq hc_0_23).1) k) ?_
      show OGo _ _ _ _ (T_0_18.setTop (mkF m 96 #[.val (.long va), .second, .val (.int vb), .val (.int w_0_1), .val (.long w_0_2), .second, .val (.long w_0_3), .second, .val (.int w_0_5), .val (.int w_0_10), .val (.int w_0_15), .val (.int w_0_20)] []))
      refine ogo (fun _ k => XS.iload X_0_18.here hx rfl (hb hby at_96) rfl k) ?_
      show OGo _ _ _ _ (T_0_18.setTop (mkF m 98 #[.val (.long va), .second, .val (.int vb), .val (.int w_0_1), .val (.long w_0_2), .second, .val (.long w_0_3), .second, .val (.int w_0_5), .val (.int w_0_10), .val (.int w_0_15), .val (.int w_0_20)] [(.int w_0_15)]))
      suffices J_0_30 : ∀ (w_0_29 : Int32) (hw_0_29 : w_0_29 = (if w_0_15 = (0 : Int32) then (0 : Int32) else (if w_0_20 = (0 : Int32) then (0 : Int32) else (1 : Int32)))), OGo p.tables e below (OFin s (fun v _ L => v = some (.int 1) ∧ Fr n0 L) 0 0) (T_0_18.setTop (mkF m 111 #[.val (.long va), .second, .val (.int vb), .val (.int w_0_1), .val (.long w_0_2), .second, .val (.long w_0_3), .second, .val (.int w_0_5), .val (.int w_0_10), .val (.int w_0_15), .val (.int w_0_20)] [(.int w_0_29)])) by
        by_cases hc_0_24 : w_0_15 = (0 : Int32)
        · refine ogo (fun _ k => XS.ifYes X_0_18.here hx rfl (pc0 := 98) (pc' := 110) rfl (hb hby at_98) rfl ((if0 _ _).trans (teq hc_0_24).1) (by decide) (by decide) k) ?_
          show OGo _ _ _ _ (T_0_18.setTop (mkF m 110 #[.val (.long va), .second, .val (.int vb), .val (.int w_0_1), .val (.long w_0_2), .second, .val (.long w_0_3), .second, .val (.int w_0_5), .val (.int w_0_10), .val (.int w_0_15), .val (.int w_0_20)] []))
          refine ogo (fun _ k => XS.iconst X_0_18.here hx rfl (hb hby at_110) k) ?_
          show OGo _ _ _ _ (T_0_18.setTop (mkF m 111 #[.val (.long va), .second, .val (.int vb), .val (.int w_0_1), .val (.long w_0_2), .second, .val (.long w_0_3), .second, .val (.int w_0_5), .val (.int w_0_10), .val (.int w_0_15), .val (.int w_0_20)] [(.int (0 : Int32))]))
          exact J_0_30 _ (if_pos hc_0_24).symm
        · refine ogo (fun _ k => XS.ifNo X_0_18.here hx rfl (hb hby at_98) rfl ((if0 _ _).trans (feq hc_0_24).1) k) ?_
          show OGo _ _ _ _ (T_0_18.setTop (mkF m 101 #[.val (.long va), .second, .val (.int vb), .val (.int w_0_1), .val (.long w_0_2), .second, .val (.long w_0_3), .second, .val (.int w_0_5), .val (.int w_0_10), .val (.int w_0_15), .val (.int w_0_20)] []))
          refine ogo (fun _ k => XS.iload X_0_18.here hx rfl (hb hby at_101) rfl k) ?_
          show OGo _ _ _ _ (T_0_18.setTop (mkF m 103 #[.val (.long va), .second, .val (.int vb), .val (.int w_0_1), .val (.long w_0_2), .second, .val (.long w_0_3), .second, .val (.int w_0_5), .val (.int w_0_10), .val (.int w_0_15), .val (.int w_0_20)] [(.int w_0_20)]))
          suffices J_0_27 : ∀ (w_0_26 : Int32) (hw_0_26 : w_0_26 = (if w_0_20 = (0 : Int32) then (0 : Int32) else (1 : Int32))), OGo p.tables e below (OFin s (fun v _ L => v = some (.int 1) ∧ Fr n0 L) 0 0) (T_0_18.setTop (mkF m 111 #[.val (.long va), .second, .val (.int vb), .val (.int w_0_1), .val (.long w_0_2), .second, .val (.long w_0_3), .second, .val (.int w_0_5), .val (.int w_0_10), .val (.int w_0_15), .val (.int w_0_20)] [(.int w_0_26)])) by
            by_cases hc_0_25 : w_0_20 = (0 : Int32)
            · refine ogo (fun _ k => XS.ifYes X_0_18.here hx rfl (pc0 := 103) (pc' := 110) rfl (hb hby at_103) rfl ((if0 _ _).trans (teq hc_0_25).1) (by decide) (by decide) k) ?_
              show OGo _ _ _ _ (T_0_18.setTop (mkF m 110 #[.val (.long va), .second, .val (.int vb), .val (.int w_0_1), .val (.long w_0_2), .second, .val (.long w_0_3), .second, .val (.int w_0_5), .val (.int w_0_10), .val (.int w_0_15), .val (.int w_0_20)] []))
              refine ogo (fun _ k => XS.iconst X_0_18.here hx rfl (hb hby at_110) k) ?_
              show OGo _ _ _ _ (T_0_18.setTop (mkF m 111 #[.val (.long va), .second, .val (.int vb), .val (.int w_0_1), .val (.long w_0_2), .second, .val (.long w_0_3), .second, .val (.int w_0_5), .val (.int w_0_10), .val (.int w_0_15), .val (.int w_0_20)] [(.int (0 : Int32))]))
              exact J_0_27 _ (if_pos hc_0_25).symm
            · refine ogo (fun _ k => XS.ifNo X_0_18.here hx rfl (hb hby at_103) rfl ((if0 _ _).trans (feq hc_0_25).1) k) ?_
              show OGo _ _ _ _ (T_0_18.setTop (mkF m 106 #[.val (.long va), .second, .val (.int vb), .val (.int w_0_1), .val (.long w_0_2), .second, .val (.long w_0_3), .second, .val (.int w_0_5), .val (.int w_0_10), .val (.int w_0_15), .val (.int w_0_20)] []))
              refine ogo (fun _ k => XS.iconst X_0_18.here hx rfl (hb hby at_106) k) ?_
              show OGo _ _ _ _ (T_0_18.setTop (mkF m 107 #[.val (.long va), .second, .val (.int vb), .val (.int w_0_1), .val (.long w_0_2), .second, .val (.long w_0_3), .second, .val (.int w_0_5), .val (.int w_0_10), .val (.int w_0_15), .val (.int w_0_20)] [(.int (1 : Int32))]))
              refine ogo (fun _ k => XS.goto X_0_18.here hx rfl (pc0 := 107) (pc' := 111) rfl (hb hby at_107) (by decide) (by decide) k) ?_
              show OGo _ _ _ _ (T_0_18.setTop (mkF m 111 #[.val (.long va), .second, .val (.int vb), .val (.int w_0_1), .val (.long w_0_2), .second, .val (.long w_0_3), .second, .val (.int w_0_5), .val (.int w_0_10), .val (.int w_0_15), .val (.int w_0_20)] [(.int (1 : Int32))]))
              exact J_0_27 _ (if_neg hc_0_25).symm
          intro w_0_26 hw_0_26
          subst hw_0_26
          exact J_0_30 _ (if_neg hc_0_24).symm
      intro w_0_29 hw_0_29
      subst hw_0_29
      exact J_0_33 _ (if_neg hc_0_23).symm
  intro w_0_32 hw_0_32
  have hz : w_0_32 = (1 : Int32) := plain0 va vb w_0_1 hw_0_1 w_0_2 hw_0_2 w_0_3 hw_0_3 w_0_5 hw_0_5 w_0_10 hw_0_10 w_0_15 hw_0_15 w_0_20 hw_0_20 w_0_32 hw_0_32
  rw [hz]
  exact oret X_0_18 hx hlk Bd.returns rfl (Or.inl ⟨rfl, Or.inr (Or.inl rfl), _, rfl⟩) (hb hby at_111) (by decide) (by decide) ⟨rfl, N0⟩
set_option maxRecDepth 65536 in
set_option maxHeartbeats 40000000 in
theorem comes_1 {Post : Tables → Env → Array Value → State → Outcome → State → Prop} (hpost : ∀ tb e args s v u, (limb_1_1.after args s (.returned v) u = true ∧ limb_1_2.after args s (.returned v) u = true) → FrameEnd s (.returned v) u (Jvm.fieldLocs frame_1_writes args s ++ Jvm.arrayLocs frame_1_arrays args s ++ Jvm.staticLocs frame_1_statics s) 0 0 → Post tb e args s (.returned v) u) :
    ArmFor flags0 classFile x code maxLocals ret World_1 tables_1 room_1 Calls_1 rest_1 Pre_1 Post := by
  intro l hfl _ _ p e ha hc hk s m args below hf hA hF happ hP
  obtain ⟨hcalls, hrest, hpre⟩ := hP
  obtain ⟨-, -, -, hnamed, -, -, -, hat⟩ := (Spec.applies_iff hf).mp happ
  obtain ⟨hg, hn⟩ := and_e (Cond.before_iff.mp (show (Jvm.Cond.and given_1 narrow_1).before args s = true from hpre))
  obtain ⟨gc, g0⟩ := and_e hg
  obtain ⟨ga0, g1⟩ := and_e g0
  obtain ⟨w0, w1, rfl⟩ : ∃ w0 w1 : Value, args = #[w0, w1] := by
    have hs : args.size = 2 := by simpa [Cond.value, given_1] using gc
    obtain ⟨L⟩ := args
    match L, hs with
    | [w0, w1], _ => exact ⟨w0, w1, rfl⟩
  have hw := fun d (hd : d ∈ tables_1) => atoms_spec (ws := Jvm.Cond.code x code maxLocals ret :: tables_1) hat d (List.mem_cons_of_mem _ hd)
  obtain ⟨i0, ei0⟩ := isL_v ga0
  obtain rfl : w0 = (.long i0) := Option.some.inj ei0
  obtain ⟨i1, ei1⟩ := is_v g1
  obtain rfl : w1 = (.int i1) := Option.some.inj ei1
  obtain ⟨n, o, h1, h2, h3, _, L, rfl, ⟨rfl, N⟩, hq⟩ := rm0 l s _ hw tables_1 i0 i1 s.heap s.heap.size (Nat.le_refl _)  p e ha hc hk s m _ below hf ((Spec.applies_iff_loose hf).mp happ).1 ⟨rfl, State.Warmed39.refl s, rfl⟩ trivial
  exact ⟨n, _, h1, h2, h3, hpost _ _ _ _ _ _ ⟨Cond.after_iff.mpr rfl, Cond.after_iff.mpr (eq_i res_at (Term.int_eval (1)) rfl)⟩ ⟨hq.1, hq.2.1, (hq.2.2.sift fun y hy => Or.inr (N y hy)).mono (by decide) (by decide)⟩⟩
theorem main_1_1 : Claimed_1_1 := comes_1 fun _ _ _ _ _ _ h hF => ⟨h.1, hF⟩
theorem main_1_2 : Claimed_1_2 := comes_1 fun _ _ _ _ _ _ h hF => ⟨h.2, hF⟩
end Jvm.Pilot.@@N@@
namespace Jvm.Pilot.@@N@@
open Jvm Jvm.ClassFile Sem Op Lib Jvm.Free Jvm.Stand Jvm.Pilot.@@N@@.Jvm.D
/-! MADE BY PROGRAM (witnessworld.py) out of the Statement's table words and the real class files: 7 classes; the members and pool entries that the words name. The judged class is class 1, her method 1. -/
namespace start1
open Jvm.ClassFile
def u (s : String) : CpInfo := .utf8 (stringToUtf16 s)
/-- a pool by its gaps: so many unusable entries, then the entry; so many at the end -/
def gap : Nat → List CpInfo → List CpInfo
  | 0, r => r
  | n + 1, r => .unusable :: gap n r
def poolList (es : List (Nat × CpInfo)) (last : Nat) : List CpInfo := es.foldr (fun e r => gap e.1 (e.2 :: r)) (gap last [])
def pool (es : List (Nat × CpInfo)) (last : Nat) : Array CpInfo := ⟨poolList es last⟩
def fileOf (pool : Array CpInfo) (this : Nat) (attrs : Array Attribute := #[]) (ms : Array MethodInfo := #[]) (fl : Nat := 33) (sup : Nat := 0) (ifs : Array Nat := #[]) (fds : Array FieldInfo := #[]) : ClassFile where
  minorVersion := 0
  majorVersion := 65
  constantPool := pool
  accessFlags := fl
  thisClass := this
  superClass := sup
  interfaces := ifs
  fields := fds
  methods := ms
  attributes := attrs
def plain (name : String) (sup : Option ClassId) : Class where
  name := name
  kind := .ordinary
  loader := none
  accessFlags := 33
  super := sup
  interfaces := #[]
  cf := none
  fields := #[]
  methods := #[]
  instanceTypes := #[]
  staticTypes := #[]
  resolved := #[]
  callSites := []
  init := .initialized
  statics := none
  mirror := none

def pool0 : Array CpInfo := pool [(5, u "<init>"), (0, u "()V"), (1, .class_ 10), (1, u "java/lang/Object")] 113

def k0m0 : Method := { name := "<init>", desc := "()V", sig := { parameters := [], returnType := none }, accessFlags := 1, code := none }
/-- java/lang/Object -/
def k0 : Class := { plain "java/lang/Object" none with
  accessFlags := 33
  interfaces := #[]
  cf := some (fileOf pool0 8 #[] #[{ accessFlags := 1, nameIndex := 5, descriptorIndex := 6, attributes := #[] }] 33 0 #[] #[])
  fields := #[]
  methods := #[k0m0]
  instanceTypes := #[]
  staticTypes := #[]
  resolved := Array.replicate 124 none
  statics := none }

def pool1 : Array CpInfo := pool [(2, .class_ 4), (1, u "java/lang/Object"), (0, u "<init>"), (0, u "()V"), (0, .integer 8388607), (2, .integer 2147483647), (0, .methodref 12 13), (0, .class_ 14), (0, .nameAndType 15 16), (0, u "com/example/bouncr/bouncr/KeyTrace"), (0, u "failures"), (0, u "(J)I"), (0, .long 8388607), (1, .long 8388606), (1, .integer 8388606), (0, .class_ 23), (0, u "com/example/bouncr/bouncr/KeyTraceFailuresPinLaw"), (2, u "law"), (0, u "(JI)Z")] 3

def k1m0 : Method := { name := "<init>", desc := "()V", sig := { parameters := [], returnType := none }, accessFlags := 1, code := none }
def k1c1 : Code := { maxStack := 4, maxLocals := 12, code := code, exceptionTable := #[], attributes := #[] }
def k1m1 : Method := { name := "law", desc := "(JI)Z", sig := { parameters := [.long, .int], returnType := some .boolean }, accessFlags := 9, code := some k1c1 }
/-- com/example/bouncr/bouncr/KeyTraceFailuresPinLaw -/
def k1 : Class := { plain "com/example/bouncr/bouncr/KeyTraceFailuresPinLaw" (some 0) with
  accessFlags := 49
  interfaces := #[]
  cf := some (fileOf pool1 22 #[] #[{ accessFlags := 1, nameIndex := 5, descriptorIndex := 6, attributes := #[] }, { accessFlags := 9, nameIndex := 26, descriptorIndex := 27, attributes := #[] }] 49 2 #[] #[])
  fields := #[]
  methods := #[k1m0, k1m1]
  instanceTypes := #[]
  staticTypes := #[]
  resolved := Array.replicate 31 none
  statics := none }

def pool2 : Array CpInfo := pool [(1, .class_ 2), (0, u "com/example/bouncr/bouncr/KeyTrace"), (1, .class_ 6), (1, u "java/lang/Object"), (8, u "latestEnd"), (0, u "J"), (21, u "slots"), (0, u "[J"), (8, u "bits"), (0, u "I"), (14, .long 8388607), (1, .integer 2147483647), (13, u "LATEST"), (0, u "Ljava/lang/invoke/VarHandle;"), (14, .class_ 98), (1, u "com/example/bouncr/bouncr/KeyTrace$Taken"), (53, u "BUCKET"), (2, u "MOST_SLOTS"), (1, u "COUNT_BITS"), (1, u "MOST_COUNTED"), (0, u "REFUSED_ONLY"), (0, u "END_SHIFT"), (1, u "LAST_END"), (6, u "failures"), (0, u "(J)I")] 13

def k2c0 : Code := { maxStack := 4, maxLocals := 4, code := prog_31_method_3_code, exceptionTable := #[], attributes := #[] }
def k2m0 : Method := { name := "failures", desc := "(J)I", sig := { parameters := [.long], returnType := some .int }, accessFlags := 8, code := some k2c0 }
/-- com/example/bouncr/bouncr/KeyTrace -/
def k2 : Class := { plain "com/example/bouncr/bouncr/KeyTrace" (some 0) with
  accessFlags := 32
  interfaces := #[]
  cf := some (fileOf pool2 1 #[.nestMembers #[96]] #[{ accessFlags := 8, nameIndex := 170, descriptorIndex := 171, attributes := #[] }] 32 4 #[] #[{ accessFlags := 26, nameIndex := 152, descriptorIndex := 49, attributes := #[] }, { accessFlags := 26, nameIndex := 155, descriptorIndex := 49, attributes := #[] }, { accessFlags := 26, nameIndex := 157, descriptorIndex := 49, attributes := #[] }, { accessFlags := 26, nameIndex := 159, descriptorIndex := 16, attributes := #[] }, { accessFlags := 26, nameIndex := 160, descriptorIndex := 16, attributes := #[] }, { accessFlags := 26, nameIndex := 161, descriptorIndex := 49, attributes := #[] }, { accessFlags := 26, nameIndex := 163, descriptorIndex := 16, attributes := #[] }, { accessFlags := 26, nameIndex := 80, descriptorIndex := 81, attributes := #[] }, { accessFlags := 18, nameIndex := 38, descriptorIndex := 39, attributes := #[] }, { accessFlags := 18, nameIndex := 48, descriptorIndex := 49, attributes := #[] }, { accessFlags := 2, nameIndex := 15, descriptorIndex := 16, attributes := #[] }])
  fields := #[{ name := "BUCKET", type := .int, accessFlags := 26, slot := 0, constantValue := 0 }, { name := "MOST_SLOTS", type := .int, accessFlags := 26, slot := 1, constantValue := 0 }, { name := "COUNT_BITS", type := .int, accessFlags := 26, slot := 2, constantValue := 0 }, { name := "MOST_COUNTED", type := .long, accessFlags := 26, slot := 3, constantValue := 0 }, { name := "REFUSED_ONLY", type := .long, accessFlags := 26, slot := 4, constantValue := 0 }, { name := "END_SHIFT", type := .int, accessFlags := 26, slot := 5, constantValue := 0 }, { name := "LAST_END", type := .long, accessFlags := 26, slot := 6, constantValue := 0 }, { name := "LATEST", type := (.object "java/lang/invoke/VarHandle"), accessFlags := 26, slot := 7, constantValue := 0 }, { name := "slots", type := (.array .long), accessFlags := 18, slot := 0, constantValue := 0 }, { name := "bits", type := .int, accessFlags := 18, slot := 1, constantValue := 0 }, { name := "latestEnd", type := .long, accessFlags := 2, slot := 2, constantValue := 0 }]
  methods := #[k2m0]
  instanceTypes := #[(.array .long), .int, .long]
  staticTypes := #[.int, .int, .int, .long, .long, .int, .long, (.object "java/lang/invoke/VarHandle")]
  resolved := Array.replicate 185 none
  statics := none }

def pool3 : Array CpInfo := pool [(1, u "java/lang/Cloneable"), (0, .class_ 1), (0, u "java/lang/Object"), (0, .class_ 3)] 3

/-- java/lang/Cloneable -/
def k3 : Class := { plain "java/lang/Cloneable" (some 0) with
  accessFlags := 1537
  interfaces := #[]
  cf := some (fileOf pool3 2 #[] #[] 1537 4 #[] #[])
  fields := #[]
  methods := #[]
  instanceTypes := #[]
  staticTypes := #[]
  resolved := Array.replicate 8 none
  statics := none }

def pool4 : Array CpInfo := pool [(1, u "java/io/Serializable"), (0, .class_ 1), (0, u "java/lang/Object"), (0, .class_ 3)] 3

/-- java/io/Serializable -/
def k4 : Class := { plain "java/io/Serializable" (some 0) with
  accessFlags := 1537
  interfaces := #[]
  cf := some (fileOf pool4 2 #[] #[] 1537 4 #[] #[])
  fields := #[]
  methods := #[]
  instanceTypes := #[]
  staticTypes := #[]
  resolved := Array.replicate 8 none
  statics := none }

/-- the primitive byte -/
def k5 : Class := { plain "byte" none with kind := .primitive 'B', accessFlags := 0x411 }
/-- [B -/
def k6 : Class := { plain "[B" (some 0) with kind := .array 5 .byte, interfaces := #[3, 4], accessFlags := 1041 }

def heap : Heap := #[]
def classes : Array Class := #[k0, k1, k2, k3, k4, k5, k6]
def interned : List (Array UInt16 × Addr) := []
def slotsUsed : Nat := 0
def theMethod : MethodId := ⟨1, 1⟩
def args0 : Array Value := #[.long 5, .int 7]
def aboutOver (below : List Frame) : State where
  vm := { classes := classes, interned := interned.toArray }
  heap := heap
  slotsUsed := slotsUsed
  threads := #[{ frames := .invoking theMethod args0 :: below }]
def below0 : List Frame := [.native { method := ⟨0, 0⟩, args := #[] }]
def about1 : State := aboutOver below0
def p0 : Program := .bare "" "" ""
def e0 : Env := launch0.env 0 0 0
theorem w_frames : about1.frames = Frame.invoking theMethod args0 :: below0 := rfl
set_option maxRecDepth 65536 in
theorem w_args : argsFit about1.vm theMethod args0 = true := by decide +kernel
set_option maxRecDepth 65536 in
theorem w_heap : heapFits about1 = true := by decide +kernel
set_option maxRecDepth 65536 in
theorem w_runnable : about1.curStatus? = some .runnable := by decide +kernel
set_option maxRecDepth 65536 in
theorem w_alone : about1.alone = true := by decide +kernel
set_option maxRecDepth 65536 in
theorem w_named : about1.methodNamed? x = some theMethod := by decide +kernel
set_option maxRecDepth 65536 in
theorem w_hears : about1.hears theMethod below0 = true := by decide +kernel
set_option maxRecDepth 65536 in
theorem w_ripe : about1.ripe theMethod args0 below0 = true := by decide +kernel
theorem w_running : about1.status = .running := rfl
set_option maxRecDepth 65536 in
theorem w_room : about1.hasRoom e0.platform room_1 = true :=
  launch0.hasRoom_least _ room_1 (by decide +kernel) (by decide +kernel) (by decide +kernel) (by decide +kernel) (by decide +kernel) (by decide +kernel)
theorem allAtoms_all (ts : List Jvm.Cond) (a : Array Jvm.Value) (st : Jvm.State) : (allAtoms ts).before a st = ts.all (fun c => c.before a st) := by
  induction ts with
  | nil => rfl
  | cons c t ih =>
    show (Jvm.Cond.and c (allAtoms t)).before a st = _
    rw [Jvm.Cond.before_and, ih, List.all_cons]
def words1 : List Jvm.Cond := Jvm.Cond.code x code maxLocals ret :: tables_1
/-- a 'code' word, met by the world's own term for the bytes: nothing is compared byte by byte -/
theorem code_word {y : MethodName} {bytes : ByteArray} {mx : Nat} {rt : Option FieldType} {a : Array Value} {s : State} {m : MethodId} {meth : Method} {c : Code} (h1 : s.methodNamed? y = some m) (h2 : s.vm.method? m = some meth) (h3 : meth.code = some c) (h4 : c.code = bytes)
    (h5 : (c.maxLocals == mx && c.exceptionTable.isEmpty && decide (c.maxStack ≤ mostOperands) && decide (meth.sig.returnType = rt) && !meth.locks && decide (parseMethodDescriptor y.desc = some meth.sig)) = true) : (Jvm.Cond.code y bytes mx rt).before a s = true := by
  simp only [Bool.and_eq_true, beq_iff_eq, Bool.not_eq_true', decide_eq_true_eq] at h5
  obtain ⟨⟨⟨⟨⟨g1, g2⟩, g3⟩, g4⟩, g5⟩, g6⟩ := h5
  simp [Cond.before, Cond.holds, Cond.value, h1, h2, h3, h4, g1, g2, g3, g4, g5, g6]
def isCode : Jvm.Cond → Bool
  | .code _ _ _ _ => true
  | _ => false
theorem all_split {L : List Jvm.Cond} {P : Jvm.Cond → Bool} (h1 : L.all (fun c => isCode c || P c) = true) (h2 : ∀ c ∈ L.filter isCode, P c = true) : L.all P = true := by
  refine List.all_eq_true.mpr fun c hc => ?_
  have h := List.all_eq_true.mp h1 c hc
  rcases Bool.eq_false_or_eq_true (isCode c) with hi | hi
  · exact h2 c (List.mem_filter.mpr ⟨hc, hi⟩)
  · simpa [hi] using h
set_option maxRecDepth 65536 in
theorem w_c0 : (Jvm.Cond.code x code maxLocals ret).before args0 about1 = true := code_word (m := ⟨1, 1⟩) (meth := k1m1) (c := k1c1) (by decide +kernel) rfl rfl rfl (by decide +kernel)
set_option maxRecDepth 65536 in
theorem w_c1 : (Jvm.Cond.code ({ cls := "com/example/bouncr/bouncr/KeyTrace", name := "failures", desc := "(J)I" } : Jvm.MethodName) prog_31_method_3_code (4 : Nat) (Option.some Jvm.ClassFile.FieldType.int)).before args0 about1 = true := code_word (m := ⟨2, 0⟩) (meth := k2m0) (c := k2c0) (by decide +kernel) rfl rfl rfl (by decide +kernel)
def codes1 : List Jvm.Cond := [Jvm.Cond.code x code maxLocals ret, Jvm.Cond.code ({ cls := "com/example/bouncr/bouncr/KeyTrace", name := "failures", desc := "(J)I" } : Jvm.MethodName) prog_31_method_3_code (4 : Nat) (Option.some Jvm.ClassFile.FieldType.int)]
set_option maxRecDepth 65536 in
theorem codes_eq : words1.filter isCode = codes1 := rfl
theorem w_codes : ∀ c ∈ words1.filter isCode, c.before args0 about1 = true := by
  rw [codes_eq]
  intro c hc
  simp only [codes1, List.mem_cons, List.not_mem_nil, or_false] at hc
  rcases hc with rfl | rfl
  · exact w_c0
  · exact w_c1
set_option maxRecDepth 65536 in
theorem w_t1 : words1.all (fun c => isCode c || c.before args0 about1) = true := by decide +kernel
theorem w_tables : (allAtoms (Jvm.Cond.code x code maxLocals ret :: tables_1)).before args0 about1 = true := by
  rw [allAtoms_all]
  show words1.all (fun c => c.before args0 about1) = true
  refine all_split ?_ w_codes
  rw [w_t1]
set_option maxRecDepth 65536 in
theorem w_case : (Jvm.Cond.and given_1 narrow_1).before args0 about1 = true := by decide +kernel
theorem w_applies : (headSpec (Jvm.Cond.code x code maxLocals ret :: tables_1) room_1).applies x e0.platform about1 = true :=
  (Spec.applies_iff w_frames).mpr ⟨w_running, w_runnable, w_alone, w_named, w_hears, w_ripe, w_room, w_tables⟩
theorem atStart : AtStart classFile x code maxLocals ret World_1 tables_1 room_1 Calls_1 rest_1 Pre_1 launch0 p0 e0 about1 theMethod args0 below0 :=
  ⟨lists_1, trivial, launch0.admits_env _ _ _, launch0.least_env, fairChoices_fair.cas, fairChoices_fair.clock, w_frames, w_args, w_heap, w_applies, trivial, trivial, w_case⟩
end start1
theorem witness_1 : WitnessClaimed_1 := ⟨start1.p0, start1.e0, start1.about1, start1.theMethod, start1.args0, start1.below0, start1.atStart⟩
end Jvm.Pilot.@@N@@
