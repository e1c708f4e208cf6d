import JvmDerived
import JvmDerived.Pilot.@@N@@Statement
import JvmDerived.Pilot.@@N@@Code
set_option linter.unusedVariables false
set_option linter.unusedSimpArgs false
namespace Jvm.OwnKit
open Sem ClassFile Op Lib Jvm.Stand Jvm.Free Jvm.LawKit Jvm.RoadKit
section OwnGo
variable {p : Program} {l : Launch} {e : Env} {R : Room} {s : State} {m : MethodId} {args : Array Value} {below : List Frame} {meth : Method} {c : Code} {T : State} {locs : List Loc} {cells slots : Nat} {Z : State} {a0 : Array Value} {h : Heap}
/-- from the state t the run comes to an end of which P holds -/
def OGo (tb : Tables) (e : Env) (below : List Frame) (P : Outcome → State → Prop) (t : State) : Prop :=
  ∃ s₂ o, Steps tb e below t s₂ ∧ s₂.status = .running ∧ Ended s₂ below o ∧ P o s₂
theorem ogo {tb : Tables} {P : Outcome → State → Prop} {t t' : State} (k : ∀ u, Steps tb e below t' u → Steps tb e below t u) (g : OGo tb e below P t') : OGo tb e below P t := by
  obtain ⟨s₂, o, h1, h2⟩ := g
  exact ⟨s₂, o, k _ h1, h2⟩
theorem ogoT {tb : Tables} {P : Outcome → State → Prop} {t t' : State} (k : Steps tb e below t t') (g : OGo tb e below P t') : OGo tb e below P t := ogo (fun _ q => k.trans q) g
/-- the end of a body: returned, the heap as Q says, the frame kept -/
abbrev OFin (s : State) (Q : Option Value → Heap → List Loc → Prop) (K N : Nat) : Outcome → State → Prop :=
  fun o U => ∃ v L, o = .returned v ∧ Q v U.heap L ∧ FrameEnd s o U L K N
/-- a body's contract -/
def OMet (l : Launch) (Z : State) (y : MethodName) (bytes : ByteArray) (maxL : Nat) (ret : Option FieldType) (rm : Room) (as : Array Value) (h : Heap) (Q : Option Value → Heap → List Loc → Prop) : Prop :=
  ∀ ws : List Jvm.Cond, MetFree l y (head1 (Jvm.Cond.code y bytes maxL ret :: ws) rm) (fun a U => a = as ∧ Z.Warmed39 U.vm ∧ U.heap = h) (fun _ _ _ _ _ => True) (fun _ U o U' => ∃ v L, o = .returned v ∧ Q v U'.heap L ∧ FrameEnd U o U' L rm.cells rm.slots)
/-- a body that returns w and writes nothing -/
abbrev OPure (w : Option Value) (h : Heap) : Option Value → Heap → List Loc → Prop := fun v h' L => v = w ∧ L = [] ∧ h' = h
theorem oret (X : Stand p l e R s m args below meth c T locs cells slots) (hx : p.tables.exec = Jvm.exec) (hlk : meth.locks = false) {pc : Nat} {Ls : Array Slot} {w : Value} {t : FieldType} {i : Instr} {rest : List Value} (hret : meth.sig.returnType = some t) (hn : narrow t w = w)
    (hi : (i = .ireturn ∧ (t = .int ∨ t = .boolean ∨ t = .byte ∨ t = .char ∨ t = .short) ∧ ∃ z, w = .int z) ∨ (i = .lreturn ∧ t = .long ∧ ∃ z, w = .long z) ∨ (i = .dreturn ∧ t = .double ∧ ∃ z, w = .double z) ∨ (i = .freturn ∧ t = .float ∧ ∃ z, w = .float z) ∨ (i = .areturn ∧ t.isReference = true ∧ w.isRef = true))
    (hd : decode c.code pc = .ok (i, 1)) {K N : Nat} (hk : cells ≤ K) (hs : slots ≤ N) {Q : Option Value → Heap → List Loc → Prop} (hQ : Q (some w) T.heap locs) :
    OGo p.tables e below (OFin s Q K N) (T.setTop (mkF m pc Ls (w :: rest))) := by
  obtain ⟨fs, hr, hrun, hended, hW, hsame⟩ := X.leave (v := some w) (fun h => by rw [hret] at h; cases h) hlk
  exact ⟨_, _, retOut X hx hret hn hi hd hr, hrun, hended, _, _, rfl, hQ, ⟨_, rfl⟩, hW, hsame.mono hk hs⟩
theorem oretV (X : Stand p l e R s m args below meth c T locs cells slots) (hx : p.tables.exec = Jvm.exec) (hlk : meth.locks = false) {pc : Nat} {Ls : Array Slot} (hret : meth.sig.returnType = none)
    (hd : decode c.code pc = .ok (.return_, 1)) {K N : Nat} (hk : cells ≤ K) (hs : slots ≤ N) {Q : Option Value → Heap → List Loc → Prop} (hQ : Q none T.heap locs) :
    OGo p.tables e below (OFin s Q K N) (T.setTop (mkF m pc Ls [])) := by
  obtain ⟨fs, hr, hrun, hended, hW, hsame⟩ := X.leave (v := none) (fun _ => rfl) hlk
  exact ⟨_, _, X.returnOut hx hret hd hr, hrun, hended, _, _, rfl, hQ, ⟨_, rfl⟩, hW, hsame.mono hk hs⟩
abbrev OPlain (y : MethodName) : Prop := y.cls ≠ "java/lang/invoke/MethodHandle" ∧ y.cls ≠ "java/lang/invoke/VarHandle"
/-- a static call by its contract -/
theorem ocallQ (X : Stand p l e R s m args below meth c T locs cells slots) (hx : p.tables.exec = Jvm.exec) (hZ : Z.Warmed39 s.vm) (eT : T.heap = h) {own : String} {index : Nat} {y : MethodName} {bytes : ByteArray} {maxL : Nat} {ret : Option FieldType} {rm : Room} {as : Array Value} {Q : Option Value → Heap → List Loc → Prop} (hM : OMet l Z y bytes maxL ret rm as h Q)
    (hown : s.vm.findClass own = some m.cls) (w1 : (Jvm.Cond.methodLink own index y).before a0 Z = true) (w2 : (Jvm.Cond.static y).before a0 Z = true) (w3 : (Jvm.Cond.initialized y.cls).before a0 Z = true) (w4 : (Jvm.Cond.code y bytes maxL ret).before a0 Z = true) (hy : OPlain y)
    {g : JFrame} (hg : g.method = m) (hsize : g.locals.size = c.maxLocals) (argsL rest : List Value) (has : argsL.toArray = as) (hlen : ∀ sig, parseMethodDescriptor y.desc = some sig → argsL.length = sig.parameters.length) (hstack : g.stack = argsL.reverse ++ rest) (hdg : decode c.code g.pc = .ok (.invokestatic index, 3))
    (W : Nat) (hW : 2 * g.monitorRoom + (rest.map fun v => v.category).sum ≤ W) (hf : rm.frames + 1 ≤ R.frames) (hl : W + (maxL + 11) + rm.locals ≤ R.locals) (hc : cells + rm.cells ≤ R.cells) (hs : slots + rm.slots ≤ R.slots) :
    ∃ (v : Option Value) (T' : State) (h' : Heap) (L : List Loc), T'.heap = h' ∧ Q v h' L ∧ Stand p l e R s m args below meth c T' (locs ++ L) (cells + rm.cells) (slots + rm.slots) ∧
      ∀ target, Steps p.tables e below (T'.setTop { g with pc := g.pc + 3, stack := v.toList ++ rest }) target → Steps p.tables e below (T.setTop g) target := by
  obtain ⟨v, vm₁, ⟨T', L', k', n'⟩, -, X', ⟨L, hQ, l1, l2, l3⟩, st⟩ := Jvm.LawKit.callS X hx (y := y) hown (mvT hZ w1) (mvT hZ w2) (mvT hZ w3) (mvT hZ w4) hy (backOf (W := W) (hM []) hZ w4 w3 hf hl) (g := g) hg hsize (argsL := argsL) (rest := rest) hlen hstack hW hdg (fun _ _ => ⟨has, eT, hc, hs⟩)
  dsimp only [Pt.U, Pt.locs, Pt.cells, Pt.slots] at X' l1 l2 l3 st hQ
  subst l1 l2 l3
  exact ⟨v, T', _, L, rfl, hQ, X', st⟩
/-- a static call of a body that writes nothing -/
theorem ocallP (X : Stand p l e R s m args below meth c T locs cells slots) (hx : p.tables.exec = Jvm.exec) (hZ : Z.Warmed39 s.vm) (eT : T.heap = h) {own : String} {index : Nat} {y : MethodName} {bytes : ByteArray} {maxL : Nat} {ret : Option FieldType} {rm : Room} {as : Array Value} {w : Option Value} (hM : OMet l Z y bytes maxL ret rm as h (OPure w h))
    (hown : s.vm.findClass own = some m.cls) (w1 : (Jvm.Cond.methodLink own index y).before a0 Z = true) (w2 : (Jvm.Cond.static y).before a0 Z = true) (w3 : (Jvm.Cond.initialized y.cls).before a0 Z = true) (w4 : (Jvm.Cond.code y bytes maxL ret).before a0 Z = true) (hy : OPlain y)
    {g : JFrame} (hg : g.method = m) (hsize : g.locals.size = c.maxLocals) (argsL rest : List Value) (has : argsL.toArray = as) (hlen : ∀ sig, parseMethodDescriptor y.desc = some sig → argsL.length = sig.parameters.length) (hstack : g.stack = argsL.reverse ++ rest) (hdg : decode c.code g.pc = .ok (.invokestatic index, 3))
    (W : Nat) (hW : 2 * g.monitorRoom + (rest.map fun v => v.category).sum ≤ W) (hf : rm.frames + 1 ≤ R.frames) (hl : W + (maxL + 11) + rm.locals ≤ R.locals) (hc : cells + rm.cells ≤ R.cells) (hs : slots + rm.slots ≤ R.slots) (z1 : rm.cells = 0) (z2 : rm.slots = 0) :
    ∃ T' : State, Stand p l e R s m args below meth c T' locs cells slots ∧ T'.heap = h ∧
      ∀ target, Steps p.tables e below (T'.setTop { g with pc := g.pc + 3, stack := w.toList ++ rest }) target → Steps p.tables e below (T.setTop g) target := by
  obtain ⟨v, T', h', L, e2, ⟨rfl, rfl, e'⟩, X', st⟩ := ocallQ X hx hZ eT hM hown w1 w2 w3 w4 hy hg hsize argsL rest has hlen hstack hdg W hW hf hl hc hs
  rw [z1, z2, List.append_nil] at X'
  exact ⟨T', X', e2.trans e', st⟩
/-- an instance call by its contract -/
theorem ovirtQ (X : Stand p l e R s m args below meth c T locs cells slots) (hx : p.tables.exec = Jvm.exec) (hZ : Z.Warmed39 s.vm) (eT : T.heap = h) {own C : String} {index : Nat} {y : MethodName} {bytes : ByteArray} {maxL : Nat} {ret : Option FieldType} {rm : Room} {as : Array Value} {Q : Option Value → Heap → List Loc → Prop} (hM : OMet l Z y bytes maxL ret rm as h Q)
    (hown : s.vm.findClass own = some m.cls) (w1 : (Jvm.Cond.methodLink own index y).before a0 Z = true) (w2 : (Jvm.Cond.declares y).before a0 Z = true) (w3 : (Jvm.Cond.selects C y y).before a0 Z = true) (w4 : (Jvm.Cond.instanceMethod y).before a0 Z = true) (w5 : (Jvm.Cond.initialized y.cls).before a0 Z = true) (w6 : (Jvm.Cond.code y bytes maxL ret).before a0 Z = true) (hy : OPlain y) {b : Addr} (E : Exa Z h b C)
    {g : JFrame} (hg : g.method = m) (hsize : g.locals.size = c.maxLocals) (argsL rest : List Value) (has : (.ref b :: argsL).toArray = as) (hlen : ∀ sig, parseMethodDescriptor y.desc = some sig → argsL.length = sig.parameters.length) (hstack : g.stack = argsL.reverse ++ .ref b :: rest) (hdg : decode c.code g.pc = .ok (.invokevirtual index, 3))
    (W : Nat) (hW : 2 * g.monitorRoom + (rest.map fun v => v.category).sum ≤ W) (hf : rm.frames + 1 ≤ R.frames) (hl : W + (maxL + 11) + rm.locals ≤ R.locals) (hc : cells + rm.cells ≤ R.cells) (hs : slots + rm.slots ≤ R.slots) :
    ∃ (v : Option Value) (T' : State) (h' : Heap) (L : List Loc), T'.heap = h' ∧ Q v h' L ∧ Stand p l e R s m args below meth c T' (locs ++ L) (cells + rm.cells) (slots + rm.slots) ∧
      ∀ target, Steps p.tables e below (T'.setTop { g with pc := g.pc + 3, stack := v.toList ++ rest }) target → Steps p.tables e below (T.setTop g) target := by
  obtain ⟨cq, kq, qa, -, qc⟩ := isOf (T := T) hZ eT E
  have w3' : (Jvm.Cond.selects C y y).before args s = true := mvT hZ w3
  obtain ⟨v, vm₁, ⟨T', L', k', n'⟩, -, X', ⟨L, hQ, l1, l2, l3⟩, st⟩ := X.virtualBack hx (y := y) (z := y) hown (mvT hZ w1) (mvT hZ w2) (notFace_of_selects w3') w3' (mvT hZ w4) hy (backOf (W := W) (hM []) hZ w6 w5 hf hl) qa qc (g := g) hg hsize (Steps.refl _) (argsL := argsL) (rest := rest) hlen hstack hW hdg (fun _ _ => ⟨has, eT, hc, hs⟩)
  dsimp only [Pt.U, Pt.locs, Pt.cells, Pt.slots] at X' l1 l2 l3 st hQ
  subst l1 l2 l3
  exact ⟨v, T', _, L, rfl, hQ, X', fun _ k => st.trans k⟩
theorem ovirtP (X : Stand p l e R s m args below meth c T locs cells slots) (hx : p.tables.exec = Jvm.exec) (hZ : Z.Warmed39 s.vm) (eT : T.heap = h) {own C : String} {index : Nat} {y : MethodName} {bytes : ByteArray} {maxL : Nat} {ret : Option FieldType} {rm : Room} {as : Array Value} {w : Option Value} (hM : OMet l Z y bytes maxL ret rm as h (OPure w h))
    (hown : s.vm.findClass own = some m.cls) (w1 : (Jvm.Cond.methodLink own index y).before a0 Z = true) (w2 : (Jvm.Cond.declares y).before a0 Z = true) (w3 : (Jvm.Cond.selects C y y).before a0 Z = true) (w4 : (Jvm.Cond.instanceMethod y).before a0 Z = true) (w5 : (Jvm.Cond.initialized y.cls).before a0 Z = true) (w6 : (Jvm.Cond.code y bytes maxL ret).before a0 Z = true) (hy : OPlain y) {b : Addr} (E : Exa Z h b C)
    {g : JFrame} (hg : g.method = m) (hsize : g.locals.size = c.maxLocals) (argsL rest : List Value) (has : (.ref b :: argsL).toArray = as) (hlen : ∀ sig, parseMethodDescriptor y.desc = some sig → argsL.length = sig.parameters.length) (hstack : g.stack = argsL.reverse ++ .ref b :: rest) (hdg : decode c.code g.pc = .ok (.invokevirtual index, 3))
    (W : Nat) (hW : 2 * g.monitorRoom + (rest.map fun v => v.category).sum ≤ W) (hf : rm.frames + 1 ≤ R.frames) (hl : W + (maxL + 11) + rm.locals ≤ R.locals) (hc : cells + rm.cells ≤ R.cells) (hs : slots + rm.slots ≤ R.slots) (z1 : rm.cells = 0) (z2 : rm.slots = 0) :
    ∃ T' : State, Stand p l e R s m args below meth c T' locs cells slots ∧ T'.heap = h ∧
      ∀ target, Steps p.tables e below (T'.setTop { g with pc := g.pc + 3, stack := w.toList ++ rest }) target → Steps p.tables e below (T.setTop g) target := by
  obtain ⟨v, T', h', L, e2, ⟨rfl, rfl, e'⟩, X', st⟩ := ovirtQ X hx hZ eT hM hown w1 w2 w3 w4 w5 w6 hy E hg hsize argsL rest has hlen hstack hdg W hW hf hl hc hs
  rw [z1, z2, List.append_nil] at X'
  exact ⟨T', X', e2.trans e', st⟩
/-- a constructor by its contract -/
theorem ospecQ (X : Stand p l e R s m args below meth c T locs cells slots) (hx : p.tables.exec = Jvm.exec) (hZ : Z.Warmed39 s.vm) (eT : T.heap = h) {own : String} {index : Nat} {y : MethodName} {bytes : ByteArray} {maxL : Nat} {rm : Room} {as : Array Value} {Q : Option Value → Heap → List Loc → Prop} (hM : OMet l Z y bytes maxL none rm as h Q)
    (hyi : y.name = "<init>") (hown : s.vm.findClass own = some m.cls) (w1 : (Jvm.Cond.methodLink own index y).before a0 Z = true) (w4 : (Jvm.Cond.instanceMethod y).before a0 Z = true) (w5 : (Jvm.Cond.initialized y.cls).before a0 Z = true) (w6 : (Jvm.Cond.code y bytes maxL none).before a0 Z = true) (hy : OPlain y) {b : Addr}
    {g : JFrame} (hg : g.method = m) (hsize : g.locals.size = c.maxLocals) (argsL rest : List Value) (has : (.ref b :: argsL).toArray = as) (hlen : ∀ sig, parseMethodDescriptor y.desc = some sig → argsL.length = sig.parameters.length) (hstack : g.stack = argsL.reverse ++ .ref b :: rest) (hdg : decode c.code g.pc = .ok (.invokespecial index, 3))
    (W : Nat) (hW : 2 * g.monitorRoom + (rest.map fun v => v.category).sum ≤ W) (hf : rm.frames + 1 ≤ R.frames) (hl : W + (maxL + 11) + rm.locals ≤ R.locals) (hc : cells + rm.cells ≤ R.cells) (hs : slots + rm.slots ≤ R.slots) :
    ∃ (v : Option Value) (T' : State) (h' : Heap) (L : List Loc), T'.heap = h' ∧ Q v h' L ∧ Stand p l e R s m args below meth c T' (locs ++ L) (cells + rm.cells) (slots + rm.slots) ∧
      ∀ target, Steps p.tables e below (T'.setTop { g with pc := g.pc + 3, stack := v.toList ++ rest }) target → Steps p.tables e below (T.setTop g) target := by
  obtain ⟨v, vm₁, ⟨T', L', k', n'⟩, -, X', ⟨L, hQ, l1, l2, l3⟩, st⟩ := X.specialBack hx (y := y) hyi hown (mvT hZ w1) (mvT hZ w4) (mvT hZ w6) hy (backOf (W := W) (hM []) hZ w6 w5 hf hl) (g := g) hg hsize (Steps.refl _) (a := b) (argsL := argsL) (rest := rest) hlen hstack hW hdg (fun _ _ => ⟨has, eT, hc, hs⟩)
  dsimp only [Pt.U, Pt.locs, Pt.cells, Pt.slots] at X' l1 l2 l3 st hQ
  subst l1 l2 l3
  exact ⟨v, T', _, L, rfl, hQ, X', fun _ k => st.trans k⟩
theorem onb {z : Int32} (q : z = 0 ∨ z = 1) : narrow .boolean (.int z) = .int z := by rcases q with rfl | rfl <;> rfl
theorem ofb {z : Int32} (q : z = 0 ∨ z = 1) : fits .boolean (.int z) = true := by rcases q with rfl | rfl <;> rfl
theorem oif01 {c : Prop} [Decidable c] {a b : Int32} (qa : a = 0 ∨ a = 1) (qb : b = 0 ∨ b = 1) : (if c then a else b) = 0 ∨ (if c then a else b) = 1 := by split <;> assumption
/-! arrays by a function of the place -/
variable {ty : FieldType} {a b : Addr} {n : Nat} {f f' : Nat → Value} {h' : Heap} {ws : List Addr} {sl : Nat} {v : Value}
def OAr (Z : State) (h : Heap) (a : Addr) (ty : FieldType) (n : Nat) (f : Nat → Value) : Prop :=
  ∃ c : Cell, Arr Z h a c ty ∧ c.slots.size = n ∧ (∀ j, j < n → c.slots[j]? = some (f j)) ∧ ∀ j, j < n → fits ty (f j) = true
theorem OAr.lt (F : OAr Z h a ty n f) : a < h.size := by obtain ⟨c, A, -⟩ := F; exact A.lt
theorem OAr.ext (F : OAr Z h a ty n f) (E : Ext h h') : OAr Z h' a ty n f := by obtain ⟨c, A, r⟩ := F; exact ⟨c, A.ext E, r⟩
theorem OAr.other (F : OAr Z h b ty n f) (W : Wr h h' a sl v) (q : b ≠ a) : OAr Z h' b ty n f := by obtain ⟨c, A, r⟩ := F; exact ⟨c, A.other W q, r⟩
theorem OAr.keep (F : OAr Z h a ty n f) (K : Keep h h' ws) (q : a ∉ ws) : OAr Z h' a ty n f := by obtain ⟨c, A, r⟩ := F; exact ⟨c, ⟨K.2.1 a c A.1 q, A.2⟩, r⟩
theorem OAr.conv (F : OAr Z h a ty n f) (q : ∀ j, j < n → f j = f' j) : OAr Z h a ty n f' := by
  obtain ⟨c, A, S, H, G⟩ := F
  exact ⟨c, A, S, fun j hj => by rw [← q j hj]; exact H j hj, fun j hj => by rw [← q j hj]; exact G j hj⟩
theorem OAr.new {k : ClassId} {z : Int32} (A : Arr Z h a (newA k ty z) ty) (q : z.toNatClampNeg = n) : OAr Z h a ty n (fun _ => defaultValue ty) :=
  ⟨_, A, (sz_new _ _ _).trans q, fun j hj => by simp [newA, q, hj], fun j _ => by cases ty <;> rfl⟩
theorem OAr.set (F : OAr Z h a ty n f) (W : Wr h h' a sl v) (hv : fits ty v = true) : OAr Z h' a ty n (fun j => if j = sl then v else f j) := by
  obtain ⟨c, A, S, H, G⟩ := F
  refine ⟨_, A.same W, by rw [sz_set]; exact S, fun j hj => ?_, fun j hj => ?_⟩
  · show (c.slots.setIfInBounds sl v)[j]? = _
    rw [Array.getElem?_setIfInBounds]
    by_cases q : j = sl
    · subst q; simp [S, hj]
    · rw [if_neg (fun z => q z.symm), H j hj]; simp [q]
  · by_cases q : j = sl
    · simp [q, hv]
    · simp [q, G j hj]
theorem oidx {j : Int32} (h0 : 0 ≤ j.toInt) (h1 : j.toInt < (n : Int)) : ¬ (j < 0) ∧ j.toNatClampNeg < n := by
  refine ⟨fun q => ?_, ?_⟩
  · rw [Int32.lt_iff_toInt_lt] at q; have : (0 : Int32).toInt = 0 := rfl; omega
  · simp only [Int32.toNatClampNeg]; omega
theorem oin {c : Cell} {j : Int32} (S : c.slots.size = n) (h0 : 0 ≤ j.toInt) (h1 : j.toInt < (n : Int)) : ¬ (j < 0 ∨ c.slots.size ≤ j.toNatClampNeg) := by
  obtain ⟨q1, q2⟩ := oidx h0 h1
  rw [S]; exact fun z => z.elim q1 (fun u => Nat.not_le.mpr q2 u)
theorem ostB (X : Stand p l e R s m args below meth c T locs cells slots) (hx : p.tables.exec = Jvm.exec) (hZ : Z.Warmed39 s.vm) (eT : T.heap = h) (F : OAr Z h a .byte n f) {j x : Int32} (h0 : 0 ≤ j.toInt) (h1 : j.toInt < (n : Int)) {g : JFrame} (hg : g.method = m) {rest : List Value} (hs : g.stack = .int x :: .int j :: .ref a :: rest) (hd : decode c.code g.pc = .ok (.bastore, 1)) :
    ∃ T' h', Stand p l e R s m args below meth c T' (locs ++ [⟨a, j.toNatClampNeg⟩]) cells slots ∧ T'.heap = h' ∧ Wr h h' a j.toNatClampNeg (.int x.toInt8.toInt32) ∧ OAr Z h' a .byte n (fun i => if i = j.toNatClampNeg then .int x.toInt8.toInt32 else f i) ∧ ∀ target, Steps p.tables e below (T'.setTop { g with pc := g.pc + 1, stack := rest }) target → Steps p.tables e below (T.setTop g) target := by
  obtain ⟨cl, A, S, H, G⟩ := F
  obtain ⟨T', h', X', e', W, st⟩ := stB X hx hZ eT A (j := j) (x := x) (oin S h0 h1) hg hs hd
  exact ⟨T', h', X', e', W, OAr.set ⟨cl, A, S, H, G⟩ W (fits_nar_byte x), st⟩
theorem ostI (X : Stand p l e R s m args below meth c T locs cells slots) (hx : p.tables.exec = Jvm.exec) (hZ : Z.Warmed39 s.vm) (eT : T.heap = h) (F : OAr Z h a .int n f) {j x : Int32} (h0 : 0 ≤ j.toInt) (h1 : j.toInt < (n : Int)) {g : JFrame} (hg : g.method = m) {rest : List Value} (hs : g.stack = .int x :: .int j :: .ref a :: rest) (hd : decode c.code g.pc = .ok (.iastore, 1)) :
    ∃ T' h', Stand p l e R s m args below meth c T' (locs ++ [⟨a, j.toNatClampNeg⟩]) cells slots ∧ T'.heap = h' ∧ Wr h h' a j.toNatClampNeg (.int x) ∧ OAr Z h' a .int n (fun i => if i = j.toNatClampNeg then .int x else f i) ∧ ∀ target, Steps p.tables e below (T'.setTop { g with pc := g.pc + 1, stack := rest }) target → Steps p.tables e below (T.setTop g) target := by
  obtain ⟨cl, A, S, H, G⟩ := F
  obtain ⟨T', h', X', e', W, st⟩ := stI X hx hZ eT A (j := j) (x := x) (oin S h0 h1) hg hs hd
  exact ⟨T', h', X', e', W, OAr.set ⟨cl, A, S, H, G⟩ W rfl, st⟩
theorem ostJ (X : Stand p l e R s m args below meth c T locs cells slots) (hx : p.tables.exec = Jvm.exec) (hZ : Z.Warmed39 s.vm) (eT : T.heap = h) (F : OAr Z h a .long n f) {j : Int32} {x : Int64} (h0 : 0 ≤ j.toInt) (h1 : j.toInt < (n : Int)) {g : JFrame} (hg : g.method = m) {rest : List Value} (hs : g.stack = .long x :: .int j :: .ref a :: rest) (hd : decode c.code g.pc = .ok (.lastore, 1)) :
    ∃ T' h', Stand p l e R s m args below meth c T' (locs ++ [⟨a, j.toNatClampNeg⟩]) cells slots ∧ T'.heap = h' ∧ Wr h h' a j.toNatClampNeg (.long x) ∧ OAr Z h' a .long n (fun i => if i = j.toNatClampNeg then .long x else f i) ∧ ∀ target, Steps p.tables e below (T'.setTop { g with pc := g.pc + 1, stack := rest }) target → Steps p.tables e below (T.setTop g) target := by
  obtain ⟨cl, A, S, H, G⟩ := F
  obtain ⟨T', h', X', e', W, st⟩ := stJ X hx hZ eT A (j := j) (x := x) (oin S h0 h1) hg hs hd
  exact ⟨T', h', X', e', W, OAr.set ⟨cl, A, S, H, G⟩ W rfl, st⟩
theorem oldB (X : Stand p l e R s m args below meth c T locs cells slots) (hx : p.tables.exec = Jvm.exec) (hZ : Z.Warmed39 s.vm) (eT : T.heap = h) (F : OAr Z h a .byte n f) {j : Int32} (h0 : 0 ≤ j.toInt) (h1 : j.toInt < (n : Int)) {g : JFrame} (hg : g.method = m) {rest : List Value} (hs : g.stack = .int j :: .ref a :: rest) (hd : decode c.code g.pc = .ok (.baload, 1)) :
    ∀ target, Steps p.tables e below (T.setTop { g with pc := g.pc + 1, stack := f j.toNatClampNeg :: rest }) target → Steps p.tables e below (T.setTop g) target := by
  obtain ⟨cl, A, S, H, G⟩ := F
  exact fun t k => X.baloadBytes hx (by rw [eT]; exact A.1) (State.isArrayOf_alike hZ.alike A.2.1) A.2.2 (oin S h0 h1) (H _ (oidx h0 h1).2) hg hs hd t k
theorem oldI (X : Stand p l e R s m args below meth c T locs cells slots) (hx : p.tables.exec = Jvm.exec) (hZ : Z.Warmed39 s.vm) (eT : T.heap = h) (F : OAr Z h a .int n f) {j : Int32} (h0 : 0 ≤ j.toInt) (h1 : j.toInt < (n : Int)) {g : JFrame} (hg : g.method = m) {rest : List Value} (hs : g.stack = .int j :: .ref a :: rest) (hd : decode c.code g.pc = .ok (.iaload, 1)) :
    ∀ target, Steps p.tables e below (T.setTop { g with pc := g.pc + 1, stack := f j.toNatClampNeg :: rest }) target → Steps p.tables e below (T.setTop g) target := by
  obtain ⟨cl, A, S, H, G⟩ := F
  exact fun t k => X.iaload hx (by rw [eT]; exact A.1) (State.isArrayOf_alike hZ.alike A.2.1) A.2.2 (oin S h0 h1) (H _ (oidx h0 h1).2) hg hs hd t k
theorem oldJ (X : Stand p l e R s m args below meth c T locs cells slots) (hx : p.tables.exec = Jvm.exec) (hZ : Z.Warmed39 s.vm) (eT : T.heap = h) (F : OAr Z h a .long n f) {j : Int32} (h0 : 0 ≤ j.toInt) (h1 : j.toInt < (n : Int)) {g : JFrame} (hg : g.method = m) {rest : List Value} (hs : g.stack = .int j :: .ref a :: rest) (hd : decode c.code g.pc = .ok (.laload, 1)) :
    ∀ target, Steps p.tables e below (T.setTop { g with pc := g.pc + 1, stack := f j.toNatClampNeg :: rest }) target → Steps p.tables e below (T.setTop g) target := by
  obtain ⟨cl, A, S, H, G⟩ := F
  exact fun t k => X.laload hx (by rw [eT]; exact A.1) (State.isArrayOf_alike hZ.alike A.2.1) A.2.2 (oin S h0 h1) (H _ (oidx h0 h1).2) hg hs hd t k
theorem oalen (X : Stand p l e R s m args below meth c T locs cells slots) (hx : p.tables.exec = Jvm.exec) (hZ : Z.Warmed39 s.vm) (eT : T.heap = h) (F : OAr Z h a ty n f) {g : JFrame} (hg : g.method = m) {rest : List Value} (hs : g.stack = .ref a :: rest) (hd : decode c.code g.pc = .ok (.arraylength, 1)) :
    ∀ target, Steps p.tables e below (T.setTop { g with pc := g.pc + 1, stack := .int n.toInt32 :: rest }) target → Steps p.tables e below (T.setTop g) target := by
  obtain ⟨cl, A, S, H, G⟩ := F
  subst S
  exact fun t k => X.arraylength hx (by rw [eT]; exact A.1) (State.isArrayOf_alike hZ.alike A.2.1) hg hs hd t k
theorem oclone (X : Stand p l e R s m args below meth c T locs cells slots) (hx : p.tables.exec = Jvm.exec) (hZ : Z.Warmed39 s.vm) {own ad : String} {index : Nat} (hown : s.vm.findClass own = some m.cls)
    (w1 : (Jvm.Cond.methodLink own index ⟨ad, "clone", "()Ljava/lang/Object;"⟩).before a0 Z = true) (w2 : (Jvm.Cond.sameMethod ad "java/lang/Object" "clone" "()Ljava/lang/Object;").before a0 Z = true) (w3 : (Jvm.Cond.native ⟨"java/lang/Object", "clone", "()Ljava/lang/Object;"⟩).before a0 Z = true)
    (w4 : (Jvm.Cond.instanceMethod ⟨"java/lang/Object", "clone", "()Ljava/lang/Object;"⟩).before a0 Z = true) (w5 : (Jvm.Cond.selects ad ⟨ad, "clone", "()Ljava/lang/Object;"⟩ ⟨"java/lang/Object", "clone", "()Ljava/lang/Object;"⟩).before a0 Z = true) (w6 : (Jvm.Cond.castable ad "java/lang/Cloneable").before a0 Z = true)
    (eT : T.heap = h) (F : OAr Z h a ty n f) (E : Exa Z h a ad) {g : JFrame} (hg : g.method = m) (hsize : g.locals.size = c.maxLocals) {rest : List Value} (hs : g.stack = .ref a :: rest) (hd : decode c.code g.pc = .ok (.invokevirtual index, 3))
    (hf : 1 ≤ R.frames) (W : Nat) (hW : 2 * g.monitorRoom + (rest.map fun v => v.category).sum ≤ W) (hl : W + 14 ≤ R.locals) (hc : cells + 1 ≤ R.cells) (hsl : slots + n ≤ R.slots) :
    ∃ T' h', Stand p l e R s m args below meth c T' locs (cells + 1) (slots + n) ∧ T'.heap = h' ∧ Ext h h' ∧ OAr Z h' h.size ty n f ∧ Exa Z h' h.size ad ∧
      ∀ target, Steps p.tables e below (T'.setTop { g with pc := g.pc + 3, stack := .ref h.size :: rest }) target → Steps p.tables e below (T.setTop g) target := by
  obtain ⟨cl, A, S, H, G⟩ := F
  have FC : FitC Z cl := fitC_of A fun i hi v hv => by rw [H i (S ▸ hi)] at hv; cases hv; exact G i (S ▸ hi)
  obtain ⟨T', h', X', e', ex, A', E', st⟩ := cloneA X hx hZ hown w1 w2 w3 w4 w5 w6 eT A E FC hg hsize hs hd hf hW hl (Nat.le_of_eq S) hc hsl
  exact ⟨T', h', X', e', ex, ⟨cloneOf cl, A', S, H, G⟩, E', st⟩
end OwnGo
end Jvm.OwnKit
namespace Jvm.OwnKit
open Sem ClassFile Op Lib Jvm.Stand Jvm.Free Jvm.LawKit Jvm.RoadKit
section OwnW
variable {p : Program} {l : Launch} {e : Env} {R : Room} {s : State} {m : MethodId} {args : Array Value} {below : List Frame} {meth : Method} {c : Code} {T : State} {locs : List Loc} {cells slots : Nat} {Z : State} {a0 : Array Value} {h : Heap} {vm1 : Vm}
/-- the end of a body that may have interned -/
abbrev OFinW (s : State) (Q : Option Value → Heap → List Loc → Prop) (K N : Nat) : Outcome → State → Prop :=
  fun o U => ∃ v L, o = .returned v ∧ Q v U.heap L ∧ ReturnedEndW s o U L K N
/-- the contract of a body that may intern, called where nothing has been interned since Z -/
def OMetW (l : Launch) (Z : State) (y : MethodName) (bytes : ByteArray) (maxL : Nat) (ret : Option FieldType) (rm : Room) (as : Array Value) (h : Heap) (Q : Option Value → Heap → List Loc → Prop) : Prop :=
  ∀ ws : List Jvm.Cond, MetFree l y (head1 (Jvm.Cond.code y bytes maxL ret :: ws) rm) (fun a U => a = as ∧ Z.Warmed39 U.vm ∧ U.heap = h ∧ IB Z U.vm []) (fun _ _ _ _ _ => True) (fun _ U o U' => ∃ v L, o = .returned v ∧ Q v U'.heap L ∧ ReturnedEndW U o U' L rm.cells rm.slots)
theorem oib (I : IB Z s.vm []) (hW : s.WarmedH vm1) : IB Z vm1 [] := by
  obtain ⟨more, e, q⟩ := I
  exact ⟨more, hW.interned_eq.trans e, q⟩
theorem obackW {y : MethodName} {bytes : ByteArray} {maxL : Nat} {ret : Option FieldType} {rm : Room} {len W : Nat} {as : Array Value} {Q : Option Value → Heap → List Loc → Prop} (hM : OMetW l Z y bytes maxL ret rm as h Q) (hZ : Z.Warmed39 s.vm) (I : IB Z s.vm [])
    (wc : (Jvm.Cond.code y bytes maxL ret).before a0 Z = true) (wz : (Jvm.Cond.initialized y.cls).before a0 Z = true) (hf : rm.frames + 1 ≤ R.frames) (hl : W + (maxL + 11) + rm.locals ≤ R.locals) :
    BackS l R p e below s args y len W (fun A a => a = as ∧ A.U.heap = h ∧ A.cells + rm.cells ≤ R.cells ∧ A.slots + rm.slots ≤ R.slots) (fun A _ v B => ∃ L, Q v B.U.heap L ∧ B.locs = A.locs ++ L ∧ B.cells = A.cells + rm.cells ∧ B.slots = A.slots + rm.slots) :=
  BackS.of_freeW (bytes := bytes) (maxL := maxL) (ret := ret) (E := fun _ _ o t L k n => k = rm.cells ∧ n = rm.slots ∧ ∃ v, o = .returned v ∧ Q v t.heap L) (hM []) hf hl
    (fun m meth c A a Y hp => have hU : Z.Warmed39 A.U.vm := wtrans hZ Y.warmed
      ⟨by show (Jvm.Cond.and _ .tt).before a A.U = true; rw [Cond.before_and, mv hU wc]; rfl, mv hU wc, mv hU wz, hp.2.2.1, hp.2.2.2⟩)
    (fun m meth c A a g mk Y hp => ⟨hp.1, wtrans hZ Y.warmed, hp.2.1, oib I Y.warmed⟩) (fun _ _ _ _ _ _ _ _ _ => trivial)
    (fun _ _ _ _ ⟨v, L, h1, h2, h3⟩ => ⟨L, _, _, h3, rfl, rfl, v, h1, h2⟩)
    (fun m meth c A a g mk v t L k n Y hp _ _ ⟨e1, e2, v', e3, e4⟩ => by cases e3; subst e1 e2; exact ⟨L, e4, rfl, rfl, rfl⟩)
theorem osince (s : State) (n : Nat) : s.Since s.vm n := (State.WarmedH.refl s).since n
theorem oretW {k : Nat} (X : Stand p l e R (s.setVm vm1) m args below meth c T locs cells slots) (hS : s.Since vm1 k) (hk0 : k ≤ T.heap.size) (hx : p.tables.exec = Jvm.exec) (hlk : meth.locks = false) {pc : Nat} {Ls : Array Slot} {w : Value} {t : FieldType} {i : Instr} {rest : List Value} (hret : meth.sig.returnType = some t) (hn : narrow t w = w)
    (hi : (i = .ireturn ∧ (t = .int ∨ t = .boolean ∨ t = .byte ∨ t = .char ∨ t = .short) ∧ ∃ z, w = .int z) ∨ (i = .lreturn ∧ t = .long ∧ ∃ z, w = .long z) ∨ (i = .dreturn ∧ t = .double ∧ ∃ z, w = .double z) ∨ (i = .freturn ∧ t = .float ∧ ∃ z, w = .float z) ∨ (i = .areturn ∧ t.isReference = true ∧ w.isRef = true))
    (hd : decode c.code pc = .ok (i, 1)) {K N : Nat} (hk : cells ≤ K) (hs : slots ≤ N) {Q : Option Value → Heap → List Loc → Prop} (hQ : Q (some w) T.heap locs) :
    OGo p.tables e below (OFinW s Q K N) (T.setTop (mkF m pc Ls (w :: rest))) := by
  obtain ⟨fs, hr, hrun, hended, hE⟩ := X.leaveW hS hk0 (v := some w) (fun h => by rw [hret] at h; cases h) hlk
  exact ⟨_, _, retOut X hx hret hn hi hd hr, hrun, hended, _, _, rfl, hQ, hE.1, hE.2.1, hE.2.2.1, hE.2.2.2.mono hk hs⟩
theorem oretVW {k : Nat} (X : Stand p l e R (s.setVm vm1) m args below meth c T locs cells slots) (hS : s.Since vm1 k) (hk0 : k ≤ T.heap.size) (hx : p.tables.exec = Jvm.exec) (hlk : meth.locks = false) {pc : Nat} {Ls : Array Slot} (hret : meth.sig.returnType = none)
    (hd : decode c.code pc = .ok (.return_, 1)) {K N : Nat} (hk : cells ≤ K) (hs : slots ≤ N) {Q : Option Value → Heap → List Loc → Prop} (hQ : Q none T.heap locs) :
    OGo p.tables e below (OFinW s Q K N) (T.setTop (mkF m pc Ls [])) := by
  obtain ⟨fs, hr, hrun, hended, hE⟩ := X.leaveW hS hk0 (v := none) (fun _ => rfl) hlk
  exact ⟨_, _, X.returnOut hx hret hd hr, hrun, hended, _, _, rfl, hQ, hE.1, hE.2.1, hE.2.2.1, hE.2.2.2.mono hk hs⟩
/-- a constructor that may intern -/
theorem ospecW (X : Stand p l e R s m args below meth c T locs cells slots) (hx : p.tables.exec = Jvm.exec) (hZ : Z.Warmed39 s.vm) (I : IB Z s.vm []) (eT : T.heap = h) {own : String} {index : Nat} {y : MethodName} {bytes : ByteArray} {maxL : Nat} {rm : Room} {as : Array Value} {Q : Option Value → Heap → List Loc → Prop} (hM : OMetW l Z y bytes maxL none rm as h Q)
    (hyi : y.name = "<init>") (hown : s.vm.findClass own = some m.cls) (w1 : (Jvm.Cond.methodLink own index y).before a0 Z = true) (w4 : (Jvm.Cond.instanceMethod y).before a0 Z = true) (w5 : (Jvm.Cond.initialized y.cls).before a0 Z = true) (w6 : (Jvm.Cond.code y bytes maxL none).before a0 Z = true) (hy : OPlain y) {b : Addr}
    {g : JFrame} (hg : g.method = m) (hsize : g.locals.size = c.maxLocals) (argsL rest : List Value) (has : (.ref b :: argsL).toArray = as) (hlen : ∀ sig, parseMethodDescriptor y.desc = some sig → argsL.length = sig.parameters.length) (hstack : g.stack = argsL.reverse ++ .ref b :: rest) (hdg : decode c.code g.pc = .ok (.invokespecial index, 3))
    (W : Nat) (hW : 2 * g.monitorRoom + (rest.map fun v => v.category).sum ≤ W) (hf : rm.frames + 1 ≤ R.frames) (hl : W + (maxL + 11) + rm.locals ≤ R.locals) (hc : cells + rm.cells ≤ R.cells) (hs : slots + rm.slots ≤ R.slots) :
    ∃ (v : Option Value) (T' : State) (h' : Heap) (L : List Loc), T'.heap = h' ∧ Q v h' L ∧ Stand p l e R (s.setVm T'.vm) m args below meth c T' (locs ++ L) (cells + rm.cells) (slots + rm.slots) ∧ s.Since T'.vm h'.size ∧ Z.Warmed39 (s.setVm T'.vm).vm ∧ (s.setVm T'.vm).vm.findClass own = some m.cls ∧
      ∀ target, Steps p.tables e below (T'.setTop { g with pc := g.pc + 3, stack := v.toList ++ rest }) target → Steps p.tables e below (T.setTop g) target := by
  obtain ⟨v, vm₁, ⟨T', L', k', n'⟩, -, X', hS, -, ⟨L, hQ, l1, l2, l3⟩, st⟩ := X.specialBackS hx (y := y) hyi hown (mvT hZ w1) (mvT hZ w4) (mvT hZ w6) hy (obackW (W := W) hM hZ I w6 w5 hf hl) (g := g) hg hsize (Steps.refl _) (a := b) (argsL := argsL) (rest := rest) hlen hstack hW hdg (fun _ _ => ⟨has, eT, hc, hs⟩)
  dsimp only [Pt.U, Pt.locs, Pt.cells, Pt.slots] at X' hS l1 l2 l3 st hQ
  subst l1 l2 l3
  exact ⟨v, T', _, L, rfl, hQ, X', hS, State.Warmed39.trans hZ hS.1, (hS.1.alike.findClass _ _).trans hown, fun _ k => st.trans k⟩
/-- a static call that may intern -/
theorem ocallW (X : Stand p l e R s m args below meth c T locs cells slots) (hx : p.tables.exec = Jvm.exec) (hZ : Z.Warmed39 s.vm) (I : IB Z s.vm []) (eT : T.heap = h) {own : String} {index : Nat} {y : MethodName} {bytes : ByteArray} {maxL : Nat} {ret : Option FieldType} {rm : Room} {as : Array Value} {Q : Option Value → Heap → List Loc → Prop} (hM : OMetW l Z y bytes maxL ret rm as h Q)
    (hown : s.vm.findClass own = some m.cls) (w1 : (Jvm.Cond.methodLink own index y).before a0 Z = true) (w2 : (Jvm.Cond.static y).before a0 Z = true) (w3 : (Jvm.Cond.initialized y.cls).before a0 Z = true) (w4 : (Jvm.Cond.code y bytes maxL ret).before a0 Z = true) (hy : OPlain y)
    {g : JFrame} (hg : g.method = m) (hsize : g.locals.size = c.maxLocals) (argsL rest : List Value) (has : argsL.toArray = as) (hlen : ∀ sig, parseMethodDescriptor y.desc = some sig → argsL.length = sig.parameters.length) (hstack : g.stack = argsL.reverse ++ rest) (hdg : decode c.code g.pc = .ok (.invokestatic index, 3))
    (W : Nat) (hW : 2 * g.monitorRoom + (rest.map fun v => v.category).sum ≤ W) (hf : rm.frames + 1 ≤ R.frames) (hl : W + (maxL + 11) + rm.locals ≤ R.locals) (hc : cells + rm.cells ≤ R.cells) (hs : slots + rm.slots ≤ R.slots) :
    ∃ (v : Option Value) (T' : State) (h' : Heap) (L : List Loc), T'.heap = h' ∧ Q v h' L ∧ Stand p l e R (s.setVm T'.vm) m args below meth c T' (locs ++ L) (cells + rm.cells) (slots + rm.slots) ∧ s.Since T'.vm h'.size ∧ Z.Warmed39 (s.setVm T'.vm).vm ∧ (s.setVm T'.vm).vm.findClass own = some m.cls ∧
      ∀ target, Steps p.tables e below (T'.setTop { g with pc := g.pc + 3, stack := v.toList ++ rest }) target → Steps p.tables e below (T.setTop g) target := by
  obtain ⟨v, vm₁, ⟨T', L', k', n'⟩, -, X', hS, -, ⟨L, hQ, l1, l2, l3⟩, st⟩ := callSS X hx (y := y) hown (mvT hZ w1) (mvT hZ w2) (mvT hZ w3) (mvT hZ w4) hy (obackW (W := W) hM hZ I w4 w3 hf hl) (g := g) hg hsize (argsL := argsL) (rest := rest) hlen hstack hW hdg (fun _ _ => ⟨has, eT, hc, hs⟩)
  dsimp only [Pt.U, Pt.locs, Pt.cells, Pt.slots] at X' hS l1 l2 l3 st hQ
  subst l1 l2 l3
  exact ⟨v, T', _, L, rfl, hQ, X', hS, State.Warmed39.trans hZ hS.1, (hS.1.alike.findClass _ _).trans hown, fun _ k => st.trans k⟩
theorem osta {C n d : String} {v : Value} {h' : Heap} (F : Sta Z h C n d v) (K : Keep h h' []) : Sta Z h' C n d v := by
  obtain ⟨cf, i, k, f, st, cell, h1, h2, h3, h4, h5, r⟩ := F
  exact ⟨cf, i, k, f, st, cell, h1, h2, h3, h4, K.2.1 _ _ h5 nin0, r⟩
theorem ostC {a : Addr} {n : Nat} {f : Nat → Value} (X : Stand p l e R s m args below meth c T locs cells slots) (hx : p.tables.exec = Jvm.exec) (hZ : Z.Warmed39 s.vm) (eT : T.heap = h) (F : OAr Z h a .char n f) {j x : Int32} (h0 : 0 ≤ j.toInt) (h1 : j.toInt < (n : Int)) {g : JFrame} (hg : g.method = m) {rest : List Value} (hs : g.stack = .int x :: .int j :: .ref a :: rest) (hd : decode c.code g.pc = .ok (.castore, 1)) :
    ∃ T' h', Stand p l e R s m args below meth c T' (locs ++ [⟨a, j.toNatClampNeg⟩]) cells slots ∧ T'.heap = h' ∧ Wr h h' a j.toNatClampNeg (.int x.toUInt32.toUInt16.toUInt32.toInt32) ∧ OAr Z h' a .char n (fun i => if i = j.toNatClampNeg then .int x.toUInt32.toUInt16.toUInt32.toInt32 else f i) ∧ ∀ target, Steps p.tables e below (T'.setTop { g with pc := g.pc + 1, stack := rest }) target → Steps p.tables e below (T.setTop g) target := by
  obtain ⟨cl, A, S, H, G⟩ := F
  obtain ⟨T', h', X', e', W, st⟩ := stC X hx hZ eT A (j := j) (x := x) (oin S h0 h1) hg hs hd
  exact ⟨T', h', X', e', W, OAr.set ⟨cl, A, S, H, G⟩ W (fits_nar_char x), st⟩
/-- an array of chars by its list -/
theorem oarv {a : Addr} {n : Nat} {g : Nat → Int32} {N : Int32} (F : OAr Z h a .char n (fun i => .int (g i))) (hN : N.toNatClampNeg = n) (hp : ¬ N < 0) : ∃ k : ClassId, Arv Z h a k .char N (((List.range n).map g).map Value.int) (.int 0) := by
  obtain ⟨cl, A, S, H, G⟩ := F
  have e : ∀ i, i < n → (((List.range n).map g).map Value.int).getD i (.int 0) = .int (g i) := fun i hi => by simp [List.getD_eq_getElem?_getD, hi]
  exact ⟨cl.cls, cl, A, rfl, S.trans hN.symm, hp, fun i hi => by rw [e i (S ▸ hi)]; exact H i (S ▸ hi), fun i hi => by rw [e i (S ▸ hi)]; exact G i (S ▸ hi)⟩
end OwnW
end Jvm.OwnKit
/- laws to paste: Road.backV (cut by pick.py; bodies as the Statement names them) -/
namespace Jvm.Pilot.@@N@@
namespace StrChars
open Jvm Sem ClassFile Op Lib Jvm.Stand Jvm.Free.XT Jvm.Free.ALB Jvm.Free.JM Jvm.Free
open Jvm.Lib.Cold (StaticIs)
/-- a char array whose places are chars -/
def Ch (a : Addr) (A : Cell) (U : State) : Prop := Arr .char a A U ∧ Typed .char A
theorem Ch.mv {a : Addr} {A : Cell} {U U' : State} (h : Ch a A U) (hal : U.vm.Alike U'.vm) (hh : U'.heap = U.heap) : Ch a A U' := ⟨h.1.mv hal hh, h.2⟩
theorem Ch.keep {a : Addr} {A : Cell} {U U' : State} (h : Ch a A U) (hal : U.vm.Alike U'.vm) (hk : U'.heap[a]? = some A) : Ch a A U' := ⟨h.1.keep hal hk, h.2⟩
/-- what place i of a char[]'s cell holds -/
def cv (A : Cell) (i : Nat) : Int32 := match A.slots[i]? with | some (.int x) => x | _ => 0
theorem Ch.get {a : Addr} {A : Cell} {U : State} (h : Ch a A U) {i : Nat} (hi : i < A.slots.size) : A.slots[i]? = some (.int (cv A i)) := by
  have e := Array.getElem?_eq_getElem hi
  have f := h.2 i _ e
  unfold cv; rw [e]
  generalize A.slots[i] = v at f
  cases v <;> simp [fits] at f ⊢
/-- the byte that i2b leaves of a char -/
def lo8 (x : Int32) : Int32 := x.toInt8.toInt32
theorem fits_lo8 (y : Int32) : fits .byte (.int (lo8 y)) = true := by
  have h1 := y.toInt8.le_toInt
  have h2 := y.toInt8.toInt_lt
  simp only [lo8, fits, Bool.and_eq_true, decide_eq_true_eq, Int32.le_iff_toInt_le, Int8.toInt_toInt32, show (-128 : Int32).toInt = -128 from by decide, show (127 : Int32).toInt = 127 from by decide]
  omega
/-- A' is A but that each place j of lo .. hi - 1 holds f j -/
def Laid (A A' : Cell) (lo hi : Nat) (f : Nat → Value) : Prop := A'.cls = A.cls ∧ A'.vm = A.vm ∧ A'.slots.size = A.slots.size ∧ ∀ i, A'.slots[i]? = if lo ≤ i ∧ i < hi then some (f i) else A.slots[i]?
theorem Laid.zero (A : Cell) (lo : Nat) (f : Nat → Value) : Laid A A lo (lo + 0) f := ⟨rfl, rfl, rfl, fun i => by rw [if_neg (by omega)]⟩
theorem Laid.step {A Ak : Cell} {lo k : Nat} {f : Nat → Value} {v : Value} (h : Laid A Ak lo k f) (hlo : lo ≤ k) (hk : k < Ak.slots.size) (hv : v = f k) : Laid A (Ak.setSlot k v) lo (k + 1) f := by
  refine ⟨h.1, h.2.1, by simpa [Cell.setSlot] using h.2.2.1, fun i => ?_⟩
  by_cases e : k = i
  · subst e; rw [Cell.slots_setSlot_self v hk, if_pos (by omega), hv]
  · rw [Cell.slots_setSlot_ne v e, h.2.2.2 i]
    by_cases q : lo ≤ i ∧ i < k
    · rw [if_pos q, if_pos (by omega)]
    · rw [if_neg q, if_neg (by omega)]
def U16 : String := "java/lang/StringUTF16"
namespace Cmp5
def yN : MethodName := ⟨"java/lang/StringUTF16", "compress", "([CI[BII)I"⟩
abbrev yB : ByteArray := jdk_52_method_21_code
theorem d0 : decode yB 0 = .ok (.iconst 0, 1) := by decide +kernel
theorem d1 : decode yB 1 = .ok (.istore 5, 2) := by decide +kernel
theorem d3 : decode yB 3 = .ok (.iload 5, 2) := by decide +kernel
theorem d5 : decode yB 5 = .ok (.iload 4, 2) := by decide +kernel
theorem d7 : decode yB 7 = .ok (.if_icmp (.ge) 37, 3) := by decide +kernel
theorem d10 : decode yB 10 = .ok (.aload_n 0, 1) := by decide +kernel
theorem d11 : decode yB 11 = .ok (.iload_n 1, 1) := by decide +kernel
theorem d12 : decode yB 12 = .ok (.caload, 1) := by decide +kernel
theorem d13 : decode yB 13 = .ok (.istore 6, 2) := by decide +kernel
theorem d15 : decode yB 15 = .ok (.iload 6, 2) := by decide +kernel
theorem d17 : decode yB 17 = .ok (.sipush 255, 3) := by decide +kernel
theorem d20 : decode yB 20 = .ok (.if_icmp (.le) 6, 3) := by decide +kernel
theorem d26 : decode yB 26 = .ok (.aload_n 2, 1) := by decide +kernel
theorem d27 : decode yB 27 = .ok (.iload_n 3, 1) := by decide +kernel
theorem d28 : decode yB 28 = .ok (.iload 6, 2) := by decide +kernel
theorem d30 : decode yB 30 = .ok (.i2b, 1) := by decide +kernel
theorem d31 : decode yB 31 = .ok (.bastore, 1) := by decide +kernel
theorem d32 : decode yB 32 = .ok (.iinc 1 1, 3) := by decide +kernel
theorem d35 : decode yB 35 = .ok (.iinc 3 1, 3) := by decide +kernel
theorem d38 : decode yB 38 = .ok (.iinc 5 1, 3) := by decide +kernel
theorem d41 : decode yB 41 = .ok (.goto (-38), 3) := by decide +kernel
theorem d44 : decode yB 44 = .ok (.iload 4, 2) := by decide +kernel
theorem d46 : decode yB 46 = .ok (.ireturn, 1) := by decide +kernel
def site : List Cond := []
def tab : Cond := tabOf yN yB 7 (some .int) site
def P (b : Addr) (A : Cell) (d : Addr) (B : Cell) (o q len : Nat) (args : Array Value) (s : State) : Prop := args = #[.ref b, .int (Int32.ofNat o), .ref d, .int (Int32.ofNat q), .int (Int32.ofNat len)] ∧ Ch b A s ∧ Arr .byte d B s ∧ b ≠ d ∧ o + len ≤ A.slots.size ∧ q + len ≤ B.slots.size ∧ ∀ i, i < len → ¬ 255 < cv A (o + i)
def E (b : Addr) (A : Cell) (d : Addr) (B : Cell) (o q len : Nat) (r : Option Value) (s u : State) : Prop := r = some (.int (Int32.ofNat len)) ∧ ∃ B', Put d B' s u ∧ Laid B B' q (q + len) (fun j => Value.int (lo8 (cv A (o + (j - q)))))
/-- no char of the range above 255: len; the places written hold each char's low byte -/
theorem law (l : Launch) (b : Addr) (A : Cell) (d : Addr) (B : Cell) (o q len : Nat) : Law l yN 5 5 0 0 yB 7 (some .int) site (P b A d B o q len) (E b A d B o q len) (copyLocs d q len) 0 0 := by
  refine Law.of_walk (plainFor_of_name (by decide +kernel)) (by decide +kernel) (by decide +kernel) (by decide) (fun _ _ h => by rw [h.1]; rfl) (fun _ U U' hal hh h => ⟨h.1, h.2.1.mv hal hh, h.2.2.1.mv hal hh, h.2.2.2⟩) (fun r U U' V V' h1 hal h2 h => ⟨h.1, h.2.elim fun B' q => ⟨B', q.1.mv h1 h2, q.2⟩⟩) ?_
  intro p e s m args below meth c s₁ X0 hexec hbytes hml hret hlk hnm hown hh0 W hP
  obtain ⟨rfl, hA, hB, hne, l1, l2, hp⟩ := hP
  have c1 : Steps p.tables e below (s₁.setTop (entryFrame m #[.ref b, .int (Int32.ofNat o), .ref d, .int (Int32.ofNat q), .int (Int32.ofNat len)] 7)) (s₁.setTop (mkF m 0 #[.val (.ref b), .val (.int (Int32.ofNat o)), .val (.ref d), .val (.int (Int32.ofNat q)), .val (.int (Int32.ofNat len)), .unset, .unset] [])) := entry rfl
  have hA0 := hA.1.mv X0.warmed.alike hh0
  have hB0 := hB.mv X0.warmed.alike hh0
  have a31 := hA.1.2.2.2
  have c2 : Steps p.tables e below (s₁.setTop (entryFrame m #[.ref b, .int (Int32.ofNat o), .ref d, .int (Int32.ofNat q), .int (Int32.ofNat len)] 7)) (s₁.setTop (mkF m 3 #[.val (.ref b), .val (.int (Int32.ofNat o)), .val (.ref d), .val (.int (Int32.ofNat q)), .val (.int (Int32.ofNat len)), .val (.int 0), .unset] [])) := c1.trans (by
    refine iconstV X0.here hexec rfl 0 (hb hbytes d0) (by decide) ?_
    refine XS.istore X0.here hexec rfl (hb hbytes d1) rfl rfl ?_
    exact Steps.refl _)
  have loop : ∀ (r i : Nat), i + r = len → ∀ (z : Slot), (z = .unset ∨ ∃ w, z = .val w ∧ w.category = 1) → ∀ (Tl : State) (Bk : Cell), Stand p l e { frames := 0, locals := 0, cells := 0, slots := 0 } s m #[.ref b, .int (Int32.ofNat o), .ref d, .int (Int32.ofNat q), .int (Int32.ofNat len)] below meth c Tl ([] ++ copyLocs d q i) 0 0 → Put d Bk s₁ Tl → Laid B Bk q (q + i) (fun j => Value.int (lo8 (cv A (o + (j - q))))) →
      Steps p.tables e below (s₁.setTop (entryFrame m #[.ref b, .int (Int32.ofNat o), .ref d, .int (Int32.ofNat q), .int (Int32.ofNat len)] 7)) (Tl.setTop (mkF m 3 #[.val (.ref b), .val (.int (Int32.ofNat (o + i))), .val (.ref d), .val (.int (Int32.ofNat (q + i))), .val (.int (Int32.ofNat len)), .val (.int (Int32.ofNat i)), z] [])) → ∃ (T' : State) (B' : Cell) (z' : Slot), Stand p l e { frames := 0, locals := 0, cells := 0, slots := 0 } s m #[.ref b, .int (Int32.ofNat o), .ref d, .int (Int32.ofNat q), .int (Int32.ofNat len)] below meth c T' ([] ++ copyLocs d q len) 0 0 ∧ Put d B' s₁ T' ∧ Laid B B' q (q + len) (fun j => Value.int (lo8 (cv A (o + (j - q))))) ∧
      Steps p.tables e below (s₁.setTop (entryFrame m #[.ref b, .int (Int32.ofNat o), .ref d, .int (Int32.ofNat q), .int (Int32.ofNat len)] 7)) (T'.setTop (mkF m 3 #[.val (.ref b), .val (.int (Int32.ofNat (o + len))), .val (.ref d), .val (.int (Int32.ofNat (q + len))), .val (.int (Int32.ofNat len)), .val (.int (Int32.ofNat len)), z'] [])) := by
    intro r
    induction r with
    | zero =>
      intro i hi z hz Tl Bk Xl pl fl cl
      have hil : i = len := by omega
      rw [hil] at Xl fl cl
      exact ⟨Tl, Bk, z, Xl, pl, fl, cl⟩
    | succ r ih =>
      intro i hi z hz Tl Bk Xl pl fl cl
      have all := X0.warmed.alike.symm.trans Xl.warmed.alike
      have hAl := hA0.keep all (pl.other hne hA0.1)
      have hBk := hB0.like all pl.1 fl.1 fl.2.1 fl.2.2.1
      have hlt : q + i < Bk.slots.size := by rw [fl.2.2.1]; omega
      have c3 : Steps p.tables e below (s₁.setTop (entryFrame m #[.ref b, .int (Int32.ofNat o), .ref d, .int (Int32.ofNat q), .int (Int32.ofNat len)] 7)) (Tl.setTop (mkF m 12 #[.val (.ref b), .val (.int (Int32.ofNat (o + i))), .val (.ref d), .val (.int (Int32.ofNat (q + i))), .val (.int (Int32.ofNat len)), .val (.int (Int32.ofNat i)), z] [.int (Int32.ofNat (o + i)), .ref b])) := cl.trans (by
        refine XS.iload Xl.here hexec rfl (hb hbytes d3) rfl ?_
        refine XS.iload Xl.here hexec rfl (hb hbytes d5) rfl ?_
        refine XS.icmpNo Xl.here hexec rfl (hb hbytes d7) rfl (ii_ge_f (lt32 (by omega) (by omega))) ?_
        refine XS.aloadN Xl.here hexec rfl (hb hbytes d10) rfl rfl ?_
        refine XS.iloadN Xl.here hexec rfl (hb hbytes d11) rfl ?_
        exact Steps.refl _)
      have c4 : Steps p.tables e below (s₁.setTop (entryFrame m #[.ref b, .int (Int32.ofNat o), .ref d, .int (Int32.ofNat q), .int (Int32.ofNat len)] 7)) (Tl.setTop (mkF m 13 #[.val (.ref b), .val (.int (Int32.ofNat (o + i))), .val (.ref d), .val (.int (Int32.ofNat (q + i))), .val (.int (Int32.ofNat len)), .val (.int (Int32.ofNat i)), z] [.int (cv A (o + i))])) := c3.trans (by
        refine Xl.aget hexec hAl rfl (hA.get (i := o + i) (by omega)) rfl rfl (hb hbytes d12) ?_
        exact Steps.refl _)
      have c5 : Steps p.tables e below (s₁.setTop (entryFrame m #[.ref b, .int (Int32.ofNat o), .ref d, .int (Int32.ofNat q), .int (Int32.ofNat len)] 7)) (Tl.setTop (mkF m 15 #[.val (.ref b), .val (.int (Int32.ofNat (o + i))), .val (.ref d), .val (.int (Int32.ofNat (q + i))), .val (.int (Int32.ofNat len)), .val (.int (Int32.ofNat i)), .val (.int (cv A (o + i)))] [])) := c4.trans (by
        refine XS.istoreS Xl.here hexec rfl (hb hbytes d13) rfl rfl hz ?_
        exact Steps.refl _)
      have c6 : Steps p.tables e below (s₁.setTop (entryFrame m #[.ref b, .int (Int32.ofNat o), .ref d, .int (Int32.ofNat q), .int (Int32.ofNat len)] 7)) (Tl.setTop (mkF m 31 #[.val (.ref b), .val (.int (Int32.ofNat (o + i))), .val (.ref d), .val (.int (Int32.ofNat (q + i))), .val (.int (Int32.ofNat len)), .val (.int (Int32.ofNat i)), .val (.int (cv A (o + i)))] [.int (lo8 (cv A (o + i))), .int (Int32.ofNat (q + i)), .ref d])) := c5.trans (by
        refine XS.iload Xl.here hexec rfl (hb hbytes d15) rfl ?_
        refine sipushV Xl.here hexec rfl 255 (hb hbytes d17) (by decide) ?_
        refine XS.icmpYes Xl.here hexec rfl (pc0 := 20) rfl (hb hbytes d20) rfl (ii_le_t (hp i (by omega))) (by decide) rfl ?_
        refine XS.aloadN Xl.here hexec rfl (hb hbytes d26) rfl rfl ?_
        refine XS.iloadN Xl.here hexec rfl (hb hbytes d27) rfl ?_
        refine XS.iload Xl.here hexec rfl (hb hbytes d28) rfl ?_
        refine i2b Xl.here hexec rfl (hb hbytes d30) rfl ?_
        exact Steps.refl _)
      obtain ⟨T7, X7, p7, st7⟩ := Xl.aput hexec hBk rfl hlt rfl (fits_lo8 (cv A (o + i))) (g := (mkF m 31 #[.val (.ref b), .val (.int (Int32.ofNat (o + i))), .val (.ref d), .val (.int (Int32.ofNat (q + i))), .val (.int (Int32.ofNat len)), .val (.int (Int32.ofNat i)), .val (.int (cv A (o + i)))] [.int (lo8 (cv A (o + i))), .int (Int32.ofNat (q + i)), .ref d])) rfl (rest := []) rfl (hb hbytes d31)
      have c8 : Steps p.tables e below (s₁.setTop (entryFrame m #[.ref b, .int (Int32.ofNat o), .ref d, .int (Int32.ofNat q), .int (Int32.ofNat len)] 7)) (T7.setTop (mkF m 32 #[.val (.ref b), .val (.int (Int32.ofNat (o + i))), .val (.ref d), .val (.int (Int32.ofNat (q + i))), .val (.int (Int32.ofNat len)), .val (.int (Int32.ofNat i)), .val (.int (cv A (o + i)))] [])) := c6.trans (st7 _ (Steps.refl _))
      have c9 : Steps p.tables e below (s₁.setTop (entryFrame m #[.ref b, .int (Int32.ofNat o), .ref d, .int (Int32.ofNat q), .int (Int32.ofNat len)] 7)) (T7.setTop (mkF m 3 #[.val (.ref b), .val (.int (Int32.ofNat (o + i) + 1)), .val (.ref d), .val (.int (Int32.ofNat (q + i) + 1)), .val (.int (Int32.ofNat len)), .val (.int (Int32.ofNat i + 1)), .val (.int (cv A (o + i)))] [])) := c8.trans (by
        refine iincV X7.here hexec rfl 1 (hb hbytes d32) (by decide) rfl rfl ?_
        refine iincV X7.here hexec rfl 1 (hb hbytes d35) (by decide) rfl rfl ?_
        refine iincV X7.here hexec rfl 1 (hb hbytes d38) (by decide) rfl rfl ?_
        refine XS.goto X7.here hexec rfl (pc0 := 41) rfl (hb hbytes d41) (by decide) rfl ?_
        exact Steps.refl _)
      have c10 : Steps p.tables e below (s₁.setTop (entryFrame m #[.ref b, .int (Int32.ofNat o), .ref d, .int (Int32.ofNat q), .int (Int32.ofNat len)] 7)) (T7.setTop (mkF m 3 #[.val (.ref b), .val (.int (Int32.ofNat (o + (i + 1)))), .val (.ref d), .val (.int (Int32.ofNat (q + (i + 1)))), .val (.int (Int32.ofNat len)), .val (.int (Int32.ofNat (i + 1))), .val (.int (cv A (o + i)))] [])) := by
        have := c9
        rw [succ32, succ32, succ32] at this
        exact this
      exact ih (i + 1) (by omega) _ (Or.inr ⟨_, rfl, rfl⟩) T7 _ (by rw [copyLocs_step, ← List.append_assoc]; exact X7) (pl.trans p7) (fl.step (by omega) hlt (by simp)) c10
  obtain ⟨T9, B9, z9, X9, p9, f9, g9⟩ := loop len 0 (by omega) .unset (Or.inl rfl) s₁ B (by simpa [copyLocs] using X0) ⟨hB0.1, fun _ _ => rfl, rfl⟩ (Laid.zero _ _ _) c2
  have c11 : Steps p.tables e below (s₁.setTop (entryFrame m #[.ref b, .int (Int32.ofNat o), .ref d, .int (Int32.ofNat q), .int (Int32.ofNat len)] 7)) (T9.setTop (mkF m 46 #[.val (.ref b), .val (.int (Int32.ofNat (o + len))), .val (.ref d), .val (.int (Int32.ofNat (q + len))), .val (.int (Int32.ofNat len)), .val (.int (Int32.ofNat len)), z9] [.int (Int32.ofNat len)])) := g9.trans (by
    refine XS.iload X9.here hexec rfl (hb hbytes d3) rfl ?_
    refine XS.iload X9.here hexec rfl (hb hbytes d5) rfl ?_
    refine XS.icmpYes X9.here hexec rfl (pc0 := 7) rfl (hb hbytes d7) rfl (ii_ge_t (nlt32 (by omega) (Nat.le_refl _))) (by decide) rfl ?_
    refine XS.iload X9.here hexec rfl (hb hbytes d44) rfl ?_
    exact Steps.refl _)
  exact ⟨T9, some (.int (Int32.ofNat len)), _, _, _, X9, by simp, rfl, rfl, (fun h => by cases h), ⟨rfl, B9, p9.from hh0, f9⟩, fun fs hl => c11.trans (X9.ireturnOut hexec hret rfl (Or.inl rfl) (hb hbytes d46) hl)⟩
end Cmp5
namespace Cmp3
def yN : MethodName := ⟨"java/lang/StringUTF16", "compress", "([CII)[B"⟩
abbrev yB : ByteArray := jdk_52_method_16_code
theorem d0 : decode yB 0 = .ok (.iload_n 2, 1) := by decide +kernel
theorem d1 : decode yB 1 = .ok (.newarray .byte, 2) := by decide +kernel
theorem d3 : decode yB 3 = .ok (.astore_n 3, 1) := by decide +kernel
theorem d4 : decode yB 4 = .ok (.aload_n 0, 1) := by decide +kernel
theorem d5 : decode yB 5 = .ok (.iload_n 1, 1) := by decide +kernel
theorem d6 : decode yB 6 = .ok (.aload_n 3, 1) := by decide +kernel
theorem d7 : decode yB 7 = .ok (.iconst 0, 1) := by decide +kernel
theorem d8 : decode yB 8 = .ok (.iload_n 2, 1) := by decide +kernel
theorem d9 : decode yB 9 = .ok (.invokestatic 115, 3) := by decide +kernel
theorem d12 : decode yB 12 = .ok (.istore 4, 2) := by decide +kernel
theorem d14 : decode yB 14 = .ok (.iload 4, 2) := by decide +kernel
theorem d16 : decode yB 16 = .ok (.iload_n 2, 1) := by decide +kernel
theorem d17 : decode yB 17 = .ok (.if_icmp (.eq) 40, 3) := by decide +kernel
theorem d57 : decode yB 57 = .ok (.aload_n 3, 1) := by decide +kernel
theorem d58 : decode yB 58 = .ok (.areturn, 1) := by decide +kernel
def site : List Cond := [.arrayClass .byte, Cmp5.tab] ++ staticW U16 115 Cmp5.yN
def tab : Cond := tabOf yN yB 6 (some (.array .byte)) site
def P (b : Addr) (A : Cell) (o len : Nat) (args : Array Value) (s : State) : Prop := args = #[.ref b, .int (Int32.ofNat o), .int (Int32.ofNat len)] ∧ Ch b A s ∧ o + len ≤ A.slots.size ∧ len ≤ 536870912 ∧ ∀ i, i < len → ¬ 255 < cv A (o + i)
def E (b : Addr) (A : Cell) (o len : Nat) (r : Option Value) (s u : State) : Prop := NewArr .byte "[B" len (fun j => .int (lo8 (cv A (o + j)))) r s u ∧ u.heap.size = s.heap.size + 1
/-- no char of the range above 255: a new byte[] of their low bytes -/
theorem law (l : Launch) (b : Addr) (A : Cell) (o len : Nat) : Law l yN 3 3 1 18 yB 6 (some (.array .byte)) site (P b A o len) (E b A o len) [] 1 len := by
  refine Law.of_walk (plainFor_of_name (by decide +kernel)) (by decide +kernel) (by decide +kernel) (by decide) (fun _ _ h => by rw [h.1]; rfl) (fun _ U U' hal hh h => ⟨h.1, h.2.1.mv hal hh, h.2.2⟩) (fun r U U' V V' h1 hal h2 h => ⟨NewArr.mv r U U' V V' h1 hal h2 h.1, by rw [h1, h2]; exact h.2⟩) ?_
  intro p e s m args below meth c s₁ X0 hexec hbytes hml hret hlk hnm hown hh0 W hP
  obtain ⟨rfl, hA, l1, l2, hp⟩ := hP
  have a31 := hA.1.2.2.2
  have c1 : Steps p.tables e below (s₁.setTop (entryFrame m #[.ref b, .int (Int32.ofNat o), .int (Int32.ofNat len)] 6)) (s₁.setTop (mkF m 0 #[.val (.ref b), .val (.int (Int32.ofNat o)), .val (.int (Int32.ofNat len)), .unset, .unset, .unset] [])) := entry rfl
  have c2 : Steps p.tables e below (s₁.setTop (entryFrame m #[.ref b, .int (Int32.ofNat o), .int (Int32.ofNat len)] 6)) (s₁.setTop (mkF m 1 #[.val (.ref b), .val (.int (Int32.ofNat o)), .val (.int (Int32.ofNat len)), .unset, .unset, .unset] [.int (Int32.ofNat len)])) := c1.trans (by
    refine XS.iloadN X0.here hexec rfl (hb hbytes d0) rfl ?_
    exact Steps.refl _)
  obtain ⟨T3, B3, X3, ba3, bs3, bv3, bh3, bf3, st3⟩ := X0.anew hexec (atype := .byte) (wk W (.arrayClass .byte)) rfl (by show len * 1 ≤ _; omega) (by omega) (g := (mkF m 1 #[.val (.ref b), .val (.int (Int32.ofNat o)), .val (.int (Int32.ofNat len)), .unset, .unset, .unset] [.int (Int32.ofNat len)])) rfl (hb hbytes d1) (rest := []) rfl (Nat.le_refl _) (by show 0 + len ≤ len; omega)
  rw [hh0] at ba3 st3
  have kp3 : XT.Kept s T3 := (XT.Kept.of_eq hh0).push bh3
  have hA3 := hA.keep X3.warmed.alike (kp3 _ _ hA.1.1)
  have hne : b ≠ s.heap.size := hA.1.ne
  have c4 : Steps p.tables e below (s₁.setTop (entryFrame m #[.ref b, .int (Int32.ofNat o), .int (Int32.ofNat len)] 6)) (T3.setTop (mkF m 3 #[.val (.ref b), .val (.int (Int32.ofNat o)), .val (.int (Int32.ofNat len)), .unset, .unset, .unset] [.ref s.heap.size])) := c2.trans (st3 _ (Steps.refl _))
  have c5 : Steps p.tables e below (s₁.setTop (entryFrame m #[.ref b, .int (Int32.ofNat o), .int (Int32.ofNat len)] 6)) (T3.setTop (mkF m 9 #[.val (.ref b), .val (.int (Int32.ofNat o)), .val (.int (Int32.ofNat len)), .val (.ref s.heap.size), .unset, .unset] [.int (Int32.ofNat len), .int 0, .ref s.heap.size, .int (Int32.ofNat o), .ref b])) := c4.trans (by
    refine XS.astoreN X3.here hexec rfl (hb hbytes d3) rfl rfl rfl ?_
    refine XS.aloadN X3.here hexec rfl (hb hbytes d4) rfl rfl ?_
    refine XS.iloadN X3.here hexec rfl (hb hbytes d5) rfl ?_
    refine XS.aloadN X3.here hexec rfl (hb hbytes d6) rfl rfl ?_
    refine iconstV X3.here hexec rfl 0 (hb hbytes d7) (by decide) ?_
    refine XS.iloadN X3.here hexec rfl (hb hbytes d8) rfl ?_
    exact Steps.refl _)
  obtain ⟨v6, T6, X6, E6, g6⟩ := X3.callS hexec (Cmp5.law l b A s.heap.size B3 o 0 len) hown (wks W (staticW U16 115 Cmp5.yN)) (wk W Cmp5.tab) (W := 0) (Nat.le_of_ble_eq_true rfl) (Nat.le_of_ble_eq_true rfl) (Nat.le_refl _) (by show 0 + len + 0 ≤ len; omega) (g := (mkF m 9 #[.val (.ref b), .val (.int (Int32.ofNat o)), .val (.int (Int32.ofNat len)), .val (.ref s.heap.size), .unset, .unset] [.int (Int32.ofNat len), .int (Int32.ofNat 0), .ref s.heap.size, .int (Int32.ofNat o), .ref b])) rfl (by rw [hml]; rfl) c5 (argsL := [.ref b, .int (Int32.ofNat o), .ref s.heap.size, .int (Int32.ofNat 0), .int (Int32.ofNat len)]) (rest := []) rfl rfl (by show 2 * 0 + 0 ≤ _; decide) (hb hbytes d9) (⟨rfl, hA3, ba3, hne, l1, by rw [bs3]; simp, hp⟩)
  obtain ⟨rfl, B6, p6, f6⟩ := E6
  have c7 : Steps p.tables e below (s₁.setTop (entryFrame m #[.ref b, .int (Int32.ofNat o), .int (Int32.ofNat len)] 6)) (T6.setTop (mkF m 12 #[.val (.ref b), .val (.int (Int32.ofNat o)), .val (.int (Int32.ofNat len)), .val (.ref s.heap.size), .unset, .unset] [.int (Int32.ofNat len)])) := g6
  have c8 : Steps p.tables e below (s₁.setTop (entryFrame m #[.ref b, .int (Int32.ofNat o), .int (Int32.ofNat len)] 6)) (T6.setTop (mkF m 58 #[.val (.ref b), .val (.int (Int32.ofNat o)), .val (.int (Int32.ofNat len)), .val (.ref s.heap.size), .val (.int (Int32.ofNat len)), .unset] [.ref s.heap.size])) := c7.trans (by
    refine XS.istore X6.here hexec rfl (hb hbytes d12) rfl rfl ?_
    refine XS.iload X6.here hexec rfl (hb hbytes d14) rfl ?_
    refine XS.iloadN X6.here hexec rfl (hb hbytes d16) rfl ?_
    refine XS.icmpYes X6.here hexec rfl (pc0 := 17) rfl (hb hbytes d17) rfl (ii_eq_t rfl) (by decide) rfl ?_
    refine XS.aloadN X6.here hexec rfl (hb hbytes d57) rfl rfl ?_
    exact Steps.refl _)
  have X8 := X6.wide (L' := []) (cells' := 1) (slots' := len) (fun x hx hlt => by
    simp only [List.nil_append, copyLocs, List.mem_map, List.mem_range] at hx
    obtain ⟨i, -, rfl⟩ := hx
    exact absurd hlt (Nat.lt_irrefl _)) (Nat.le_refl _) (by omega)
  exact ⟨T6, some (.ref s.heap.size), _, _, _, X8, rfl, rfl, rfl, (fun h => by cases h), ⟨⟨rfl, B6, ba3.like (X3.warmed.alike.symm.trans X6.warmed.alike) p6.1 f6.1 f6.2.1 f6.2.2.1, f6.2.1.trans bv3, by rw [X6.warmed.alike.findClass, f6.1]; exact bf3, by rw [f6.2.2.1, bs3]; simp, fun j hj => by rw [f6.2.2.2 j, if_pos (by omega)]; rfl, kp3.put p6 (Nat.le_refl _)⟩, by rw [p6.2.2, bh3, hh0]; simp⟩, fun fs hl => c8.trans (X8.areturnOut hexec rfl hret rfl (hb hbytes d58) hl)⟩
end Cmp3
namespace CodL
def yN : MethodName := ⟨"java/lang/StringUTF16", "coderFromArrayLen", "([BI)B"⟩
abbrev yB : ByteArray := jdk_52_method_15_code
theorem d0 : decode yB 0 = .ok (.iload_n 1, 1) := by decide +kernel
theorem d1 : decode yB 1 = .ok (.aload_n 0, 1) := by decide +kernel
theorem d2 : decode yB 2 = .ok (.arraylength, 1) := by decide +kernel
theorem d3 : decode yB 3 = .ok (.isub, 1) := by decide +kernel
theorem d4 : decode yB 4 = .ok (.bipush 31, 2) := by decide +kernel
theorem d6 : decode yB 6 = .ok (.iushr, 1) := by decide +kernel
theorem d7 : decode yB 7 = .ok (.i2b, 1) := by decide +kernel
theorem d8 : decode yB 8 = .ok (.ireturn, 1) := by decide +kernel
def site : List Cond := []
def tab : Cond := tabOf yN yB 2 (some .byte) site
def P (d : Addr) (B : Cell) (args : Array Value) (s : State) : Prop := args = #[.ref d, .int (Int32.ofNat B.slots.size)] ∧ Arr .byte d B s
def E (r : Option Value) (s u : State) : Prop := XT.PureE (some (.int 0)) r s u
/-- an array as long as the number of chars: LATIN1 -/
theorem law (l : Launch) (d : Addr) (B : Cell) : Law l yN 2 2 0 0 yB 2 (some .byte) site (P d B) E [] 0 0 := by
  refine Law.of_walk (plainFor_of_name (by decide +kernel)) (by decide +kernel) (by decide +kernel) (by decide) (fun _ _ h => by rw [h.1]; rfl) (fun _ U U' hal hh h => ⟨h.1, h.2.mv hal hh⟩) (fun r U U' V V' h1 hal h2 h => XT.PureE.mv r U U' V V' h1 hal h2 h) ?_
  intro p e s m args below meth c s₁ X0 hexec hbytes hml hret hlk hnm hown hh0 W hP
  obtain ⟨rfl, hB⟩ := hP
  have hB0 := hB.mv X0.warmed.alike hh0
  have c1 : Steps p.tables e below (s₁.setTop (entryFrame m #[.ref d, .int (Int32.ofNat B.slots.size)] 2)) (s₁.setTop (mkF m 0 #[.val (.ref d), .val (.int (Int32.ofNat B.slots.size))] [])) := entry rfl
  have c2 : Steps p.tables e below (s₁.setTop (entryFrame m #[.ref d, .int (Int32.ofNat B.slots.size)] 2)) (s₁.setTop (mkF m 2 #[.val (.ref d), .val (.int (Int32.ofNat B.slots.size))] [.ref d, .int (Int32.ofNat B.slots.size)])) := c1.trans (by
    refine XS.iloadN X0.here hexec rfl (hb hbytes d0) rfl ?_
    refine XS.aloadN X0.here hexec rfl (hb hbytes d1) rfl rfl ?_
    exact Steps.refl _)
  have c3 : Steps p.tables e below (s₁.setTop (entryFrame m #[.ref d, .int (Int32.ofNat B.slots.size)] 2)) (s₁.setTop (mkF m 8 #[.val (.ref d), .val (.int (Int32.ofNat B.slots.size))] [.int (lo8 (ushr (Int32.ofNat B.slots.size - Int32.ofNat B.slots.size) 31))])) := c2.trans (by
    refine X0.alen hexec hB0 rfl rfl (hb hbytes d2) ?_
    refine XS.isub X0.here hexec rfl (hb hbytes d3) rfl ?_
    refine bipushV X0.here hexec rfl 31 (hb hbytes d4) (by decide) ?_
    refine iushr X0.here hexec rfl (hb hbytes d6) rfl ?_
    refine i2b X0.here hexec rfl (hb hbytes d7) rfl ?_
    exact Steps.refl _)
  have e0 : lo8 (ushr (Int32.ofNat B.slots.size - Int32.ofNat B.slots.size) 31) = 0 := by rw [Int32.sub_self]; decide
  rw [e0] at c3
  exact ⟨s₁, some (.int 0), _, _, _, X0, rfl, rfl, rfl, (fun h => by cases h), ⟨rfl, hh0⟩, fun fs hl => c3.trans (X0.ireturnOut hexec hret rfl (Or.inr (Or.inr (Or.inl rfl))) (hb hbytes d8) hl)⟩
end CodL
/-- the String at a is Latin-1 over a new byte[] (the heap's one new cell): the low bytes of the len chars of A from o on; every cell but a is kept -/
def Got (a : Addr) (D : Cell) (fV fC : Field) (A : Cell) (o len : Nat) (r : Option Value) (s u : State) : Prop := r = none ∧ ∃ D' V : Cell, Blank "java/lang/String" a D' u ∧ Same D D' [fV.slot, fC.slot] ∧ D'.slots[fV.slot]? = some (.ref s.heap.size) ∧ D'.slots[fC.slot]? = some (.int 0) ∧ Arr .byte s.heap.size V u ∧ V.vm = .none ∧ u.vm.findClass "[B" = some V.cls ∧ V.slots.size = len ∧ (∀ j, j < len → V.slots[j]? = some (.int (lo8 (cv A (o + j))))) ∧ (∀ (y : Addr) (c : Cell), y ≠ a → s.heap[y]? = some c → u.heap[y]? = some c) ∧ u.heap.size = s.heap.size + 1
theorem Got.mv {a : Addr} {D A : Cell} {fV fC : Field} {o len : Nat} : ∀ r (U U' V V' : State), U'.heap = U.heap → V.vm.Alike V'.vm → V'.heap = V.heap → Got a D fV fC A o len r U V → Got a D fV fC A o len r U' V' :=
  fun r U U' V V' h1 hal h2 ⟨e0, D', X, a1, a2, a3, a4, a5, a6, a7, a8, a9, a10, a11⟩ => ⟨e0, D', X, a1.mv hal h2, a2, by rw [h1]; exact a3, a4, by rw [h1]; exact a5.mv hal h2, a6, by rw [hal.findClass]; exact a7, a8, a9, by rw [h1, h2]; exact a10, by rw [h1, h2]; exact a11⟩
namespace New4
def yN : MethodName := ⟨"java/lang/String", "<init>", "([CIILjava/lang/Void;)V"⟩
abbrev yB : ByteArray := jdk_42_method_149_code
theorem d0 : decode yB 0 = .ok (.aload_n 0, 1) := by decide +kernel
theorem d1 : decode yB 1 = .ok (.invokespecial 1, 3) := by decide +kernel
theorem d4 : decode yB 4 = .ok (.iload_n 3, 1) := by decide +kernel
theorem d5 : decode yB 5 = .ok (.ifCond (.ne) 22, 3) := by decide +kernel
theorem d27 : decode yB 27 = .ok (.getstatic 38, 3) := by decide +kernel
theorem d30 : decode yB 30 = .ok (.ifCond (.eq) 28, 3) := by decide +kernel
theorem d33 : decode yB 33 = .ok (.aload_n 1, 1) := by decide +kernel
theorem d34 : decode yB 34 = .ok (.iload_n 2, 1) := by decide +kernel
theorem d35 : decode yB 35 = .ok (.iload_n 3, 1) := by decide +kernel
theorem d36 : decode yB 36 = .ok (.invokestatic 177, 3) := by decide +kernel
theorem d39 : decode yB 39 = .ok (.astore 5, 2) := by decide +kernel
theorem d41 : decode yB 41 = .ok (.aload_n 0, 1) := by decide +kernel
theorem d42 : decode yB 42 = .ok (.aload 5, 2) := by decide +kernel
theorem d44 : decode yB 44 = .ok (.iload_n 3, 1) := by decide +kernel
theorem d45 : decode yB 45 = .ok (.invokestatic 47, 3) := by decide +kernel
theorem d48 : decode yB 48 = .ok (.putfield 15, 3) := by decide +kernel
theorem d51 : decode yB 51 = .ok (.aload_n 0, 1) := by decide +kernel
theorem d52 : decode yB 52 = .ok (.aload 5, 2) := by decide +kernel
theorem d54 : decode yB 54 = .ok (.putfield 9, 3) := by decide +kernel
theorem d57 : decode yB 57 = .ok (.return_, 1) := by decide +kernel
def site : List Cond := [.fieldLink "java/lang/String" 38 "java/lang/String" "COMPACT_STRINGS" "Z", Cmp3.tab, CodL.tab, .laysFinal "java/lang/String" "java/lang/String" "value" "[B", .fieldLink "java/lang/String" 9 "java/lang/String" "value" "[B", .laysFinal "java/lang/String" "java/lang/String" "coder" "B", .fieldLink "java/lang/String" 15 "java/lang/String" "coder" "B"] ++ objW "java/lang/String" 1 ++ staticW "java/lang/String" 177 Cmp3.yN ++ staticW "java/lang/String" 47 CodL.yN
def tab : Cond := tabOf yN yB 6 none site
def P (a : Addr) (D : Cell) (fV fC : Field) (b : Addr) (A : Cell) (z : Int32) (o len : Nat) (args : Array Value) (s : State) : Prop := args = #[.ref a, .ref b, .int (Int32.ofNat o), .int (Int32.ofNat len), .null] ∧ Blank "java/lang/String" a D s ∧ Found "java/lang/String" "value" "[B" fV s ∧ Found "java/lang/String" "coder" "B" fC s ∧ Ch b A s ∧ StaticIs s "java/lang/String" "COMPACT_STRINGS" "Z" (.int z) ∧ ¬ z = 0 ∧ 0 < len ∧ o + len ≤ A.slots.size ∧ len ≤ 536870912 ∧ ∀ i, i < len → ¬ 255 < cv A (o + i)
def E (a : Addr) (D : Cell) (fV fC : Field) (A : Cell) (o len : Nat) (r : Option Value) (s u : State) : Prop := Got a D fV fC A o len r s u
/-- len > 0, no char of the range above 255: a Latin-1 String of their low bytes -/
theorem law (l : Launch) (a : Addr) (D : Cell) (fV fC : Field) (b : Addr) (A : Cell) (z : Int32) (o len : Nat) : Law l yN 5 4 2 35 yB 6 none site (P a D fV fC b A z o len) (E a D fV fC A o len) [⟨a, fC.slot⟩, ⟨a, fV.slot⟩] 1 len := by
  refine Law.of_walk (plainFor_of_name (by decide +kernel)) (by decide +kernel) (by decide +kernel) (by decide) (fun _ _ h => by rw [h.1]; rfl) (fun _ U U' hal hh h => ⟨h.1, h.2.1.mv hal hh, h.2.2.1.al hal, h.2.2.2.1.al hal, h.2.2.2.2.1.mv hal hh, h.2.2.2.2.2.1.there hal hh, h.2.2.2.2.2.2⟩) (fun r U U' V V' h1 hal h2 h => Got.mv r U U' V V' h1 hal h2 h) ?_
  intro p e s m args below meth c s₁ X0 hexec hbytes hml hret hlk hnm hown hh0 W hP
  obtain ⟨rfl, hB, f1, f2, hA, s1, hz, l0, l1, l2, hp⟩ := hP
  have a31 := hA.1.2.2.2
  have c1 : Steps p.tables e below (s₁.setTop (entryFrame m #[.ref a, .ref b, .int (Int32.ofNat o), .int (Int32.ofNat len), .null] 6)) (s₁.setTop (mkF m 0 #[.val (.ref a), .val (.ref b), .val (.int (Int32.ofNat o)), .val (.int (Int32.ofNat len)), .val .null, .unset] [])) := entry rfl
  have c2 : Steps p.tables e below (s₁.setTop (entryFrame m #[.ref a, .ref b, .int (Int32.ofNat o), .int (Int32.ofNat len), .null] 6)) (s₁.setTop (mkF m 1 #[.val (.ref a), .val (.ref b), .val (.int (Int32.ofNat o)), .val (.int (Int32.ofNat len)), .val .null, .unset] [.ref a])) := c1.trans (by
    refine XS.aloadN X0.here hexec rfl (hb hbytes d0) rfl rfl ?_
    exact Steps.refl _)
  obtain ⟨T3, X3, q3, st3⟩ := X0.oinit hexec hown (wks W (objW "java/lang/String" 1)) (g := (mkF m 1 #[.val (.ref a), .val (.ref b), .val (.int (Int32.ofNat o)), .val (.int (Int32.ofNat len)), .val .null, .unset] [.ref a])) rfl (by rw [hml]; rfl) (rest := []) rfl (hb hbytes d1) (W := 0) (by show 2 * 0 + 0 ≤ _; decide) (Nat.le_of_ble_eq_true rfl) (Nat.le_of_ble_eq_true rfl)
  have hh3 := q3.trans hh0
  have c4 : Steps p.tables e below (s₁.setTop (entryFrame m #[.ref a, .ref b, .int (Int32.ofNat o), .int (Int32.ofNat len), .null] 6)) (T3.setTop (mkF m 27 #[.val (.ref a), .val (.ref b), .val (.int (Int32.ofNat o)), .val (.int (Int32.ofNat len)), .val .null, .unset] [])) := (c2.trans (st3 _ (Steps.refl _))).trans (by
    refine XS.iloadN X3.here hexec rfl (hb hbytes d4) rfl ?_
    refine XS.ifYes X3.here hexec rfl (pc0 := 5) rfl (hb hbytes d5) rfl (i0_ne_t (nz32 (by omega) l0)) (by decide) rfl ?_
    exact Steps.refl _)
  obtain ⟨T5, X5, q5, st5⟩ := X3.sget hexec hown (wk W (.fieldLink "java/lang/String" 38 "java/lang/String" "COMPACT_STRINGS" "Z")) s1 (fun _ _ h => by rw [hh3]; exact h) (g := (mkF m 27 #[.val (.ref a), .val (.ref b), .val (.int (Int32.ofNat o)), .val (.int (Int32.ofNat len)), .val .null, .unset] [])) rfl (hb hbytes d27)
  have hh5 := q5.trans hh3
  have c6 : Steps p.tables e below (s₁.setTop (entryFrame m #[.ref a, .ref b, .int (Int32.ofNat o), .int (Int32.ofNat len), .null] 6)) (T5.setTop (mkF m 30 #[.val (.ref a), .val (.ref b), .val (.int (Int32.ofNat o)), .val (.int (Int32.ofNat len)), .val .null, .unset] [.int z])) := c4.trans (st5 _ (Steps.refl _))
  have c7 : Steps p.tables e below (s₁.setTop (entryFrame m #[.ref a, .ref b, .int (Int32.ofNat o), .int (Int32.ofNat len), .null] 6)) (T5.setTop (mkF m 36 #[.val (.ref a), .val (.ref b), .val (.int (Int32.ofNat o)), .val (.int (Int32.ofNat len)), .val .null, .unset] [.int (Int32.ofNat len), .int (Int32.ofNat o), .ref b])) := c6.trans (by
    refine XS.ifNo X5.here hexec rfl (hb hbytes d30) rfl (i0_eq_f hz) ?_
    refine XS.aloadN X5.here hexec rfl (hb hbytes d33) rfl rfl ?_
    refine XS.iloadN X5.here hexec rfl (hb hbytes d34) rfl ?_
    refine XS.iloadN X5.here hexec rfl (hb hbytes d35) rfl ?_
    exact Steps.refl _)
  obtain ⟨v8, T8, X8, E8, g8⟩ := X5.callS hexec (Cmp3.law l b A o len) hown (wks W (staticW "java/lang/String" 177 Cmp3.yN)) (wk W Cmp3.tab) (W := 0) (Nat.le_of_ble_eq_true rfl) (Nat.le_of_ble_eq_true rfl) (Nat.le_refl _) (by show 0 + len ≤ len; omega) (g := (mkF m 36 #[.val (.ref a), .val (.ref b), .val (.int (Int32.ofNat o)), .val (.int (Int32.ofNat len)), .val .null, .unset] [.int (Int32.ofNat len), .int (Int32.ofNat o), .ref b])) rfl (by rw [hml]; rfl) c7 (argsL := [.ref b, .int (Int32.ofNat o), .int (Int32.ofNat len)]) (rest := []) rfl rfl (by show 2 * 0 + 0 ≤ _; decide) (hb hbytes d36) (⟨rfl, hA.mv X5.warmed.alike hh5, l1, l2, hp⟩)
  obtain ⟨e8, z8⟩ := E8
  obtain ⟨rfl, N, n1, n2, n3, n4, n5, n6⟩ := NewArr.mv _ T5 s _ _ hh5.symm (Vm.Alike.refl _) rfl e8
  rw [hh5] at z8
  have hB1 := hB.keep X8.warmed.alike (n6 _ _ hB.1)
  have hne : s.heap.size ≠ a := (Nat.ne_of_lt (Array.getElem?_eq_some_iff.mp hB.1).1).symm
  have c9 : Steps p.tables e below (s₁.setTop (entryFrame m #[.ref a, .ref b, .int (Int32.ofNat o), .int (Int32.ofNat len), .null] 6)) (T8.setTop (mkF m 39 #[.val (.ref a), .val (.ref b), .val (.int (Int32.ofNat o)), .val (.int (Int32.ofNat len)), .val .null, .unset] [.ref s.heap.size])) := g8
  have c10 : Steps p.tables e below (s₁.setTop (entryFrame m #[.ref a, .ref b, .int (Int32.ofNat o), .int (Int32.ofNat len), .null] 6)) (T8.setTop (mkF m 45 #[.val (.ref a), .val (.ref b), .val (.int (Int32.ofNat o)), .val (.int (Int32.ofNat len)), .val .null, .val (.ref s.heap.size)] [.int (Int32.ofNat N.slots.size), .ref s.heap.size, .ref a])) := by
    have hc : Steps p.tables e below (s₁.setTop (entryFrame m #[.ref a, .ref b, .int (Int32.ofNat o), .int (Int32.ofNat len), .null] 6)) (T8.setTop (mkF m 45 #[.val (.ref a), .val (.ref b), .val (.int (Int32.ofNat o)), .val (.int (Int32.ofNat len)), .val .null, .val (.ref s.heap.size)] [.int (Int32.ofNat len), .ref s.heap.size, .ref a])) := c9.trans (by
      refine XS.astore X8.here hexec rfl (hb hbytes d39) rfl rfl rfl ?_
      refine XS.aloadN X8.here hexec rfl (hb hbytes d41) rfl rfl ?_
      refine XS.aload X8.here hexec rfl (hb hbytes d42) rfl rfl ?_
      refine XS.iloadN X8.here hexec rfl (hb hbytes d44) rfl ?_
      exact Steps.refl _)
    rw [n4]; exact hc
  obtain ⟨v11, T11, X11, E11, g11⟩ := X8.callS hexec (CodL.law l s.heap.size N) hown (wks W (staticW "java/lang/String" 47 CodL.yN)) (wk W CodL.tab) (W := 1) (Nat.le_of_ble_eq_true rfl) (Nat.le_of_ble_eq_true rfl) (Nat.le_refl _) (by show 0 + len + 0 ≤ len; omega) (g := (mkF m 45 #[.val (.ref a), .val (.ref b), .val (.int (Int32.ofNat o)), .val (.int (Int32.ofNat len)), .val .null, .val (.ref s.heap.size)] [.int (Int32.ofNat N.slots.size), .ref s.heap.size, .ref a])) rfl (by rw [hml]; rfl) c10 (argsL := [.ref s.heap.size, .int (Int32.ofNat N.slots.size)]) (rest := [.ref a]) rfl rfl (by show 2 * 0 + (1 + 0) ≤ _; decide) (hb hbytes d45) (⟨rfl, n1⟩)
  obtain ⟨rfl, q11⟩ := E11
  have hB11 := hB1.mv (X8.warmed.alike.symm.trans X11.warmed.alike) q11
  have c12 : Steps p.tables e below (s₁.setTop (entryFrame m #[.ref a, .ref b, .int (Int32.ofNat o), .int (Int32.ofNat len), .null] 6)) (T11.setTop (mkF m 48 #[.val (.ref a), .val (.ref b), .val (.int (Int32.ofNat o)), .val (.int (Int32.ofNat len)), .val .null, .val (.ref s.heap.size)] [.int 0, .ref a])) := g11
  obtain ⟨T13, X13, p13, bl13, sl13, st13⟩ := X11.finit hexec hown (wk W (.fieldLink "java/lang/String" 15 "java/lang/String" "coder" "B")) (Or.inr ⟨_, (wk W (.laysFinal "java/lang/String" "java/lang/String" "coder" "B"))⟩) (Or.inl ⟨rfl, hnm⟩) f2 (Or.inl rfl) hB11 (t := .byte) (by decide +kernel) rfl (g := (mkF m 48 #[.val (.ref a), .val (.ref b), .val (.int (Int32.ofNat o)), .val (.int (Int32.ofNat len)), .val .null, .val (.ref s.heap.size)] [.int 0, .ref a])) rfl (rest := []) rfl (hb hbytes d48)
  have c14 : Steps p.tables e below (s₁.setTop (entryFrame m #[.ref a, .ref b, .int (Int32.ofNat o), .int (Int32.ofNat len), .null] 6)) (T13.setTop (mkF m 54 #[.val (.ref a), .val (.ref b), .val (.int (Int32.ofNat o)), .val (.int (Int32.ofNat len)), .val .null, .val (.ref s.heap.size)] [.ref s.heap.size, .ref a])) := (c12.trans (st13 _ (Steps.refl _))).trans (by
    refine XS.aloadN X13.here hexec rfl (hb hbytes d51) rfl rfl ?_
    refine XS.aload X13.here hexec rfl (hb hbytes d52) rfl rfl ?_
    exact Steps.refl _)
  obtain ⟨T15, X15, p15, bl15, sl15, st15⟩ := X13.finit hexec hown (wk W (.fieldLink "java/lang/String" 9 "java/lang/String" "value" "[B")) (Or.inr ⟨_, (wk W (.laysFinal "java/lang/String" "java/lang/String" "value" "[B"))⟩) (Or.inl ⟨rfl, hnm⟩) f1 (Or.inl rfl) bl13 (t := (.array .byte)) (by decide +kernel) rfl (g := (mkF m 54 #[.val (.ref a), .val (.ref b), .val (.int (Int32.ofNat o)), .val (.int (Int32.ofNat len)), .val .null, .val (.ref s.heap.size)] [.ref s.heap.size, .ref a])) rfl (rest := []) rfl (hb hbytes d54)
  have c16 : Steps p.tables e below (s₁.setTop (entryFrame m #[.ref a, .ref b, .int (Int32.ofNat o), .int (Int32.ofNat len), .null] 6)) (T15.setTop (mkF m 57 #[.val (.ref a), .val (.ref b), .val (.int (Int32.ofNat o)), .val (.int (Int32.ofNat len)), .val .null, .val (.ref s.heap.size)] [])) := c14.trans (st15 _ (Steps.refl _))
  have ap := apart (Or.inr ⟨_, (wk W (.laysFinal "java/lang/String" "java/lang/String" "value" "[B"))⟩) (Or.inr ⟨_, (wk W (.laysFinal "java/lang/String" "java/lang/String" "coder" "B"))⟩) f1 f2 (t₁ := .array .byte) (t₂ := .byte) (by decide +kernel) (by decide +kernel) (by decide)
  have al := X8.warmed.alike.symm.trans X15.warmed.alike
  have n7 : T11.heap[s.heap.size]? = some N := by rw [q11]; exact n1.1
  exact ⟨T15, none, _, _, _, X15, by simp, rfl, by omega, (fun _ => rfl), ⟨rfl, _, N, bl15, ((Same.refl D _).set _ (by simp)).set _ (by simp), sl15, (Cell.slots_setSlot_ne _ ap).trans sl13, n1.keep al (p15.other hne (p13.other hne n7)), n2, by rw [al.findClass]; exact n3, n4, n5, fun y c h1 h2 => p15.other h1 (p13.other h1 (by rw [q11]; exact n6 y c h2)), by rw [p15.2.2, p13.2.2, q11]; exact z8⟩, fun fs hl => c16.trans (X15.returnOut hexec hret (hb hbytes d57) hl)⟩
end New4
namespace New1
def yN : MethodName := ⟨"java/lang/String", "<init>", "([C)V"⟩
abbrev yB : ByteArray := jdk_42_method_3_code
theorem d0 : decode yB 0 = .ok (.aload_n 0, 1) := by decide +kernel
theorem d1 : decode yB 1 = .ok (.aload_n 1, 1) := by decide +kernel
theorem d2 : decode yB 2 = .ok (.iconst 0, 1) := by decide +kernel
theorem d3 : decode yB 3 = .ok (.aload_n 1, 1) := by decide +kernel
theorem d4 : decode yB 4 = .ok (.arraylength, 1) := by decide +kernel
theorem d5 : decode yB 5 = .ok (.aconst_null, 1) := by decide +kernel
theorem d6 : decode yB 6 = .ok (.invokespecial 27, 3) := by decide +kernel
theorem d9 : decode yB 9 = .ok (.return_, 1) := by decide +kernel
def site : List Cond := [New4.tab] ++ initW "java/lang/String" 27 New4.yN
def tab : Cond := tabOf yN yB 2 none site
def P (a : Addr) (D : Cell) (fV fC : Field) (b : Addr) (A : Cell) (z : Int32) (args : Array Value) (s : State) : Prop := args = #[.ref a, .ref b] ∧ Blank "java/lang/String" a D s ∧ Found "java/lang/String" "value" "[B" fV s ∧ Found "java/lang/String" "coder" "B" fC s ∧ Ch b A s ∧ StaticIs s "java/lang/String" "COMPACT_STRINGS" "Z" (.int z) ∧ ¬ z = 0 ∧ 0 < A.slots.size ∧ A.slots.size ≤ 536870912 ∧ ∀ i, i < A.slots.size → ¬ 255 < cv A i
def E (a : Addr) (D : Cell) (fV fC : Field) (A : Cell) (r : Option Value) (s u : State) : Prop := Got a D fV fC A 0 A.slots.size r s u
/-- new String(chars), not empty, no char above 255: a Latin-1 String of their low bytes -/
theorem law (l : Launch) (a : Addr) (D : Cell) (fV fC : Field) (b : Addr) (A : Cell) (z : Int32) : Law l yN 2 1 3 52 yB 2 none site (P a D fV fC b A z) (E a D fV fC A) [⟨a, fC.slot⟩, ⟨a, fV.slot⟩] 1 A.slots.size := by
  refine Law.of_walk (plainFor_of_name (by decide +kernel)) (by decide +kernel) (by decide +kernel) (by decide) (fun _ _ h => by rw [h.1]; rfl) (fun _ U U' hal hh h => ⟨h.1, h.2.1.mv hal hh, h.2.2.1.al hal, h.2.2.2.1.al hal, h.2.2.2.2.1.mv hal hh, h.2.2.2.2.2.1.there hal hh, h.2.2.2.2.2.2⟩) (fun r U U' V V' h1 hal h2 h => Got.mv r U U' V V' h1 hal h2 h) ?_
  intro p e s m args below meth c s₁ X0 hexec hbytes hml hret hlk hnm hown hh0 W hP
  obtain ⟨rfl, hB, f1, f2, hA, s1, hz, l0, l2, hp⟩ := hP
  have c1 : Steps p.tables e below (s₁.setTop (entryFrame m #[.ref a, .ref b] 2)) (s₁.setTop (mkF m 0 #[.val (.ref a), .val (.ref b)] [])) := entry rfl
  have c2 : Steps p.tables e below (s₁.setTop (entryFrame m #[.ref a, .ref b] 2)) (s₁.setTop (mkF m 6 #[.val (.ref a), .val (.ref b)] [.null, .int (Int32.ofNat A.slots.size), .int 0, .ref b, .ref a])) := c1.trans (by
    refine XS.aloadN X0.here hexec rfl (hb hbytes d0) rfl rfl ?_
    refine XS.aloadN X0.here hexec rfl (hb hbytes d1) rfl rfl ?_
    refine iconstV X0.here hexec rfl 0 (hb hbytes d2) (by decide) ?_
    refine XS.aloadN X0.here hexec rfl (hb hbytes d3) rfl rfl ?_
    refine X0.alen hexec (hA.1.mv X0.warmed.alike hh0) rfl rfl (hb hbytes d4) ?_
    refine XS.aconstNull X0.here hexec rfl (hb hbytes d5) ?_
    exact Steps.refl _)
  obtain ⟨v3, T3, X3, E3, g3⟩ := X0.callN hexec (New4.law l a D fV fC b A z 0 A.slots.size) rfl hown (wks W (initW "java/lang/String" 27 New4.yN)) (W New4.tab (by simp only [site, List.mem_cons, List.mem_append, true_or, or_true])) (W := 0) (Nat.le_of_ble_eq_true rfl) (Nat.le_of_ble_eq_true rfl) (Nat.le_refl _) (by show 0 + A.slots.size ≤ A.slots.size; omega) (g := (mkF m 6 #[.val (.ref a), .val (.ref b)] [.null, .int (Int32.ofNat A.slots.size), .int (Int32.ofNat 0), .ref b, .ref a])) rfl (by rw [hml]; rfl) c2 (argsL := [.ref b, .int (Int32.ofNat 0), .int (Int32.ofNat A.slots.size), .null]) (rest := []) rfl rfl (by show 2 * 0 + 0 ≤ _; decide) (hb hbytes d6) (⟨rfl, hB.mv X0.warmed.alike hh0, f1.al X0.warmed.alike, f2.al X0.warmed.alike, hA.mv X0.warmed.alike hh0, s1.there X0.warmed.alike hh0, hz, l0, by omega, l2, fun i hi => by rw [Nat.zero_add]; exact hp i hi⟩)
  have e0 := Got.mv _ s₁ s _ _ hh0.symm (Vm.Alike.refl _) rfl E3
  obtain rfl := e0.1
  have c4 : Steps p.tables e below (s₁.setTop (entryFrame m #[.ref a, .ref b] 2)) (T3.setTop (mkF m 9 #[.val (.ref a), .val (.ref b)] [])) := g3
  exact ⟨T3, none, _, _, _, X3, by simp, rfl, by omega, (fun _ => rfl), e0, fun fs hl => c4.trans (X3.returnOut hexec hret (hb hbytes d9) hl)⟩
theorem pays {l : Launch} {R : Room} {p : Program} {e : Env} {below : List Frame} {s : State} {sargs : Array Value} {len W : Nat} (a : Addr) (D : Cell) (fV fC : Field) (b : Addr) (A : Cell) (z : Int32) (htab : tab.before sargs s = true) (hfr : 4 ≤ R.frames) (hlo : W + 65 ≤ R.locals) :
    Back l R p e below s sargs yN len W (fun A₁ a₁ => A₁.cells + 1 ≤ R.cells ∧ A₁.slots + A.slots.size ≤ R.slots ∧ P a D fV fC b A z a₁ A₁.U) (fun A₁ _ v₁ B₁ => E a D fV fC A v₁ A₁.U B₁.U ∧ B₁.locs = A₁.locs ++ [⟨a, fC.slot⟩, ⟨a, fV.slot⟩] ∧ B₁.cells = A₁.cells + 1 ∧ B₁.slots = A₁.slots + A.slots.size) :=
  (law l a D fV fC b A z).pays htab hfr (by omega)
end New1
end StrChars
namespace StrChars.Road
open Jvm Sem ClassFile Op Lib Jvm.Stand Jvm.Free Jvm.Free.XT
open Jvm.Lib.Cold (StaticIs)
abbrev ST : String := "java/lang/String"
/-- every table word that New1's law asks, flat -/
abbrev words : List Jvm.Cond := [.code New1.yN New1.yB 2 none, .initialized ST, .methodLink ST 27 New4.yN, .instanceMethod New4.yN,
  .code New4.yN New4.yB 6 none, .fieldLink ST 38 ST "COMPACT_STRINGS" "Z", .laysFinal ST ST "value" "[B", .fieldLink ST 9 ST "value" "[B", .laysFinal ST ST "coder" "B", .fieldLink ST 15 ST "coder" "B",
  .methodLink ST 1 Lib.objectInit, .instanceMethod Lib.objectInit, .code Lib.objectInit ⟨#[0xb1]⟩ 1 none, .methodLink ST 177 Cmp3.yN, .static Cmp3.yN, .methodLink ST 47 CodL.yN, .static CodL.yN,
  .code Cmp3.yN Cmp3.yB 6 (some (.array .byte)), .initialized U16, .arrayClass .byte, .methodLink U16 115 Cmp5.yN, .static Cmp5.yN, .code Cmp5.yN Cmp5.yB 7 (some .int), .code CodL.yN CodL.yB 2 (some .byte)]
theorem tab_of {a : Array Value} {s : State} (h : ∀ w ∈ words, w.before a s = true) : New1.tab.before a s = true := by
  have h5 : Cmp5.tab.before a s = true := unparts (wk h (.code Cmp5.yN Cmp5.yB 7 (some .int))) (wks h (.initialized Cmp5.yN.cls :: Cmp5.site))
  have hc : CodL.tab.before a s = true := unparts (wk h (.code CodL.yN CodL.yB 2 (some .byte))) (wks h (.initialized CodL.yN.cls :: CodL.site))
  have q5 : ∀ w ∈ Cmp5.tab :: words, w.before a s = true := fun w hw => (List.mem_cons.mp hw).elim (fun e => e ▸ h5) (h w)
  have h3 : Cmp3.tab.before a s = true := unparts (wk q5 (.code Cmp3.yN Cmp3.yB 6 (some (.array .byte)))) (wks q5 (.initialized Cmp3.yN.cls :: Cmp3.site))
  have q3 : ∀ w ∈ Cmp3.tab :: CodL.tab :: words, w.before a s = true := fun w hw => (List.mem_cons.mp hw).elim (fun e => e ▸ h3) fun hw => (List.mem_cons.mp hw).elim (fun e => e ▸ hc) (h w)
  have h4 : New4.tab.before a s = true := unparts (wk q3 (.code New4.yN New4.yB 6 none)) (wks q3 (.initialized New4.yN.cls :: New4.site))
  have q4 : ∀ w ∈ New4.tab :: words, w.before a s = true := fun w hw => (List.mem_cons.mp hw).elim (fun e => e ▸ h4) (h w)
  exact unparts (wk q4 (.code New1.yN New1.yB 2 none)) (wks q4 (.initialized New1.yN.cls :: New1.site))
/-- the words ride from the start Z to the walk's own state -/
theorem moved {Z s : State} {a0 args : Array Value} (hZ : Z.Warmed39 s.vm) (hw : ∀ d ∈ words, d.before a0 Z = true) : ∀ d ∈ words, d.before args s = true := fun d hd => by
  have q := hw d hd
  have t : ∀ d ∈ words, d = .arrayClass .byte ∨ (d.onTables && d.keepsFace) = true := by decide +kernel
  rcases t d hd with rfl | t
  · exact RoadKit.mvA hZ q
  · exact RoadKit.mv hZ q t
/-- WHAT COMES BACK, over the tables of the start Z: h the heap at the call, h' behind it -/
def Q (Z : State) (x : Addr) (A : Cell) (h : Heap) (v : Option Value) (h' : Heap) (L : List Loc) : Prop := v = none ∧ (∀ y ∈ L, y.base = x) ∧ RoadKit.Keep h h' [x] ∧ h'.size = h.size + 1 ∧ RoadKit.Exa Z h' x ST ∧ RoadKit.Fld Z h' x ST "value" "[B" (.ref h.size) ∧ RoadKit.Fld Z h' x ST "coder" "B" (.int 0) ∧
  (∃ V : Cell, RoadKit.Arr Z h' h.size V .byte ∧ V.vm = .none ∧ Z.vm.findClass "[B" = some V.cls ∧ V.slots.size = A.slots.size ∧ ∀ j, j < A.slots.size → V.slots[j]? = some (.int (lo8 (cv A j)))) ∧
  ∀ (O n d : String) (w : Value), RoadKit.Fld Z h x O n d w → RoadKit.slotOf Z O n d ≠ RoadKit.slotOf Z ST "value" "[B" → RoadKit.slotOf Z O n d ≠ RoadKit.slotOf Z ST "coder" "B" → RoadKit.Fld Z h' x O n d w
/-- **new String(chars) AT A CALL, IN THE ROAD'S FORM**: for specialBack behind newO: x the fresh String, b the char[] with the cell A -/
theorem back {p : Program} {l : Launch} {e : Env} {R : Room} {s : State} {args : Array Value} {below : List Frame} {len W : Nat} {Z : State} {a0 : Array Value} {h : Heap} (hZ : Z.Warmed39 s.vm) (hw : ∀ d ∈ words, d.before a0 Z = true) {kI : Nat} (wi : (Jvm.Cond.instantiable ST kI).before a0 Z = true)
    {x b : Addr} {A : Cell} {z : Int32} {v0 c0 : Value} (E : RoadKit.Exa Z h x ST) (V : RoadKit.Fld Z h x ST "value" "[B" v0) (C : RoadKit.Fld Z h x ST "coder" "B" c0) (K : RoadKit.Arr Z h b A .char) (hty : Typed .char A) (S : RoadKit.Sta Z h ST "COMPACT_STRINGS" "Z" (.int z)) (hz : ¬ z = 0)
    (l0 : 0 < A.slots.size) (l2 : A.slots.size ≤ 536870912) (hp : ∀ i, i < A.slots.size → ¬ 255 < cv A i) (hfr : 4 ≤ R.frames) (hlo : W + 65 ≤ R.locals) :
    Back l R p e below s args New1.yN len W (fun P a => a = #[.ref x, .ref b] ∧ P.U.heap = h ∧ P.cells + 1 ≤ R.cells ∧ P.slots + A.slots.size ≤ R.slots)
      (fun P _ v B => ∃ L, Q Z x A h v B.U.heap L ∧ B.locs = P.locs ++ L ∧ B.cells = P.cells + 1 ∧ B.slots = P.slots + A.slots.size) := by
  intro m meth c P g ig mk a X hg hsize hdg hW hn hp'
  obtain ⟨rfl, rfl, r1, r2⟩ := hp'
  have al : Z.vm.Alike P.U.vm := hZ.alike.trans X.warmed.alike
  obtain ⟨D, cfV, kV, iV, fV, hD, gV, stV, knV, obV, asV, slV⟩ := id V
  obtain ⟨D', cfC, kC, iC, fC, hD', gC, stC, -, -, asC, slC⟩ := id C
  cases hD.symm.trans hD'
  obtain ⟨D2, kD, e1, e2, e3, e4, e5⟩ := id E
  cases hD.symm.trans e1
  obtain ⟨c2, k2, i1, i2, i3, -⟩ := Cond.instantiable_spec wi
  cases e2.symm.trans i1
  cases e3.symm.trans i2
  obtain ⟨kU, u1, u2⟩ := al.2.2 _ _ e3
  have hB : Blank ST x D P.U := ⟨hD, ⟨knV, fun q hq => by rw [hq] at obV; cases obV⟩, by rw [al.findClass]; exact e2, kU, u1, by rw [u2]; exact i3, by rw [u2]; exact e5 i3⟩
  have F1 : Found ST "value" "[B" fV P.U := ⟨SBG.found_only al ⟨cfV, kV, iV, gV⟩, stV⟩
  have F2 : Found ST "coder" "B" fC P.U := ⟨SBG.found_only al ⟨cfC, kC, iC, gC⟩, stC⟩
  have hA : Ch b A P.U := ⟨⟨K.1, State.isArrayOf_alike al K.2.1, K.2.2, by omega⟩, hty⟩
  have hS : StaticIs P.U ST "COMPACT_STRINGS" "Z" (.int z) := by
    obtain ⟨cfS, iS, kS, fS, st, cS, t1, t2, t3, t4, t5, t6, t7⟩ := S
    exact StaticIs.there (s := { Z with heap := P.U.heap }) ⟨cfS, iS, kS, fS, st, cS, t1, t2, t3, t4, t5, (fun q => by rw [q] at t6; cases t6), t7⟩ al rfl
  obtain ⟨v, B, X', ⟨⟨hv, E', V', q1, q2, q3, q4, q5, q6, q7, q8, q9, q10, q11⟩, hl, hc, hs⟩, st⟩ := New1.pays x D fV fC b A z (tab_of (moved hZ hw)) hfr hlo m meth c P g ig mk _ X hg hsize hdg hW hn ⟨r1, r2, rfl, hB, F1, F2, hA, hS, hz, l0, l2, hp⟩
  have al' : Z.vm.Alike B.U.vm := hZ.alike.trans X'.warmed.alike
  have hsz : E'.slots.size = D.slots.size := by
    obtain ⟨-, -, -, kB, w1, w2, w3⟩ := q1
    obtain ⟨kB', y1, y2⟩ := al'.2.2 _ _ e3
    rw [q2.2.1] at w1
    cases w1.symm.trans y1
    rw [w3, e5 i3, y2]
  refine ⟨v, B, X', ⟨_, ⟨hv, ?_, ⟨by omega, fun y cy hy hn' => q10 y cy (by simpa using hn') hy, fun y cy hy => ?_⟩, q11, ⟨E', _, q1.1, by rw [q2.2.1]; exact e2, by rw [q2.2.1]; exact e3, by rw [q2.1]; exact obV, fun _ => by rw [hsz]; exact e5 i3⟩,
    ⟨E', cfV, kV, iV, fV, q1.1, gV, stV, by rw [q2.1]; exact knV, by rw [q2.1]; exact obV, by rw [q2.2.1]; exact asV, q3⟩, ⟨E', cfC, kC, iC, fC, q1.1, gC, stC, by rw [q2.1]; exact knV, by rw [q2.1]; exact obV, by rw [q2.2.1]; exact asC, q4⟩,
    ⟨V', ⟨q5.1, State.isArrayOf_alike al'.symm q5.2.1, q5.2.2.1⟩, q6, by rw [← al'.findClass]; exact q7, q8, fun j hj => by have := q9 j hj; rwa [Nat.zero_add] at this⟩, fun O n d w F n1 n2 => ?_⟩, hl, hc, hs⟩, st⟩
  · intro y hy
    simp only [List.mem_cons, List.not_mem_nil, or_false] at hy
    rcases hy with rfl | rfl <;> rfl
  · by_cases q : y = x
    · subst q
      cases hD.symm.trans hy
      exact ⟨E', q1.1, q2.2.1, q2.1, hsz⟩
    · exact ⟨cy, q10 y cy q hy, rfl, rfl, rfl⟩
  · obtain ⟨D3, cf, k, i, f, g1, g2, g3, g4, g5, g6, g7⟩ := F
    cases hD.symm.trans g1
    simp only [RoadKit.slotOf, g2, gV, gC, Option.map_some, Option.getD_some] at n1 n2
    exact ⟨E', cf, k, i, f, q1.1, g2, g3, by rw [q2.1]; exact g4, by rw [q2.1]; exact g5, by rw [q2.2.1]; exact g6, by rw [q2.2.2 f.slot (by simp [n1, n2])]; exact g7⟩
end StrChars.Road
namespace StrChars.Road
open Jvm Sem ClassFile Op Lib Jvm.Stand Jvm.Free Jvm.Free.XT
/-- WHAT COMES BACK, the byte[] as a list of values -/
def QA (Z : State) (x : Addr) (zn : Int32) (cs : List Int32) (h : Heap) (v : Option Value) (h' : Heap) (L : List Loc) : Prop := v = none ∧ (∀ y ∈ L, y.base = x) ∧ RoadKit.Keep h h' [x] ∧ h'.size = h.size + 1 ∧ RoadKit.Exa Z h' x ST ∧ RoadKit.Fld Z h' x ST "value" "[B" (.ref h.size) ∧ RoadKit.Fld Z h' x ST "coder" "B" (.int 0) ∧
  (∃ kb, Z.vm.findClass "[B" = some kb ∧ RoadKit.Arv Z h' h.size kb .byte zn (cs.map fun c => .int (lo8 c)) (.int 0)) ∧
  ∀ (O n d : String) (w : Value), RoadKit.Fld Z h x O n d w → RoadKit.slotOf Z O n d ≠ RoadKit.slotOf Z ST "value" "[B" → RoadKit.slotOf Z O n d ≠ RoadKit.slotOf Z ST "coder" "B" → RoadKit.Fld Z h' x O n d w
/-- **new String(chars) AT A CALL, THE ARRAYS AS LISTS**: the char[] at b holds cs, not empty, no char above 255 -/
theorem backArv {p : Program} {l : Launch} {e : Env} {R : Room} {s : State} {args : Array Value} {below : List Frame} {len W : Nat} {Z : State} {a0 : Array Value} {h : Heap} (hZ : Z.Warmed39 s.vm) (hw : ∀ d ∈ words, d.before a0 Z = true) {kI : Nat} (wi : (Jvm.Cond.instantiable ST kI).before a0 Z = true)
    {x b : Addr} {k : ClassId} {zn z : Int32} {cs : List Int32} {dv v0 c0 : Value} (E : RoadKit.Exa Z h x ST) (V : RoadKit.Fld Z h x ST "value" "[B" v0) (C : RoadKit.Fld Z h x ST "coder" "B" c0) (K : RoadKit.Arv Z h b k .char zn (cs.map Value.int) dv) (S : RoadKit.Sta Z h ST "COMPACT_STRINGS" "Z" (.int z)) (hz : ¬ z = 0)
    (hlen : zn.toNatClampNeg = cs.length) (h0 : 0 < cs.length) (hbig : cs.length ≤ 536870912) (hall : ∀ c ∈ cs, ¬ 255 < c) (hfr : 4 ≤ R.frames) (hlo : W + 65 ≤ R.locals) :
    Back l R p e below s args New1.yN len W (fun P a => a = #[.ref x, .ref b] ∧ P.U.heap = h ∧ P.cells + 1 ≤ R.cells ∧ P.slots + cs.length ≤ R.slots)
      (fun P _ v B => ∃ L, QA Z x zn cs h v B.U.heap L ∧ B.locs = P.locs ++ L ∧ B.cells = P.cells + 1 ∧ B.slots = P.slots + cs.length) := by
  obtain ⟨A, K1, K2, K3, K4, K5, K6⟩ := K
  have e : A.slots.size = cs.length := K3.trans hlen
  have hat : ∀ (i : Nat) (hi : i < cs.length), A.slots[i]? = some (.int cs[i]) := fun i hi => by rw [K5 i (by omega)]; simp [List.getD_eq_getElem?_getD, hi]
  have hcv : ∀ (i : Nat) (hi : i < cs.length), cv A i = cs[i] := fun i hi => by unfold cv; rw [hat i hi]
  have hty : Typed .char A := fun i v hv => by
    have hi : i < A.slots.size := (Array.getElem?_eq_some_iff.mp hv).1
    have q := K5 i hi
    rw [hv] at q
    rw [Option.some.inj q]
    exact K6 i hi
  refine Back.mono (back hZ hw wi E V C K1 hty S hz (by omega) (by omega) (fun i hi => by rw [hcv i (by omega)]; exact hall _ (List.getElem_mem _)) hfr hlo) (fun P a hp => ⟨hp.1, hp.2.1, hp.2.2.1, by rw [e]; exact hp.2.2.2⟩) (fun P a v B hp hq => ?_)
  obtain ⟨L, ⟨q1, q2, q3, q4, q5, q6, q7, ⟨V', v1, v2, v3, v4, v5⟩, q9⟩, hl, hc, hs⟩ := hq
  refine ⟨L, ⟨q1, q2, q3, q4, q5, q6, q7, ⟨V'.cls, v3, V', v1, rfl, by rw [v4, e, hlen], K4, fun i hi => ?_, fun i hi => ?_⟩, q9⟩, hl, hc, by rw [hs, e]⟩
  · have hi' : i < cs.length := by omega
    rw [v5 i (by omega), hcv i hi']; simp [List.getD_eq_getElem?_getD, hi']
  · have hi' : i < cs.length := by omega
    simp only [List.getD_eq_getElem?_getD, List.getElem?_map, List.getElem?_eq_getElem hi', Option.map_some, Option.getD_some]
    exact fits_lo8 _
end StrChars.Road
namespace StrChars.Road
open Jvm Sem ClassFile Op Lib Jvm.Stand Jvm.Free Jvm.Free.XT
/-- WHAT COMES BACK, in the writer's own shape -/
def QV (Z : State) (x : Addr) (N : Int32) (bs : List Int32) (h : Heap) (n0 : Nat) (v : Option Value) (h' : Heap) (L : List Loc) : Prop := v = none ∧ RoadKit.Fr n0 L ∧ RoadKit.Keep h h' [x] ∧ RoadKit.Exa Z h' x ST ∧ RoadKit.Fld Z h' x ST "coder" "B" (.int 0) ∧
  ∃ (t : Addr) (kb : ClassId), n0 ≤ t ∧ h.size ≤ t ∧ ¬ t = x ∧ RoadKit.Fld Z h' x ST "value" "[B" (.ref t) ∧ RoadKit.Arv Z h' t kb .byte N (bs.map Value.int) (.int 0)
/-- **new String(chars) AT A CALL, FOR THE WRITER**: a char[] of n known ints, each 0 to 255 -/
theorem backV {p : Program} {l : Launch} {e : Env} {R : Room} {s : State} {args : Array Value} {below : List Frame} {len W : Nat} {Z : State} {a0 : Array Value} {h : Heap} (hZ : Z.Warmed39 s.vm) (hw : ∀ d ∈ words, d.before a0 Z = true) {kI : Nat} (wi : (Jvm.Cond.instantiable ST kI).before a0 Z = true)
    {x b : Addr} {kC : ClassId} {cs bs : List Int32} {d v0 c0 : Value} {z N : Int32} {n n0 : Nat} (hx0 : n0 ≤ x) (hh0 : n0 ≤ h.size) (E : RoadKit.Exa Z h x ST) (V : RoadKit.Fld Z h x ST "value" "[B" v0) (C : RoadKit.Fld Z h x ST "coder" "B" c0) (K : RoadKit.Arv Z h b kC .char N (cs.map Value.int) d) (S : RoadKit.Sta Z h ST "COMPACT_STRINGS" "Z" (.int z)) (hz : ¬ z = 0)
    (hn : cs.length = n) (hN : N = Int32.ofNat n) (l0 : 0 < n) (l2 : n ≤ 4000) (hp : ∀ c ∈ cs, ¬ c < 0 ∧ ¬ (255 : Int32) < c) (hb : bs = cs.map (fun c => c.toInt8.toInt32)) (hfr : 4 ≤ R.frames) (hlo : W + 65 ≤ R.locals) :
    Back l R p e below s args (⟨"java/lang/String", "<init>", "([C)V"⟩ : MethodName) len W (fun P a => a = #[.ref x, .ref b] ∧ P.U.heap = h ∧ P.cells + 1 ≤ R.cells ∧ P.slots + n ≤ R.slots)
      (fun P _ v B => ∃ L, QV Z x N bs h n0 v B.U.heap L ∧ B.locs = P.locs ++ L ∧ B.cells = P.cells + 1 ∧ B.slots = P.slots + n) := by
  subst hn hN hb
  refine Back.mono (backArv hZ hw wi E V C K S hz (n32 (by omega)) l0 (by omega) (fun c hc => (hp c hc).2) hfr hlo) (fun P a hp => hp) (fun P a v B hp hq => ?_)
  obtain ⟨L, ⟨q1, q2, q3, q4, q5, q6, q7, ⟨kb, v1, v2⟩, q9⟩, hl, hc, hs⟩ := hq
  exact ⟨L, ⟨q1, fun y hy => by rw [q2 y hy]; exact hx0, q3, q5, q7, h.size, kb, hh0, Nat.le_refl _, Nat.ne_of_gt E.lt, q6, by rw [List.map_map]; exact v2⟩, hl, hc, hs⟩
end StrChars.Road
end Jvm.Pilot.@@N@@
namespace Jvm.Pilot.@@N@@
open Jvm Jvm.ClassFile Sem Op Lib Jvm.Free Jvm.Stand Jvm.LawKit Jvm.RoadKit Bundle Jvm.OwnKit Jvm.Pilot.@@N@@.Jvm.D
theorem own_wS {Z : State} {a0 : Array Value} (hw : ∀ d ∈ tables_1, d.before a0 Z = true) : ∀ d ∈ Bundle.stringAtoms, d.before a0 Z = true := fun d hd => hw d ((by decide +kernel : ∀ d ∈ Bundle.stringAtoms, d ∈ tables_1) d hd)
theorem d4_0 : decode jdk_42_method_149_code 0 = .ok (.aload_n 0, 1) := by decide +kernel
theorem d4_1 : decode jdk_42_method_149_code 1 = .ok (.invokespecial 1, 3) := by decide +kernel
theorem d4_4 : decode jdk_42_method_149_code 4 = .ok (.iload_n 3, 1) := by decide +kernel
theorem d4_5 : decode jdk_42_method_149_code 5 = .ok (.ifCond .ne 22, 3) := by decide +kernel
theorem d4_8 : decode jdk_42_method_149_code 8 = .ok (.aload_n 0, 1) := by decide +kernel
theorem d4_9 : decode jdk_42_method_149_code 9 = .ok (.ldc 7, 2) := by decide +kernel
theorem d4_11 : decode jdk_42_method_149_code 11 = .ok (.getfield 9, 3) := by decide +kernel
theorem d4_14 : decode jdk_42_method_149_code 14 = .ok (.putfield 9, 3) := by decide +kernel
theorem d4_17 : decode jdk_42_method_149_code 17 = .ok (.aload_n 0, 1) := by decide +kernel
theorem d4_18 : decode jdk_42_method_149_code 18 = .ok (.ldc 7, 2) := by decide +kernel
theorem d4_20 : decode jdk_42_method_149_code 20 = .ok (.getfield 15, 3) := by decide +kernel
theorem d4_23 : decode jdk_42_method_149_code 23 = .ok (.putfield 15, 3) := by decide +kernel
theorem d4_26 : decode jdk_42_method_149_code 26 = .ok (.return_, 1) := by decide +kernel
theorem pn_4 : plainName "java/lang/String" = true := by first | (simp [plainName, overriddenIn]; done) | decide +kernel
theorem ef_4 (m : MethodId) (x0 : Addr) (x1 : Addr) (x2 : Int32) (x3 : Int32) : entryFrame m #[(.ref x0), (.ref x1), (.int x2), (.int x3), .null] 6 = mkF m 0 #[.val (.ref x0), .val (.ref x1), .val (.int x2), .val (.int x3), .val .null, .unset] [] := by first | (simp [entryFrame, mkF, argsToLocals, Value.category]; done) | rfl
set_option maxRecDepth 65536 in
set_option maxHeartbeats 40000000 in
theorem rm4 (l : Launch) (Z : State) (a0 : Array Value) (hw : ∀ d ∈ tables_1, d.before a0 Z = true) (ob : Addr) (ar : Addr) (h0 : Heap) (n0 : Nat) (Z0 : n0 ≤ h0.size) (P0 : Exa Z h0 ob "java/lang/String") (P1 : Fld Z h0 ob "java/lang/String" "value" "[B" .null) (P2 : Fld Z h0 ob "java/lang/String" "coder" "B" (.int (0 : Int32))) (g_ob : n0 ≤ ob) (hkeep : ∀ (b : Addr) (cl : Cell), Z.heap[b]? = some cl → h0[b]? = some cl) (hh7 : Jvm.Lit.constHeld Z "java/lang/String" 7) (hcw : Jvm.Lit.compactW.before a0 Z = true) :
    OMetW l Z (⟨"java/lang/String", "<init>", "([CIILjava/lang/Void;)V"⟩ : MethodName) jdk_42_method_149_code 6 none ({ frames := 1, cells := 2, slots := 4, locals := 12 } : Room) #[(.ref ob), (.ref ar), (.int (0 : Int32)), (.int (0 : Int32)), .null] h0 (fun v h L => v = none ∧ Fr n0 L ∧ Keep h0 h [ob]) := by
  intro ws
  refine MetFree.of_bodySF (plainFor_of_name pn_4) hisR ?_
  intro p e s m args below meth c s₁ Bd hml0 hP hK
  obtain ⟨rfl, hZ, hh, hI⟩ := hP
  have hx := Bd.exec
  have hby := Bd.bytes
  have hml : c.maxLocals = 6 := hml0
  have hown : s.vm.findClass "java/lang/String" = some m.cls := findClass_of_methodNamed Bd.named
  have hnm := (name_of_methodNamed Bd.named Bd.method).1
  have hlk : meth.locks = false := Bd.notSynchronized
  have X0 : Stand p l e ({ frames := 1, cells := 2, slots := 4, locals := 12 } : Room) s m #[(.ref ob), (.ref ar), (.int (0 : Int32)), (.int (0 : Int32)), .null] below meth c s₁ [] 0 0 := Stand.of_body Bd
  have e0 : s₁.heap = h0 := by rw [← hh, Bd.state]; rfl
  have N0 := Fr.nil n0
  have K0 := Keep.refl h0 [ob]
  refine (?_ : OGo p.tables e below (OFinW s (fun v h L => v = none ∧ Fr n0 L ∧ Keep h0 h [ob]) 2 4) _)
  refine ogo (fun _ k => castTop (ef_4 m ob ar (0 : Int32) (0 : Int32)) k) ?_
  show OGo _ _ _ _ (s₁.setTop (mkF m 0 #[.val (.ref ob), .val (.ref ar), .val (.int (0 : Int32)), .val (.int (0 : Int32)), .val .null, .unset] []))
  refine ogo (fun _ k => XS.aloadN X0.here hx rfl (hb hby d4_0) rfl rfl k) ?_
  show OGo _ _ _ _ (s₁.setTop (mkF m 1 #[.val (.ref ob), .val (.ref ar), .val (.int (0 : Int32)), .val (.int (0 : Int32)), .val .null, .unset] [(.ref ob)]))
  obtain ⟨T_4_1, X_4_1, e_4_1, st_4_1⟩ := initO X0 hx hZ hown (hw _ (List.mem_of_getElem? (i := 28) rfl)) (hw _ (List.mem_of_getElem? (i := 29) rfl)) (hw _ (List.mem_of_getElem? (i := 30) rfl)) e0 (g := (mkF m 1 #[.val (.ref ob), .val (.ref ar), .val (.int (0 : Int32)), .val (.int (0 : Int32)), .val .null, .unset] [(.ref ob)])) rfl (by rw [hml]; rfl) rfl (hb hby d4_1) (by decide) (W := 0) (by show 2 * 0 + _ ≤ _; exact Nat.le_of_eq rfl) (by decide)
  refine ogo (fun _ k => st_4_1 _ k) ?_
  show OGo _ _ _ _ (T_4_1.setTop (mkF m 4 #[.val (.ref ob), .val (.ref ar), .val (.int (0 : Int32)), .val (.int (0 : Int32)), .val .null, .unset] []))
  refine ogo (fun _ k => XS.iloadN X_4_1.here hx rfl (hb hby d4_4) rfl k) ?_
  show OGo _ _ _ _ (T_4_1.setTop (mkF m 5 #[.val (.ref ob), .val (.ref ar), .val (.int (0 : Int32)), .val (.int (0 : Int32)), .val .null, .unset] [(.int (0 : Int32))]))
  refine ogo (fun _ k => XS.ifNo X_4_1.here hx rfl (hb hby d4_5) rfl ((if0 _ _).trans (teq (by decide : (0 : Int32) = (0 : Int32))).2) k) ?_
  show OGo _ _ _ _ (T_4_1.setTop (mkF m 8 #[.val (.ref ob), .val (.ref ar), .val (.int (0 : Int32)), .val (.int (0 : Int32)), .val .null, .unset] []))
  refine ogo (fun _ k => XS.aloadN X_4_1.here hx rfl (hb hby d4_8) rfl rfl k) ?_
  show OGo _ _ _ _ (T_4_1.setTop (mkF m 9 #[.val (.ref ob), .val (.ref ar), .val (.int (0 : Int32)), .val (.int (0 : Int32)), .val .null, .unset] [(.ref ob)]))
  obtain ⟨la_4_2, T_4_2, h_4_2, k_4_2, lb_4_2, kk_4_2, X_4_2, e_4_2, E_4_2, hS_4_2, Sz_4_2, hZ, hown, LE_4_2, LC_4_2, LV_4_2, LA_4_2, -, -, -, LL_4_2, -, st_4_2⟩ := ldcSVd (s := s) (vm0 := s.vm) X_4_1 hx hZ hown (hw _ (List.mem_of_getElem? (i := 49) rfl)) (own_wS hw) e_4_1 (osince s 0) (Nat.zero_le _) (Fr.nil _) (by rw [hh]; exact hkeep) hI (by simp) hh7 hcw (vs := []) (z := (0 : Int32)) ⟨by simp, rfl⟩ (by decide) rfl (g := (mkF m 9 #[.val (.ref ob), .val (.ref ar), .val (.int (0 : Int32)), .val (.int (0 : Int32)), .val .null, .unset] [(.ref ob)])) rfl (hb hby d4_9) (n := 0) (by decide) (by decide) (by decide) (by decide)
  have f_4_3 := P0.ext E_4_2
  have f_4_4 := P1.ext E_4_2
  have f_4_5 := P2.ext E_4_2
  have K_4_2 := K0.ext E_4_2
  have Z_4_2 : n0 ≤ h_4_2.size := Nat.le_trans Z0 E_4_2.1
  have neL : ob ≠ la_4_2 := Fld.ne f_4_4 LV_4_2 (by simp)
  obtain ⟨lc_4_2, N_4_2, X_4_2⟩ : ∃ L, Fr n0 L ∧ Stand p l e ({ frames := 1, cells := 2, slots := 4, locals := 12 } : Room) (s.setVm T_4_2.vm) m #[(.ref ob), (.ref ar), (.int (0 : Int32)), (.int (0 : Int32)), .null] below meth c T_4_2 L 2 4 := ⟨_, N0, X_4_2⟩
  refine ogo (fun _ k => st_4_2 _ k) ?_
  show OGo _ _ _ _ (T_4_2.setTop (mkF m 11 #[.val (.ref ob), .val (.ref ar), .val (.int (0 : Int32)), .val (.int (0 : Int32)), .val .null, .unset] [(.ref la_4_2), (.ref ob)]))
  obtain ⟨T_4_6, X_4_6, e_4_6, st_4_6⟩ := getF X_4_2 hx hZ hown (host := "") (Or.inl (hw _ (List.mem_of_getElem? (i := 45) rfl))) Via.refl e_4_2 LV_4_2 (g := (mkF m 11 #[.val (.ref ob), .val (.ref ar), .val (.int (0 : Int32)), .val (.int (0 : Int32)), .val .null, .unset] [(.ref la_4_2), (.ref ob)])) rfl rfl (hb hby d4_11)
  refine ogo (fun _ k => st_4_6 _ k) ?_
  show OGo _ _ _ _ (T_4_6.setTop (mkF m 14 #[.val (.ref ob), .val (.ref ar), .val (.int (0 : Int32)), .val (.int (0 : Int32)), .val .null, .unset] [(.ref lb_4_2), (.ref ob)]))
  obtain ⟨T_4_7, h_4_7, X_4_7, e_4_7, W_4_7, st_4_7⟩ := putF X_4_6 hx hZ hown (host := "") (Or.inl (hw _ (List.mem_of_getElem? (i := 45) rfl))) Via.refl e_4_6 f_4_4 f_4_3 (Or.inr ⟨(hw _ (List.mem_of_getElem? (i := 46) rfl)), rfl, hnm⟩) (hw _ (List.mem_of_getElem? (i := 18) rfl)) (ty := (.array .byte)) (by decide) rfl rfl (g := (mkF m 14 #[.val (.ref ob), .val (.ref ar), .val (.int (0 : Int32)), .val (.int (0 : Int32)), .val .null, .unset] [(.ref lb_4_2), (.ref ob)])) rfl rfl (hb hby d4_14)
  have K_4_7 := K_4_2.wr W_4_7 (Or.inl (List.mem_of_getElem? (i := 0) rfl))
  have f_4_8 := f_4_3.wr W_4_7
  have f_4_9 := f_4_4.same W_4_7
  have f_4_10 := f_4_5.other W_4_7 (Or.inr (slot_ne (Or.inr (hw _ (List.mem_of_getElem? (i := 44) rfl))) (Or.inr (hw _ (List.mem_of_getElem? (i := 46) rfl))) (by decide) (t := .byte) (t' := (.array .byte)) (by decide) (by decide)))
  have f_4_11 := LE_4_2.wr W_4_7
  have f_4_12 := LC_4_2.other W_4_7 (Or.inl (Ne.symm neL))
  have f_4_13 := LV_4_2.other W_4_7 (Or.inl (Ne.symm neL))
  have Z_4_7 : n0 ≤ h_4_7.size := Nat.le_trans Z_4_2 (Keep.of_wr W_4_7).1
  have Sz_4_7 := Nat.le_trans Sz_4_2 (Keep.of_wr W_4_7).1
  obtain ⟨lc_4_7, N_4_7, X_4_7⟩ : ∃ L, Fr n0 L ∧ Stand p l e ({ frames := 1, cells := 2, slots := 4, locals := 12 } : Room) (s.setVm T_4_2.vm) m #[(.ref ob), (.ref ar), (.int (0 : Int32)), (.int (0 : Int32)), .null] below meth c T_4_7 L 2 4 := ⟨_, Fr.snoc X_4_7 N_4_2 g_ob, X_4_7⟩
  refine ogo (fun _ k => st_4_7 _ k) ?_
  show OGo _ _ _ _ (T_4_7.setTop (mkF m 17 #[.val (.ref ob), .val (.ref ar), .val (.int (0 : Int32)), .val (.int (0 : Int32)), .val .null, .unset] []))
  refine ogo (fun _ k => XS.aloadN X_4_7.here hx rfl (hb hby d4_17) rfl rfl k) ?_
  show OGo _ _ _ _ (T_4_7.setTop (mkF m 18 #[.val (.ref ob), .val (.ref ar), .val (.int (0 : Int32)), .val (.int (0 : Int32)), .val .null, .unset] [(.ref ob)]))
  refine ogo (fun _ k => ldcAgain (s := s) (vm0 := T_4_2.vm) X_4_7 hx hZ hown (hw _ (List.mem_of_getElem? (i := 49) rfl)) LL_4_2 (g := (mkF m 18 #[.val (.ref ob), .val (.ref ar), .val (.int (0 : Int32)), .val (.int (0 : Int32)), .val .null, .unset] [(.ref ob)])) rfl (hb hby d4_18) _ k) ?_
  show OGo _ _ _ _ (T_4_7.setTop (mkF m 20 #[.val (.ref ob), .val (.ref ar), .val (.int (0 : Int32)), .val (.int (0 : Int32)), .val .null, .unset] [(.ref la_4_2), (.ref ob)]))
  obtain ⟨T_4_14, X_4_14, e_4_14, st_4_14⟩ := getF X_4_7 hx hZ hown (host := "") (Or.inl (hw _ (List.mem_of_getElem? (i := 43) rfl))) Via.refl e_4_7 f_4_12 (g := (mkF m 20 #[.val (.ref ob), .val (.ref ar), .val (.int (0 : Int32)), .val (.int (0 : Int32)), .val .null, .unset] [(.ref la_4_2), (.ref ob)])) rfl rfl (hb hby d4_20)
  refine ogo (fun _ k => st_4_14 _ k) ?_
  show OGo _ _ _ _ (T_4_14.setTop (mkF m 23 #[.val (.ref ob), .val (.ref ar), .val (.int (0 : Int32)), .val (.int (0 : Int32)), .val .null, .unset] [(.int (0 : Int32)), (.ref ob)]))
  obtain ⟨T_4_15, h_4_15, X_4_15, e_4_15, W_4_15, st_4_15⟩ := putFN X_4_14 hx hZ hown (hw _ (List.mem_of_getElem? (i := 43) rfl)) Via.refl e_4_14 f_4_10 f_4_8 (Or.inr ⟨(hw _ (List.mem_of_getElem? (i := 44) rfl)), rfl, hnm⟩) (hw _ (List.mem_of_getElem? (i := 18) rfl)) (ty := .byte) (v' := (.int (0 : Int32))) (by decide) rfl rfl (g := (mkF m 23 #[.val (.ref ob), .val (.ref ar), .val (.int (0 : Int32)), .val (.int (0 : Int32)), .val .null, .unset] [(.int (0 : Int32)), (.ref ob)])) rfl rfl (hb hby d4_23)
  have K_4_15 := K_4_7.wr W_4_15 (Or.inl (List.mem_of_getElem? (i := 0) rfl))
  have f_4_16 := f_4_8.wr W_4_15
  have f_4_17 := f_4_9.other W_4_15 (Or.inr (slot_ne (Or.inr (hw _ (List.mem_of_getElem? (i := 46) rfl))) (Or.inr (hw _ (List.mem_of_getElem? (i := 44) rfl))) (by decide) (t := (.array .byte)) (t' := .byte) (by decide) (by decide)))
  have f_4_18 := f_4_10.same W_4_15
  have f_4_19 := f_4_11.wr W_4_15
  have f_4_20 := f_4_12.other W_4_15 (Or.inl (Ne.symm neL))
  have f_4_21 := f_4_13.other W_4_15 (Or.inl (Ne.symm neL))
  have Z_4_15 : n0 ≤ h_4_15.size := Nat.le_trans Z_4_7 (Keep.of_wr W_4_15).1
  have Sz_4_15 := Nat.le_trans Sz_4_7 (Keep.of_wr W_4_15).1
  obtain ⟨lc_4_15, N_4_15, X_4_15⟩ : ∃ L, Fr n0 L ∧ Stand p l e ({ frames := 1, cells := 2, slots := 4, locals := 12 } : Room) (s.setVm T_4_2.vm) m #[(.ref ob), (.ref ar), (.int (0 : Int32)), (.int (0 : Int32)), .null] below meth c T_4_15 L 2 4 := ⟨_, Fr.snoc X_4_15 N_4_7 g_ob, X_4_15⟩
  refine ogo (fun _ k => st_4_15 _ k) ?_
  show OGo _ _ _ _ (T_4_15.setTop (mkF m 26 #[.val (.ref ob), .val (.ref ar), .val (.int (0 : Int32)), .val (.int (0 : Int32)), .val .null, .unset] []))
  exact oretVW (s := s) X_4_15 hS_4_2 (by rw [e_4_15]; exact Sz_4_15) hx hlk Bd.returns (hb hby d4_26) (by decide) (by decide) (by rw [e_4_15]; exact ⟨rfl, N_4_15, K_4_15⟩)
theorem d3_0 : decode jdk_42_method_3_code 0 = .ok (.aload_n 0, 1) := by decide +kernel
theorem d3_1 : decode jdk_42_method_3_code 1 = .ok (.aload_n 1, 1) := by decide +kernel
theorem d3_2 : decode jdk_42_method_3_code 2 = .ok (.iconst 0, 1) := by decide +kernel
theorem d3_3 : decode jdk_42_method_3_code 3 = .ok (.aload_n 1, 1) := by decide +kernel
theorem d3_4 : decode jdk_42_method_3_code 4 = .ok (.arraylength, 1) := by decide +kernel
theorem d3_5 : decode jdk_42_method_3_code 5 = .ok (.aconst_null, 1) := by decide +kernel
theorem d3_6 : decode jdk_42_method_3_code 6 = .ok (.invokespecial 27, 3) := by decide +kernel
theorem d3_9 : decode jdk_42_method_3_code 9 = .ok (.return_, 1) := by decide +kernel
theorem pn_3 : plainName "java/lang/String" = true := by first | (simp [plainName, overriddenIn]; done) | decide +kernel
theorem ef_3 (m : MethodId) (x0 : Addr) (x1 : Addr) : entryFrame m #[(.ref x0), (.ref x1)] 2 = mkF m 0 #[.val (.ref x0), .val (.ref x1)] [] := by first | (simp [entryFrame, mkF, argsToLocals, Value.category]; done) | rfl
theorem pd___CIILjava_lang_Void__V : parseMethodDescriptor "([CIILjava/lang/Void;)V" = some ⟨[(.array .char), .int, .int, (.object "java/lang/Void")], none⟩ := by decide +kernel
set_option maxRecDepth 65536 in
set_option maxHeartbeats 40000000 in
theorem rm3 (l : Launch) (Z : State) (a0 : Array Value) (hw : ∀ d ∈ tables_1, d.before a0 Z = true) (ob : Addr) (ar : Addr) (h0 : Heap) (n0 : Nat) (Z0 : n0 ≤ h0.size) (P0 : Exa Z h0 ob "java/lang/String") (P1 : Fld Z h0 ob "java/lang/String" "value" "[B" .null) (P2 : Fld Z h0 ob "java/lang/String" "coder" "B" (.int (0 : Int32))) (g_ob : n0 ≤ ob) (hkeep : ∀ (b : Addr) (cl : Cell), Z.heap[b]? = some cl → h0[b]? = some cl) (hh7 : Jvm.Lit.constHeld Z "java/lang/String" 7) (hcw : Jvm.Lit.compactW.before a0 Z = true) (P3 : OAr Z h0 ar .char 0 (fun i => .int ((fun _ : Nat => (0 : Int32)) i))) (ne_ob_ar : ob ≠ ar) :
    OMetW l Z (⟨"java/lang/String", "<init>", "([C)V"⟩ : MethodName) jdk_42_method_3_code 2 none ({ frames := 2, cells := 2, slots := 4, locals := 29 } : Room) #[(.ref ob), (.ref ar)] h0 (fun v h L => v = none ∧ Fr n0 L ∧ Keep h0 h [ob]) := by
  intro ws
  refine MetFree.of_bodySF (plainFor_of_name pn_3) hisR ?_
  intro p e s m args below meth c s₁ Bd hml0 hP hK
  obtain ⟨rfl, hZ, hh, hI⟩ := hP
  have hx := Bd.exec
  have hby := Bd.bytes
  have hml : c.maxLocals = 2 := hml0
  have hown : s.vm.findClass "java/lang/String" = some m.cls := findClass_of_methodNamed Bd.named
  have hnm := (name_of_methodNamed Bd.named Bd.method).1
  have hlk : meth.locks = false := Bd.notSynchronized
  have X0 : Stand p l e ({ frames := 2, cells := 2, slots := 4, locals := 29 } : Room) s m #[(.ref ob), (.ref ar)] below meth c s₁ [] 0 0 := Stand.of_body Bd
  have e0 : s₁.heap = h0 := by rw [← hh, Bd.state]; rfl
  have N0 := Fr.nil n0
  have K0 := Keep.refl h0 [ob]
  refine (?_ : OGo p.tables e below (OFinW s (fun v h L => v = none ∧ Fr n0 L ∧ Keep h0 h [ob]) 2 4) _)
  refine ogo (fun _ k => castTop (ef_3 m ob ar) k) ?_
  show OGo _ _ _ _ (s₁.setTop (mkF m 0 #[.val (.ref ob), .val (.ref ar)] []))
  refine ogo (fun _ k => XS.aloadN X0.here hx rfl (hb hby d3_0) rfl rfl k) ?_
  show OGo _ _ _ _ (s₁.setTop (mkF m 1 #[.val (.ref ob), .val (.ref ar)] [(.ref ob)]))
  refine ogo (fun _ k => XS.aloadN X0.here hx rfl (hb hby d3_1) rfl rfl k) ?_
  show OGo _ _ _ _ (s₁.setTop (mkF m 2 #[.val (.ref ob), .val (.ref ar)] [(.ref ar), (.ref ob)]))
  refine ogo (fun _ k => XS.iconst X0.here hx rfl (hb hby d3_2) k) ?_
  show OGo _ _ _ _ (s₁.setTop (mkF m 3 #[.val (.ref ob), .val (.ref ar)] [(.int (0 : Int32)), (.ref ar), (.ref ob)]))
  refine ogo (fun _ k => XS.aloadN X0.here hx rfl (hb hby d3_3) rfl rfl k) ?_
  show OGo _ _ _ _ (s₁.setTop (mkF m 4 #[.val (.ref ob), .val (.ref ar)] [(.ref ar), (.int (0 : Int32)), (.ref ar), (.ref ob)]))
  refine ogo (fun _ k => oalen X0 hx hZ e0 P3 (g := (mkF m 4 #[.val (.ref ob), .val (.ref ar)] [(.ref ar), (.int (0 : Int32)), (.ref ar), (.ref ob)])) rfl rfl (hb hby d3_4) _ k) ?_
  show OGo _ _ _ _ (s₁.setTop (mkF m 5 #[.val (.ref ob), .val (.ref ar)] [(.int (0 : Int32)), (.int (0 : Int32)), (.ref ar), (.ref ob)]))
  refine ogo (fun _ k => XS.aconstNull X0.here hx rfl (hb hby d3_5) k) ?_
  show OGo _ _ _ _ (s₁.setTop (mkF m 6 #[.val (.ref ob), .val (.ref ar)] [.null, (.int (0 : Int32)), (.int (0 : Int32)), (.ref ar), (.ref ob)]))
  obtain ⟨v_3_1, T_3_1, h_3_1, L_3_1, e_3_1, hQ_3_1, X_3_1, hS_3_1, hZ, hown, st_3_1⟩ := ospecW X0 hx hZ hI e0 (rm4 l Z a0 hw ob ar h0 n0 Z0 P0 P1 P2 g_ob hkeep hh7 hcw) rfl hown (hw _ (List.mem_of_getElem? (i := 24) rfl)) (hw _ (List.mem_of_getElem? (i := 25) rfl)) (hw _ (List.mem_of_getElem? (i := 19) rfl)) (hw _ (List.mem_of_getElem? (i := 27) rfl)) (by decide) (b := ob) (g := (mkF m 6 #[.val (.ref ob), .val (.ref ar)] [.null, (.int (0 : Int32)), (.int (0 : Int32)), (.ref ar), (.ref ob)])) rfl (by rw [hml]; rfl) [(.ref ar), (.int (0 : Int32)), (.int (0 : Int32)), .null] [] rfl (lenOf pd___CIILjava_lang_Void__V rfl) rfl (hb hby d3_6) 0 (by show 2 * 0 + _ ≤ _; exact Nat.le_of_eq rfl) (by decide) (by decide) (by decide) (by decide)
  obtain ⟨rfl, Nq_3_1, Kc_3_1⟩ := hQ_3_1
  have f_3_2 := P0.keep Kc_3_1
  have f_3_3 := P3.keep Kc_3_1 (ninS (Ne.symm ne_ob_ar) nin0)
  have Z_3_1 : n0 ≤ h_3_1.size := Nat.le_trans Z0 Kc_3_1.1
  have K_3_1 := K0.trans Kc_3_1 (allS (Or.inl (List.mem_of_getElem? (i := 0) rfl)) all0)
  obtain ⟨lc_3_1, N_3_1, X_3_1⟩ : ∃ L, Fr n0 L ∧ Stand p l e ({ frames := 2, cells := 2, slots := 4, locals := 29 } : Room) (s.setVm T_3_1.vm) m #[(.ref ob), (.ref ar)] below meth c T_3_1 L 2 4 := ⟨_, Fr.app N0 Nq_3_1, X_3_1⟩
  refine ogo (fun _ k => st_3_1 _ k) ?_
  show OGo _ _ _ _ (T_3_1.setTop (mkF m 9 #[.val (.ref ob), .val (.ref ar)] []))
  exact oretVW (s := s) X_3_1 hS_3_1 (by rw [e_3_1]; exact (Nat.le_refl _)) hx hlk Bd.returns (hb hby d3_9) (by decide) (by decide) (by rw [e_3_1]; exact ⟨rfl, N_3_1, K_3_1⟩)
theorem own_ch {w y : Int32} (h : w = (y &&& (255 : Int32)).toUInt32.toUInt16.toUInt32.toInt32) : ¬ w.toUInt32.toUInt16.toUInt32.toInt32 < 0 ∧ ¬ (255 : Int32) < w.toUInt32.toUInt16.toUInt32.toInt32 := by
  rw [h, i2c_mask, i2c_mask]
  have c := c_mask y (255 : Int32) 8 (by decide) (by decide)
  rw [Int32.lt_iff_toInt_lt, Int32.lt_iff_toInt_lt]
  have o0 : (0 : Int32).toInt = 0 := rfl
  have o1 : (255 : Int32).toInt = 255 := rfl
  omega
theorem d2_0 : decode method_2_code 0 = .ok (.iload_n 1, 1) := by decide +kernel
theorem d2_1 : decode method_2_code 1 = .ok (.sipush 255, 3) := by decide +kernel
theorem d2_4 : decode method_2_code 4 = .ok (.iand, 1) := by decide +kernel
theorem d2_5 : decode method_2_code 5 = .ok (.i2c, 1) := by decide +kernel
theorem d2_6 : decode method_2_code 6 = .ok (.istore_n 2, 1) := by decide +kernel
theorem d2_7 : decode method_2_code 7 = .ok (.iload_n 1, 1) := by decide +kernel
theorem d2_8 : decode method_2_code 8 = .ok (.bipush 8, 2) := by decide +kernel
theorem d2_10 : decode method_2_code 10 = .ok (.iushr, 1) := by decide +kernel
theorem d2_11 : decode method_2_code 11 = .ok (.sipush 255, 3) := by decide +kernel
theorem d2_14 : decode method_2_code 14 = .ok (.iand, 1) := by decide +kernel
theorem d2_15 : decode method_2_code 15 = .ok (.i2c, 1) := by decide +kernel
theorem d2_16 : decode method_2_code 16 = .ok (.istore_n 3, 1) := by decide +kernel
theorem d2_17 : decode method_2_code 17 = .ok (.iload_n 1, 1) := by decide +kernel
theorem d2_18 : decode method_2_code 18 = .ok (.bipush 16, 2) := by decide +kernel
theorem d2_20 : decode method_2_code 20 = .ok (.iushr, 1) := by decide +kernel
theorem d2_21 : decode method_2_code 21 = .ok (.sipush 255, 3) := by decide +kernel
theorem d2_24 : decode method_2_code 24 = .ok (.iand, 1) := by decide +kernel
theorem d2_25 : decode method_2_code 25 = .ok (.i2c, 1) := by decide +kernel
theorem d2_26 : decode method_2_code 26 = .ok (.istore 4, 2) := by decide +kernel
theorem d2_28 : decode method_2_code 28 = .ok (.iload_n 0, 1) := by decide +kernel
theorem d2_29 : decode method_2_code 29 = .ok (.ifCond .ne 14, 3) := by decide +kernel
theorem d2_32 : decode method_2_code 32 = .ok (.new 7, 3) := by decide +kernel
theorem d2_35 : decode method_2_code 35 = .ok (.dup, 1) := by decide +kernel
theorem d2_36 : decode method_2_code 36 = .ok (.iconst 0, 1) := by decide +kernel
theorem d2_37 : decode method_2_code 37 = .ok (.newarray .char, 2) := by decide +kernel
theorem d2_39 : decode method_2_code 39 = .ok (.invokespecial 9, 3) := by decide +kernel
theorem d2_42 : decode method_2_code 42 = .ok (.areturn, 1) := by decide +kernel
theorem d2_43 : decode method_2_code 43 = .ok (.iload_n 0, 1) := by decide +kernel
theorem d2_44 : decode method_2_code 44 = .ok (.iconst 1, 1) := by decide +kernel
theorem d2_45 : decode method_2_code 45 = .ok (.if_icmp .ne 18, 3) := by decide +kernel
theorem d2_48 : decode method_2_code 48 = .ok (.new 7, 3) := by decide +kernel
theorem d2_51 : decode method_2_code 51 = .ok (.dup, 1) := by decide +kernel
theorem d2_52 : decode method_2_code 52 = .ok (.iconst 1, 1) := by decide +kernel
theorem d2_53 : decode method_2_code 53 = .ok (.newarray .char, 2) := by decide +kernel
theorem d2_55 : decode method_2_code 55 = .ok (.dup, 1) := by decide +kernel
theorem d2_56 : decode method_2_code 56 = .ok (.iconst 0, 1) := by decide +kernel
theorem d2_57 : decode method_2_code 57 = .ok (.iload_n 2, 1) := by decide +kernel
theorem d2_58 : decode method_2_code 58 = .ok (.castore, 1) := by decide +kernel
theorem d2_59 : decode method_2_code 59 = .ok (.invokespecial 9, 3) := by decide +kernel
theorem d2_62 : decode method_2_code 62 = .ok (.areturn, 1) := by decide +kernel
theorem d2_63 : decode method_2_code 63 = .ok (.iload_n 0, 1) := by decide +kernel
theorem d2_64 : decode method_2_code 64 = .ok (.iconst 2, 1) := by decide +kernel
theorem d2_65 : decode method_2_code 65 = .ok (.if_icmp .ne 22, 3) := by decide +kernel
theorem d2_68 : decode method_2_code 68 = .ok (.new 7, 3) := by decide +kernel
theorem d2_71 : decode method_2_code 71 = .ok (.dup, 1) := by decide +kernel
theorem d2_72 : decode method_2_code 72 = .ok (.iconst 2, 1) := by decide +kernel
theorem d2_73 : decode method_2_code 73 = .ok (.newarray .char, 2) := by decide +kernel
theorem d2_75 : decode method_2_code 75 = .ok (.dup, 1) := by decide +kernel
theorem d2_76 : decode method_2_code 76 = .ok (.iconst 0, 1) := by decide +kernel
theorem d2_77 : decode method_2_code 77 = .ok (.iload_n 2, 1) := by decide +kernel
theorem d2_78 : decode method_2_code 78 = .ok (.castore, 1) := by decide +kernel
theorem d2_79 : decode method_2_code 79 = .ok (.dup, 1) := by decide +kernel
theorem d2_80 : decode method_2_code 80 = .ok (.iconst 1, 1) := by decide +kernel
theorem d2_81 : decode method_2_code 81 = .ok (.iload_n 3, 1) := by decide +kernel
theorem d2_82 : decode method_2_code 82 = .ok (.castore, 1) := by decide +kernel
theorem d2_83 : decode method_2_code 83 = .ok (.invokespecial 9, 3) := by decide +kernel
theorem d2_86 : decode method_2_code 86 = .ok (.areturn, 1) := by decide +kernel
theorem d2_87 : decode method_2_code 87 = .ok (.new 7, 3) := by decide +kernel
theorem d2_90 : decode method_2_code 90 = .ok (.dup, 1) := by decide +kernel
theorem d2_91 : decode method_2_code 91 = .ok (.iconst 3, 1) := by decide +kernel
theorem d2_92 : decode method_2_code 92 = .ok (.newarray .char, 2) := by decide +kernel
theorem d2_94 : decode method_2_code 94 = .ok (.dup, 1) := by decide +kernel
theorem d2_95 : decode method_2_code 95 = .ok (.iconst 0, 1) := by decide +kernel
theorem d2_96 : decode method_2_code 96 = .ok (.iload_n 2, 1) := by decide +kernel
theorem d2_97 : decode method_2_code 97 = .ok (.castore, 1) := by decide +kernel
theorem d2_98 : decode method_2_code 98 = .ok (.dup, 1) := by decide +kernel
theorem d2_99 : decode method_2_code 99 = .ok (.iconst 1, 1) := by decide +kernel
theorem d2_100 : decode method_2_code 100 = .ok (.iload_n 3, 1) := by decide +kernel
theorem d2_101 : decode method_2_code 101 = .ok (.castore, 1) := by decide +kernel
theorem d2_102 : decode method_2_code 102 = .ok (.dup, 1) := by decide +kernel
theorem d2_103 : decode method_2_code 103 = .ok (.iconst 2, 1) := by decide +kernel
theorem d2_104 : decode method_2_code 104 = .ok (.iload 4, 2) := by decide +kernel
theorem d2_106 : decode method_2_code 106 = .ok (.castore, 1) := by decide +kernel
theorem d2_107 : decode method_2_code 107 = .ok (.invokespecial 9, 3) := by decide +kernel
theorem d2_110 : decode method_2_code 110 = .ok (.areturn, 1) := by decide +kernel
theorem pn_2 : plainName "com/example/bouncr/bouncr/KeySecondPinLaw" = true := by first | (simp [plainName, overriddenIn]; done) | decide +kernel
theorem ef_2 (m : MethodId) (x0 : Int32) (x1 : Int32) : entryFrame m #[(.int x0), (.int x1)] 5 = mkF m 0 #[.val (.int x0), .val (.int x1), .unset, .unset, .unset] [] := by first | (simp [entryFrame, mkF, argsToLocals, Value.category]; done) | rfl
theorem pd___C_V : parseMethodDescriptor "([C)V" = some ⟨[(.array .char)], none⟩ := by decide +kernel
set_option maxRecDepth 65536 in
set_option maxHeartbeats 40000000 in
theorem rm2 (l : Launch) (Z : State) (a0 : Array Value) (hw : ∀ d ∈ tables_1, d.before a0 Z = true) (q1 : Int32) (q2 : Int32) (z : Int32) (h0 : Heap) (n0 : Nat) (Z0 : n0 ≤ h0.size) (S0 : Sta Z h0 "java/lang/String" "COMPACT_STRINGS" "Z" (.int z)) (hz : ¬ z = 0) (hkeep : ∀ (b : Addr) (cl : Cell), Z.heap[b]? = some cl → h0[b]? = some cl) (hh7 : Jvm.Lit.constHeld Z "java/lang/String" 7) (hcw : Jvm.Lit.compactW.before a0 Z = true) :
    OMetW l Z (⟨"com/example/bouncr/bouncr/KeySecondPinLaw", "build", "(II)Ljava/lang/String;"⟩ : MethodName) method_2_code 5 (some (.object "java/lang/String")) ({ frames := 4, cells := 4, slots := 10, locals := 66 } : Room) #[(.int q1), (.int q2)] h0 (fun v h L => ∃ r, v = some (.ref r) ∧ Fr n0 L ∧ Keep h0 h [] ∧ Exa Z h r "java/lang/String") := by
  intro ws
  refine MetFree.of_bodySF (plainFor_of_name pn_2) hisR ?_
  intro p e s m args below meth c s₁ Bd hml0 hP hK
  obtain ⟨rfl, hZ, hh, hI⟩ := hP
  have hx := Bd.exec
  have hby := Bd.bytes
  have hml : c.maxLocals = 5 := hml0
  have hown : s.vm.findClass "com/example/bouncr/bouncr/KeySecondPinLaw" = some m.cls := findClass_of_methodNamed Bd.named
  have hnm := (name_of_methodNamed Bd.named Bd.method).1
  have hlk : meth.locks = false := Bd.notSynchronized
  have X0 : Stand p l e ({ frames := 4, cells := 4, slots := 10, locals := 66 } : Room) s m #[(.int q1), (.int q2)] below meth c s₁ [] 0 0 := Stand.of_body Bd
  have e0 : s₁.heap = h0 := by rw [← hh, Bd.state]; rfl
  have N0 := Fr.nil n0
  have K0 := Keep.refl h0 []
  have hws : ∀ d ∈ StrChars.Road.words, d.before a0 Z = true := fun d hd => hw d ((by decide +kernel : ∀ d ∈ StrChars.Road.words, d ∈ tables_1) d hd)
  refine (?_ : OGo p.tables e below (OFinW s (fun v h L => ∃ r, v = some (.ref r) ∧ Fr n0 L ∧ Keep h0 h [] ∧ Exa Z h r "java/lang/String") 4 10) _)
  refine ogo (fun _ k => castTop (ef_2 m q1 q2) k) ?_
  show OGo _ _ _ _ (s₁.setTop (mkF m 0 #[.val (.int q1), .val (.int q2), .unset, .unset, .unset] []))
  refine ogo (fun _ k => XS.iloadN X0.here hx rfl (hb hby d2_0) rfl k) ?_
  show OGo _ _ _ _ (s₁.setTop (mkF m 1 #[.val (.int q1), .val (.int q2), .unset, .unset, .unset] [(.int q2)]))
  refine ogo (fun _ k => XS.sipush X0.here hx rfl (hb hby d2_1) k) ?_
  show OGo _ _ _ _ (s₁.setTop (mkF m 4 #[.val (.int q1), .val (.int q2), .unset, .unset, .unset] [(.int (255 : Int32)), (.int q2)]))
  refine ogo (fun _ k => XS.iand X0.here hx rfl (hb hby d2_4) rfl k) ?_
  show OGo _ _ _ _ (s₁.setTop (mkF m 5 #[.val (.int q1), .val (.int q2), .unset, .unset, .unset] [(.int (q2 &&& (255 : Int32)))]))
  refine ogo (fun _ k => XS.i2c X0.here hx rfl (hb hby d2_5) rfl k) ?_
  show OGo _ _ _ _ (s₁.setTop (mkF m 6 #[.val (.int q1), .val (.int q2), .unset, .unset, .unset] [(.int ((q2 &&& (255 : Int32)).toUInt32.toUInt16.toUInt32.toInt32))]))
  suffices Nw_2_1 : ∀ w_2_1 : Int32, w_2_1 = ((q2 &&& (255 : Int32)).toUInt32.toUInt16.toUInt32.toInt32) → OGo p.tables e below (OFinW s (fun v h L => ∃ r, v = some (.ref r) ∧ Fr n0 L ∧ Keep h0 h [] ∧ Exa Z h r "java/lang/String") 4 10) (s₁.setTop (mkF m 6 #[.val (.int q1), .val (.int q2), .unset, .unset, .unset] [(.int w_2_1)])) from Nw_2_1 _ rfl
  intro w_2_1 hw_2_1
  refine ogo (fun _ k => XS.istoreN X0.here hx rfl (hb hby d2_6) rfl (l' := #[.val (.int q1), .val (.int q2), .val (.int w_2_1), .unset, .unset]) rfl k) ?_
  show OGo _ _ _ _ (s₁.setTop (mkF m 7 #[.val (.int q1), .val (.int q2), .val (.int w_2_1), .unset, .unset] []))
  refine ogo (fun _ k => XS.iloadN X0.here hx rfl (hb hby d2_7) rfl k) ?_
  show OGo _ _ _ _ (s₁.setTop (mkF m 8 #[.val (.int q1), .val (.int q2), .val (.int w_2_1), .unset, .unset] [(.int q2)]))
  refine ogo (fun _ k => XS.bipush X0.here hx rfl (hb hby d2_8) k) ?_
  show OGo _ _ _ _ (s₁.setTop (mkF m 10 #[.val (.int q1), .val (.int q2), .val (.int w_2_1), .unset, .unset] [(.int (8 : Int32)), (.int q2)]))
  refine ogo (fun _ k => XS.iushr X0.here hx rfl (hb hby d2_10) rfl k) ?_
  show OGo _ _ _ _ (s₁.setTop (mkF m 11 #[.val (.int q1), .val (.int q2), .val (.int w_2_1), .unset, .unset] [(.int ((q2.toUInt32 >>> ((8 : Int32) &&& 31).toUInt32).toInt32))]))
  refine ogo (fun _ k => XS.sipush X0.here hx rfl (hb hby d2_11) k) ?_
  show OGo _ _ _ _ (s₁.setTop (mkF m 14 #[.val (.int q1), .val (.int q2), .val (.int w_2_1), .unset, .unset] [(.int (255 : Int32)), (.int ((q2.toUInt32 >>> ((8 : Int32) &&& 31).toUInt32).toInt32))]))
  refine ogo (fun _ k => XS.iand X0.here hx rfl (hb hby d2_14) rfl k) ?_
  show OGo _ _ _ _ (s₁.setTop (mkF m 15 #[.val (.int q1), .val (.int q2), .val (.int w_2_1), .unset, .unset] [(.int (((q2.toUInt32 >>> ((8 : Int32) &&& 31).toUInt32).toInt32) &&& (255 : Int32)))]))
  refine ogo (fun _ k => XS.i2c X0.here hx rfl (hb hby d2_15) rfl k) ?_
  show OGo _ _ _ _ (s₁.setTop (mkF m 16 #[.val (.int q1), .val (.int q2), .val (.int w_2_1), .unset, .unset] [(.int ((((q2.toUInt32 >>> ((8 : Int32) &&& 31).toUInt32).toInt32) &&& (255 : Int32)).toUInt32.toUInt16.toUInt32.toInt32))]))
  suffices Nw_2_2 : ∀ w_2_2 : Int32, w_2_2 = ((((q2.toUInt32 >>> ((8 : Int32) &&& 31).toUInt32).toInt32) &&& (255 : Int32)).toUInt32.toUInt16.toUInt32.toInt32) → OGo p.tables e below (OFinW s (fun v h L => ∃ r, v = some (.ref r) ∧ Fr n0 L ∧ Keep h0 h [] ∧ Exa Z h r "java/lang/String") 4 10) (s₁.setTop (mkF m 16 #[.val (.int q1), .val (.int q2), .val (.int w_2_1), .unset, .unset] [(.int w_2_2)])) from Nw_2_2 _ rfl
  intro w_2_2 hw_2_2
  refine ogo (fun _ k => XS.istoreN X0.here hx rfl (hb hby d2_16) rfl (l' := #[.val (.int q1), .val (.int q2), .val (.int w_2_1), .val (.int w_2_2), .unset]) rfl k) ?_
  show OGo _ _ _ _ (s₁.setTop (mkF m 17 #[.val (.int q1), .val (.int q2), .val (.int w_2_1), .val (.int w_2_2), .unset] []))
  refine ogo (fun _ k => XS.iloadN X0.here hx rfl (hb hby d2_17) rfl k) ?_
  show OGo _ _ _ _ (s₁.setTop (mkF m 18 #[.val (.int q1), .val (.int q2), .val (.int w_2_1), .val (.int w_2_2), .unset] [(.int q2)]))
  refine ogo (fun _ k => XS.bipush X0.here hx rfl (hb hby d2_18) k) ?_
  show OGo _ _ _ _ (s₁.setTop (mkF m 20 #[.val (.int q1), .val (.int q2), .val (.int w_2_1), .val (.int w_2_2), .unset] [(.int (16 : Int32)), (.int q2)]))
  refine ogo (fun _ k => XS.iushr X0.here hx rfl (hb hby d2_20) rfl k) ?_
  show OGo _ _ _ _ (s₁.setTop (mkF m 21 #[.val (.int q1), .val (.int q2), .val (.int w_2_1), .val (.int w_2_2), .unset] [(.int ((q2.toUInt32 >>> ((16 : Int32) &&& 31).toUInt32).toInt32))]))
  refine ogo (fun _ k => XS.sipush X0.here hx rfl (hb hby d2_21) k) ?_
  show OGo _ _ _ _ (s₁.setTop (mkF m 24 #[.val (.int q1), .val (.int q2), .val (.int w_2_1), .val (.int w_2_2), .unset] [(.int (255 : Int32)), (.int ((q2.toUInt32 >>> ((16 : Int32) &&& 31).toUInt32).toInt32))]))
  refine ogo (fun _ k => XS.iand X0.here hx rfl (hb hby d2_24) rfl k) ?_
  show OGo _ _ _ _ (s₁.setTop (mkF m 25 #[.val (.int q1), .val (.int q2), .val (.int w_2_1), .val (.int w_2_2), .unset] [(.int (((q2.toUInt32 >>> ((16 : Int32) &&& 31).toUInt32).toInt32) &&& (255 : Int32)))]))
  refine ogo (fun _ k => XS.i2c X0.here hx rfl (hb hby d2_25) rfl k) ?_
  show OGo _ _ _ _ (s₁.setTop (mkF m 26 #[.val (.int q1), .val (.int q2), .val (.int w_2_1), .val (.int w_2_2), .unset] [(.int ((((q2.toUInt32 >>> ((16 : Int32) &&& 31).toUInt32).toInt32) &&& (255 : Int32)).toUInt32.toUInt16.toUInt32.toInt32))]))
  suffices Nw_2_3 : ∀ w_2_3 : Int32, w_2_3 = ((((q2.toUInt32 >>> ((16 : Int32) &&& 31).toUInt32).toInt32) &&& (255 : Int32)).toUInt32.toUInt16.toUInt32.toInt32) → OGo p.tables e below (OFinW s (fun v h L => ∃ r, v = some (.ref r) ∧ Fr n0 L ∧ Keep h0 h [] ∧ Exa Z h r "java/lang/String") 4 10) (s₁.setTop (mkF m 26 #[.val (.int q1), .val (.int q2), .val (.int w_2_1), .val (.int w_2_2), .unset] [(.int w_2_3)])) from Nw_2_3 _ rfl
  intro w_2_3 hw_2_3
  refine ogo (fun _ k => XS.istore X0.here hx rfl (hb hby d2_26) rfl (l' := #[.val (.int q1), .val (.int q2), .val (.int w_2_1), .val (.int w_2_2), .val (.int w_2_3)]) rfl k) ?_
  show OGo _ _ _ _ (s₁.setTop (mkF m 28 #[.val (.int q1), .val (.int q2), .val (.int w_2_1), .val (.int w_2_2), .val (.int w_2_3)] []))
  refine ogo (fun _ k => XS.iloadN X0.here hx rfl (hb hby d2_28) rfl k) ?_
  show OGo _ _ _ _ (s₁.setTop (mkF m 29 #[.val (.int q1), .val (.int q2), .val (.int w_2_1), .val (.int w_2_2), .val (.int w_2_3)] [(.int q1)]))
  by_cases hc_2_4 : q1 = (0 : Int32)
  · refine ogo (fun _ k => XS.ifNo X0.here hx rfl (hb hby d2_29) rfl ((if0 _ _).trans (teq hc_2_4).2) k) ?_
    show OGo _ _ _ _ (s₁.setTop (mkF m 32 #[.val (.int q1), .val (.int q2), .val (.int w_2_1), .val (.int w_2_2), .val (.int w_2_3)] []))
    obtain ⟨T_2_5, h_2_5, X_2_5, e_2_5, E_2_5, A_2_5, D_2_5, -, st_2_5⟩ := newO X0 hx hZ hown (hw _ (List.mem_of_getElem? (i := 17) rfl)) (hw _ (List.mem_of_getElem? (i := 18) rfl)) (hw _ (List.mem_of_getElem? (i := 19) rfl)) e0 (g := (mkF m 32 #[.val (.int q1), .val (.int q2), .val (.int w_2_1), .val (.int w_2_2), .val (.int w_2_3)] [])) rfl (hb hby d2_32) (by decide) (by decide)
    obtain ⟨b_2_5, g_2_5⟩ : ∃ z, z = h0.size := ⟨_, rfl⟩
    rw [← g_2_5] at A_2_5 D_2_5 st_2_5
    have g_b_2_5 : n0 ≤ b_2_5 := Nat.le_trans Z0 (Nat.le_of_eq g_2_5.symm)
    have sz_b_2_5 : h0.size ≤ b_2_5 := Nat.le_trans K0.1 (Nat.le_of_eq g_2_5.symm)
    have K_2_5 := K0.ext E_2_5
    have f_2_6 := S0.ext E_2_5
    have Z_2_5 : n0 ≤ h_2_5.size := Nat.le_trans Z0 E_2_5.1
    have f_2_7 : Fld Z h_2_5 b_2_5 "java/lang/String" "coder" "B" (.int (0 : Int32)) := D_2_5 (Or.inr (hw _ (List.mem_of_getElem? (i := 44) rfl))) (ty := .byte) (by decide)
    have f_2_8 : Fld Z h_2_5 b_2_5 "java/lang/String" "value" "[B" .null := D_2_5 (Or.inr (hw _ (List.mem_of_getElem? (i := 46) rfl))) (ty := (.array .byte)) (by decide)
    obtain ⟨lc_2_5, N_2_5, X_2_5⟩ : ∃ L, Fr n0 L ∧ Stand p l e ({ frames := 4, cells := 4, slots := 10, locals := 66 } : Room) s m #[(.int q1), (.int q2)] below meth c T_2_5 L 1 4 := ⟨_, N0, X_2_5⟩
    refine ogo (fun _ k => st_2_5 _ k) ?_
    show OGo _ _ _ _ (T_2_5.setTop (mkF m 35 #[.val (.int q1), .val (.int q2), .val (.int w_2_1), .val (.int w_2_2), .val (.int w_2_3)] [(.ref b_2_5)]))
    refine ogo (fun _ k => XS.dup X_2_5.here hx rfl (hb hby d2_35) rfl rfl k) ?_
    show OGo _ _ _ _ (T_2_5.setTop (mkF m 36 #[.val (.int q1), .val (.int q2), .val (.int w_2_1), .val (.int w_2_2), .val (.int w_2_3)] [(.ref b_2_5), (.ref b_2_5)]))
    refine ogo (fun _ k => XS.iconst X_2_5.here hx rfl (hb hby d2_36) k) ?_
    show OGo _ _ _ _ (T_2_5.setTop (mkF m 37 #[.val (.int q1), .val (.int q2), .val (.int w_2_1), .val (.int w_2_2), .val (.int w_2_3)] [(.int (0 : Int32)), (.ref b_2_5), (.ref b_2_5)]))
    obtain ⟨T_2_9, h_2_9, k_2_9, X_2_9, e_2_9, E_2_9, A_2_9, Ex_2_9, st_2_9⟩ := newPE X_2_5 hx hZ (hw _ (List.mem_of_getElem? (i := 20) rfl)) e_2_5 (g := (mkF m 37 #[.val (.int q1), .val (.int q2), .val (.int w_2_1), .val (.int w_2_2), .val (.int w_2_3)] [(.int (0 : Int32)), (.ref b_2_5), (.ref b_2_5)])) rfl (hb hby d2_37) rfl (by decide) (cap := 0) (by decide) (by decide) (by decide) (by decide) (ad := "[C") (by first | rfl | decide +kernel)
    obtain ⟨b_2_9, g_2_9⟩ : ∃ z, z = h_2_5.size := ⟨_, rfl⟩
    rw [← g_2_9] at A_2_9 Ex_2_9 st_2_9
    have g_b_2_9 : n0 ≤ b_2_9 := Nat.le_trans Z_2_5 (Nat.le_of_eq g_2_9.symm)
    have ne_b_2_5_b_2_9 : b_2_5 ≠ b_2_9 := Nat.ne_of_lt (Nat.lt_of_lt_of_le f_2_8.lt (Nat.le_of_eq g_2_9.symm))
    have sz_b_2_9 : h0.size ≤ b_2_9 := Nat.le_trans K_2_5.1 (Nat.le_of_eq g_2_9.symm)
    have K_2_9 := K_2_5.ext E_2_9
    have f_2_10 := f_2_6.ext E_2_9
    have f_2_11 := A_2_5.ext E_2_9
    have f_2_12 := f_2_7.ext E_2_9
    have f_2_13 := f_2_8.ext E_2_9
    have Z_2_9 : n0 ≤ h_2_9.size := Nat.le_trans Z_2_5 E_2_9.1
    have V_2_9 : OAr Z h_2_9 b_2_9 .char 0 (fun i => .int ((fun _ : Nat => (0 : Int32)) i)) := OAr.new A_2_9 (by decide)
    obtain ⟨lc_2_9, N_2_9, X_2_9⟩ : ∃ L, Fr n0 L ∧ Stand p l e ({ frames := 4, cells := 4, slots := 10, locals := 66 } : Room) s m #[(.int q1), (.int q2)] below meth c T_2_9 L 2 4 := ⟨_, N_2_5, X_2_9⟩
    refine ogo (fun _ k => st_2_9 _ k) ?_
    show OGo _ _ _ _ (T_2_9.setTop (mkF m 39 #[.val (.int q1), .val (.int q2), .val (.int w_2_1), .val (.int w_2_2), .val (.int w_2_3)] [(.ref b_2_9), (.ref b_2_5), (.ref b_2_5)]))
    have kz_2_14 : ∀ (b : Addr) (cl : Cell), Z.heap[b]? = some cl → h_2_9[b]? = some cl := fun b cl q => K_2_9.2.1 b cl (hkeep b cl q) nin0
    obtain ⟨v_2_15, T_2_15, h_2_15, L_2_15, e_2_15, hQ_2_15, X_2_15, hS_2_15, hZ, hown, st_2_15⟩ := ospecW X_2_9 hx hZ hI e_2_9 (rm3 l Z a0 hw b_2_5 b_2_9 h_2_9 n0 Z_2_9 f_2_11 f_2_13 f_2_12 g_b_2_5 kz_2_14 hh7 hcw V_2_9 ne_b_2_5_b_2_9) rfl hown (hw _ (List.mem_of_getElem? (i := 21) rfl)) (hw _ (List.mem_of_getElem? (i := 22) rfl)) (hw _ (List.mem_of_getElem? (i := 19) rfl)) (hw _ (List.mem_of_getElem? (i := 23) rfl)) (by decide) (b := b_2_5) (g := (mkF m 39 #[.val (.int q1), .val (.int q2), .val (.int w_2_1), .val (.int w_2_2), .val (.int w_2_3)] [(.ref b_2_9), (.ref b_2_5), (.ref b_2_5)])) rfl (by rw [hml]; rfl) [(.ref b_2_9)] [(.ref b_2_5)] rfl (lenOf pd___C_V rfl) rfl (hb hby d2_39) 1 (by show 2 * 0 + _ ≤ _; exact Nat.le_of_eq rfl) (by decide) (by decide) (by decide) (by decide)
    obtain ⟨rfl, Nq_2_15, Kc_2_15⟩ := hQ_2_15
    have f_2_16 := f_2_11.keep Kc_2_15
    have f_2_17 := Ex_2_9.keep Kc_2_15
    have f_2_18 := V_2_9.keep Kc_2_15 (ninS (Ne.symm ne_b_2_5_b_2_9) nin0)
    have Z_2_15 : n0 ≤ h_2_15.size := Nat.le_trans Z_2_9 Kc_2_15.1
    have K_2_15 := K_2_9.trans Kc_2_15 (allS (Or.inr sz_b_2_5) all0)
    obtain ⟨lc_2_15, N_2_15, X_2_15⟩ : ∃ L, Fr n0 L ∧ Stand p l e ({ frames := 4, cells := 4, slots := 10, locals := 66 } : Room) (s.setVm T_2_15.vm) m #[(.int q1), (.int q2)] below meth c T_2_15 L 4 8 := ⟨_, Fr.app N_2_9 Nq_2_15, X_2_15⟩
    refine ogo (fun _ k => st_2_15 _ k) ?_
    show OGo _ _ _ _ (T_2_15.setTop (mkF m 42 #[.val (.int q1), .val (.int q2), .val (.int w_2_1), .val (.int w_2_2), .val (.int w_2_3)] [(.ref b_2_5)]))
    exact oretW (s := s) X_2_15 hS_2_15 (by rw [e_2_15]; exact (Nat.le_refl _)) hx hlk Bd.returns rfl (Or.inr (Or.inr (Or.inr (Or.inr ⟨rfl, rfl, rfl⟩)))) (hb hby d2_42) (by decide) (by decide) (by rw [e_2_15]; exact ⟨b_2_5, rfl, N_2_15, K_2_15, f_2_16⟩)
  · refine ogo (fun _ k => XS.ifYes X0.here hx rfl (pc0 := 29) (pc' := 43) rfl (hb hby d2_29) rfl ((if0 _ _).trans (feq hc_2_4).2) (by decide) (by decide) k) ?_
    show OGo _ _ _ _ (s₁.setTop (mkF m 43 #[.val (.int q1), .val (.int q2), .val (.int w_2_1), .val (.int w_2_2), .val (.int w_2_3)] []))
    refine ogo (fun _ k => XS.iloadN X0.here hx rfl (hb hby d2_43) rfl k) ?_
    show OGo _ _ _ _ (s₁.setTop (mkF m 44 #[.val (.int q1), .val (.int q2), .val (.int w_2_1), .val (.int w_2_2), .val (.int w_2_3)] [(.int q1)]))
    refine ogo (fun _ k => XS.iconst X0.here hx rfl (hb hby d2_44) k) ?_
    show OGo _ _ _ _ (s₁.setTop (mkF m 45 #[.val (.int q1), .val (.int q2), .val (.int w_2_1), .val (.int w_2_2), .val (.int w_2_3)] [(.int (1 : Int32)), (.int q1)]))
    by_cases hc_2_19 : q1 = (1 : Int32)
    · refine ogo (fun _ k => XS.icmpNo X0.here hx rfl (hb hby d2_45) rfl (teq hc_2_19).2 k) ?_
      show OGo _ _ _ _ (s₁.setTop (mkF m 48 #[.val (.int q1), .val (.int q2), .val (.int w_2_1), .val (.int w_2_2), .val (.int w_2_3)] []))
      obtain ⟨T_2_20, h_2_20, X_2_20, e_2_20, E_2_20, A_2_20, D_2_20, -, st_2_20⟩ := newO X0 hx hZ hown (hw _ (List.mem_of_getElem? (i := 17) rfl)) (hw _ (List.mem_of_getElem? (i := 18) rfl)) (hw _ (List.mem_of_getElem? (i := 19) rfl)) e0 (g := (mkF m 48 #[.val (.int q1), .val (.int q2), .val (.int w_2_1), .val (.int w_2_2), .val (.int w_2_3)] [])) rfl (hb hby d2_48) (by decide) (by decide)
      obtain ⟨b_2_20, g_2_20⟩ : ∃ z, z = h0.size := ⟨_, rfl⟩
      rw [← g_2_20] at A_2_20 D_2_20 st_2_20
      have g_b_2_20 : n0 ≤ b_2_20 := Nat.le_trans Z0 (Nat.le_of_eq g_2_20.symm)
      have sz_b_2_20 : h0.size ≤ b_2_20 := Nat.le_trans K0.1 (Nat.le_of_eq g_2_20.symm)
      have K_2_20 := K0.ext E_2_20
      have f_2_21 := S0.ext E_2_20
      have Z_2_20 : n0 ≤ h_2_20.size := Nat.le_trans Z0 E_2_20.1
      have f_2_22 : Fld Z h_2_20 b_2_20 "java/lang/String" "coder" "B" (.int (0 : Int32)) := D_2_20 (Or.inr (hw _ (List.mem_of_getElem? (i := 44) rfl))) (ty := .byte) (by decide)
      have f_2_23 : Fld Z h_2_20 b_2_20 "java/lang/String" "value" "[B" .null := D_2_20 (Or.inr (hw _ (List.mem_of_getElem? (i := 46) rfl))) (ty := (.array .byte)) (by decide)
      obtain ⟨lc_2_20, N_2_20, X_2_20⟩ : ∃ L, Fr n0 L ∧ Stand p l e ({ frames := 4, cells := 4, slots := 10, locals := 66 } : Room) s m #[(.int q1), (.int q2)] below meth c T_2_20 L 1 4 := ⟨_, N0, X_2_20⟩
      refine ogo (fun _ k => st_2_20 _ k) ?_
      show OGo _ _ _ _ (T_2_20.setTop (mkF m 51 #[.val (.int q1), .val (.int q2), .val (.int w_2_1), .val (.int w_2_2), .val (.int w_2_3)] [(.ref b_2_20)]))
      refine ogo (fun _ k => XS.dup X_2_20.here hx rfl (hb hby d2_51) rfl rfl k) ?_
      show OGo _ _ _ _ (T_2_20.setTop (mkF m 52 #[.val (.int q1), .val (.int q2), .val (.int w_2_1), .val (.int w_2_2), .val (.int w_2_3)] [(.ref b_2_20), (.ref b_2_20)]))
      refine ogo (fun _ k => XS.iconst X_2_20.here hx rfl (hb hby d2_52) k) ?_
      show OGo _ _ _ _ (T_2_20.setTop (mkF m 53 #[.val (.int q1), .val (.int q2), .val (.int w_2_1), .val (.int w_2_2), .val (.int w_2_3)] [(.int (1 : Int32)), (.ref b_2_20), (.ref b_2_20)]))
      obtain ⟨T_2_24, h_2_24, k_2_24, X_2_24, e_2_24, E_2_24, A_2_24, Ex_2_24, st_2_24⟩ := newPE X_2_20 hx hZ (hw _ (List.mem_of_getElem? (i := 20) rfl)) e_2_20 (g := (mkF m 53 #[.val (.int q1), .val (.int q2), .val (.int w_2_1), .val (.int w_2_2), .val (.int w_2_3)] [(.int (1 : Int32)), (.ref b_2_20), (.ref b_2_20)])) rfl (hb hby d2_53) rfl (by decide) (cap := 1) (by decide) (by decide) (by decide) (by decide) (ad := "[C") (by first | rfl | decide +kernel)
      obtain ⟨b_2_24, g_2_24⟩ : ∃ z, z = h_2_20.size := ⟨_, rfl⟩
      rw [← g_2_24] at A_2_24 Ex_2_24 st_2_24
      have g_b_2_24 : n0 ≤ b_2_24 := Nat.le_trans Z_2_20 (Nat.le_of_eq g_2_24.symm)
      have ne_b_2_20_b_2_24 : b_2_20 ≠ b_2_24 := Nat.ne_of_lt (Nat.lt_of_lt_of_le f_2_23.lt (Nat.le_of_eq g_2_24.symm))
      have sz_b_2_24 : h0.size ≤ b_2_24 := Nat.le_trans K_2_20.1 (Nat.le_of_eq g_2_24.symm)
      have K_2_24 := K_2_20.ext E_2_24
      have f_2_25 := f_2_21.ext E_2_24
      have f_2_26 := A_2_20.ext E_2_24
      have f_2_27 := f_2_22.ext E_2_24
      have f_2_28 := f_2_23.ext E_2_24
      have Z_2_24 : n0 ≤ h_2_24.size := Nat.le_trans Z_2_20 E_2_24.1
      have V_2_24 : OAr Z h_2_24 b_2_24 .char 1 (fun i => .int ((fun _ : Nat => (0 : Int32)) i)) := OAr.new A_2_24 (by decide)
      obtain ⟨lc_2_24, N_2_24, X_2_24⟩ : ∃ L, Fr n0 L ∧ Stand p l e ({ frames := 4, cells := 4, slots := 10, locals := 66 } : Room) s m #[(.int q1), (.int q2)] below meth c T_2_24 L 2 5 := ⟨_, N_2_20, X_2_24⟩
      refine ogo (fun _ k => st_2_24 _ k) ?_
      show OGo _ _ _ _ (T_2_24.setTop (mkF m 55 #[.val (.int q1), .val (.int q2), .val (.int w_2_1), .val (.int w_2_2), .val (.int w_2_3)] [(.ref b_2_24), (.ref b_2_20), (.ref b_2_20)]))
      refine ogo (fun _ k => XS.dup X_2_24.here hx rfl (hb hby d2_55) rfl rfl k) ?_
      show OGo _ _ _ _ (T_2_24.setTop (mkF m 56 #[.val (.int q1), .val (.int q2), .val (.int w_2_1), .val (.int w_2_2), .val (.int w_2_3)] [(.ref b_2_24), (.ref b_2_24), (.ref b_2_20), (.ref b_2_20)]))
      refine ogo (fun _ k => XS.iconst X_2_24.here hx rfl (hb hby d2_56) k) ?_
      show OGo _ _ _ _ (T_2_24.setTop (mkF m 57 #[.val (.int q1), .val (.int q2), .val (.int w_2_1), .val (.int w_2_2), .val (.int w_2_3)] [(.int (0 : Int32)), (.ref b_2_24), (.ref b_2_24), (.ref b_2_20), (.ref b_2_20)]))
      refine ogo (fun _ k => XS.iloadN X_2_24.here hx rfl (hb hby d2_57) rfl k) ?_
      show OGo _ _ _ _ (T_2_24.setTop (mkF m 58 #[.val (.int q1), .val (.int q2), .val (.int w_2_1), .val (.int w_2_2), .val (.int w_2_3)] [(.int w_2_1), (.int (0 : Int32)), (.ref b_2_24), (.ref b_2_24), (.ref b_2_20), (.ref b_2_20)]))
      obtain ⟨T_2_29, h_2_29, X_2_29, e_2_29, W_2_29, V_2_29, st_2_29⟩ := ostC X_2_24 hx hZ e_2_24 V_2_24 (by decide) (by decide) (g := (mkF m 58 #[.val (.int q1), .val (.int q2), .val (.int w_2_1), .val (.int w_2_2), .val (.int w_2_3)] [(.int w_2_1), (.int (0 : Int32)), (.ref b_2_24), (.ref b_2_24), (.ref b_2_20), (.ref b_2_20)])) rfl rfl (hb hby d2_58)
      have Y_2_29 : OAr Z h_2_29 b_2_24 .char 1 (fun i => .int ((fun i : Nat => if i = ((0 : Int32)).toNatClampNeg then w_2_1.toUInt32.toUInt16.toUInt32.toInt32 else (fun _ : Nat => (0 : Int32)) i) i)) := V_2_29.conv (fun i _ => by dsimp only; split <;> rfl)
      have K_2_29 := K_2_24.wr W_2_29 (Or.inr sz_b_2_24)
      have f_2_30 := f_2_25.wr W_2_29
      have f_2_31 := f_2_26.wr W_2_29
      have f_2_32 := f_2_27.other W_2_29 (Or.inl ne_b_2_20_b_2_24)
      have f_2_33 := f_2_28.other W_2_29 (Or.inl ne_b_2_20_b_2_24)
      have f_2_34 := Ex_2_24.wr W_2_29
      have Z_2_29 : n0 ≤ h_2_29.size := Nat.le_trans Z_2_24 (Keep.of_wr W_2_29).1
      obtain ⟨lc_2_29, N_2_29, X_2_29⟩ : ∃ L, Fr n0 L ∧ Stand p l e ({ frames := 4, cells := 4, slots := 10, locals := 66 } : Room) s m #[(.int q1), (.int q2)] below meth c T_2_29 L 2 5 := ⟨_, Fr.snoc X_2_29 N_2_24 g_b_2_24, X_2_29⟩
      refine ogo (fun _ k => st_2_29 _ k) ?_
      show OGo _ _ _ _ (T_2_29.setTop (mkF m 59 #[.val (.int q1), .val (.int q2), .val (.int w_2_1), .val (.int w_2_2), .val (.int w_2_3)] [(.ref b_2_24), (.ref b_2_20), (.ref b_2_20)]))
      obtain ⟨kC_2_35, KK_2_35⟩ := oarv Y_2_29 (N := (1 : Int32)) (by decide) (by decide)
      have hp_2_35 : ∀ c ∈ (List.range 1).map (fun i : Nat => if i = ((0 : Int32)).toNatClampNeg then w_2_1.toUInt32.toUInt16.toUInt32.toInt32 else (fun _ : Nat => (0 : Int32)) i), ¬ c < 0 ∧ ¬ (255 : Int32) < c := by
        intro c hc
        obtain ⟨i, -, rfl⟩ := List.mem_map.mp hc
        dsimp only
        repeat' split
        all_goals first | exact own_ch hw_2_1 | exact own_ch hw_2_2 | exact own_ch hw_2_3 | decide
      obtain ⟨_, _, ⟨T_2_35, L_2_35, k_2_35, n_2_35⟩, -, X_2_35, ⟨Lc_2_35, hQ_2_35, l_2_35, y_2_35, z_2_35⟩, st_2_35⟩ := X_2_29.specialBack hx (y := (⟨"java/lang/String", "<init>", "([C)V"⟩ : MethodName)) rfl hown (mvT hZ (hw _ (List.mem_of_getElem? (i := 21) rfl))) (mvT hZ (hw _ (List.mem_of_getElem? (i := 22) rfl))) (mvT hZ (hw _ (List.mem_of_getElem? (i := 23) rfl))) (by decide) (StrChars.Road.backV (W := 1) hZ hws (kI := 4) (hw _ (List.mem_of_getElem? (i := 18) rfl)) (cs := (List.range 1).map (fun i : Nat => if i = ((0 : Int32)).toNatClampNeg then w_2_1.toUInt32.toUInt16.toUInt32.toInt32 else (fun _ : Nat => (0 : Int32)) i)) (bs := _) (n := 1) g_b_2_20 Z_2_29 f_2_31 f_2_33 f_2_32 KK_2_35 f_2_30 hz (by simp) rfl (by decide) (by decide) hp_2_35 rfl (by decide) (by decide)) (g := (mkF m 59 #[.val (.int q1), .val (.int q2), .val (.int w_2_1), .val (.int w_2_2), .val (.int w_2_3)] [(.ref b_2_24), (.ref b_2_20), (.ref b_2_20)])) rfl (by rw [hml]; rfl) (Steps.refl _) (a := b_2_20) (argsL := [(.ref b_2_24)]) (rest := [(.ref b_2_20)]) (lenOf pd___C_V rfl) rfl (by show 2 * 0 + _ ≤ _; exact Nat.le_of_eq rfl) (hb hby d2_59) (fun _ _ => ⟨rfl, e_2_29, (by decide : 2 + 1 ≤ _), (by decide : 5 + 1 ≤ _)⟩)
      dsimp only [Pt.U, Pt.locs, Pt.cells, Pt.slots] at X_2_35 l_2_35 y_2_35 z_2_35 st_2_35 hQ_2_35
      subst l_2_35 y_2_35 z_2_35
      obtain ⟨h_2_35, e_2_35⟩ : ∃ hh, T_2_35.heap = hh := ⟨_, rfl⟩
      rw [e_2_35] at hQ_2_35
      obtain ⟨rfl, Nq_2_35, Kc_2_35, Ex_2_35, -⟩ := hQ_2_35
      have f_2_36 := f_2_31.keep Kc_2_35
      have f_2_37 := f_2_34.keep Kc_2_35
      have f_2_38 := Y_2_29.keep Kc_2_35 (ninS (Ne.symm ne_b_2_20_b_2_24) nin0)
      have Z_2_35 : n0 ≤ h_2_35.size := Nat.le_trans Z_2_29 Kc_2_35.1
      have K_2_35 := K_2_29.trans Kc_2_35 (allS (Or.inr sz_b_2_20) all0)
      obtain ⟨lc_2_35, N_2_35, X_2_35⟩ : ∃ L, Fr n0 L ∧ Stand p l e ({ frames := 4, cells := 4, slots := 10, locals := 66 } : Room) s m #[(.int q1), (.int q2)] below meth c T_2_35 L 3 6 := ⟨_, Fr.app N_2_29 Nq_2_35, X_2_35⟩
      refine ogoT st_2_35 ?_
      show OGo _ _ _ _ (T_2_35.setTop (mkF m 62 #[.val (.int q1), .val (.int q2), .val (.int w_2_1), .val (.int w_2_2), .val (.int w_2_3)] [(.ref b_2_20)]))
      exact oretW (s := s) (vm1 := s.vm) X_2_35 (osince s 0) (Nat.zero_le _) hx hlk Bd.returns rfl (Or.inr (Or.inr (Or.inr (Or.inr ⟨rfl, rfl, rfl⟩)))) (hb hby d2_62) (by decide) (by decide) (by rw [e_2_35]; exact ⟨b_2_20, rfl, N_2_35, K_2_35, Ex_2_35⟩)
    · refine ogo (fun _ k => XS.icmpYes X0.here hx rfl (pc0 := 45) (pc' := 63) rfl (hb hby d2_45) rfl (feq hc_2_19).2 (by decide) (by decide) k) ?_
      show OGo _ _ _ _ (s₁.setTop (mkF m 63 #[.val (.int q1), .val (.int q2), .val (.int w_2_1), .val (.int w_2_2), .val (.int w_2_3)] []))
      refine ogo (fun _ k => XS.iloadN X0.here hx rfl (hb hby d2_63) rfl k) ?_
      show OGo _ _ _ _ (s₁.setTop (mkF m 64 #[.val (.int q1), .val (.int q2), .val (.int w_2_1), .val (.int w_2_2), .val (.int w_2_3)] [(.int q1)]))
      refine ogo (fun _ k => XS.iconst X0.here hx rfl (hb hby d2_64) k) ?_
      show OGo _ _ _ _ (s₁.setTop (mkF m 65 #[.val (.int q1), .val (.int q2), .val (.int w_2_1), .val (.int w_2_2), .val (.int w_2_3)] [(.int (2 : Int32)), (.int q1)]))
      by_cases hc_2_39 : q1 = (2 : Int32)
      · refine ogo (fun _ k => XS.icmpNo X0.here hx rfl (hb hby d2_65) rfl (teq hc_2_39).2 k) ?_
        show OGo _ _ _ _ (s₁.setTop (mkF m 68 #[.val (.int q1), .val (.int q2), .val (.int w_2_1), .val (.int w_2_2), .val (.int w_2_3)] []))
        obtain ⟨T_2_40, h_2_40, X_2_40, e_2_40, E_2_40, A_2_40, D_2_40, -, st_2_40⟩ := newO X0 hx hZ hown (hw _ (List.mem_of_getElem? (i := 17) rfl)) (hw _ (List.mem_of_getElem? (i := 18) rfl)) (hw _ (List.mem_of_getElem? (i := 19) rfl)) e0 (g := (mkF m 68 #[.val (.int q1), .val (.int q2), .val (.int w_2_1), .val (.int w_2_2), .val (.int w_2_3)] [])) rfl (hb hby d2_68) (by decide) (by decide)
        obtain ⟨b_2_40, g_2_40⟩ : ∃ z, z = h0.size := ⟨_, rfl⟩
        rw [← g_2_40] at A_2_40 D_2_40 st_2_40
        have g_b_2_40 : n0 ≤ b_2_40 := Nat.le_trans Z0 (Nat.le_of_eq g_2_40.symm)
        have sz_b_2_40 : h0.size ≤ b_2_40 := Nat.le_trans K0.1 (Nat.le_of_eq g_2_40.symm)
        have K_2_40 := K0.ext E_2_40
        have f_2_41 := S0.ext E_2_40
        have Z_2_40 : n0 ≤ h_2_40.size := Nat.le_trans Z0 E_2_40.1
        have f_2_42 : Fld Z h_2_40 b_2_40 "java/lang/String" "coder" "B" (.int (0 : Int32)) := D_2_40 (Or.inr (hw _ (List.mem_of_getElem? (i := 44) rfl))) (ty := .byte) (by decide)
        have f_2_43 : Fld Z h_2_40 b_2_40 "java/lang/String" "value" "[B" .null := D_2_40 (Or.inr (hw _ (List.mem_of_getElem? (i := 46) rfl))) (ty := (.array .byte)) (by decide)
        obtain ⟨lc_2_40, N_2_40, X_2_40⟩ : ∃ L, Fr n0 L ∧ Stand p l e ({ frames := 4, cells := 4, slots := 10, locals := 66 } : Room) s m #[(.int q1), (.int q2)] below meth c T_2_40 L 1 4 := ⟨_, N0, X_2_40⟩
        refine ogo (fun _ k => st_2_40 _ k) ?_
        show OGo _ _ _ _ (T_2_40.setTop (mkF m 71 #[.val (.int q1), .val (.int q2), .val (.int w_2_1), .val (.int w_2_2), .val (.int w_2_3)] [(.ref b_2_40)]))
        refine ogo (fun _ k => XS.dup X_2_40.here hx rfl (hb hby d2_71) rfl rfl k) ?_
        show OGo _ _ _ _ (T_2_40.setTop (mkF m 72 #[.val (.int q1), .val (.int q2), .val (.int w_2_1), .val (.int w_2_2), .val (.int w_2_3)] [(.ref b_2_40), (.ref b_2_40)]))
        refine ogo (fun _ k => XS.iconst X_2_40.here hx rfl (hb hby d2_72) k) ?_
        show OGo _ _ _ _ (T_2_40.setTop (mkF m 73 #[.val (.int q1), .val (.int q2), .val (.int w_2_1), .val (.int w_2_2), .val (.int w_2_3)] [(.int (2 : Int32)), (.ref b_2_40), (.ref b_2_40)]))
        obtain ⟨T_2_44, h_2_44, k_2_44, X_2_44, e_2_44, E_2_44, A_2_44, Ex_2_44, st_2_44⟩ := newPE X_2_40 hx hZ (hw _ (List.mem_of_getElem? (i := 20) rfl)) e_2_40 (g := (mkF m 73 #[.val (.int q1), .val (.int q2), .val (.int w_2_1), .val (.int w_2_2), .val (.int w_2_3)] [(.int (2 : Int32)), (.ref b_2_40), (.ref b_2_40)])) rfl (hb hby d2_73) rfl (by decide) (cap := 2) (by decide) (by decide) (by decide) (by decide) (ad := "[C") (by first | rfl | decide +kernel)
        obtain ⟨b_2_44, g_2_44⟩ : ∃ z, z = h_2_40.size := ⟨_, rfl⟩
        rw [← g_2_44] at A_2_44 Ex_2_44 st_2_44
        have g_b_2_44 : n0 ≤ b_2_44 := Nat.le_trans Z_2_40 (Nat.le_of_eq g_2_44.symm)
        have ne_b_2_40_b_2_44 : b_2_40 ≠ b_2_44 := Nat.ne_of_lt (Nat.lt_of_lt_of_le f_2_43.lt (Nat.le_of_eq g_2_44.symm))
        have sz_b_2_44 : h0.size ≤ b_2_44 := Nat.le_trans K_2_40.1 (Nat.le_of_eq g_2_44.symm)
        have K_2_44 := K_2_40.ext E_2_44
        have f_2_45 := f_2_41.ext E_2_44
        have f_2_46 := A_2_40.ext E_2_44
        have f_2_47 := f_2_42.ext E_2_44
        have f_2_48 := f_2_43.ext E_2_44
        have Z_2_44 : n0 ≤ h_2_44.size := Nat.le_trans Z_2_40 E_2_44.1
        have V_2_44 : OAr Z h_2_44 b_2_44 .char 2 (fun i => .int ((fun _ : Nat => (0 : Int32)) i)) := OAr.new A_2_44 (by decide)
        obtain ⟨lc_2_44, N_2_44, X_2_44⟩ : ∃ L, Fr n0 L ∧ Stand p l e ({ frames := 4, cells := 4, slots := 10, locals := 66 } : Room) s m #[(.int q1), (.int q2)] below meth c T_2_44 L 2 6 := ⟨_, N_2_40, X_2_44⟩
        refine ogo (fun _ k => st_2_44 _ k) ?_
        show OGo _ _ _ _ (T_2_44.setTop (mkF m 75 #[.val (.int q1), .val (.int q2), .val (.int w_2_1), .val (.int w_2_2), .val (.int w_2_3)] [(.ref b_2_44), (.ref b_2_40), (.ref b_2_40)]))
        refine ogo (fun _ k => XS.dup X_2_44.here hx rfl (hb hby d2_75) rfl rfl k) ?_
        show OGo _ _ _ _ (T_2_44.setTop (mkF m 76 #[.val (.int q1), .val (.int q2), .val (.int w_2_1), .val (.int w_2_2), .val (.int w_2_3)] [(.ref b_2_44), (.ref b_2_44), (.ref b_2_40), (.ref b_2_40)]))
        refine ogo (fun _ k => XS.iconst X_2_44.here hx rfl (hb hby d2_76) k) ?_
        show OGo _ _ _ _ (T_2_44.setTop (mkF m 77 #[.val (.int q1), .val (.int q2), .val (.int w_2_1), .val (.int w_2_2), .val (.int w_2_3)] [(.int (0 : Int32)), (.ref b_2_44), (.ref b_2_44), (.ref b_2_40), (.ref b_2_40)]))
        refine ogo (fun _ k => XS.iloadN X_2_44.here hx rfl (hb hby d2_77) rfl k) ?_
        show OGo _ _ _ _ (T_2_44.setTop (mkF m 78 #[.val (.int q1), .val (.int q2), .val (.int w_2_1), .val (.int w_2_2), .val (.int w_2_3)] [(.int w_2_1), (.int (0 : Int32)), (.ref b_2_44), (.ref b_2_44), (.ref b_2_40), (.ref b_2_40)]))
        obtain ⟨T_2_49, h_2_49, X_2_49, e_2_49, W_2_49, V_2_49, st_2_49⟩ := ostC X_2_44 hx hZ e_2_44 V_2_44 (by decide) (by decide) (g := (mkF m 78 #[.val (.int q1), .val (.int q2), .val (.int w_2_1), .val (.int w_2_2), .val (.int w_2_3)] [(.int w_2_1), (.int (0 : Int32)), (.ref b_2_44), (.ref b_2_44), (.ref b_2_40), (.ref b_2_40)])) rfl rfl (hb hby d2_78)
        have Y_2_49 : OAr Z h_2_49 b_2_44 .char 2 (fun i => .int ((fun i : Nat => if i = ((0 : Int32)).toNatClampNeg then w_2_1.toUInt32.toUInt16.toUInt32.toInt32 else (fun _ : Nat => (0 : Int32)) i) i)) := V_2_49.conv (fun i _ => by dsimp only; split <;> rfl)
        have K_2_49 := K_2_44.wr W_2_49 (Or.inr sz_b_2_44)
        have f_2_50 := f_2_45.wr W_2_49
        have f_2_51 := f_2_46.wr W_2_49
        have f_2_52 := f_2_47.other W_2_49 (Or.inl ne_b_2_40_b_2_44)
        have f_2_53 := f_2_48.other W_2_49 (Or.inl ne_b_2_40_b_2_44)
        have f_2_54 := Ex_2_44.wr W_2_49
        have Z_2_49 : n0 ≤ h_2_49.size := Nat.le_trans Z_2_44 (Keep.of_wr W_2_49).1
        obtain ⟨lc_2_49, N_2_49, X_2_49⟩ : ∃ L, Fr n0 L ∧ Stand p l e ({ frames := 4, cells := 4, slots := 10, locals := 66 } : Room) s m #[(.int q1), (.int q2)] below meth c T_2_49 L 2 6 := ⟨_, Fr.snoc X_2_49 N_2_44 g_b_2_44, X_2_49⟩
        refine ogo (fun _ k => st_2_49 _ k) ?_
        show OGo _ _ _ _ (T_2_49.setTop (mkF m 79 #[.val (.int q1), .val (.int q2), .val (.int w_2_1), .val (.int w_2_2), .val (.int w_2_3)] [(.ref b_2_44), (.ref b_2_40), (.ref b_2_40)]))
        refine ogo (fun _ k => XS.dup X_2_49.here hx rfl (hb hby d2_79) rfl rfl k) ?_
        show OGo _ _ _ _ (T_2_49.setTop (mkF m 80 #[.val (.int q1), .val (.int q2), .val (.int w_2_1), .val (.int w_2_2), .val (.int w_2_3)] [(.ref b_2_44), (.ref b_2_44), (.ref b_2_40), (.ref b_2_40)]))
        refine ogo (fun _ k => XS.iconst X_2_49.here hx rfl (hb hby d2_80) k) ?_
        show OGo _ _ _ _ (T_2_49.setTop (mkF m 81 #[.val (.int q1), .val (.int q2), .val (.int w_2_1), .val (.int w_2_2), .val (.int w_2_3)] [(.int (1 : Int32)), (.ref b_2_44), (.ref b_2_44), (.ref b_2_40), (.ref b_2_40)]))
        refine ogo (fun _ k => XS.iloadN X_2_49.here hx rfl (hb hby d2_81) rfl k) ?_
        show OGo _ _ _ _ (T_2_49.setTop (mkF m 82 #[.val (.int q1), .val (.int q2), .val (.int w_2_1), .val (.int w_2_2), .val (.int w_2_3)] [(.int w_2_2), (.int (1 : Int32)), (.ref b_2_44), (.ref b_2_44), (.ref b_2_40), (.ref b_2_40)]))
        obtain ⟨T_2_55, h_2_55, X_2_55, e_2_55, W_2_55, V_2_55, st_2_55⟩ := ostC X_2_49 hx hZ e_2_49 Y_2_49 (by decide) (by decide) (g := (mkF m 82 #[.val (.int q1), .val (.int q2), .val (.int w_2_1), .val (.int w_2_2), .val (.int w_2_3)] [(.int w_2_2), (.int (1 : Int32)), (.ref b_2_44), (.ref b_2_44), (.ref b_2_40), (.ref b_2_40)])) rfl rfl (hb hby d2_82)
        have Y_2_55 : OAr Z h_2_55 b_2_44 .char 2 (fun i => .int ((fun i : Nat => if i = ((1 : Int32)).toNatClampNeg then w_2_2.toUInt32.toUInt16.toUInt32.toInt32 else (fun i : Nat => if i = ((0 : Int32)).toNatClampNeg then w_2_1.toUInt32.toUInt16.toUInt32.toInt32 else (fun _ : Nat => (0 : Int32)) i) i) i)) := V_2_55.conv (fun i _ => by dsimp only; split <;> rfl)
        have K_2_55 := K_2_49.wr W_2_55 (Or.inr sz_b_2_44)
        have f_2_56 := f_2_50.wr W_2_55
        have f_2_57 := f_2_51.wr W_2_55
        have f_2_58 := f_2_52.other W_2_55 (Or.inl ne_b_2_40_b_2_44)
        have f_2_59 := f_2_53.other W_2_55 (Or.inl ne_b_2_40_b_2_44)
        have f_2_60 := f_2_54.wr W_2_55
        have Z_2_55 : n0 ≤ h_2_55.size := Nat.le_trans Z_2_49 (Keep.of_wr W_2_55).1
        obtain ⟨lc_2_55, N_2_55, X_2_55⟩ : ∃ L, Fr n0 L ∧ Stand p l e ({ frames := 4, cells := 4, slots := 10, locals := 66 } : Room) s m #[(.int q1), (.int q2)] below meth c T_2_55 L 2 6 := ⟨_, Fr.snoc X_2_55 N_2_49 g_b_2_44, X_2_55⟩
        refine ogo (fun _ k => st_2_55 _ k) ?_
        show OGo _ _ _ _ (T_2_55.setTop (mkF m 83 #[.val (.int q1), .val (.int q2), .val (.int w_2_1), .val (.int w_2_2), .val (.int w_2_3)] [(.ref b_2_44), (.ref b_2_40), (.ref b_2_40)]))
        obtain ⟨kC_2_61, KK_2_61⟩ := oarv Y_2_55 (N := (2 : Int32)) (by decide) (by decide)
        have hp_2_61 : ∀ c ∈ (List.range 2).map (fun i : Nat => if i = ((1 : Int32)).toNatClampNeg then w_2_2.toUInt32.toUInt16.toUInt32.toInt32 else (fun i : Nat => if i = ((0 : Int32)).toNatClampNeg then w_2_1.toUInt32.toUInt16.toUInt32.toInt32 else (fun _ : Nat => (0 : Int32)) i) i), ¬ c < 0 ∧ ¬ (255 : Int32) < c := by
          intro c hc
          obtain ⟨i, -, rfl⟩ := List.mem_map.mp hc
          dsimp only
          repeat' split
          all_goals first | exact own_ch hw_2_1 | exact own_ch hw_2_2 | exact own_ch hw_2_3 | decide
        obtain ⟨_, _, ⟨T_2_61, L_2_61, k_2_61, n_2_61⟩, -, X_2_61, ⟨Lc_2_61, hQ_2_61, l_2_61, y_2_61, z_2_61⟩, st_2_61⟩ := X_2_55.specialBack hx (y := (⟨"java/lang/String", "<init>", "([C)V"⟩ : MethodName)) rfl hown (mvT hZ (hw _ (List.mem_of_getElem? (i := 21) rfl))) (mvT hZ (hw _ (List.mem_of_getElem? (i := 22) rfl))) (mvT hZ (hw _ (List.mem_of_getElem? (i := 23) rfl))) (by decide) (StrChars.Road.backV (W := 1) hZ hws (kI := 4) (hw _ (List.mem_of_getElem? (i := 18) rfl)) (cs := (List.range 2).map (fun i : Nat => if i = ((1 : Int32)).toNatClampNeg then w_2_2.toUInt32.toUInt16.toUInt32.toInt32 else (fun i : Nat => if i = ((0 : Int32)).toNatClampNeg then w_2_1.toUInt32.toUInt16.toUInt32.toInt32 else (fun _ : Nat => (0 : Int32)) i) i)) (bs := _) (n := 2) g_b_2_40 Z_2_55 f_2_57 f_2_59 f_2_58 KK_2_61 f_2_56 hz (by simp) rfl (by decide) (by decide) hp_2_61 rfl (by decide) (by decide)) (g := (mkF m 83 #[.val (.int q1), .val (.int q2), .val (.int w_2_1), .val (.int w_2_2), .val (.int w_2_3)] [(.ref b_2_44), (.ref b_2_40), (.ref b_2_40)])) rfl (by rw [hml]; rfl) (Steps.refl _) (a := b_2_40) (argsL := [(.ref b_2_44)]) (rest := [(.ref b_2_40)]) (lenOf pd___C_V rfl) rfl (by show 2 * 0 + _ ≤ _; exact Nat.le_of_eq rfl) (hb hby d2_83) (fun _ _ => ⟨rfl, e_2_55, (by decide : 2 + 1 ≤ _), (by decide : 6 + 2 ≤ _)⟩)
        dsimp only [Pt.U, Pt.locs, Pt.cells, Pt.slots] at X_2_61 l_2_61 y_2_61 z_2_61 st_2_61 hQ_2_61
        subst l_2_61 y_2_61 z_2_61
        obtain ⟨h_2_61, e_2_61⟩ : ∃ hh, T_2_61.heap = hh := ⟨_, rfl⟩
        rw [e_2_61] at hQ_2_61
        obtain ⟨rfl, Nq_2_61, Kc_2_61, Ex_2_61, -⟩ := hQ_2_61
        have f_2_62 := f_2_57.keep Kc_2_61
        have f_2_63 := f_2_60.keep Kc_2_61
        have f_2_64 := Y_2_55.keep Kc_2_61 (ninS (Ne.symm ne_b_2_40_b_2_44) nin0)
        have Z_2_61 : n0 ≤ h_2_61.size := Nat.le_trans Z_2_55 Kc_2_61.1
        have K_2_61 := K_2_55.trans Kc_2_61 (allS (Or.inr sz_b_2_40) all0)
        obtain ⟨lc_2_61, N_2_61, X_2_61⟩ : ∃ L, Fr n0 L ∧ Stand p l e ({ frames := 4, cells := 4, slots := 10, locals := 66 } : Room) s m #[(.int q1), (.int q2)] below meth c T_2_61 L 3 8 := ⟨_, Fr.app N_2_55 Nq_2_61, X_2_61⟩
        refine ogoT st_2_61 ?_
        show OGo _ _ _ _ (T_2_61.setTop (mkF m 86 #[.val (.int q1), .val (.int q2), .val (.int w_2_1), .val (.int w_2_2), .val (.int w_2_3)] [(.ref b_2_40)]))
        exact oretW (s := s) (vm1 := s.vm) X_2_61 (osince s 0) (Nat.zero_le _) hx hlk Bd.returns rfl (Or.inr (Or.inr (Or.inr (Or.inr ⟨rfl, rfl, rfl⟩)))) (hb hby d2_86) (by decide) (by decide) (by rw [e_2_61]; exact ⟨b_2_40, rfl, N_2_61, K_2_61, Ex_2_61⟩)
      · refine ogo (fun _ k => XS.icmpYes X0.here hx rfl (pc0 := 65) (pc' := 87) rfl (hb hby d2_65) rfl (feq hc_2_39).2 (by decide) (by decide) k) ?_
        show OGo _ _ _ _ (s₁.setTop (mkF m 87 #[.val (.int q1), .val (.int q2), .val (.int w_2_1), .val (.int w_2_2), .val (.int w_2_3)] []))
        obtain ⟨T_2_65, h_2_65, X_2_65, e_2_65, E_2_65, A_2_65, D_2_65, -, st_2_65⟩ := newO X0 hx hZ hown (hw _ (List.mem_of_getElem? (i := 17) rfl)) (hw _ (List.mem_of_getElem? (i := 18) rfl)) (hw _ (List.mem_of_getElem? (i := 19) rfl)) e0 (g := (mkF m 87 #[.val (.int q1), .val (.int q2), .val (.int w_2_1), .val (.int w_2_2), .val (.int w_2_3)] [])) rfl (hb hby d2_87) (by decide) (by decide)
        obtain ⟨b_2_65, g_2_65⟩ : ∃ z, z = h0.size := ⟨_, rfl⟩
        rw [← g_2_65] at A_2_65 D_2_65 st_2_65
        have g_b_2_65 : n0 ≤ b_2_65 := Nat.le_trans Z0 (Nat.le_of_eq g_2_65.symm)
        have sz_b_2_65 : h0.size ≤ b_2_65 := Nat.le_trans K0.1 (Nat.le_of_eq g_2_65.symm)
        have K_2_65 := K0.ext E_2_65
        have f_2_66 := S0.ext E_2_65
        have Z_2_65 : n0 ≤ h_2_65.size := Nat.le_trans Z0 E_2_65.1
        have f_2_67 : Fld Z h_2_65 b_2_65 "java/lang/String" "coder" "B" (.int (0 : Int32)) := D_2_65 (Or.inr (hw _ (List.mem_of_getElem? (i := 44) rfl))) (ty := .byte) (by decide)
        have f_2_68 : Fld Z h_2_65 b_2_65 "java/lang/String" "value" "[B" .null := D_2_65 (Or.inr (hw _ (List.mem_of_getElem? (i := 46) rfl))) (ty := (.array .byte)) (by decide)
        obtain ⟨lc_2_65, N_2_65, X_2_65⟩ : ∃ L, Fr n0 L ∧ Stand p l e ({ frames := 4, cells := 4, slots := 10, locals := 66 } : Room) s m #[(.int q1), (.int q2)] below meth c T_2_65 L 1 4 := ⟨_, N0, X_2_65⟩
        refine ogo (fun _ k => st_2_65 _ k) ?_
        show OGo _ _ _ _ (T_2_65.setTop (mkF m 90 #[.val (.int q1), .val (.int q2), .val (.int w_2_1), .val (.int w_2_2), .val (.int w_2_3)] [(.ref b_2_65)]))
        refine ogo (fun _ k => XS.dup X_2_65.here hx rfl (hb hby d2_90) rfl rfl k) ?_
        show OGo _ _ _ _ (T_2_65.setTop (mkF m 91 #[.val (.int q1), .val (.int q2), .val (.int w_2_1), .val (.int w_2_2), .val (.int w_2_3)] [(.ref b_2_65), (.ref b_2_65)]))
        refine ogo (fun _ k => XS.iconst X_2_65.here hx rfl (hb hby d2_91) k) ?_
        show OGo _ _ _ _ (T_2_65.setTop (mkF m 92 #[.val (.int q1), .val (.int q2), .val (.int w_2_1), .val (.int w_2_2), .val (.int w_2_3)] [(.int (3 : Int32)), (.ref b_2_65), (.ref b_2_65)]))
        obtain ⟨T_2_69, h_2_69, k_2_69, X_2_69, e_2_69, E_2_69, A_2_69, Ex_2_69, st_2_69⟩ := newPE X_2_65 hx hZ (hw _ (List.mem_of_getElem? (i := 20) rfl)) e_2_65 (g := (mkF m 92 #[.val (.int q1), .val (.int q2), .val (.int w_2_1), .val (.int w_2_2), .val (.int w_2_3)] [(.int (3 : Int32)), (.ref b_2_65), (.ref b_2_65)])) rfl (hb hby d2_92) rfl (by decide) (cap := 3) (by decide) (by decide) (by decide) (by decide) (ad := "[C") (by first | rfl | decide +kernel)
        obtain ⟨b_2_69, g_2_69⟩ : ∃ z, z = h_2_65.size := ⟨_, rfl⟩
        rw [← g_2_69] at A_2_69 Ex_2_69 st_2_69
        have g_b_2_69 : n0 ≤ b_2_69 := Nat.le_trans Z_2_65 (Nat.le_of_eq g_2_69.symm)
        have ne_b_2_65_b_2_69 : b_2_65 ≠ b_2_69 := Nat.ne_of_lt (Nat.lt_of_lt_of_le f_2_68.lt (Nat.le_of_eq g_2_69.symm))
        have sz_b_2_69 : h0.size ≤ b_2_69 := Nat.le_trans K_2_65.1 (Nat.le_of_eq g_2_69.symm)
        have K_2_69 := K_2_65.ext E_2_69
        have f_2_70 := f_2_66.ext E_2_69
        have f_2_71 := A_2_65.ext E_2_69
        have f_2_72 := f_2_67.ext E_2_69
        have f_2_73 := f_2_68.ext E_2_69
        have Z_2_69 : n0 ≤ h_2_69.size := Nat.le_trans Z_2_65 E_2_69.1
        have V_2_69 : OAr Z h_2_69 b_2_69 .char 3 (fun i => .int ((fun _ : Nat => (0 : Int32)) i)) := OAr.new A_2_69 (by decide)
        obtain ⟨lc_2_69, N_2_69, X_2_69⟩ : ∃ L, Fr n0 L ∧ Stand p l e ({ frames := 4, cells := 4, slots := 10, locals := 66 } : Room) s m #[(.int q1), (.int q2)] below meth c T_2_69 L 2 7 := ⟨_, N_2_65, X_2_69⟩
        refine ogo (fun _ k => st_2_69 _ k) ?_
        show OGo _ _ _ _ (T_2_69.setTop (mkF m 94 #[.val (.int q1), .val (.int q2), .val (.int w_2_1), .val (.int w_2_2), .val (.int w_2_3)] [(.ref b_2_69), (.ref b_2_65), (.ref b_2_65)]))
        refine ogo (fun _ k => XS.dup X_2_69.here hx rfl (hb hby d2_94) rfl rfl k) ?_
        show OGo _ _ _ _ (T_2_69.setTop (mkF m 95 #[.val (.int q1), .val (.int q2), .val (.int w_2_1), .val (.int w_2_2), .val (.int w_2_3)] [(.ref b_2_69), (.ref b_2_69), (.ref b_2_65), (.ref b_2_65)]))
        refine ogo (fun _ k => XS.iconst X_2_69.here hx rfl (hb hby d2_95) k) ?_
        show OGo _ _ _ _ (T_2_69.setTop (mkF m 96 #[.val (.int q1), .val (.int q2), .val (.int w_2_1), .val (.int w_2_2), .val (.int w_2_3)] [(.int (0 : Int32)), (.ref b_2_69), (.ref b_2_69), (.ref b_2_65), (.ref b_2_65)]))
        refine ogo (fun _ k => XS.iloadN X_2_69.here hx rfl (hb hby d2_96) rfl k) ?_
        show OGo _ _ _ _ (T_2_69.setTop (mkF m 97 #[.val (.int q1), .val (.int q2), .val (.int w_2_1), .val (.int w_2_2), .val (.int w_2_3)] [(.int w_2_1), (.int (0 : Int32)), (.ref b_2_69), (.ref b_2_69), (.ref b_2_65), (.ref b_2_65)]))
        obtain ⟨T_2_74, h_2_74, X_2_74, e_2_74, W_2_74, V_2_74, st_2_74⟩ := ostC X_2_69 hx hZ e_2_69 V_2_69 (by decide) (by decide) (g := (mkF m 97 #[.val (.int q1), .val (.int q2), .val (.int w_2_1), .val (.int w_2_2), .val (.int w_2_3)] [(.int w_2_1), (.int (0 : Int32)), (.ref b_2_69), (.ref b_2_69), (.ref b_2_65), (.ref b_2_65)])) rfl rfl (hb hby d2_97)
        have Y_2_74 : OAr Z h_2_74 b_2_69 .char 3 (fun i => .int ((fun i : Nat => if i = ((0 : Int32)).toNatClampNeg then w_2_1.toUInt32.toUInt16.toUInt32.toInt32 else (fun _ : Nat => (0 : Int32)) i) i)) := V_2_74.conv (fun i _ => by dsimp only; split <;> rfl)
        have K_2_74 := K_2_69.wr W_2_74 (Or.inr sz_b_2_69)
        have f_2_75 := f_2_70.wr W_2_74
        have f_2_76 := f_2_71.wr W_2_74
        have f_2_77 := f_2_72.other W_2_74 (Or.inl ne_b_2_65_b_2_69)
        have f_2_78 := f_2_73.other W_2_74 (Or.inl ne_b_2_65_b_2_69)
        have f_2_79 := Ex_2_69.wr W_2_74
        have Z_2_74 : n0 ≤ h_2_74.size := Nat.le_trans Z_2_69 (Keep.of_wr W_2_74).1
        obtain ⟨lc_2_74, N_2_74, X_2_74⟩ : ∃ L, Fr n0 L ∧ Stand p l e ({ frames := 4, cells := 4, slots := 10, locals := 66 } : Room) s m #[(.int q1), (.int q2)] below meth c T_2_74 L 2 7 := ⟨_, Fr.snoc X_2_74 N_2_69 g_b_2_69, X_2_74⟩
        refine ogo (fun _ k => st_2_74 _ k) ?_
        show OGo _ _ _ _ (T_2_74.setTop (mkF m 98 #[.val (.int q1), .val (.int q2), .val (.int w_2_1), .val (.int w_2_2), .val (.int w_2_3)] [(.ref b_2_69), (.ref b_2_65), (.ref b_2_65)]))
        refine ogo (fun _ k => XS.dup X_2_74.here hx rfl (hb hby d2_98) rfl rfl k) ?_
        show OGo _ _ _ _ (T_2_74.setTop (mkF m 99 #[.val (.int q1), .val (.int q2), .val (.int w_2_1), .val (.int w_2_2), .val (.int w_2_3)] [(.ref b_2_69), (.ref b_2_69), (.ref b_2_65), (.ref b_2_65)]))
        refine ogo (fun _ k => XS.iconst X_2_74.here hx rfl (hb hby d2_99) k) ?_
        show OGo _ _ _ _ (T_2_74.setTop (mkF m 100 #[.val (.int q1), .val (.int q2), .val (.int w_2_1), .val (.int w_2_2), .val (.int w_2_3)] [(.int (1 : Int32)), (.ref b_2_69), (.ref b_2_69), (.ref b_2_65), (.ref b_2_65)]))
        refine ogo (fun _ k => XS.iloadN X_2_74.here hx rfl (hb hby d2_100) rfl k) ?_
        show OGo _ _ _ _ (T_2_74.setTop (mkF m 101 #[.val (.int q1), .val (.int q2), .val (.int w_2_1), .val (.int w_2_2), .val (.int w_2_3)] [(.int w_2_2), (.int (1 : Int32)), (.ref b_2_69), (.ref b_2_69), (.ref b_2_65), (.ref b_2_65)]))
        obtain ⟨T_2_80, h_2_80, X_2_80, e_2_80, W_2_80, V_2_80, st_2_80⟩ := ostC X_2_74 hx hZ e_2_74 Y_2_74 (by decide) (by decide) (g := (mkF m 101 #[.val (.int q1), .val (.int q2), .val (.int w_2_1), .val (.int w_2_2), .val (.int w_2_3)] [(.int w_2_2), (.int (1 : Int32)), (.ref b_2_69), (.ref b_2_69), (.ref b_2_65), (.ref b_2_65)])) rfl rfl (hb hby d2_101)
        have Y_2_80 : OAr Z h_2_80 b_2_69 .char 3 (fun i => .int ((fun i : Nat => if i = ((1 : Int32)).toNatClampNeg then w_2_2.toUInt32.toUInt16.toUInt32.toInt32 else (fun i : Nat => if i = ((0 : Int32)).toNatClampNeg then w_2_1.toUInt32.toUInt16.toUInt32.toInt32 else (fun _ : Nat => (0 : Int32)) i) i) i)) := V_2_80.conv (fun i _ => by dsimp only; split <;> rfl)
        have K_2_80 := K_2_74.wr W_2_80 (Or.inr sz_b_2_69)
        have f_2_81 := f_2_75.wr W_2_80
        have f_2_82 := f_2_76.wr W_2_80
        have f_2_83 := f_2_77.other W_2_80 (Or.inl ne_b_2_65_b_2_69)
        have f_2_84 := f_2_78.other W_2_80 (Or.inl ne_b_2_65_b_2_69)
        have f_2_85 := f_2_79.wr W_2_80
        have Z_2_80 : n0 ≤ h_2_80.size := Nat.le_trans Z_2_74 (Keep.of_wr W_2_80).1
        obtain ⟨lc_2_80, N_2_80, X_2_80⟩ : ∃ L, Fr n0 L ∧ Stand p l e ({ frames := 4, cells := 4, slots := 10, locals := 66 } : Room) s m #[(.int q1), (.int q2)] below meth c T_2_80 L 2 7 := ⟨_, Fr.snoc X_2_80 N_2_74 g_b_2_69, X_2_80⟩
        refine ogo (fun _ k => st_2_80 _ k) ?_
        show OGo _ _ _ _ (T_2_80.setTop (mkF m 102 #[.val (.int q1), .val (.int q2), .val (.int w_2_1), .val (.int w_2_2), .val (.int w_2_3)] [(.ref b_2_69), (.ref b_2_65), (.ref b_2_65)]))
        refine ogo (fun _ k => XS.dup X_2_80.here hx rfl (hb hby d2_102) rfl rfl k) ?_
        show OGo _ _ _ _ (T_2_80.setTop (mkF m 103 #[.val (.int q1), .val (.int q2), .val (.int w_2_1), .val (.int w_2_2), .val (.int w_2_3)] [(.ref b_2_69), (.ref b_2_69), (.ref b_2_65), (.ref b_2_65)]))
        refine ogo (fun _ k => XS.iconst X_2_80.here hx rfl (hb hby d2_103) k) ?_
        show OGo _ _ _ _ (T_2_80.setTop (mkF m 104 #[.val (.int q1), .val (.int q2), .val (.int w_2_1), .val (.int w_2_2), .val (.int w_2_3)] [(.int (2 : Int32)), (.ref b_2_69), (.ref b_2_69), (.ref b_2_65), (.ref b_2_65)]))
        refine ogo (fun _ k => XS.iload X_2_80.here hx rfl (hb hby d2_104) rfl k) ?_
        show OGo _ _ _ _ (T_2_80.setTop (mkF m 106 #[.val (.int q1), .val (.int q2), .val (.int w_2_1), .val (.int w_2_2), .val (.int w_2_3)] [(.int w_2_3), (.int (2 : Int32)), (.ref b_2_69), (.ref b_2_69), (.ref b_2_65), (.ref b_2_65)]))
        obtain ⟨T_2_86, h_2_86, X_2_86, e_2_86, W_2_86, V_2_86, st_2_86⟩ := ostC X_2_80 hx hZ e_2_80 Y_2_80 (by decide) (by decide) (g := (mkF m 106 #[.val (.int q1), .val (.int q2), .val (.int w_2_1), .val (.int w_2_2), .val (.int w_2_3)] [(.int w_2_3), (.int (2 : Int32)), (.ref b_2_69), (.ref b_2_69), (.ref b_2_65), (.ref b_2_65)])) rfl rfl (hb hby d2_106)
        have Y_2_86 : OAr Z h_2_86 b_2_69 .char 3 (fun i => .int ((fun i : Nat => if i = ((2 : Int32)).toNatClampNeg then w_2_3.toUInt32.toUInt16.toUInt32.toInt32 else (fun i : Nat => if i = ((1 : Int32)).toNatClampNeg then w_2_2.toUInt32.toUInt16.toUInt32.toInt32 else (fun i : Nat => if i = ((0 : Int32)).toNatClampNeg then w_2_1.toUInt32.toUInt16.toUInt32.toInt32 else (fun _ : Nat => (0 : Int32)) i) i) i) i)) := V_2_86.conv (fun i _ => by dsimp only; split <;> rfl)
        have K_2_86 := K_2_80.wr W_2_86 (Or.inr sz_b_2_69)
        have f_2_87 := f_2_81.wr W_2_86
        have f_2_88 := f_2_82.wr W_2_86
        have f_2_89 := f_2_83.other W_2_86 (Or.inl ne_b_2_65_b_2_69)
        have f_2_90 := f_2_84.other W_2_86 (Or.inl ne_b_2_65_b_2_69)
        have f_2_91 := f_2_85.wr W_2_86
        have Z_2_86 : n0 ≤ h_2_86.size := Nat.le_trans Z_2_80 (Keep.of_wr W_2_86).1
        obtain ⟨lc_2_86, N_2_86, X_2_86⟩ : ∃ L, Fr n0 L ∧ Stand p l e ({ frames := 4, cells := 4, slots := 10, locals := 66 } : Room) s m #[(.int q1), (.int q2)] below meth c T_2_86 L 2 7 := ⟨_, Fr.snoc X_2_86 N_2_80 g_b_2_69, X_2_86⟩
        refine ogo (fun _ k => st_2_86 _ k) ?_
        show OGo _ _ _ _ (T_2_86.setTop (mkF m 107 #[.val (.int q1), .val (.int q2), .val (.int w_2_1), .val (.int w_2_2), .val (.int w_2_3)] [(.ref b_2_69), (.ref b_2_65), (.ref b_2_65)]))
        obtain ⟨kC_2_92, KK_2_92⟩ := oarv Y_2_86 (N := (3 : Int32)) (by decide) (by decide)
        have hp_2_92 : ∀ c ∈ (List.range 3).map (fun i : Nat => if i = ((2 : Int32)).toNatClampNeg then w_2_3.toUInt32.toUInt16.toUInt32.toInt32 else (fun i : Nat => if i = ((1 : Int32)).toNatClampNeg then w_2_2.toUInt32.toUInt16.toUInt32.toInt32 else (fun i : Nat => if i = ((0 : Int32)).toNatClampNeg then w_2_1.toUInt32.toUInt16.toUInt32.toInt32 else (fun _ : Nat => (0 : Int32)) i) i) i), ¬ c < 0 ∧ ¬ (255 : Int32) < c := by
          intro c hc
          obtain ⟨i, -, rfl⟩ := List.mem_map.mp hc
          dsimp only
          repeat' split
          all_goals first | exact own_ch hw_2_1 | exact own_ch hw_2_2 | exact own_ch hw_2_3 | decide
        obtain ⟨_, _, ⟨T_2_92, L_2_92, k_2_92, n_2_92⟩, -, X_2_92, ⟨Lc_2_92, hQ_2_92, l_2_92, y_2_92, z_2_92⟩, st_2_92⟩ := X_2_86.specialBack hx (y := (⟨"java/lang/String", "<init>", "([C)V"⟩ : MethodName)) rfl hown (mvT hZ (hw _ (List.mem_of_getElem? (i := 21) rfl))) (mvT hZ (hw _ (List.mem_of_getElem? (i := 22) rfl))) (mvT hZ (hw _ (List.mem_of_getElem? (i := 23) rfl))) (by decide) (StrChars.Road.backV (W := 1) hZ hws (kI := 4) (hw _ (List.mem_of_getElem? (i := 18) rfl)) (cs := (List.range 3).map (fun i : Nat => if i = ((2 : Int32)).toNatClampNeg then w_2_3.toUInt32.toUInt16.toUInt32.toInt32 else (fun i : Nat => if i = ((1 : Int32)).toNatClampNeg then w_2_2.toUInt32.toUInt16.toUInt32.toInt32 else (fun i : Nat => if i = ((0 : Int32)).toNatClampNeg then w_2_1.toUInt32.toUInt16.toUInt32.toInt32 else (fun _ : Nat => (0 : Int32)) i) i) i)) (bs := _) (n := 3) g_b_2_65 Z_2_86 f_2_88 f_2_90 f_2_89 KK_2_92 f_2_87 hz (by simp) rfl (by decide) (by decide) hp_2_92 rfl (by decide) (by decide)) (g := (mkF m 107 #[.val (.int q1), .val (.int q2), .val (.int w_2_1), .val (.int w_2_2), .val (.int w_2_3)] [(.ref b_2_69), (.ref b_2_65), (.ref b_2_65)])) rfl (by rw [hml]; rfl) (Steps.refl _) (a := b_2_65) (argsL := [(.ref b_2_69)]) (rest := [(.ref b_2_65)]) (lenOf pd___C_V rfl) rfl (by show 2 * 0 + _ ≤ _; exact Nat.le_of_eq rfl) (hb hby d2_107) (fun _ _ => ⟨rfl, e_2_86, (by decide : 2 + 1 ≤ _), (by decide : 7 + 3 ≤ _)⟩)
        dsimp only [Pt.U, Pt.locs, Pt.cells, Pt.slots] at X_2_92 l_2_92 y_2_92 z_2_92 st_2_92 hQ_2_92
        subst l_2_92 y_2_92 z_2_92
        obtain ⟨h_2_92, e_2_92⟩ : ∃ hh, T_2_92.heap = hh := ⟨_, rfl⟩
        rw [e_2_92] at hQ_2_92
        obtain ⟨rfl, Nq_2_92, Kc_2_92, Ex_2_92, -⟩ := hQ_2_92
        have f_2_93 := f_2_88.keep Kc_2_92
        have f_2_94 := f_2_91.keep Kc_2_92
        have f_2_95 := Y_2_86.keep Kc_2_92 (ninS (Ne.symm ne_b_2_65_b_2_69) nin0)
        have Z_2_92 : n0 ≤ h_2_92.size := Nat.le_trans Z_2_86 Kc_2_92.1
        have K_2_92 := K_2_86.trans Kc_2_92 (allS (Or.inr sz_b_2_65) all0)
        obtain ⟨lc_2_92, N_2_92, X_2_92⟩ : ∃ L, Fr n0 L ∧ Stand p l e ({ frames := 4, cells := 4, slots := 10, locals := 66 } : Room) s m #[(.int q1), (.int q2)] below meth c T_2_92 L 3 10 := ⟨_, Fr.app N_2_86 Nq_2_92, X_2_92⟩
        refine ogoT st_2_92 ?_
        show OGo _ _ _ _ (T_2_92.setTop (mkF m 110 #[.val (.int q1), .val (.int q2), .val (.int w_2_1), .val (.int w_2_2), .val (.int w_2_3)] [(.ref b_2_65)]))
        exact oretW (s := s) (vm1 := s.vm) X_2_92 (osince s 0) (Nat.zero_le _) hx hlk Bd.returns rfl (Or.inr (Or.inr (Or.inr (Or.inr ⟨rfl, rfl, rfl⟩)))) (hb hby d2_110) (by decide) (by decide) (by rw [e_2_92]; exact ⟨b_2_65, rfl, N_2_92, K_2_92, Ex_2_92⟩)
theorem d1_0 : decode prog_24_method_12_code 0 = .ok (.aload_n 0, 1) := by decide +kernel
theorem d1_1 : decode prog_24_method_12_code 1 = .ok (.getfield 36, 3) := by decide +kernel
theorem d1_4 : decode prog_24_method_12_code 4 = .ok (.ifCond .eq 14, 3) := by decide +kernel
theorem d1_7 : decode prog_24_method_12_code 7 = .ok (.aload_n 0, 1) := by decide +kernel
theorem d1_8 : decode prog_24_method_12_code 8 = .ok (.getfield 40, 3) := by decide +kernel
theorem d1_11 : decode prog_24_method_12_code 11 = .ok (.ifCond .eq 7, 3) := by decide +kernel
theorem d1_18 : decode prog_24_method_12_code 18 = .ok (.aconst_null, 1) := by decide +kernel
theorem d1_19 : decode prog_24_method_12_code 19 = .ok (.areturn, 1) := by decide +kernel
theorem pn_1 : plainName "com/example/bouncr/bouncr/Key" = true := by first | (simp [plainName, overriddenIn]; done) | decide +kernel
theorem ef_1 (m : MethodId) (x0 : Addr) (x1 : Value) (hx1 : x1.isRef = true) : entryFrame m #[(.ref x0), x1] 2 = mkF m 0 #[.val (.ref x0), .val x1] [] := by rcases ref_cases hx1 with rfl | ⟨_, rfl⟩ <;> first | (simp [entryFrame, mkF, argsToLocals, Value.category]; done) | rfl
set_option maxRecDepth 65536 in
set_option maxHeartbeats 40000000 in
theorem rm1u (l : Launch) (Z : State) (a0 : Array Value) (hw : ∀ d ∈ tables_1, d.before a0 Z = true) (oa : Addr) (vv : Value) (hv : vv.isRef = true) (h0 : Heap) (P0 : Fld Z h0 oa "com/example/bouncr/bouncr/Key" "byName" "Z" (.int (1 : Int32))) (P1 : Fld Z h0 oa "com/example/bouncr/bouncr/Key" "byAddress" "Z" (.int (0 : Int32))) :
    OMet l Z (⟨"com/example/bouncr/bouncr/Key", "second", "(Ljava/lang/String;)Ljava/lang/String;"⟩ : MethodName) prog_24_method_12_code 2 (some (.object "java/lang/String")) ({ frames := 0, cells := 0, slots := 0, locals := 0 } : Room) #[(.ref oa), vv] h0 (OPure (some .null) h0) := by
  intro ws
  refine MetFree.of_bodySF (plainFor_of_name pn_1) hisR ?_
  intro p e s m args below meth c s₁ Bd hml0 hP hK
  obtain ⟨rfl, hZ, hh⟩ := hP
  have hx := Bd.exec
  have hby := Bd.bytes
  have hml : c.maxLocals = 2 := hml0
  have hown : s.vm.findClass "com/example/bouncr/bouncr/Key" = some m.cls := findClass_of_methodNamed Bd.named
  have hnm := (name_of_methodNamed Bd.named Bd.method).1
  have hlk : meth.locks = false := Bd.notSynchronized
  have X0 : Stand p l e ({ frames := 0, cells := 0, slots := 0, locals := 0 } : Room) s m #[(.ref oa), vv] below meth c s₁ [] 0 0 := Stand.of_body Bd
  have e0 : s₁.heap = h0 := by rw [← hh, Bd.state]; rfl
  refine (?_ : OGo p.tables e below (OFin s (OPure (some .null) h0) 0 0) _)
  refine ogo (fun _ k => castTop (ef_1 m oa vv hv) k) ?_
  show OGo _ _ _ _ (s₁.setTop (mkF m 0 #[.val (.ref oa), .val vv] []))
  refine ogo (fun _ k => XS.aloadN X0.here hx rfl (hb hby d1_0) rfl rfl k) ?_
  show OGo _ _ _ _ (s₁.setTop (mkF m 1 #[.val (.ref oa), .val vv] [(.ref oa)]))
  obtain ⟨T_1u_1, X_1u_1, e_1u_1, st_1u_1⟩ := getF X0 hx hZ hown (host := "") (Or.inl (hw _ (List.mem_of_getElem? (i := 9) rfl))) Via.refl e0 P0 (g := (mkF m 1 #[.val (.ref oa), .val vv] [(.ref oa)])) rfl rfl (hb hby d1_1)
  refine ogo (fun _ k => st_1u_1 _ k) ?_
  show OGo _ _ _ _ (T_1u_1.setTop (mkF m 4 #[.val (.ref oa), .val vv] [(.int (1 : Int32))]))
  refine ogo (fun _ k => XS.ifNo X_1u_1.here hx rfl (hb hby d1_4) rfl ((if0 _ _).trans (feq (by decide : ¬ ((1 : Int32) = (0 : Int32)))).1) k) ?_
  show OGo _ _ _ _ (T_1u_1.setTop (mkF m 7 #[.val (.ref oa), .val vv] []))
  refine ogo (fun _ k => XS.aloadN X_1u_1.here hx rfl (hb hby d1_7) rfl rfl k) ?_
  show OGo _ _ _ _ (T_1u_1.setTop (mkF m 8 #[.val (.ref oa), .val vv] [(.ref oa)]))
  obtain ⟨T_1u_2, X_1u_2, e_1u_2, st_1u_2⟩ := getF X_1u_1 hx hZ hown (host := "") (Or.inl (hw _ (List.mem_of_getElem? (i := 11) rfl))) Via.refl e_1u_1 P1 (g := (mkF m 8 #[.val (.ref oa), .val vv] [(.ref oa)])) rfl rfl (hb hby d1_8)
  refine ogo (fun _ k => st_1u_2 _ k) ?_
  show OGo _ _ _ _ (T_1u_2.setTop (mkF m 11 #[.val (.ref oa), .val vv] [(.int (0 : Int32))]))
  refine ogo (fun _ k => XS.ifYes X_1u_2.here hx rfl (pc0 := 11) (pc' := 18) rfl (hb hby d1_11) rfl ((if0 _ _).trans (teq (by decide : (0 : Int32) = (0 : Int32))).1) (by decide) (by decide) k) ?_
  show OGo _ _ _ _ (T_1u_2.setTop (mkF m 18 #[.val (.ref oa), .val vv] []))
  refine ogo (fun _ k => XS.aconstNull X_1u_2.here hx rfl (hb hby d1_18) k) ?_
  show OGo _ _ _ _ (T_1u_2.setTop (mkF m 19 #[.val (.ref oa), .val vv] [.null]))
  exact oret X_1u_2 hx hlk Bd.returns rfl (Or.inr (Or.inr (Or.inr (Or.inr ⟨rfl, rfl, rfl⟩)))) (hb hby d1_19) (by decide) (by decide) ⟨rfl, rfl, e_1u_2⟩
set_option maxRecDepth 65536 in
set_option maxHeartbeats 40000000 in
theorem rm1a (l : Launch) (Z : State) (a0 : Array Value) (hw : ∀ d ∈ tables_1, d.before a0 Z = true) (oa : Addr) (vv : Value) (hv : vv.isRef = true) (h0 : Heap) (P0 : Fld Z h0 oa "com/example/bouncr/bouncr/Key" "byName" "Z" (.int (0 : Int32))) (P1 : Fld Z h0 oa "com/example/bouncr/bouncr/Key" "byAddress" "Z" (.int (1 : Int32))) :
    OMet l Z (⟨"com/example/bouncr/bouncr/Key", "second", "(Ljava/lang/String;)Ljava/lang/String;"⟩ : MethodName) prog_24_method_12_code 2 (some (.object "java/lang/String")) ({ frames := 0, cells := 0, slots := 0, locals := 0 } : Room) #[(.ref oa), vv] h0 (OPure (some .null) h0) := by
  intro ws
  refine MetFree.of_bodySF (plainFor_of_name pn_1) hisR ?_
  intro p e s m args below meth c s₁ Bd hml0 hP hK
  obtain ⟨rfl, hZ, hh⟩ := hP
  have hx := Bd.exec
  have hby := Bd.bytes
  have hml : c.maxLocals = 2 := hml0
  have hown : s.vm.findClass "com/example/bouncr/bouncr/Key" = some m.cls := findClass_of_methodNamed Bd.named
  have hnm := (name_of_methodNamed Bd.named Bd.method).1
  have hlk : meth.locks = false := Bd.notSynchronized
  have X0 : Stand p l e ({ frames := 0, cells := 0, slots := 0, locals := 0 } : Room) s m #[(.ref oa), vv] below meth c s₁ [] 0 0 := Stand.of_body Bd
  have e0 : s₁.heap = h0 := by rw [← hh, Bd.state]; rfl
  refine (?_ : OGo p.tables e below (OFin s (OPure (some .null) h0) 0 0) _)
  refine ogo (fun _ k => castTop (ef_1 m oa vv hv) k) ?_
  show OGo _ _ _ _ (s₁.setTop (mkF m 0 #[.val (.ref oa), .val vv] []))
  refine ogo (fun _ k => XS.aloadN X0.here hx rfl (hb hby d1_0) rfl rfl k) ?_
  show OGo _ _ _ _ (s₁.setTop (mkF m 1 #[.val (.ref oa), .val vv] [(.ref oa)]))
  obtain ⟨T_1a_1, X_1a_1, e_1a_1, st_1a_1⟩ := getF X0 hx hZ hown (host := "") (Or.inl (hw _ (List.mem_of_getElem? (i := 9) rfl))) Via.refl e0 P0 (g := (mkF m 1 #[.val (.ref oa), .val vv] [(.ref oa)])) rfl rfl (hb hby d1_1)
  refine ogo (fun _ k => st_1a_1 _ k) ?_
  show OGo _ _ _ _ (T_1a_1.setTop (mkF m 4 #[.val (.ref oa), .val vv] [(.int (0 : Int32))]))
  refine ogo (fun _ k => XS.ifYes X_1a_1.here hx rfl (pc0 := 4) (pc' := 18) rfl (hb hby d1_4) rfl ((if0 _ _).trans (teq (by decide : (0 : Int32) = (0 : Int32))).1) (by decide) (by decide) k) ?_
  show OGo _ _ _ _ (T_1a_1.setTop (mkF m 18 #[.val (.ref oa), .val vv] []))
  refine ogo (fun _ k => XS.aconstNull X_1a_1.here hx rfl (hb hby d1_18) k) ?_
  show OGo _ _ _ _ (T_1a_1.setTop (mkF m 19 #[.val (.ref oa), .val vv] [.null]))
  exact oret X_1a_1 hx hlk Bd.returns rfl (Or.inr (Or.inr (Or.inr (Or.inr ⟨rfl, rfl, rfl⟩)))) (hb hby d1_19) (by decide) (by decide) ⟨rfl, rfl, e_1a_1⟩
theorem d1_14 : decode prog_24_method_12_code 14 = .ok (.aload_n 1, 1) := by decide +kernel
theorem d1_15 : decode prog_24_method_12_code 15 = .ok (.goto 4, 3) := by decide +kernel
set_option maxRecDepth 65536 in
set_option maxHeartbeats 40000000 in
theorem rm1p (l : Launch) (Z : State) (a0 : Array Value) (hw : ∀ d ∈ tables_1, d.before a0 Z = true) (oa : Addr) (vv : Value) (hv : vv.isRef = true) (h0 : Heap) (P0 : Fld Z h0 oa "com/example/bouncr/bouncr/Key" "byName" "Z" (.int (1 : Int32))) (P1 : Fld Z h0 oa "com/example/bouncr/bouncr/Key" "byAddress" "Z" (.int (1 : Int32))) :
    OMet l Z (⟨"com/example/bouncr/bouncr/Key", "second", "(Ljava/lang/String;)Ljava/lang/String;"⟩ : MethodName) prog_24_method_12_code 2 (some (.object "java/lang/String")) ({ frames := 0, cells := 0, slots := 0, locals := 0 } : Room) #[(.ref oa), vv] h0 (OPure (some vv) h0) := by
  intro ws
  refine MetFree.of_bodySF (plainFor_of_name pn_1) hisR ?_
  intro p e s m args below meth c s₁ Bd hml0 hP hK
  obtain ⟨rfl, hZ, hh⟩ := hP
  have hx := Bd.exec
  have hby := Bd.bytes
  have hml : c.maxLocals = 2 := hml0
  have hown : s.vm.findClass "com/example/bouncr/bouncr/Key" = some m.cls := findClass_of_methodNamed Bd.named
  have hnm := (name_of_methodNamed Bd.named Bd.method).1
  have hlk : meth.locks = false := Bd.notSynchronized
  have X0 : Stand p l e ({ frames := 0, cells := 0, slots := 0, locals := 0 } : Room) s m #[(.ref oa), vv] below meth c s₁ [] 0 0 := Stand.of_body Bd
  have e0 : s₁.heap = h0 := by rw [← hh, Bd.state]; rfl
  refine (?_ : OGo p.tables e below (OFin s (OPure (some vv) h0) 0 0) _)
  refine ogo (fun _ k => castTop (ef_1 m oa vv hv) k) ?_
  show OGo _ _ _ _ (s₁.setTop (mkF m 0 #[.val (.ref oa), .val vv] []))
  refine ogo (fun _ k => XS.aloadN X0.here hx rfl (hb hby d1_0) rfl rfl k) ?_
  show OGo _ _ _ _ (s₁.setTop (mkF m 1 #[.val (.ref oa), .val vv] [(.ref oa)]))
  obtain ⟨T_1p_1, X_1p_1, e_1p_1, st_1p_1⟩ := getF X0 hx hZ hown (host := "") (Or.inl (hw _ (List.mem_of_getElem? (i := 9) rfl))) Via.refl e0 P0 (g := (mkF m 1 #[.val (.ref oa), .val vv] [(.ref oa)])) rfl rfl (hb hby d1_1)
  refine ogo (fun _ k => st_1p_1 _ k) ?_
  show OGo _ _ _ _ (T_1p_1.setTop (mkF m 4 #[.val (.ref oa), .val vv] [(.int (1 : Int32))]))
  refine ogo (fun _ k => XS.ifNo X_1p_1.here hx rfl (hb hby d1_4) rfl ((if0 _ _).trans (feq (by decide : ¬ ((1 : Int32) = (0 : Int32)))).1) k) ?_
  show OGo _ _ _ _ (T_1p_1.setTop (mkF m 7 #[.val (.ref oa), .val vv] []))
  refine ogo (fun _ k => XS.aloadN X_1p_1.here hx rfl (hb hby d1_7) rfl rfl k) ?_
  show OGo _ _ _ _ (T_1p_1.setTop (mkF m 8 #[.val (.ref oa), .val vv] [(.ref oa)]))
  obtain ⟨T_1p_2, X_1p_2, e_1p_2, st_1p_2⟩ := getF X_1p_1 hx hZ hown (host := "") (Or.inl (hw _ (List.mem_of_getElem? (i := 11) rfl))) Via.refl e_1p_1 P1 (g := (mkF m 8 #[.val (.ref oa), .val vv] [(.ref oa)])) rfl rfl (hb hby d1_8)
  refine ogo (fun _ k => st_1p_2 _ k) ?_
  show OGo _ _ _ _ (T_1p_2.setTop (mkF m 11 #[.val (.ref oa), .val vv] [(.int (1 : Int32))]))
  refine ogo (fun _ k => XS.ifNo X_1p_2.here hx rfl (hb hby d1_11) rfl ((if0 _ _).trans (feq (by decide : ¬ ((1 : Int32) = (0 : Int32)))).1) k) ?_
  show OGo _ _ _ _ (T_1p_2.setTop (mkF m 14 #[.val (.ref oa), .val vv] []))
  refine ogo (fun _ k => XS.aloadN X_1p_2.here hx rfl (hb hby d1_14) rfl hv k) ?_
  show OGo _ _ _ _ (T_1p_2.setTop (mkF m 15 #[.val (.ref oa), .val vv] [vv]))
  refine ogo (fun _ k => XS.goto X_1p_2.here hx rfl (pc0 := 15) (pc' := 19) rfl (hb hby d1_15) (by decide) (by decide) k) ?_
  show OGo _ _ _ _ (T_1p_2.setTop (mkF m 19 #[.val (.ref oa), .val vv] [vv]))
  exact oret X_1p_2 hx hlk Bd.returns rfl (Or.inr (Or.inr (Or.inr (Or.inr ⟨rfl, rfl, hv⟩)))) (hb hby d1_19) (by decide) (by decide) ⟨rfl, rfl, e_1p_2⟩
theorem d9_0 : decode jdk_42_method_66_code 0 = .ok (.aload_n 0, 1) := by decide +kernel
theorem d9_1 : decode jdk_42_method_66_code 1 = .ok (.aload_n 1, 1) := by decide +kernel
theorem d9_2 : decode jdk_42_method_66_code 2 = .ok (.if_acmp .ne 5, 3) := by decide +kernel
theorem d9_5 : decode jdk_42_method_66_code 5 = .ok (.iconst 1, 1) := by decide +kernel
theorem d9_6 : decode jdk_42_method_66_code 6 = .ok (.ireturn, 1) := by decide +kernel
theorem pn_9 : plainName "java/lang/String" = true := by first | (simp [plainName, overriddenIn]; done) | decide +kernel
theorem ef_9 (m : MethodId) (x0 : Addr) (x1 : Addr) : entryFrame m #[(.ref x0), (.ref x1)] 3 = mkF m 0 #[.val (.ref x0), .val (.ref x1), .unset] [] := by first | (simp [entryFrame, mkF, argsToLocals, Value.category]; done) | rfl
set_option maxRecDepth 65536 in
set_option maxHeartbeats 40000000 in
theorem rm9 (l : Launch) (Z : State) (a0 : Array Value) (hw : ∀ d ∈ tables_1, d.before a0 Z = true) (oa : Addr) (h0 : Heap) :
    OMet l Z (⟨"java/lang/String", "equals", "(Ljava/lang/Object;)Z"⟩ : MethodName) jdk_42_method_66_code 3 (some .boolean) ({ frames := 0, cells := 0, slots := 0, locals := 0 } : Room) #[(.ref oa), (.ref oa)] h0 (OPure (some (.int (1 : Int32))) h0) := by
  intro ws
  refine MetFree.of_bodySF (plainFor_of_name pn_9) hisR ?_
  intro p e s m args below meth c s₁ Bd hml0 hP hK
  obtain ⟨rfl, hZ, hh⟩ := hP
  have hx := Bd.exec
  have hby := Bd.bytes
  have hml : c.maxLocals = 3 := hml0
  have hown : s.vm.findClass "java/lang/String" = some m.cls := findClass_of_methodNamed Bd.named
  have hnm := (name_of_methodNamed Bd.named Bd.method).1
  have hlk : meth.locks = false := Bd.notSynchronized
  have X0 : Stand p l e ({ frames := 0, cells := 0, slots := 0, locals := 0 } : Room) s m #[(.ref oa), (.ref oa)] below meth c s₁ [] 0 0 := Stand.of_body Bd
  have e0 : s₁.heap = h0 := by rw [← hh, Bd.state]; rfl
  refine (?_ : OGo p.tables e below (OFin s (OPure (some (.int (1 : Int32))) h0) 0 0) _)
  refine ogo (fun _ k => castTop (ef_9 m oa oa) k) ?_
  show OGo _ _ _ _ (s₁.setTop (mkF m 0 #[.val (.ref oa), .val (.ref oa), .unset] []))
  refine ogo (fun _ k => XS.aloadN X0.here hx rfl (hb hby d9_0) rfl rfl k) ?_
  show OGo _ _ _ _ (s₁.setTop (mkF m 1 #[.val (.ref oa), .val (.ref oa), .unset] [(.ref oa)]))
  refine ogo (fun _ k => XS.aloadN X0.here hx rfl (hb hby d9_1) rfl rfl k) ?_
  show OGo _ _ _ _ (s₁.setTop (mkF m 2 #[.val (.ref oa), .val (.ref oa), .unset] [(.ref oa), (.ref oa)]))
  refine ogo (fun _ k => Jvm.RoadKit.acmp (g := (mkF m 2 #[.val (.ref oa), .val (.ref oa), .unset] [(.ref oa), (.ref oa)])) X0 hx rfl rfl rfl (pc0 := 2) (pc' := 5) (same := true) rfl (hb hby d9_2) rfl (decide_eq_true rfl) (by decide) (by decide) k) ?_
  show OGo _ _ _ _ (s₁.setTop (mkF m 5 #[.val (.ref oa), .val (.ref oa), .unset] []))
  refine ogo (fun _ k => XS.iconst X0.here hx rfl (hb hby d9_5) k) ?_
  show OGo _ _ _ _ (s₁.setTop (mkF m 6 #[.val (.ref oa), .val (.ref oa), .unset] [(.int (1 : Int32))]))
  exact oret X0 hx hlk Bd.returns rfl (Or.inl ⟨rfl, Or.inr (Or.inl rfl), _, rfl⟩) (hb hby d9_6) (by decide) (by decide) ⟨rfl, rfl, e0⟩
theorem own_k3 {w y : Int32} (h : w = (y &&& (2147483647 : Int32)) % (3 : Int32)) (h0 : ¬ w = (0 : Int32)) (h1 : ¬ w = (1 : Int32)) : w = (2 : Int32) := by
  have c := c_mask y (2147483647 : Int32) 31 (by decide) (by decide)
  have d := (c_irem (y &&& (2147483647 : Int32)) (3 : Int32) 3 rfl).1 (by omega)
  rw [← h] at d
  have q0 : ¬ w.toInt = 0 := fun z => h0 (Int32.toInt_inj.mp z)
  have q1 : ¬ w.toInt = 1 := fun z => h1 (Int32.toInt_inj.mp z)
  apply Int32.toInt_inj.mp
  show w.toInt = 2
  omega
theorem pn_0 : plainName "com/example/bouncr/bouncr/KeySecondPinLaw" = true := by first | (simp [plainName, overriddenIn]; done) | decide +kernel
theorem ef_0 (m : MethodId) (x0 : Int32) (x1 : Int32) (x2 : Int32) (x3 : Int32) : entryFrame m #[(.int x0), (.int x1), (.int x2), (.int x3)] maxLocals = mkF m 0 #[.val (.int x0), .val (.int x1), .val (.int x2), .val (.int x3), .unset, .unset, .unset, .unset, .unset, .unset] [] := by first | (simp [entryFrame, mkF, argsToLocals, Value.category, maxLocals]; done) | rfl
theorem pd__II_Ljava_lang_String_ : parseMethodDescriptor "(II)Ljava/lang/String;" = some ⟨[.int, .int], some (.object "java/lang/String")⟩ := by decide +kernel
theorem pd__Ljava_lang_String__Ljava_lang_String_ : parseMethodDescriptor "(Ljava/lang/String;)Ljava/lang/String;" = some ⟨[(.object "java/lang/String")], some (.object "java/lang/String")⟩ := by decide +kernel
theorem pd__Ljava_lang_Object__Z : parseMethodDescriptor "(Ljava/lang/Object;)Z" = some ⟨[(.object "java/lang/Object")], some .boolean⟩ := by decide +kernel
set_option maxRecDepth 65536 in
set_option maxHeartbeats 40000000 in
theorem rm0 (l : Launch) (Z : State) (a0 : Array Value) (hw : ∀ d ∈ tables_1, d.before a0 Z = true) (ws : List Jvm.Cond) (va : Int32) (vb : Int32) (vc : Int32) (vd : Int32) (z : Int32) (ku : Addr) (ka : Addr) (kp : Addr) (h0 : Heap) (n0 : Nat) (Z0 : n0 ≤ h0.size) (SC : Sta Z h0 "java/lang/String" "COMPACT_STRINGS" "Z" (.int z)) (hz : ¬ z = 0) (hkeep : ∀ (b : Addr) (cl : Cell), Z.heap[b]? = some cl → h0[b]? = some cl) (hh7 : Jvm.Lit.constHeld Z "java/lang/String" 7) (hcw : Jvm.Lit.compactW.before a0 Z = true) (Sku : Sta Z h0 "com/example/bouncr/bouncr/Key" "USER" "Lcom/example/bouncr/bouncr/Key;" (.ref ku)) (Eku : Exa Z h0 ku "com/example/bouncr/bouncr/Key") (Bku : Fld Z h0 ku "com/example/bouncr/bouncr/Key" "byName" "Z" (.int (1 : Int32))) (Cku : Fld Z h0 ku "com/example/bouncr/bouncr/Key" "byAddress" "Z" (.int (0 : Int32))) (Ska : Sta Z h0 "com/example/bouncr/bouncr/Key" "ADDRESS" "Lcom/example/bouncr/bouncr/Key;" (.ref ka)) (Eka : Exa Z h0 ka "com/example/bouncr/bouncr/Key") (Bka : Fld Z h0 ka "com/example/bouncr/bouncr/Key" "byName" "Z" (.int (0 : Int32))) (Cka : Fld Z h0 ka "com/example/bouncr/bouncr/Key" "byAddress" "Z" (.int (1 : Int32))) (Skp : Sta Z h0 "com/example/bouncr/bouncr/Key" "PAIR" "Lcom/example/bouncr/bouncr/Key;" (.ref kp)) (Ekp : Exa Z h0 kp "com/example/bouncr/bouncr/Key") (Bkp : Fld Z h0 kp "com/example/bouncr/bouncr/Key" "byName" "Z" (.int (1 : Int32))) (Ckp : Fld Z h0 kp "com/example/bouncr/bouncr/Key" "byAddress" "Z" (.int (1 : Int32))) :
    MetFree l x (head1 (Jvm.Cond.code x code maxLocals ret :: ws) room_1) (fun a U => a = #[(.int va), (.int vb), (.int vc), (.int vd)] ∧ Z.Warmed39 U.vm ∧ U.heap = h0 ∧ IB Z U.vm []) (fun _ _ _ _ _ => True) (fun _ U o U' => ∃ v L, o = .returned v ∧ (v = some (.int 1) ∧ Fr n0 L) ∧ ReturnedEndW U o U' L 16 1152) := by
  refine MetFree.of_bodySF (plainFor_of_name pn_0) hisR ?_
  intro p e s m args below meth c s₁ Bd hml0 hP hK
  obtain ⟨rfl, hZ, hh, hI⟩ := hP
  have hx := Bd.exec
  have hby := Bd.bytes
  have hml : c.maxLocals = 10 := hml0
  have hown : s.vm.findClass "com/example/bouncr/bouncr/KeySecondPinLaw" = some m.cls := findClass_of_methodNamed Bd.named
  have hnm := (name_of_methodNamed Bd.named Bd.method).1
  have hlk : meth.locks = false := Bd.notSynchronized
  have X0 : Stand p l e room_1 s m #[(.int va), (.int vb), (.int vc), (.int vd)] below meth c s₁ [] 0 0 := Stand.of_body Bd
  have e0 : s₁.heap = h0 := by rw [← hh, Bd.state]; rfl
  have N0 := Fr.nil n0
  refine (?_ : OGo p.tables e below (OFinW s (fun v _ L => v = some (.int 1) ∧ Fr n0 L) 16 1152) _)
  refine ogo (fun _ k => castTop (ef_0 m va vb vc vd) k) ?_
  show OGo _ _ _ _ (s₁.setTop (mkF m 0 #[.val (.int va), .val (.int vb), .val (.int vc), .val (.int vd), .unset, .unset, .unset, .unset, .unset, .unset] []))
  refine ogo (fun _ k => XS.iloadN X0.here hx rfl (hb hby at_0) rfl k) ?_
  show OGo _ _ _ _ (s₁.setTop (mkF m 1 #[.val (.int va), .val (.int vb), .val (.int vc), .val (.int vd), .unset, .unset, .unset, .unset, .unset, .unset] [(.int va)]))
  refine ogo (fun _ k => X0.ldcI hx hown (mvT hZ (hw _ (List.mem_of_getElem? (i := 0) rfl))) rfl (hb hby at_1) k) ?_
  show OGo _ _ _ _ (s₁.setTop (mkF m 3 #[.val (.int va), .val (.int vb), .val (.int vc), .val (.int vd), .unset, .unset, .unset, .unset, .unset, .unset] [(.int (2147483647 : Int32)), (.int va)]))
  refine ogo (fun _ k => XS.iand X0.here hx rfl (hb hby at_3) rfl k) ?_
  show OGo _ _ _ _ (s₁.setTop (mkF m 4 #[.val (.int va), .val (.int vb), .val (.int vc), .val (.int vd), .unset, .unset, .unset, .unset, .unset, .unset] [(.int (va &&& (2147483647 : Int32)))]))
  refine ogo (fun _ k => XS.iconst X0.here hx rfl (hb hby at_4) k) ?_
  show OGo _ _ _ _ (s₁.setTop (mkF m 5 #[.val (.int va), .val (.int vb), .val (.int vc), .val (.int vd), .unset, .unset, .unset, .unset, .unset, .unset] [(.int (3 : Int32)), (.int (va &&& (2147483647 : Int32)))]))
  refine ogo (fun _ k => iremM X0 hx rfl (hb hby at_5) rfl (by decide) k) ?_
  show OGo _ _ _ _ (s₁.setTop (mkF m 6 #[.val (.int va), .val (.int vb), .val (.int vc), .val (.int vd), .unset, .unset, .unset, .unset, .unset, .unset] [(.int ((va &&& (2147483647 : Int32)) % (3 : Int32)))]))
  suffices Nw_0_1 : ∀ w_0_1 : Int32, w_0_1 = ((va &&& (2147483647 : Int32)) % (3 : Int32)) → OGo p.tables e below (OFinW s (fun v _ L => v = some (.int 1) ∧ Fr n0 L) 16 1152) (s₁.setTop (mkF m 6 #[.val (.int va), .val (.int vb), .val (.int vc), .val (.int vd), .unset, .unset, .unset, .unset, .unset, .unset] [(.int w_0_1)])) from Nw_0_1 _ rfl
  intro w_0_1 hw_0_1
  refine ogo (fun _ k => XS.istore X0.here hx rfl (hb hby at_6) rfl (l' := #[.val (.int va), .val (.int vb), .val (.int vc), .val (.int vd), .val (.int w_0_1), .unset, .unset, .unset, .unset, .unset]) rfl k) ?_
  show OGo _ _ _ _ (s₁.setTop (mkF m 8 #[.val (.int va), .val (.int vb), .val (.int vc), .val (.int vd), .val (.int w_0_1), .unset, .unset, .unset, .unset, .unset] []))
  refine ogo (fun _ k => XS.iload X0.here hx rfl (hb hby at_8) rfl k) ?_
  show OGo _ _ _ _ (s₁.setTop (mkF m 10 #[.val (.int va), .val (.int vb), .val (.int vc), .val (.int vd), .val (.int w_0_1), .unset, .unset, .unset, .unset, .unset] [(.int w_0_1)]))
  by_cases hc_0_2 : w_0_1 = (0 : Int32)
  · refine ogo (fun _ k => XS.ifNo X0.here hx rfl (hb hby at_10) rfl ((if0 _ _).trans (teq hc_0_2).2) k) ?_
    show OGo _ _ _ _ (s₁.setTop (mkF m 13 #[.val (.int va), .val (.int vb), .val (.int vc), .val (.int vd), .val (.int w_0_1), .unset, .unset, .unset, .unset, .unset] []))
    obtain ⟨T_0_3, X_0_3, e_0_3, st_0_3⟩ := getS2 X0 hx hZ hown (host := "") (Or.inl (hw _ (List.mem_of_getElem? (i := 1) rfl))) Via.refl e0 Sku (g := (mkF m 13 #[.val (.int va), .val (.int vb), .val (.int vc), .val (.int vd), .val (.int w_0_1), .unset, .unset, .unset, .unset, .unset] [])) rfl (hb hby at_13)
    refine ogo (fun _ k => st_0_3 _ k) ?_
    show OGo _ _ _ _ (T_0_3.setTop (mkF m 16 #[.val (.int va), .val (.int vb), .val (.int vc), .val (.int vd), .val (.int w_0_1), .unset, .unset, .unset, .unset, .unset] [(.ref ku)]))
    refine ogo (fun _ k => XS.astore X_0_3.here hx rfl (hb hby at_16) rfl rfl (l' := #[.val (.int va), .val (.int vb), .val (.int vc), .val (.int vd), .val (.int w_0_1), .val (.ref ku), .unset, .unset, .unset, .unset]) rfl k) ?_
    show OGo _ _ _ _ (T_0_3.setTop (mkF m 18 #[.val (.int va), .val (.int vb), .val (.int vc), .val (.int vd), .val (.int w_0_1), .val (.ref ku), .unset, .unset, .unset, .unset] []))
    refine ogo (fun _ k => XS.goto X_0_3.here hx rfl (pc0 := 18) (pc' := 40) rfl (hb hby at_18) (by decide) (by decide) k) ?_
    show OGo _ _ _ _ (T_0_3.setTop (mkF m 40 #[.val (.int va), .val (.int vb), .val (.int vc), .val (.int vd), .val (.int w_0_1), .val (.ref ku), .unset, .unset, .unset, .unset] []))
    refine ogo (fun _ k => XS.iloadN X_0_3.here hx rfl (hb hby at_40) rfl k) ?_
    show OGo _ _ _ _ (T_0_3.setTop (mkF m 41 #[.val (.int va), .val (.int vb), .val (.int vc), .val (.int vd), .val (.int w_0_1), .val (.ref ku), .unset, .unset, .unset, .unset] [(.int vd)]))
    refine ogo (fun _ k => XS.iconst X_0_3.here hx rfl (hb hby at_41) k) ?_
    show OGo _ _ _ _ (T_0_3.setTop (mkF m 42 #[.val (.int va), .val (.int vb), .val (.int vc), .val (.int vd), .val (.int w_0_1), .val (.ref ku), .unset, .unset, .unset, .unset] [(.int (1 : Int32)), (.int vd)]))
    refine ogo (fun _ k => XS.iand X_0_3.here hx rfl (hb hby at_42) rfl k) ?_
    show OGo _ _ _ _ (T_0_3.setTop (mkF m 43 #[.val (.int va), .val (.int vb), .val (.int vc), .val (.int vd), .val (.int w_0_1), .val (.ref ku), .unset, .unset, .unset, .unset] [(.int (vd &&& (1 : Int32)))]))
    by_cases hc_0_4 : (vd &&& (1 : Int32)) = (0 : Int32)
    · refine ogo (fun _ k => XS.ifYes X_0_3.here hx rfl (pc0 := 43) (pc' := 50) rfl (hb hby at_43) rfl ((if0 _ _).trans (teq hc_0_4).1) (by decide) (by decide) k) ?_
      show OGo _ _ _ _ (T_0_3.setTop (mkF m 50 #[.val (.int va), .val (.int vb), .val (.int vc), .val (.int vd), .val (.int w_0_1), .val (.ref ku), .unset, .unset, .unset, .unset] []))
      refine ogo (fun _ k => XS.iconst X_0_3.here hx rfl (hb hby at_50) k) ?_
      show OGo _ _ _ _ (T_0_3.setTop (mkF m 51 #[.val (.int va), .val (.int vb), .val (.int vc), .val (.int vd), .val (.int w_0_1), .val (.ref ku), .unset, .unset, .unset, .unset] [(.int (0 : Int32))]))
      refine ogo (fun _ k => XS.istore X_0_3.here hx rfl (hb hby at_51) rfl (l' := #[.val (.int va), .val (.int vb), .val (.int vc), .val (.int vd), .val (.int w_0_1), .val (.ref ku), .val (.int (0 : Int32)), .unset, .unset, .unset]) rfl k) ?_
      show OGo _ _ _ _ (T_0_3.setTop (mkF m 53 #[.val (.int va), .val (.int vb), .val (.int vc), .val (.int vd), .val (.int w_0_1), .val (.ref ku), .val (.int (0 : Int32)), .unset, .unset, .unset] []))
      refine ogo (fun _ k => XS.iload X_0_3.here hx rfl (hb hby at_53) rfl k) ?_
      show OGo _ _ _ _ (T_0_3.setTop (mkF m 55 #[.val (.int va), .val (.int vb), .val (.int vc), .val (.int vd), .val (.int w_0_1), .val (.ref ku), .val (.int (0 : Int32)), .unset, .unset, .unset] [(.int (0 : Int32))]))
      refine ogo (fun _ k => XS.ifYes X_0_3.here hx rfl (pc0 := 55) (pc' := 62) rfl (hb hby at_55) rfl ((if0 _ _).trans (teq (by decide : (0 : Int32) = (0 : Int32))).1) (by decide) (by decide) k) ?_
      show OGo _ _ _ _ (T_0_3.setTop (mkF m 62 #[.val (.int va), .val (.int vb), .val (.int vc), .val (.int vd), .val (.int w_0_1), .val (.ref ku), .val (.int (0 : Int32)), .unset, .unset, .unset] []))
      refine ogo (fun _ k => XS.iloadN X_0_3.here hx rfl (hb hby at_62) rfl k) ?_
      show OGo _ _ _ _ (T_0_3.setTop (mkF m 63 #[.val (.int va), .val (.int vb), .val (.int vc), .val (.int vd), .val (.int w_0_1), .val (.ref ku), .val (.int (0 : Int32)), .unset, .unset, .unset] [(.int vb)]))
      refine ogo (fun _ k => XS.iconst X_0_3.here hx rfl (hb hby at_63) k) ?_
      show OGo _ _ _ _ (T_0_3.setTop (mkF m 64 #[.val (.int va), .val (.int vb), .val (.int vc), .val (.int vd), .val (.int w_0_1), .val (.ref ku), .val (.int (0 : Int32)), .unset, .unset, .unset] [(.int (3 : Int32)), (.int vb)]))
      refine ogo (fun _ k => XS.iand X_0_3.here hx rfl (hb hby at_64) rfl k) ?_
      show OGo _ _ _ _ (T_0_3.setTop (mkF m 65 #[.val (.int va), .val (.int vb), .val (.int vc), .val (.int vd), .val (.int w_0_1), .val (.ref ku), .val (.int (0 : Int32)), .unset, .unset, .unset] [(.int (vb &&& (3 : Int32)))]))
      refine ogo (fun _ k => XS.iloadN X_0_3.here hx rfl (hb hby at_65) rfl k) ?_
      show OGo _ _ _ _ (T_0_3.setTop (mkF m 66 #[.val (.int va), .val (.int vb), .val (.int vc), .val (.int vd), .val (.int w_0_1), .val (.ref ku), .val (.int (0 : Int32)), .unset, .unset, .unset] [(.int vc), (.int (vb &&& (3 : Int32)))]))
      obtain ⟨v_0_5, T_0_5, h_0_5, L_0_5, e_0_5, hQ_0_5, X_0_5, hS_0_5, hZ, hown, st_0_5⟩ := ocallW X_0_3 hx hZ hI e_0_3 (rm2 l Z a0 hw (vb &&& (3 : Int32)) vc z h0 n0 Z0 SC hz (by intro b cl q; exact hkeep b cl q) hh7 hcw) hown (hw _ (List.mem_of_getElem? (i := 13) rfl)) (hw _ (List.mem_of_getElem? (i := 14) rfl)) (hw _ (List.mem_of_getElem? (i := 15) rfl)) (hw _ (List.mem_of_getElem? (i := 16) rfl)) (by decide) (g := (mkF m 66 #[.val (.int va), .val (.int vb), .val (.int vc), .val (.int vd), .val (.int w_0_1), .val (.ref ku), .val (.int (0 : Int32)), .unset, .unset, .unset] [(.int vc), (.int (vb &&& (3 : Int32)))])) rfl (by rw [hml]; rfl) [(.int (vb &&& (3 : Int32))), (.int vc)] [] rfl (lenOf pd__II_Ljava_lang_String_ rfl) rfl (hb hby at_66) 0 (by show 2 * 0 + _ ≤ _; exact Nat.le_of_eq rfl) (by decide) (by decide) (by decide) (by decide)
      obtain ⟨r_0_5, rfl, Nq_0_5, Kc_0_5, Er_0_5⟩ := hQ_0_5
      have f_0_6 := osta SC Kc_0_5
      have f_0_7 := osta Sku Kc_0_5
      have f_0_8 := Eku.keep Kc_0_5
      have f_0_9 := Bku.keep Kc_0_5 nin0
      have f_0_10 := Cku.keep Kc_0_5 nin0
      have f_0_11 := osta Ska Kc_0_5
      have f_0_12 := Eka.keep Kc_0_5
      have f_0_13 := Bka.keep Kc_0_5 nin0
      have f_0_14 := Cka.keep Kc_0_5 nin0
      have f_0_15 := osta Skp Kc_0_5
      have f_0_16 := Ekp.keep Kc_0_5
      have f_0_17 := Bkp.keep Kc_0_5 nin0
      have f_0_18 := Ckp.keep Kc_0_5 nin0
      have Z_0_5 : n0 ≤ h_0_5.size := Nat.le_trans Z0 Kc_0_5.1
      obtain ⟨lc_0_5, N_0_5, X_0_5⟩ : ∃ L, Fr n0 L ∧ Stand p l e room_1 (s.setVm T_0_5.vm) m #[(.int va), (.int vb), (.int vc), (.int vd)] below meth c T_0_5 L 4 10 := ⟨_, Fr.app N0 Nq_0_5, X_0_5⟩
      refine ogo (fun _ k => st_0_5 _ k) ?_
      show OGo _ _ _ _ (T_0_5.setTop (mkF m 69 #[.val (.int va), .val (.int vb), .val (.int vc), .val (.int vd), .val (.int w_0_1), .val (.ref ku), .val (.int (0 : Int32)), .unset, .unset, .unset] [(.ref r_0_5)]))
      refine ogo (fun _ k => XS.astore X_0_5.here hx rfl (hb hby at_69) rfl rfl (l' := #[.val (.int va), .val (.int vb), .val (.int vc), .val (.int vd), .val (.int w_0_1), .val (.ref ku), .val (.int (0 : Int32)), .val (.ref r_0_5), .unset, .unset]) rfl k) ?_
      show OGo _ _ _ _ (T_0_5.setTop (mkF m 71 #[.val (.int va), .val (.int vb), .val (.int vc), .val (.int vd), .val (.int w_0_1), .val (.ref ku), .val (.int (0 : Int32)), .val (.ref r_0_5), .unset, .unset] []))
      refine ogo (fun _ k => XS.iload X_0_5.here hx rfl (hb hby at_71) rfl k) ?_
      show OGo _ _ _ _ (T_0_5.setTop (mkF m 73 #[.val (.int va), .val (.int vb), .val (.int vc), .val (.int vd), .val (.int w_0_1), .val (.ref ku), .val (.int (0 : Int32)), .val (.ref r_0_5), .unset, .unset] [(.int w_0_1)]))
      refine ogo (fun _ k => XS.iconst X_0_5.here hx rfl (hb hby at_73) k) ?_
      show OGo _ _ _ _ (T_0_5.setTop (mkF m 74 #[.val (.int va), .val (.int vb), .val (.int vc), .val (.int vd), .val (.int w_0_1), .val (.ref ku), .val (.int (0 : Int32)), .val (.ref r_0_5), .unset, .unset] [(.int (2 : Int32)), (.int w_0_1)]))
      refine ogo (fun _ k => XS.icmpYes X_0_5.here hx rfl (pc0 := 74) (pc' := 82) rfl (hb hby at_74) rfl (feq (by rw [hc_0_2]; decide)).2 (by decide) (by decide) k) ?_
      show OGo _ _ _ _ (T_0_5.setTop (mkF m 82 #[.val (.int va), .val (.int vb), .val (.int vc), .val (.int vd), .val (.int w_0_1), .val (.ref ku), .val (.int (0 : Int32)), .val (.ref r_0_5), .unset, .unset] []))
      refine ogo (fun _ k => XS.aconstNull X_0_5.here hx rfl (hb hby at_82) k) ?_
      show OGo _ _ _ _ (T_0_5.setTop (mkF m 83 #[.val (.int va), .val (.int vb), .val (.int vc), .val (.int vd), .val (.int w_0_1), .val (.ref ku), .val (.int (0 : Int32)), .val (.ref r_0_5), .unset, .unset] [.null]))
      refine ogo (fun _ k => XS.astore X_0_5.here hx rfl (hb hby at_83) rfl rfl (l' := #[.val (.int va), .val (.int vb), .val (.int vc), .val (.int vd), .val (.int w_0_1), .val (.ref ku), .val (.int (0 : Int32)), .val (.ref r_0_5), .val .null, .unset]) rfl k) ?_
      show OGo _ _ _ _ (T_0_5.setTop (mkF m 85 #[.val (.int va), .val (.int vb), .val (.int vc), .val (.int vd), .val (.int w_0_1), .val (.ref ku), .val (.int (0 : Int32)), .val (.ref r_0_5), .val .null, .unset] []))
      refine ogo (fun _ k => XS.aload X_0_5.here hx rfl (hb hby at_85) rfl rfl k) ?_
      show OGo _ _ _ _ (T_0_5.setTop (mkF m 87 #[.val (.int va), .val (.int vb), .val (.int vc), .val (.int vd), .val (.int w_0_1), .val (.ref ku), .val (.int (0 : Int32)), .val (.ref r_0_5), .val .null, .unset] [(.ref ku)]))
      refine ogo (fun _ k => XS.aload X_0_5.here hx rfl (hb hby at_87) rfl rfl k) ?_
      show OGo _ _ _ _ (T_0_5.setTop (mkF m 89 #[.val (.int va), .val (.int vb), .val (.int vc), .val (.int vd), .val (.int w_0_1), .val (.ref ku), .val (.int (0 : Int32)), .val (.ref r_0_5), .val .null, .unset] [(.ref r_0_5), (.ref ku)]))
      obtain ⟨T_0_19, X_0_19, e_0_19, st_0_19⟩ := ovirtP X_0_5 hx hZ e_0_5 (rm1u l Z a0 hw ku (.ref r_0_5) rfl h_0_5 f_0_9 f_0_10) hown (hw _ (List.mem_of_getElem? (i := 4) rfl)) (hw _ (List.mem_of_getElem? (i := 5) rfl)) (hw _ (List.mem_of_getElem? (i := 7) rfl)) (hw _ (List.mem_of_getElem? (i := 6) rfl)) (hw _ (List.mem_of_getElem? (i := 2) rfl)) (hw _ (List.mem_of_getElem? (i := 8) rfl)) (by decide) f_0_8 (g := (mkF m 89 #[.val (.int va), .val (.int vb), .val (.int vc), .val (.int vd), .val (.int w_0_1), .val (.ref ku), .val (.int (0 : Int32)), .val (.ref r_0_5), .val .null, .unset] [(.ref r_0_5), (.ref ku)])) rfl (by rw [hml]; rfl) [(.ref r_0_5)] [] rfl (lenOf pd__Ljava_lang_String__Ljava_lang_String_ rfl) rfl (hb hby at_89) 0 (by show 2 * 0 + _ ≤ _; exact Nat.le_of_eq rfl) (by decide) (by decide) (by decide) (by decide) rfl rfl
      refine ogo (fun _ k => st_0_19 _ k) ?_
      show OGo _ _ _ _ (T_0_19.setTop (mkF m 92 #[.val (.int va), .val (.int vb), .val (.int vc), .val (.int vd), .val (.int w_0_1), .val (.ref ku), .val (.int (0 : Int32)), .val (.ref r_0_5), .val .null, .unset] [.null]))
      refine ogo (fun _ k => XS.astore X_0_19.here hx rfl (hb hby at_92) rfl rfl (l' := #[.val (.int va), .val (.int vb), .val (.int vc), .val (.int vd), .val (.int w_0_1), .val (.ref ku), .val (.int (0 : Int32)), .val (.ref r_0_5), .val .null, .val .null]) rfl k) ?_
      show OGo _ _ _ _ (T_0_19.setTop (mkF m 94 #[.val (.int va), .val (.int vb), .val (.int vc), .val (.int vd), .val (.int w_0_1), .val (.ref ku), .val (.int (0 : Int32)), .val (.ref r_0_5), .val .null, .val .null] []))
      refine ogo (fun _ k => XS.aload X_0_19.here hx rfl (hb hby at_94) rfl rfl k) ?_
      show OGo _ _ _ _ (T_0_19.setTop (mkF m 96 #[.val (.int va), .val (.int vb), .val (.int vc), .val (.int vd), .val (.int w_0_1), .val (.ref ku), .val (.int (0 : Int32)), .val (.ref r_0_5), .val .null, .val .null] [.null]))
      refine ogo (fun _ k => XS.ifnonnullNo X_0_19.here hx rfl (hb hby at_96) rfl k) ?_
      show OGo _ _ _ _ (T_0_19.setTop (mkF m 99 #[.val (.int va), .val (.int vb), .val (.int vc), .val (.int vd), .val (.int w_0_1), .val (.ref ku), .val (.int (0 : Int32)), .val (.ref r_0_5), .val .null, .val .null] []))
      refine ogo (fun _ k => XS.aload X_0_19.here hx rfl (hb hby at_99) rfl rfl k) ?_
      show OGo _ _ _ _ (T_0_19.setTop (mkF m 101 #[.val (.int va), .val (.int vb), .val (.int vc), .val (.int vd), .val (.int w_0_1), .val (.ref ku), .val (.int (0 : Int32)), .val (.ref r_0_5), .val .null, .val .null] [.null]))
      refine ogo (fun _ k => XS.ifnonnullNo X_0_19.here hx rfl (hb hby at_101) rfl k) ?_
      show OGo _ _ _ _ (T_0_19.setTop (mkF m 104 #[.val (.int va), .val (.int vb), .val (.int vc), .val (.int vd), .val (.int w_0_1), .val (.ref ku), .val (.int (0 : Int32)), .val (.ref r_0_5), .val .null, .val .null] []))
      refine ogo (fun _ k => XS.iconst X_0_19.here hx rfl (hb hby at_104) k) ?_
      show OGo _ _ _ _ (T_0_19.setTop (mkF m 105 #[.val (.int va), .val (.int vb), .val (.int vc), .val (.int vd), .val (.int w_0_1), .val (.ref ku), .val (.int (0 : Int32)), .val (.ref r_0_5), .val .null, .val .null] [(.int (1 : Int32))]))
      refine ogo (fun _ k => XS.goto X_0_19.here hx rfl (pc0 := 105) (pc' := 109) rfl (hb hby at_105) (by decide) (by decide) k) ?_
      show OGo _ _ _ _ (T_0_19.setTop (mkF m 109 #[.val (.int va), .val (.int vb), .val (.int vc), .val (.int vd), .val (.int w_0_1), .val (.ref ku), .val (.int (0 : Int32)), .val (.ref r_0_5), .val .null, .val .null] [(.int (1 : Int32))]))
      exact oretW (s := s) X_0_19 hS_0_5 (by rw [e_0_19]; exact (Nat.le_refl _)) hx hlk Bd.returns rfl (Or.inl ⟨rfl, Or.inr (Or.inl rfl), _, rfl⟩) (hb hby at_109) (by decide) (by decide) ⟨rfl, N_0_5⟩
    · refine ogo (fun _ k => XS.ifNo X_0_3.here hx rfl (hb hby at_43) rfl ((if0 _ _).trans (feq hc_0_4).1) k) ?_
      show OGo _ _ _ _ (T_0_3.setTop (mkF m 46 #[.val (.int va), .val (.int vb), .val (.int vc), .val (.int vd), .val (.int w_0_1), .val (.ref ku), .unset, .unset, .unset, .unset] []))
      refine ogo (fun _ k => XS.iconst X_0_3.here hx rfl (hb hby at_46) k) ?_
      show OGo _ _ _ _ (T_0_3.setTop (mkF m 47 #[.val (.int va), .val (.int vb), .val (.int vc), .val (.int vd), .val (.int w_0_1), .val (.ref ku), .unset, .unset, .unset, .unset] [(.int (1 : Int32))]))
      refine ogo (fun _ k => XS.goto X_0_3.here hx rfl (pc0 := 47) (pc' := 51) rfl (hb hby at_47) (by decide) (by decide) k) ?_
      show OGo _ _ _ _ (T_0_3.setTop (mkF m 51 #[.val (.int va), .val (.int vb), .val (.int vc), .val (.int vd), .val (.int w_0_1), .val (.ref ku), .unset, .unset, .unset, .unset] [(.int (1 : Int32))]))
      refine ogo (fun _ k => XS.istore X_0_3.here hx rfl (hb hby at_51) rfl (l' := #[.val (.int va), .val (.int vb), .val (.int vc), .val (.int vd), .val (.int w_0_1), .val (.ref ku), .val (.int (1 : Int32)), .unset, .unset, .unset]) rfl k) ?_
      show OGo _ _ _ _ (T_0_3.setTop (mkF m 53 #[.val (.int va), .val (.int vb), .val (.int vc), .val (.int vd), .val (.int w_0_1), .val (.ref ku), .val (.int (1 : Int32)), .unset, .unset, .unset] []))
      refine ogo (fun _ k => XS.iload X_0_3.here hx rfl (hb hby at_53) rfl k) ?_
      show OGo _ _ _ _ (T_0_3.setTop (mkF m 55 #[.val (.int va), .val (.int vb), .val (.int vc), .val (.int vd), .val (.int w_0_1), .val (.ref ku), .val (.int (1 : Int32)), .unset, .unset, .unset] [(.int (1 : Int32))]))
      refine ogo (fun _ k => XS.ifNo X_0_3.here hx rfl (hb hby at_55) rfl ((if0 _ _).trans (feq (by decide : ¬ ((1 : Int32) = (0 : Int32)))).1) k) ?_
      show OGo _ _ _ _ (T_0_3.setTop (mkF m 58 #[.val (.int va), .val (.int vb), .val (.int vc), .val (.int vd), .val (.int w_0_1), .val (.ref ku), .val (.int (1 : Int32)), .unset, .unset, .unset] []))
      refine ogo (fun _ k => XS.aconstNull X_0_3.here hx rfl (hb hby at_58) k) ?_
      show OGo _ _ _ _ (T_0_3.setTop (mkF m 59 #[.val (.int va), .val (.int vb), .val (.int vc), .val (.int vd), .val (.int w_0_1), .val (.ref ku), .val (.int (1 : Int32)), .unset, .unset, .unset] [.null]))
      refine ogo (fun _ k => XS.goto X_0_3.here hx rfl (pc0 := 59) (pc' := 69) rfl (hb hby at_59) (by decide) (by decide) k) ?_
      show OGo _ _ _ _ (T_0_3.setTop (mkF m 69 #[.val (.int va), .val (.int vb), .val (.int vc), .val (.int vd), .val (.int w_0_1), .val (.ref ku), .val (.int (1 : Int32)), .unset, .unset, .unset] [.null]))
      refine ogo (fun _ k => XS.astore X_0_3.here hx rfl (hb hby at_69) rfl rfl (l' := #[.val (.int va), .val (.int vb), .val (.int vc), .val (.int vd), .val (.int w_0_1), .val (.ref ku), .val (.int (1 : Int32)), .val .null, .unset, .unset]) rfl k) ?_
      show OGo _ _ _ _ (T_0_3.setTop (mkF m 71 #[.val (.int va), .val (.int vb), .val (.int vc), .val (.int vd), .val (.int w_0_1), .val (.ref ku), .val (.int (1 : Int32)), .val .null, .unset, .unset] []))
      refine ogo (fun _ k => XS.iload X_0_3.here hx rfl (hb hby at_71) rfl k) ?_
      show OGo _ _ _ _ (T_0_3.setTop (mkF m 73 #[.val (.int va), .val (.int vb), .val (.int vc), .val (.int vd), .val (.int w_0_1), .val (.ref ku), .val (.int (1 : Int32)), .val .null, .unset, .unset] [(.int w_0_1)]))
      refine ogo (fun _ k => XS.iconst X_0_3.here hx rfl (hb hby at_73) k) ?_
      show OGo _ _ _ _ (T_0_3.setTop (mkF m 74 #[.val (.int va), .val (.int vb), .val (.int vc), .val (.int vd), .val (.int w_0_1), .val (.ref ku), .val (.int (1 : Int32)), .val .null, .unset, .unset] [(.int (2 : Int32)), (.int w_0_1)]))
      refine ogo (fun _ k => XS.icmpYes X_0_3.here hx rfl (pc0 := 74) (pc' := 82) rfl (hb hby at_74) rfl (feq (by rw [hc_0_2]; decide)).2 (by decide) (by decide) k) ?_
      show OGo _ _ _ _ (T_0_3.setTop (mkF m 82 #[.val (.int va), .val (.int vb), .val (.int vc), .val (.int vd), .val (.int w_0_1), .val (.ref ku), .val (.int (1 : Int32)), .val .null, .unset, .unset] []))
      refine ogo (fun _ k => XS.aconstNull X_0_3.here hx rfl (hb hby at_82) k) ?_
      show OGo _ _ _ _ (T_0_3.setTop (mkF m 83 #[.val (.int va), .val (.int vb), .val (.int vc), .val (.int vd), .val (.int w_0_1), .val (.ref ku), .val (.int (1 : Int32)), .val .null, .unset, .unset] [.null]))
      refine ogo (fun _ k => XS.astore X_0_3.here hx rfl (hb hby at_83) rfl rfl (l' := #[.val (.int va), .val (.int vb), .val (.int vc), .val (.int vd), .val (.int w_0_1), .val (.ref ku), .val (.int (1 : Int32)), .val .null, .val .null, .unset]) rfl k) ?_
      show OGo _ _ _ _ (T_0_3.setTop (mkF m 85 #[.val (.int va), .val (.int vb), .val (.int vc), .val (.int vd), .val (.int w_0_1), .val (.ref ku), .val (.int (1 : Int32)), .val .null, .val .null, .unset] []))
      refine ogo (fun _ k => XS.aload X_0_3.here hx rfl (hb hby at_85) rfl rfl k) ?_
      show OGo _ _ _ _ (T_0_3.setTop (mkF m 87 #[.val (.int va), .val (.int vb), .val (.int vc), .val (.int vd), .val (.int w_0_1), .val (.ref ku), .val (.int (1 : Int32)), .val .null, .val .null, .unset] [(.ref ku)]))
      refine ogo (fun _ k => XS.aload X_0_3.here hx rfl (hb hby at_87) rfl rfl k) ?_
      show OGo _ _ _ _ (T_0_3.setTop (mkF m 89 #[.val (.int va), .val (.int vb), .val (.int vc), .val (.int vd), .val (.int w_0_1), .val (.ref ku), .val (.int (1 : Int32)), .val .null, .val .null, .unset] [.null, (.ref ku)]))
      obtain ⟨T_0_20, X_0_20, e_0_20, st_0_20⟩ := ovirtP X_0_3 hx hZ e_0_3 (rm1u l Z a0 hw ku .null rfl h0 Bku Cku) hown (hw _ (List.mem_of_getElem? (i := 4) rfl)) (hw _ (List.mem_of_getElem? (i := 5) rfl)) (hw _ (List.mem_of_getElem? (i := 7) rfl)) (hw _ (List.mem_of_getElem? (i := 6) rfl)) (hw _ (List.mem_of_getElem? (i := 2) rfl)) (hw _ (List.mem_of_getElem? (i := 8) rfl)) (by decide) Eku (g := (mkF m 89 #[.val (.int va), .val (.int vb), .val (.int vc), .val (.int vd), .val (.int w_0_1), .val (.ref ku), .val (.int (1 : Int32)), .val .null, .val .null, .unset] [.null, (.ref ku)])) rfl (by rw [hml]; rfl) [.null] [] rfl (lenOf pd__Ljava_lang_String__Ljava_lang_String_ rfl) rfl (hb hby at_89) 0 (by show 2 * 0 + _ ≤ _; exact Nat.le_of_eq rfl) (by decide) (by decide) (by decide) (by decide) rfl rfl
      refine ogo (fun _ k => st_0_20 _ k) ?_
      show OGo _ _ _ _ (T_0_20.setTop (mkF m 92 #[.val (.int va), .val (.int vb), .val (.int vc), .val (.int vd), .val (.int w_0_1), .val (.ref ku), .val (.int (1 : Int32)), .val .null, .val .null, .unset] [.null]))
      refine ogo (fun _ k => XS.astore X_0_20.here hx rfl (hb hby at_92) rfl rfl (l' := #[.val (.int va), .val (.int vb), .val (.int vc), .val (.int vd), .val (.int w_0_1), .val (.ref ku), .val (.int (1 : Int32)), .val .null, .val .null, .val .null]) rfl k) ?_
      show OGo _ _ _ _ (T_0_20.setTop (mkF m 94 #[.val (.int va), .val (.int vb), .val (.int vc), .val (.int vd), .val (.int w_0_1), .val (.ref ku), .val (.int (1 : Int32)), .val .null, .val .null, .val .null] []))
      refine ogo (fun _ k => XS.aload X_0_20.here hx rfl (hb hby at_94) rfl rfl k) ?_
      show OGo _ _ _ _ (T_0_20.setTop (mkF m 96 #[.val (.int va), .val (.int vb), .val (.int vc), .val (.int vd), .val (.int w_0_1), .val (.ref ku), .val (.int (1 : Int32)), .val .null, .val .null, .val .null] [.null]))
      refine ogo (fun _ k => XS.ifnonnullNo X_0_20.here hx rfl (hb hby at_96) rfl k) ?_
      show OGo _ _ _ _ (T_0_20.setTop (mkF m 99 #[.val (.int va), .val (.int vb), .val (.int vc), .val (.int vd), .val (.int w_0_1), .val (.ref ku), .val (.int (1 : Int32)), .val .null, .val .null, .val .null] []))
      refine ogo (fun _ k => XS.aload X_0_20.here hx rfl (hb hby at_99) rfl rfl k) ?_
      show OGo _ _ _ _ (T_0_20.setTop (mkF m 101 #[.val (.int va), .val (.int vb), .val (.int vc), .val (.int vd), .val (.int w_0_1), .val (.ref ku), .val (.int (1 : Int32)), .val .null, .val .null, .val .null] [.null]))
      refine ogo (fun _ k => XS.ifnonnullNo X_0_20.here hx rfl (hb hby at_101) rfl k) ?_
      show OGo _ _ _ _ (T_0_20.setTop (mkF m 104 #[.val (.int va), .val (.int vb), .val (.int vc), .val (.int vd), .val (.int w_0_1), .val (.ref ku), .val (.int (1 : Int32)), .val .null, .val .null, .val .null] []))
      refine ogo (fun _ k => XS.iconst X_0_20.here hx rfl (hb hby at_104) k) ?_
      show OGo _ _ _ _ (T_0_20.setTop (mkF m 105 #[.val (.int va), .val (.int vb), .val (.int vc), .val (.int vd), .val (.int w_0_1), .val (.ref ku), .val (.int (1 : Int32)), .val .null, .val .null, .val .null] [(.int (1 : Int32))]))
      refine ogo (fun _ k => XS.goto X_0_20.here hx rfl (pc0 := 105) (pc' := 109) rfl (hb hby at_105) (by decide) (by decide) k) ?_
      show OGo _ _ _ _ (T_0_20.setTop (mkF m 109 #[.val (.int va), .val (.int vb), .val (.int vc), .val (.int vd), .val (.int w_0_1), .val (.ref ku), .val (.int (1 : Int32)), .val .null, .val .null, .val .null] [(.int (1 : Int32))]))
      exact oretW (s := s) (vm1 := s.vm) X_0_20 (osince s 0) (Nat.zero_le _) hx hlk Bd.returns rfl (Or.inl ⟨rfl, Or.inr (Or.inl rfl), _, rfl⟩) (hb hby at_109) (by decide) (by decide) ⟨rfl, N0⟩
  · refine ogo (fun _ k => XS.ifYes X0.here hx rfl (pc0 := 10) (pc' := 21) rfl (hb hby at_10) rfl ((if0 _ _).trans (feq hc_0_2).2) (by decide) (by decide) k) ?_
    show OGo _ _ _ _ (s₁.setTop (mkF m 21 #[.val (.int va), .val (.int vb), .val (.int vc), .val (.int vd), .val (.int w_0_1), .unset, .unset, .unset, .unset, .unset] []))
    refine ogo (fun _ k => XS.iload X0.here hx rfl (hb hby at_21) rfl k) ?_
    show OGo _ _ _ _ (s₁.setTop (mkF m 23 #[.val (.int va), .val (.int vb), .val (.int vc), .val (.int vd), .val (.int w_0_1), .unset, .unset, .unset, .unset, .unset] [(.int w_0_1)]))
    refine ogo (fun _ k => XS.iconst X0.here hx rfl (hb hby at_23) k) ?_
    show OGo _ _ _ _ (s₁.setTop (mkF m 24 #[.val (.int va), .val (.int vb), .val (.int vc), .val (.int vd), .val (.int w_0_1), .unset, .unset, .unset, .unset, .unset] [(.int (1 : Int32)), (.int w_0_1)]))
    by_cases hc_0_21 : w_0_1 = (1 : Int32)
    · refine ogo (fun _ k => XS.icmpNo X0.here hx rfl (hb hby at_24) rfl (teq hc_0_21).2 k) ?_
      show OGo _ _ _ _ (s₁.setTop (mkF m 27 #[.val (.int va), .val (.int vb), .val (.int vc), .val (.int vd), .val (.int w_0_1), .unset, .unset, .unset, .unset, .unset] []))
      obtain ⟨T_0_22, X_0_22, e_0_22, st_0_22⟩ := getS2 X0 hx hZ hown (host := "") (Or.inl (hw _ (List.mem_of_getElem? (i := 47) rfl))) Via.refl e0 Ska (g := (mkF m 27 #[.val (.int va), .val (.int vb), .val (.int vc), .val (.int vd), .val (.int w_0_1), .unset, .unset, .unset, .unset, .unset] [])) rfl (hb hby at_27)
      refine ogo (fun _ k => st_0_22 _ k) ?_
      show OGo _ _ _ _ (T_0_22.setTop (mkF m 30 #[.val (.int va), .val (.int vb), .val (.int vc), .val (.int vd), .val (.int w_0_1), .unset, .unset, .unset, .unset, .unset] [(.ref ka)]))
      refine ogo (fun _ k => XS.astore X_0_22.here hx rfl (hb hby at_30) rfl rfl (l' := #[.val (.int va), .val (.int vb), .val (.int vc), .val (.int vd), .val (.int w_0_1), .val (.ref ka), .unset, .unset, .unset, .unset]) rfl k) ?_
      show OGo _ _ _ _ (T_0_22.setTop (mkF m 32 #[.val (.int va), .val (.int vb), .val (.int vc), .val (.int vd), .val (.int w_0_1), .val (.ref ka), .unset, .unset, .unset, .unset] []))
      refine ogo (fun _ k => XS.goto X_0_22.here hx rfl (pc0 := 32) (pc' := 40) rfl (hb hby at_32) (by decide) (by decide) k) ?_
      show OGo _ _ _ _ (T_0_22.setTop (mkF m 40 #[.val (.int va), .val (.int vb), .val (.int vc), .val (.int vd), .val (.int w_0_1), .val (.ref ka), .unset, .unset, .unset, .unset] []))
      refine ogo (fun _ k => XS.iloadN X_0_22.here hx rfl (hb hby at_40) rfl k) ?_
      show OGo _ _ _ _ (T_0_22.setTop (mkF m 41 #[.val (.int va), .val (.int vb), .val (.int vc), .val (.int vd), .val (.int w_0_1), .val (.ref ka), .unset, .unset, .unset, .unset] [(.int vd)]))
      refine ogo (fun _ k => XS.iconst X_0_22.here hx rfl (hb hby at_41) k) ?_
      show OGo _ _ _ _ (T_0_22.setTop (mkF m 42 #[.val (.int va), .val (.int vb), .val (.int vc), .val (.int vd), .val (.int w_0_1), .val (.ref ka), .unset, .unset, .unset, .unset] [(.int (1 : Int32)), (.int vd)]))
      refine ogo (fun _ k => XS.iand X_0_22.here hx rfl (hb hby at_42) rfl k) ?_
      show OGo _ _ _ _ (T_0_22.setTop (mkF m 43 #[.val (.int va), .val (.int vb), .val (.int vc), .val (.int vd), .val (.int w_0_1), .val (.ref ka), .unset, .unset, .unset, .unset] [(.int (vd &&& (1 : Int32)))]))
      by_cases hc_0_23 : (vd &&& (1 : Int32)) = (0 : Int32)
      · refine ogo (fun _ k => XS.ifYes X_0_22.here hx rfl (pc0 := 43) (pc' := 50) rfl (hb hby at_43) rfl ((if0 _ _).trans (teq hc_0_23).1) (by decide) (by decide) k) ?_
        show OGo _ _ _ _ (T_0_22.setTop (mkF m 50 #[.val (.int va), .val (.int vb), .val (.int vc), .val (.int vd), .val (.int w_0_1), .val (.ref ka), .unset, .unset, .unset, .unset] []))
        refine ogo (fun _ k => XS.iconst X_0_22.here hx rfl (hb hby at_50) k) ?_
        show OGo _ _ _ _ (T_0_22.setTop (mkF m 51 #[.val (.int va), .val (.int vb), .val (.int vc), .val (.int vd), .val (.int w_0_1), .val (.ref ka), .unset, .unset, .unset, .unset] [(.int (0 : Int32))]))
        refine ogo (fun _ k => XS.istore X_0_22.here hx rfl (hb hby at_51) rfl (l' := #[.val (.int va), .val (.int vb), .val (.int vc), .val (.int vd), .val (.int w_0_1), .val (.ref ka), .val (.int (0 : Int32)), .unset, .unset, .unset]) rfl k) ?_
        show OGo _ _ _ _ (T_0_22.setTop (mkF m 53 #[.val (.int va), .val (.int vb), .val (.int vc), .val (.int vd), .val (.int w_0_1), .val (.ref ka), .val (.int (0 : Int32)), .unset, .unset, .unset] []))
        refine ogo (fun _ k => XS.iload X_0_22.here hx rfl (hb hby at_53) rfl k) ?_
        show OGo _ _ _ _ (T_0_22.setTop (mkF m 55 #[.val (.int va), .val (.int vb), .val (.int vc), .val (.int vd), .val (.int w_0_1), .val (.ref ka), .val (.int (0 : Int32)), .unset, .unset, .unset] [(.int (0 : Int32))]))
        refine ogo (fun _ k => XS.ifYes X_0_22.here hx rfl (pc0 := 55) (pc' := 62) rfl (hb hby at_55) rfl ((if0 _ _).trans (teq (by decide : (0 : Int32) = (0 : Int32))).1) (by decide) (by decide) k) ?_
        show OGo _ _ _ _ (T_0_22.setTop (mkF m 62 #[.val (.int va), .val (.int vb), .val (.int vc), .val (.int vd), .val (.int w_0_1), .val (.ref ka), .val (.int (0 : Int32)), .unset, .unset, .unset] []))
        refine ogo (fun _ k => XS.iloadN X_0_22.here hx rfl (hb hby at_62) rfl k) ?_
        show OGo _ _ _ _ (T_0_22.setTop (mkF m 63 #[.val (.int va), .val (.int vb), .val (.int vc), .val (.int vd), .val (.int w_0_1), .val (.ref ka), .val (.int (0 : Int32)), .unset, .unset, .unset] [(.int vb)]))
        refine ogo (fun _ k => XS.iconst X_0_22.here hx rfl (hb hby at_63) k) ?_
        show OGo _ _ _ _ (T_0_22.setTop (mkF m 64 #[.val (.int va), .val (.int vb), .val (.int vc), .val (.int vd), .val (.int w_0_1), .val (.ref ka), .val (.int (0 : Int32)), .unset, .unset, .unset] [(.int (3 : Int32)), (.int vb)]))
        refine ogo (fun _ k => XS.iand X_0_22.here hx rfl (hb hby at_64) rfl k) ?_
        show OGo _ _ _ _ (T_0_22.setTop (mkF m 65 #[.val (.int va), .val (.int vb), .val (.int vc), .val (.int vd), .val (.int w_0_1), .val (.ref ka), .val (.int (0 : Int32)), .unset, .unset, .unset] [(.int (vb &&& (3 : Int32)))]))
        refine ogo (fun _ k => XS.iloadN X_0_22.here hx rfl (hb hby at_65) rfl k) ?_
        show OGo _ _ _ _ (T_0_22.setTop (mkF m 66 #[.val (.int va), .val (.int vb), .val (.int vc), .val (.int vd), .val (.int w_0_1), .val (.ref ka), .val (.int (0 : Int32)), .unset, .unset, .unset] [(.int vc), (.int (vb &&& (3 : Int32)))]))
        obtain ⟨v_0_24, T_0_24, h_0_24, L_0_24, e_0_24, hQ_0_24, X_0_24, hS_0_24, hZ, hown, st_0_24⟩ := ocallW X_0_22 hx hZ hI e_0_22 (rm2 l Z a0 hw (vb &&& (3 : Int32)) vc z h0 n0 Z0 SC hz (by intro b cl q; exact hkeep b cl q) hh7 hcw) hown (hw _ (List.mem_of_getElem? (i := 13) rfl)) (hw _ (List.mem_of_getElem? (i := 14) rfl)) (hw _ (List.mem_of_getElem? (i := 15) rfl)) (hw _ (List.mem_of_getElem? (i := 16) rfl)) (by decide) (g := (mkF m 66 #[.val (.int va), .val (.int vb), .val (.int vc), .val (.int vd), .val (.int w_0_1), .val (.ref ka), .val (.int (0 : Int32)), .unset, .unset, .unset] [(.int vc), (.int (vb &&& (3 : Int32)))])) rfl (by rw [hml]; rfl) [(.int (vb &&& (3 : Int32))), (.int vc)] [] rfl (lenOf pd__II_Ljava_lang_String_ rfl) rfl (hb hby at_66) 0 (by show 2 * 0 + _ ≤ _; exact Nat.le_of_eq rfl) (by decide) (by decide) (by decide) (by decide)
        obtain ⟨r_0_24, rfl, Nq_0_24, Kc_0_24, Er_0_24⟩ := hQ_0_24
        have f_0_25 := osta SC Kc_0_24
        have f_0_26 := osta Sku Kc_0_24
        have f_0_27 := Eku.keep Kc_0_24
        have f_0_28 := Bku.keep Kc_0_24 nin0
        have f_0_29 := Cku.keep Kc_0_24 nin0
        have f_0_30 := osta Ska Kc_0_24
        have f_0_31 := Eka.keep Kc_0_24
        have f_0_32 := Bka.keep Kc_0_24 nin0
        have f_0_33 := Cka.keep Kc_0_24 nin0
        have f_0_34 := osta Skp Kc_0_24
        have f_0_35 := Ekp.keep Kc_0_24
        have f_0_36 := Bkp.keep Kc_0_24 nin0
        have f_0_37 := Ckp.keep Kc_0_24 nin0
        have Z_0_24 : n0 ≤ h_0_24.size := Nat.le_trans Z0 Kc_0_24.1
        obtain ⟨lc_0_24, N_0_24, X_0_24⟩ : ∃ L, Fr n0 L ∧ Stand p l e room_1 (s.setVm T_0_24.vm) m #[(.int va), (.int vb), (.int vc), (.int vd)] below meth c T_0_24 L 4 10 := ⟨_, Fr.app N0 Nq_0_24, X_0_24⟩
        refine ogo (fun _ k => st_0_24 _ k) ?_
        show OGo _ _ _ _ (T_0_24.setTop (mkF m 69 #[.val (.int va), .val (.int vb), .val (.int vc), .val (.int vd), .val (.int w_0_1), .val (.ref ka), .val (.int (0 : Int32)), .unset, .unset, .unset] [(.ref r_0_24)]))
        refine ogo (fun _ k => XS.astore X_0_24.here hx rfl (hb hby at_69) rfl rfl (l' := #[.val (.int va), .val (.int vb), .val (.int vc), .val (.int vd), .val (.int w_0_1), .val (.ref ka), .val (.int (0 : Int32)), .val (.ref r_0_24), .unset, .unset]) rfl k) ?_
        show OGo _ _ _ _ (T_0_24.setTop (mkF m 71 #[.val (.int va), .val (.int vb), .val (.int vc), .val (.int vd), .val (.int w_0_1), .val (.ref ka), .val (.int (0 : Int32)), .val (.ref r_0_24), .unset, .unset] []))
        refine ogo (fun _ k => XS.iload X_0_24.here hx rfl (hb hby at_71) rfl k) ?_
        show OGo _ _ _ _ (T_0_24.setTop (mkF m 73 #[.val (.int va), .val (.int vb), .val (.int vc), .val (.int vd), .val (.int w_0_1), .val (.ref ka), .val (.int (0 : Int32)), .val (.ref r_0_24), .unset, .unset] [(.int w_0_1)]))
        refine ogo (fun _ k => XS.iconst X_0_24.here hx rfl (hb hby at_73) k) ?_
        show OGo _ _ _ _ (T_0_24.setTop (mkF m 74 #[.val (.int va), .val (.int vb), .val (.int vc), .val (.int vd), .val (.int w_0_1), .val (.ref ka), .val (.int (0 : Int32)), .val (.ref r_0_24), .unset, .unset] [(.int (2 : Int32)), (.int w_0_1)]))
        refine ogo (fun _ k => XS.icmpYes X_0_24.here hx rfl (pc0 := 74) (pc' := 82) rfl (hb hby at_74) rfl (feq (by rw [hc_0_21]; decide)).2 (by decide) (by decide) k) ?_
        show OGo _ _ _ _ (T_0_24.setTop (mkF m 82 #[.val (.int va), .val (.int vb), .val (.int vc), .val (.int vd), .val (.int w_0_1), .val (.ref ka), .val (.int (0 : Int32)), .val (.ref r_0_24), .unset, .unset] []))
        refine ogo (fun _ k => XS.aconstNull X_0_24.here hx rfl (hb hby at_82) k) ?_
        show OGo _ _ _ _ (T_0_24.setTop (mkF m 83 #[.val (.int va), .val (.int vb), .val (.int vc), .val (.int vd), .val (.int w_0_1), .val (.ref ka), .val (.int (0 : Int32)), .val (.ref r_0_24), .unset, .unset] [.null]))
        refine ogo (fun _ k => XS.astore X_0_24.here hx rfl (hb hby at_83) rfl rfl (l' := #[.val (.int va), .val (.int vb), .val (.int vc), .val (.int vd), .val (.int w_0_1), .val (.ref ka), .val (.int (0 : Int32)), .val (.ref r_0_24), .val .null, .unset]) rfl k) ?_
        show OGo _ _ _ _ (T_0_24.setTop (mkF m 85 #[.val (.int va), .val (.int vb), .val (.int vc), .val (.int vd), .val (.int w_0_1), .val (.ref ka), .val (.int (0 : Int32)), .val (.ref r_0_24), .val .null, .unset] []))
        refine ogo (fun _ k => XS.aload X_0_24.here hx rfl (hb hby at_85) rfl rfl k) ?_
        show OGo _ _ _ _ (T_0_24.setTop (mkF m 87 #[.val (.int va), .val (.int vb), .val (.int vc), .val (.int vd), .val (.int w_0_1), .val (.ref ka), .val (.int (0 : Int32)), .val (.ref r_0_24), .val .null, .unset] [(.ref ka)]))
        refine ogo (fun _ k => XS.aload X_0_24.here hx rfl (hb hby at_87) rfl rfl k) ?_
        show OGo _ _ _ _ (T_0_24.setTop (mkF m 89 #[.val (.int va), .val (.int vb), .val (.int vc), .val (.int vd), .val (.int w_0_1), .val (.ref ka), .val (.int (0 : Int32)), .val (.ref r_0_24), .val .null, .unset] [(.ref r_0_24), (.ref ka)]))
        obtain ⟨T_0_38, X_0_38, e_0_38, st_0_38⟩ := ovirtP X_0_24 hx hZ e_0_24 (rm1a l Z a0 hw ka (.ref r_0_24) rfl h_0_24 f_0_32 f_0_33) hown (hw _ (List.mem_of_getElem? (i := 4) rfl)) (hw _ (List.mem_of_getElem? (i := 5) rfl)) (hw _ (List.mem_of_getElem? (i := 7) rfl)) (hw _ (List.mem_of_getElem? (i := 6) rfl)) (hw _ (List.mem_of_getElem? (i := 2) rfl)) (hw _ (List.mem_of_getElem? (i := 8) rfl)) (by decide) f_0_31 (g := (mkF m 89 #[.val (.int va), .val (.int vb), .val (.int vc), .val (.int vd), .val (.int w_0_1), .val (.ref ka), .val (.int (0 : Int32)), .val (.ref r_0_24), .val .null, .unset] [(.ref r_0_24), (.ref ka)])) rfl (by rw [hml]; rfl) [(.ref r_0_24)] [] rfl (lenOf pd__Ljava_lang_String__Ljava_lang_String_ rfl) rfl (hb hby at_89) 0 (by show 2 * 0 + _ ≤ _; exact Nat.le_of_eq rfl) (by decide) (by decide) (by decide) (by decide) rfl rfl
        refine ogo (fun _ k => st_0_38 _ k) ?_
        show OGo _ _ _ _ (T_0_38.setTop (mkF m 92 #[.val (.int va), .val (.int vb), .val (.int vc), .val (.int vd), .val (.int w_0_1), .val (.ref ka), .val (.int (0 : Int32)), .val (.ref r_0_24), .val .null, .unset] [.null]))
        refine ogo (fun _ k => XS.astore X_0_38.here hx rfl (hb hby at_92) rfl rfl (l' := #[.val (.int va), .val (.int vb), .val (.int vc), .val (.int vd), .val (.int w_0_1), .val (.ref ka), .val (.int (0 : Int32)), .val (.ref r_0_24), .val .null, .val .null]) rfl k) ?_
        show OGo _ _ _ _ (T_0_38.setTop (mkF m 94 #[.val (.int va), .val (.int vb), .val (.int vc), .val (.int vd), .val (.int w_0_1), .val (.ref ka), .val (.int (0 : Int32)), .val (.ref r_0_24), .val .null, .val .null] []))
        refine ogo (fun _ k => XS.aload X_0_38.here hx rfl (hb hby at_94) rfl rfl k) ?_
        show OGo _ _ _ _ (T_0_38.setTop (mkF m 96 #[.val (.int va), .val (.int vb), .val (.int vc), .val (.int vd), .val (.int w_0_1), .val (.ref ka), .val (.int (0 : Int32)), .val (.ref r_0_24), .val .null, .val .null] [.null]))
        refine ogo (fun _ k => XS.ifnonnullNo X_0_38.here hx rfl (hb hby at_96) rfl k) ?_
        show OGo _ _ _ _ (T_0_38.setTop (mkF m 99 #[.val (.int va), .val (.int vb), .val (.int vc), .val (.int vd), .val (.int w_0_1), .val (.ref ka), .val (.int (0 : Int32)), .val (.ref r_0_24), .val .null, .val .null] []))
        refine ogo (fun _ k => XS.aload X_0_38.here hx rfl (hb hby at_99) rfl rfl k) ?_
        show OGo _ _ _ _ (T_0_38.setTop (mkF m 101 #[.val (.int va), .val (.int vb), .val (.int vc), .val (.int vd), .val (.int w_0_1), .val (.ref ka), .val (.int (0 : Int32)), .val (.ref r_0_24), .val .null, .val .null] [.null]))
        refine ogo (fun _ k => XS.ifnonnullNo X_0_38.here hx rfl (hb hby at_101) rfl k) ?_
        show OGo _ _ _ _ (T_0_38.setTop (mkF m 104 #[.val (.int va), .val (.int vb), .val (.int vc), .val (.int vd), .val (.int w_0_1), .val (.ref ka), .val (.int (0 : Int32)), .val (.ref r_0_24), .val .null, .val .null] []))
        refine ogo (fun _ k => XS.iconst X_0_38.here hx rfl (hb hby at_104) k) ?_
        show OGo _ _ _ _ (T_0_38.setTop (mkF m 105 #[.val (.int va), .val (.int vb), .val (.int vc), .val (.int vd), .val (.int w_0_1), .val (.ref ka), .val (.int (0 : Int32)), .val (.ref r_0_24), .val .null, .val .null] [(.int (1 : Int32))]))
        refine ogo (fun _ k => XS.goto X_0_38.here hx rfl (pc0 := 105) (pc' := 109) rfl (hb hby at_105) (by decide) (by decide) k) ?_
        show OGo _ _ _ _ (T_0_38.setTop (mkF m 109 #[.val (.int va), .val (.int vb), .val (.int vc), .val (.int vd), .val (.int w_0_1), .val (.ref ka), .val (.int (0 : Int32)), .val (.ref r_0_24), .val .null, .val .null] [(.int (1 : Int32))]))
        exact oretW (s := s) X_0_38 hS_0_24 (by rw [e_0_38]; exact (Nat.le_refl _)) hx hlk Bd.returns rfl (Or.inl ⟨rfl, Or.inr (Or.inl rfl), _, rfl⟩) (hb hby at_109) (by decide) (by decide) ⟨rfl, N_0_24⟩
      · refine ogo (fun _ k => XS.ifNo X_0_22.here hx rfl (hb hby at_43) rfl ((if0 _ _).trans (feq hc_0_23).1) k) ?_
        show OGo _ _ _ _ (T_0_22.setTop (mkF m 46 #[.val (.int va), .val (.int vb), .val (.int vc), .val (.int vd), .val (.int w_0_1), .val (.ref ka), .unset, .unset, .unset, .unset] []))
        refine ogo (fun _ k => XS.iconst X_0_22.here hx rfl (hb hby at_46) k) ?_
        show OGo _ _ _ _ (T_0_22.setTop (mkF m 47 #[.val (.int va), .val (.int vb), .val (.int vc), .val (.int vd), .val (.int w_0_1), .val (.ref ka), .unset, .unset, .unset, .unset] [(.int (1 : Int32))]))
        refine ogo (fun _ k => XS.goto X_0_22.here hx rfl (pc0 := 47) (pc' := 51) rfl (hb hby at_47) (by decide) (by decide) k) ?_
        show OGo _ _ _ _ (T_0_22.setTop (mkF m 51 #[.val (.int va), .val (.int vb), .val (.int vc), .val (.int vd), .val (.int w_0_1), .val (.ref ka), .unset, .unset, .unset, .unset] [(.int (1 : Int32))]))
        refine ogo (fun _ k => XS.istore X_0_22.here hx rfl (hb hby at_51) rfl (l' := #[.val (.int va), .val (.int vb), .val (.int vc), .val (.int vd), .val (.int w_0_1), .val (.ref ka), .val (.int (1 : Int32)), .unset, .unset, .unset]) rfl k) ?_
        show OGo _ _ _ _ (T_0_22.setTop (mkF m 53 #[.val (.int va), .val (.int vb), .val (.int vc), .val (.int vd), .val (.int w_0_1), .val (.ref ka), .val (.int (1 : Int32)), .unset, .unset, .unset] []))
        refine ogo (fun _ k => XS.iload X_0_22.here hx rfl (hb hby at_53) rfl k) ?_
        show OGo _ _ _ _ (T_0_22.setTop (mkF m 55 #[.val (.int va), .val (.int vb), .val (.int vc), .val (.int vd), .val (.int w_0_1), .val (.ref ka), .val (.int (1 : Int32)), .unset, .unset, .unset] [(.int (1 : Int32))]))
        refine ogo (fun _ k => XS.ifNo X_0_22.here hx rfl (hb hby at_55) rfl ((if0 _ _).trans (feq (by decide : ¬ ((1 : Int32) = (0 : Int32)))).1) k) ?_
        show OGo _ _ _ _ (T_0_22.setTop (mkF m 58 #[.val (.int va), .val (.int vb), .val (.int vc), .val (.int vd), .val (.int w_0_1), .val (.ref ka), .val (.int (1 : Int32)), .unset, .unset, .unset] []))
        refine ogo (fun _ k => XS.aconstNull X_0_22.here hx rfl (hb hby at_58) k) ?_
        show OGo _ _ _ _ (T_0_22.setTop (mkF m 59 #[.val (.int va), .val (.int vb), .val (.int vc), .val (.int vd), .val (.int w_0_1), .val (.ref ka), .val (.int (1 : Int32)), .unset, .unset, .unset] [.null]))
        refine ogo (fun _ k => XS.goto X_0_22.here hx rfl (pc0 := 59) (pc' := 69) rfl (hb hby at_59) (by decide) (by decide) k) ?_
        show OGo _ _ _ _ (T_0_22.setTop (mkF m 69 #[.val (.int va), .val (.int vb), .val (.int vc), .val (.int vd), .val (.int w_0_1), .val (.ref ka), .val (.int (1 : Int32)), .unset, .unset, .unset] [.null]))
        refine ogo (fun _ k => XS.astore X_0_22.here hx rfl (hb hby at_69) rfl rfl (l' := #[.val (.int va), .val (.int vb), .val (.int vc), .val (.int vd), .val (.int w_0_1), .val (.ref ka), .val (.int (1 : Int32)), .val .null, .unset, .unset]) rfl k) ?_
        show OGo _ _ _ _ (T_0_22.setTop (mkF m 71 #[.val (.int va), .val (.int vb), .val (.int vc), .val (.int vd), .val (.int w_0_1), .val (.ref ka), .val (.int (1 : Int32)), .val .null, .unset, .unset] []))
        refine ogo (fun _ k => XS.iload X_0_22.here hx rfl (hb hby at_71) rfl k) ?_
        show OGo _ _ _ _ (T_0_22.setTop (mkF m 73 #[.val (.int va), .val (.int vb), .val (.int vc), .val (.int vd), .val (.int w_0_1), .val (.ref ka), .val (.int (1 : Int32)), .val .null, .unset, .unset] [(.int w_0_1)]))
        refine ogo (fun _ k => XS.iconst X_0_22.here hx rfl (hb hby at_73) k) ?_
        show OGo _ _ _ _ (T_0_22.setTop (mkF m 74 #[.val (.int va), .val (.int vb), .val (.int vc), .val (.int vd), .val (.int w_0_1), .val (.ref ka), .val (.int (1 : Int32)), .val .null, .unset, .unset] [(.int (2 : Int32)), (.int w_0_1)]))
        refine ogo (fun _ k => XS.icmpYes X_0_22.here hx rfl (pc0 := 74) (pc' := 82) rfl (hb hby at_74) rfl (feq (by rw [hc_0_21]; decide)).2 (by decide) (by decide) k) ?_
        show OGo _ _ _ _ (T_0_22.setTop (mkF m 82 #[.val (.int va), .val (.int vb), .val (.int vc), .val (.int vd), .val (.int w_0_1), .val (.ref ka), .val (.int (1 : Int32)), .val .null, .unset, .unset] []))
        refine ogo (fun _ k => XS.aconstNull X_0_22.here hx rfl (hb hby at_82) k) ?_
        show OGo _ _ _ _ (T_0_22.setTop (mkF m 83 #[.val (.int va), .val (.int vb), .val (.int vc), .val (.int vd), .val (.int w_0_1), .val (.ref ka), .val (.int (1 : Int32)), .val .null, .unset, .unset] [.null]))
        refine ogo (fun _ k => XS.astore X_0_22.here hx rfl (hb hby at_83) rfl rfl (l' := #[.val (.int va), .val (.int vb), .val (.int vc), .val (.int vd), .val (.int w_0_1), .val (.ref ka), .val (.int (1 : Int32)), .val .null, .val .null, .unset]) rfl k) ?_
        show OGo _ _ _ _ (T_0_22.setTop (mkF m 85 #[.val (.int va), .val (.int vb), .val (.int vc), .val (.int vd), .val (.int w_0_1), .val (.ref ka), .val (.int (1 : Int32)), .val .null, .val .null, .unset] []))
        refine ogo (fun _ k => XS.aload X_0_22.here hx rfl (hb hby at_85) rfl rfl k) ?_
        show OGo _ _ _ _ (T_0_22.setTop (mkF m 87 #[.val (.int va), .val (.int vb), .val (.int vc), .val (.int vd), .val (.int w_0_1), .val (.ref ka), .val (.int (1 : Int32)), .val .null, .val .null, .unset] [(.ref ka)]))
        refine ogo (fun _ k => XS.aload X_0_22.here hx rfl (hb hby at_87) rfl rfl k) ?_
        show OGo _ _ _ _ (T_0_22.setTop (mkF m 89 #[.val (.int va), .val (.int vb), .val (.int vc), .val (.int vd), .val (.int w_0_1), .val (.ref ka), .val (.int (1 : Int32)), .val .null, .val .null, .unset] [.null, (.ref ka)]))
        obtain ⟨T_0_39, X_0_39, e_0_39, st_0_39⟩ := ovirtP X_0_22 hx hZ e_0_22 (rm1a l Z a0 hw ka .null rfl h0 Bka Cka) hown (hw _ (List.mem_of_getElem? (i := 4) rfl)) (hw _ (List.mem_of_getElem? (i := 5) rfl)) (hw _ (List.mem_of_getElem? (i := 7) rfl)) (hw _ (List.mem_of_getElem? (i := 6) rfl)) (hw _ (List.mem_of_getElem? (i := 2) rfl)) (hw _ (List.mem_of_getElem? (i := 8) rfl)) (by decide) Eka (g := (mkF m 89 #[.val (.int va), .val (.int vb), .val (.int vc), .val (.int vd), .val (.int w_0_1), .val (.ref ka), .val (.int (1 : Int32)), .val .null, .val .null, .unset] [.null, (.ref ka)])) rfl (by rw [hml]; rfl) [.null] [] rfl (lenOf pd__Ljava_lang_String__Ljava_lang_String_ rfl) rfl (hb hby at_89) 0 (by show 2 * 0 + _ ≤ _; exact Nat.le_of_eq rfl) (by decide) (by decide) (by decide) (by decide) rfl rfl
        refine ogo (fun _ k => st_0_39 _ k) ?_
        show OGo _ _ _ _ (T_0_39.setTop (mkF m 92 #[.val (.int va), .val (.int vb), .val (.int vc), .val (.int vd), .val (.int w_0_1), .val (.ref ka), .val (.int (1 : Int32)), .val .null, .val .null, .unset] [.null]))
        refine ogo (fun _ k => XS.astore X_0_39.here hx rfl (hb hby at_92) rfl rfl (l' := #[.val (.int va), .val (.int vb), .val (.int vc), .val (.int vd), .val (.int w_0_1), .val (.ref ka), .val (.int (1 : Int32)), .val .null, .val .null, .val .null]) rfl k) ?_
        show OGo _ _ _ _ (T_0_39.setTop (mkF m 94 #[.val (.int va), .val (.int vb), .val (.int vc), .val (.int vd), .val (.int w_0_1), .val (.ref ka), .val (.int (1 : Int32)), .val .null, .val .null, .val .null] []))
        refine ogo (fun _ k => XS.aload X_0_39.here hx rfl (hb hby at_94) rfl rfl k) ?_
        show OGo _ _ _ _ (T_0_39.setTop (mkF m 96 #[.val (.int va), .val (.int vb), .val (.int vc), .val (.int vd), .val (.int w_0_1), .val (.ref ka), .val (.int (1 : Int32)), .val .null, .val .null, .val .null] [.null]))
        refine ogo (fun _ k => XS.ifnonnullNo X_0_39.here hx rfl (hb hby at_96) rfl k) ?_
        show OGo _ _ _ _ (T_0_39.setTop (mkF m 99 #[.val (.int va), .val (.int vb), .val (.int vc), .val (.int vd), .val (.int w_0_1), .val (.ref ka), .val (.int (1 : Int32)), .val .null, .val .null, .val .null] []))
        refine ogo (fun _ k => XS.aload X_0_39.here hx rfl (hb hby at_99) rfl rfl k) ?_
        show OGo _ _ _ _ (T_0_39.setTop (mkF m 101 #[.val (.int va), .val (.int vb), .val (.int vc), .val (.int vd), .val (.int w_0_1), .val (.ref ka), .val (.int (1 : Int32)), .val .null, .val .null, .val .null] [.null]))
        refine ogo (fun _ k => XS.ifnonnullNo X_0_39.here hx rfl (hb hby at_101) rfl k) ?_
        show OGo _ _ _ _ (T_0_39.setTop (mkF m 104 #[.val (.int va), .val (.int vb), .val (.int vc), .val (.int vd), .val (.int w_0_1), .val (.ref ka), .val (.int (1 : Int32)), .val .null, .val .null, .val .null] []))
        refine ogo (fun _ k => XS.iconst X_0_39.here hx rfl (hb hby at_104) k) ?_
        show OGo _ _ _ _ (T_0_39.setTop (mkF m 105 #[.val (.int va), .val (.int vb), .val (.int vc), .val (.int vd), .val (.int w_0_1), .val (.ref ka), .val (.int (1 : Int32)), .val .null, .val .null, .val .null] [(.int (1 : Int32))]))
        refine ogo (fun _ k => XS.goto X_0_39.here hx rfl (pc0 := 105) (pc' := 109) rfl (hb hby at_105) (by decide) (by decide) k) ?_
        show OGo _ _ _ _ (T_0_39.setTop (mkF m 109 #[.val (.int va), .val (.int vb), .val (.int vc), .val (.int vd), .val (.int w_0_1), .val (.ref ka), .val (.int (1 : Int32)), .val .null, .val .null, .val .null] [(.int (1 : Int32))]))
        exact oretW (s := s) (vm1 := s.vm) X_0_39 (osince s 0) (Nat.zero_le _) hx hlk Bd.returns rfl (Or.inl ⟨rfl, Or.inr (Or.inl rfl), _, rfl⟩) (hb hby at_109) (by decide) (by decide) ⟨rfl, N0⟩
    · refine ogo (fun _ k => XS.icmpYes X0.here hx rfl (pc0 := 24) (pc' := 35) rfl (hb hby at_24) rfl (feq hc_0_21).2 (by decide) (by decide) k) ?_
      show OGo _ _ _ _ (s₁.setTop (mkF m 35 #[.val (.int va), .val (.int vb), .val (.int vc), .val (.int vd), .val (.int w_0_1), .unset, .unset, .unset, .unset, .unset] []))
      obtain ⟨T_0_40, X_0_40, e_0_40, st_0_40⟩ := getS2 X0 hx hZ hown (host := "") (Or.inl (hw _ (List.mem_of_getElem? (i := 52) rfl))) Via.refl e0 Skp (g := (mkF m 35 #[.val (.int va), .val (.int vb), .val (.int vc), .val (.int vd), .val (.int w_0_1), .unset, .unset, .unset, .unset, .unset] [])) rfl (hb hby at_35)
      refine ogo (fun _ k => st_0_40 _ k) ?_
      show OGo _ _ _ _ (T_0_40.setTop (mkF m 38 #[.val (.int va), .val (.int vb), .val (.int vc), .val (.int vd), .val (.int w_0_1), .unset, .unset, .unset, .unset, .unset] [(.ref kp)]))
      refine ogo (fun _ k => XS.astore X_0_40.here hx rfl (hb hby at_38) rfl rfl (l' := #[.val (.int va), .val (.int vb), .val (.int vc), .val (.int vd), .val (.int w_0_1), .val (.ref kp), .unset, .unset, .unset, .unset]) rfl k) ?_
      show OGo _ _ _ _ (T_0_40.setTop (mkF m 40 #[.val (.int va), .val (.int vb), .val (.int vc), .val (.int vd), .val (.int w_0_1), .val (.ref kp), .unset, .unset, .unset, .unset] []))
      refine ogo (fun _ k => XS.iloadN X_0_40.here hx rfl (hb hby at_40) rfl k) ?_
      show OGo _ _ _ _ (T_0_40.setTop (mkF m 41 #[.val (.int va), .val (.int vb), .val (.int vc), .val (.int vd), .val (.int w_0_1), .val (.ref kp), .unset, .unset, .unset, .unset] [(.int vd)]))
      refine ogo (fun _ k => XS.iconst X_0_40.here hx rfl (hb hby at_41) k) ?_
      show OGo _ _ _ _ (T_0_40.setTop (mkF m 42 #[.val (.int va), .val (.int vb), .val (.int vc), .val (.int vd), .val (.int w_0_1), .val (.ref kp), .unset, .unset, .unset, .unset] [(.int (1 : Int32)), (.int vd)]))
      refine ogo (fun _ k => XS.iand X_0_40.here hx rfl (hb hby at_42) rfl k) ?_
      show OGo _ _ _ _ (T_0_40.setTop (mkF m 43 #[.val (.int va), .val (.int vb), .val (.int vc), .val (.int vd), .val (.int w_0_1), .val (.ref kp), .unset, .unset, .unset, .unset] [(.int (vd &&& (1 : Int32)))]))
      by_cases hc_0_41 : (vd &&& (1 : Int32)) = (0 : Int32)
      · refine ogo (fun _ k => XS.ifYes X_0_40.here hx rfl (pc0 := 43) (pc' := 50) rfl (hb hby at_43) rfl ((if0 _ _).trans (teq hc_0_41).1) (by decide) (by decide) k) ?_
        show OGo _ _ _ _ (T_0_40.setTop (mkF m 50 #[.val (.int va), .val (.int vb), .val (.int vc), .val (.int vd), .val (.int w_0_1), .val (.ref kp), .unset, .unset, .unset, .unset] []))
        refine ogo (fun _ k => XS.iconst X_0_40.here hx rfl (hb hby at_50) k) ?_
        show OGo _ _ _ _ (T_0_40.setTop (mkF m 51 #[.val (.int va), .val (.int vb), .val (.int vc), .val (.int vd), .val (.int w_0_1), .val (.ref kp), .unset, .unset, .unset, .unset] [(.int (0 : Int32))]))
        refine ogo (fun _ k => XS.istore X_0_40.here hx rfl (hb hby at_51) rfl (l' := #[.val (.int va), .val (.int vb), .val (.int vc), .val (.int vd), .val (.int w_0_1), .val (.ref kp), .val (.int (0 : Int32)), .unset, .unset, .unset]) rfl k) ?_
        show OGo _ _ _ _ (T_0_40.setTop (mkF m 53 #[.val (.int va), .val (.int vb), .val (.int vc), .val (.int vd), .val (.int w_0_1), .val (.ref kp), .val (.int (0 : Int32)), .unset, .unset, .unset] []))
        refine ogo (fun _ k => XS.iload X_0_40.here hx rfl (hb hby at_53) rfl k) ?_
        show OGo _ _ _ _ (T_0_40.setTop (mkF m 55 #[.val (.int va), .val (.int vb), .val (.int vc), .val (.int vd), .val (.int w_0_1), .val (.ref kp), .val (.int (0 : Int32)), .unset, .unset, .unset] [(.int (0 : Int32))]))
        refine ogo (fun _ k => XS.ifYes X_0_40.here hx rfl (pc0 := 55) (pc' := 62) rfl (hb hby at_55) rfl ((if0 _ _).trans (teq (by decide : (0 : Int32) = (0 : Int32))).1) (by decide) (by decide) k) ?_
        show OGo _ _ _ _ (T_0_40.setTop (mkF m 62 #[.val (.int va), .val (.int vb), .val (.int vc), .val (.int vd), .val (.int w_0_1), .val (.ref kp), .val (.int (0 : Int32)), .unset, .unset, .unset] []))
        refine ogo (fun _ k => XS.iloadN X_0_40.here hx rfl (hb hby at_62) rfl k) ?_
        show OGo _ _ _ _ (T_0_40.setTop (mkF m 63 #[.val (.int va), .val (.int vb), .val (.int vc), .val (.int vd), .val (.int w_0_1), .val (.ref kp), .val (.int (0 : Int32)), .unset, .unset, .unset] [(.int vb)]))
        refine ogo (fun _ k => XS.iconst X_0_40.here hx rfl (hb hby at_63) k) ?_
        show OGo _ _ _ _ (T_0_40.setTop (mkF m 64 #[.val (.int va), .val (.int vb), .val (.int vc), .val (.int vd), .val (.int w_0_1), .val (.ref kp), .val (.int (0 : Int32)), .unset, .unset, .unset] [(.int (3 : Int32)), (.int vb)]))
        refine ogo (fun _ k => XS.iand X_0_40.here hx rfl (hb hby at_64) rfl k) ?_
        show OGo _ _ _ _ (T_0_40.setTop (mkF m 65 #[.val (.int va), .val (.int vb), .val (.int vc), .val (.int vd), .val (.int w_0_1), .val (.ref kp), .val (.int (0 : Int32)), .unset, .unset, .unset] [(.int (vb &&& (3 : Int32)))]))
        refine ogo (fun _ k => XS.iloadN X_0_40.here hx rfl (hb hby at_65) rfl k) ?_
        show OGo _ _ _ _ (T_0_40.setTop (mkF m 66 #[.val (.int va), .val (.int vb), .val (.int vc), .val (.int vd), .val (.int w_0_1), .val (.ref kp), .val (.int (0 : Int32)), .unset, .unset, .unset] [(.int vc), (.int (vb &&& (3 : Int32)))]))
        obtain ⟨v_0_42, T_0_42, h_0_42, L_0_42, e_0_42, hQ_0_42, X_0_42, hS_0_42, hZ, hown, st_0_42⟩ := ocallW X_0_40 hx hZ hI e_0_40 (rm2 l Z a0 hw (vb &&& (3 : Int32)) vc z h0 n0 Z0 SC hz (by intro b cl q; exact hkeep b cl q) hh7 hcw) hown (hw _ (List.mem_of_getElem? (i := 13) rfl)) (hw _ (List.mem_of_getElem? (i := 14) rfl)) (hw _ (List.mem_of_getElem? (i := 15) rfl)) (hw _ (List.mem_of_getElem? (i := 16) rfl)) (by decide) (g := (mkF m 66 #[.val (.int va), .val (.int vb), .val (.int vc), .val (.int vd), .val (.int w_0_1), .val (.ref kp), .val (.int (0 : Int32)), .unset, .unset, .unset] [(.int vc), (.int (vb &&& (3 : Int32)))])) rfl (by rw [hml]; rfl) [(.int (vb &&& (3 : Int32))), (.int vc)] [] rfl (lenOf pd__II_Ljava_lang_String_ rfl) rfl (hb hby at_66) 0 (by show 2 * 0 + _ ≤ _; exact Nat.le_of_eq rfl) (by decide) (by decide) (by decide) (by decide)
        obtain ⟨r_0_42, rfl, Nq_0_42, Kc_0_42, Er_0_42⟩ := hQ_0_42
        have f_0_43 := osta SC Kc_0_42
        have f_0_44 := osta Sku Kc_0_42
        have f_0_45 := Eku.keep Kc_0_42
        have f_0_46 := Bku.keep Kc_0_42 nin0
        have f_0_47 := Cku.keep Kc_0_42 nin0
        have f_0_48 := osta Ska Kc_0_42
        have f_0_49 := Eka.keep Kc_0_42
        have f_0_50 := Bka.keep Kc_0_42 nin0
        have f_0_51 := Cka.keep Kc_0_42 nin0
        have f_0_52 := osta Skp Kc_0_42
        have f_0_53 := Ekp.keep Kc_0_42
        have f_0_54 := Bkp.keep Kc_0_42 nin0
        have f_0_55 := Ckp.keep Kc_0_42 nin0
        have Z_0_42 : n0 ≤ h_0_42.size := Nat.le_trans Z0 Kc_0_42.1
        obtain ⟨lc_0_42, N_0_42, X_0_42⟩ : ∃ L, Fr n0 L ∧ Stand p l e room_1 (s.setVm T_0_42.vm) m #[(.int va), (.int vb), (.int vc), (.int vd)] below meth c T_0_42 L 4 10 := ⟨_, Fr.app N0 Nq_0_42, X_0_42⟩
        refine ogo (fun _ k => st_0_42 _ k) ?_
        show OGo _ _ _ _ (T_0_42.setTop (mkF m 69 #[.val (.int va), .val (.int vb), .val (.int vc), .val (.int vd), .val (.int w_0_1), .val (.ref kp), .val (.int (0 : Int32)), .unset, .unset, .unset] [(.ref r_0_42)]))
        refine ogo (fun _ k => XS.astore X_0_42.here hx rfl (hb hby at_69) rfl rfl (l' := #[.val (.int va), .val (.int vb), .val (.int vc), .val (.int vd), .val (.int w_0_1), .val (.ref kp), .val (.int (0 : Int32)), .val (.ref r_0_42), .unset, .unset]) rfl k) ?_
        show OGo _ _ _ _ (T_0_42.setTop (mkF m 71 #[.val (.int va), .val (.int vb), .val (.int vc), .val (.int vd), .val (.int w_0_1), .val (.ref kp), .val (.int (0 : Int32)), .val (.ref r_0_42), .unset, .unset] []))
        refine ogo (fun _ k => XS.iload X_0_42.here hx rfl (hb hby at_71) rfl k) ?_
        show OGo _ _ _ _ (T_0_42.setTop (mkF m 73 #[.val (.int va), .val (.int vb), .val (.int vc), .val (.int vd), .val (.int w_0_1), .val (.ref kp), .val (.int (0 : Int32)), .val (.ref r_0_42), .unset, .unset] [(.int w_0_1)]))
        refine ogo (fun _ k => XS.iconst X_0_42.here hx rfl (hb hby at_73) k) ?_
        show OGo _ _ _ _ (T_0_42.setTop (mkF m 74 #[.val (.int va), .val (.int vb), .val (.int vc), .val (.int vd), .val (.int w_0_1), .val (.ref kp), .val (.int (0 : Int32)), .val (.ref r_0_42), .unset, .unset] [(.int (2 : Int32)), (.int w_0_1)]))
        refine ogo (fun _ k => XS.icmpNo X_0_42.here hx rfl (hb hby at_74) rfl (teq (own_k3 hw_0_1 hc_0_2 hc_0_21)).2 k) ?_
        show OGo _ _ _ _ (T_0_42.setTop (mkF m 77 #[.val (.int va), .val (.int vb), .val (.int vc), .val (.int vd), .val (.int w_0_1), .val (.ref kp), .val (.int (0 : Int32)), .val (.ref r_0_42), .unset, .unset] []))
        refine ogo (fun _ k => XS.aload X_0_42.here hx rfl (hb hby at_77) rfl rfl k) ?_
        show OGo _ _ _ _ (T_0_42.setTop (mkF m 79 #[.val (.int va), .val (.int vb), .val (.int vc), .val (.int vd), .val (.int w_0_1), .val (.ref kp), .val (.int (0 : Int32)), .val (.ref r_0_42), .unset, .unset] [(.ref r_0_42)]))
        refine ogo (fun _ k => XS.goto X_0_42.here hx rfl (pc0 := 79) (pc' := 83) rfl (hb hby at_79) (by decide) (by decide) k) ?_
        show OGo _ _ _ _ (T_0_42.setTop (mkF m 83 #[.val (.int va), .val (.int vb), .val (.int vc), .val (.int vd), .val (.int w_0_1), .val (.ref kp), .val (.int (0 : Int32)), .val (.ref r_0_42), .unset, .unset] [(.ref r_0_42)]))
        refine ogo (fun _ k => XS.astore X_0_42.here hx rfl (hb hby at_83) rfl rfl (l' := #[.val (.int va), .val (.int vb), .val (.int vc), .val (.int vd), .val (.int w_0_1), .val (.ref kp), .val (.int (0 : Int32)), .val (.ref r_0_42), .val (.ref r_0_42), .unset]) rfl k) ?_
        show OGo _ _ _ _ (T_0_42.setTop (mkF m 85 #[.val (.int va), .val (.int vb), .val (.int vc), .val (.int vd), .val (.int w_0_1), .val (.ref kp), .val (.int (0 : Int32)), .val (.ref r_0_42), .val (.ref r_0_42), .unset] []))
        refine ogo (fun _ k => XS.aload X_0_42.here hx rfl (hb hby at_85) rfl rfl k) ?_
        show OGo _ _ _ _ (T_0_42.setTop (mkF m 87 #[.val (.int va), .val (.int vb), .val (.int vc), .val (.int vd), .val (.int w_0_1), .val (.ref kp), .val (.int (0 : Int32)), .val (.ref r_0_42), .val (.ref r_0_42), .unset] [(.ref kp)]))
        refine ogo (fun _ k => XS.aload X_0_42.here hx rfl (hb hby at_87) rfl rfl k) ?_
        show OGo _ _ _ _ (T_0_42.setTop (mkF m 89 #[.val (.int va), .val (.int vb), .val (.int vc), .val (.int vd), .val (.int w_0_1), .val (.ref kp), .val (.int (0 : Int32)), .val (.ref r_0_42), .val (.ref r_0_42), .unset] [(.ref r_0_42), (.ref kp)]))
        obtain ⟨T_0_56, X_0_56, e_0_56, st_0_56⟩ := ovirtP X_0_42 hx hZ e_0_42 (rm1p l Z a0 hw kp (.ref r_0_42) rfl h_0_42 f_0_54 f_0_55) hown (hw _ (List.mem_of_getElem? (i := 4) rfl)) (hw _ (List.mem_of_getElem? (i := 5) rfl)) (hw _ (List.mem_of_getElem? (i := 7) rfl)) (hw _ (List.mem_of_getElem? (i := 6) rfl)) (hw _ (List.mem_of_getElem? (i := 2) rfl)) (hw _ (List.mem_of_getElem? (i := 8) rfl)) (by decide) f_0_53 (g := (mkF m 89 #[.val (.int va), .val (.int vb), .val (.int vc), .val (.int vd), .val (.int w_0_1), .val (.ref kp), .val (.int (0 : Int32)), .val (.ref r_0_42), .val (.ref r_0_42), .unset] [(.ref r_0_42), (.ref kp)])) rfl (by rw [hml]; rfl) [(.ref r_0_42)] [] rfl (lenOf pd__Ljava_lang_String__Ljava_lang_String_ rfl) rfl (hb hby at_89) 0 (by show 2 * 0 + _ ≤ _; exact Nat.le_of_eq rfl) (by decide) (by decide) (by decide) (by decide) rfl rfl
        refine ogo (fun _ k => st_0_56 _ k) ?_
        show OGo _ _ _ _ (T_0_56.setTop (mkF m 92 #[.val (.int va), .val (.int vb), .val (.int vc), .val (.int vd), .val (.int w_0_1), .val (.ref kp), .val (.int (0 : Int32)), .val (.ref r_0_42), .val (.ref r_0_42), .unset] [(.ref r_0_42)]))
        refine ogo (fun _ k => XS.astore X_0_56.here hx rfl (hb hby at_92) rfl rfl (l' := #[.val (.int va), .val (.int vb), .val (.int vc), .val (.int vd), .val (.int w_0_1), .val (.ref kp), .val (.int (0 : Int32)), .val (.ref r_0_42), .val (.ref r_0_42), .val (.ref r_0_42)]) rfl k) ?_
        show OGo _ _ _ _ (T_0_56.setTop (mkF m 94 #[.val (.int va), .val (.int vb), .val (.int vc), .val (.int vd), .val (.int w_0_1), .val (.ref kp), .val (.int (0 : Int32)), .val (.ref r_0_42), .val (.ref r_0_42), .val (.ref r_0_42)] []))
        refine ogo (fun _ k => XS.aload X_0_56.here hx rfl (hb hby at_94) rfl rfl k) ?_
        show OGo _ _ _ _ (T_0_56.setTop (mkF m 96 #[.val (.int va), .val (.int vb), .val (.int vc), .val (.int vd), .val (.int w_0_1), .val (.ref kp), .val (.int (0 : Int32)), .val (.ref r_0_42), .val (.ref r_0_42), .val (.ref r_0_42)] [(.ref r_0_42)]))
        refine ogo (fun _ k => XS.ifnonnullYes X_0_56.here hx rfl (pc0 := 96) (pc' := 110) rfl (hb hby at_96) rfl (by decide) (by decide) k) ?_
        show OGo _ _ _ _ (T_0_56.setTop (mkF m 110 #[.val (.int va), .val (.int vb), .val (.int vc), .val (.int vd), .val (.int w_0_1), .val (.ref kp), .val (.int (0 : Int32)), .val (.ref r_0_42), .val (.ref r_0_42), .val (.ref r_0_42)] []))
        refine ogo (fun _ k => XS.aload X_0_56.here hx rfl (hb hby at_110) rfl rfl k) ?_
        show OGo _ _ _ _ (T_0_56.setTop (mkF m 112 #[.val (.int va), .val (.int vb), .val (.int vc), .val (.int vd), .val (.int w_0_1), .val (.ref kp), .val (.int (0 : Int32)), .val (.ref r_0_42), .val (.ref r_0_42), .val (.ref r_0_42)] [(.ref r_0_42)]))
        refine ogo (fun _ k => XS.ifnullNo X_0_56.here hx rfl (hb hby at_112) rfl k) ?_
        show OGo _ _ _ _ (T_0_56.setTop (mkF m 115 #[.val (.int va), .val (.int vb), .val (.int vc), .val (.int vd), .val (.int w_0_1), .val (.ref kp), .val (.int (0 : Int32)), .val (.ref r_0_42), .val (.ref r_0_42), .val (.ref r_0_42)] []))
        refine ogo (fun _ k => XS.aload X_0_56.here hx rfl (hb hby at_115) rfl rfl k) ?_
        show OGo _ _ _ _ (T_0_56.setTop (mkF m 117 #[.val (.int va), .val (.int vb), .val (.int vc), .val (.int vd), .val (.int w_0_1), .val (.ref kp), .val (.int (0 : Int32)), .val (.ref r_0_42), .val (.ref r_0_42), .val (.ref r_0_42)] [(.ref r_0_42)]))
        refine ogo (fun _ k => XS.aload X_0_56.here hx rfl (hb hby at_117) rfl rfl k) ?_
        show OGo _ _ _ _ (T_0_56.setTop (mkF m 119 #[.val (.int va), .val (.int vb), .val (.int vc), .val (.int vd), .val (.int w_0_1), .val (.ref kp), .val (.int (0 : Int32)), .val (.ref r_0_42), .val (.ref r_0_42), .val (.ref r_0_42)] [(.ref r_0_42), (.ref r_0_42)]))
        obtain ⟨T_0_57, X_0_57, e_0_57, st_0_57⟩ := ovirtP X_0_56 hx hZ e_0_56 (rm9 l Z a0 hw r_0_42 h_0_42) hown (hw _ (List.mem_of_getElem? (i := 54) rfl)) (hw _ (List.mem_of_getElem? (i := 55) rfl)) (hw _ (List.mem_of_getElem? (i := 57) rfl)) (hw _ (List.mem_of_getElem? (i := 56) rfl)) (hw _ (List.mem_of_getElem? (i := 19) rfl)) (hw _ (List.mem_of_getElem? (i := 58) rfl)) (by decide) Er_0_42 (g := (mkF m 119 #[.val (.int va), .val (.int vb), .val (.int vc), .val (.int vd), .val (.int w_0_1), .val (.ref kp), .val (.int (0 : Int32)), .val (.ref r_0_42), .val (.ref r_0_42), .val (.ref r_0_42)] [(.ref r_0_42), (.ref r_0_42)])) rfl (by rw [hml]; rfl) [(.ref r_0_42)] [] rfl (lenOf pd__Ljava_lang_Object__Z rfl) rfl (hb hby at_119) 0 (by show 2 * 0 + _ ≤ _; exact Nat.le_of_eq rfl) (by decide) (by decide) (by decide) (by decide) rfl rfl
        refine ogo (fun _ k => st_0_57 _ k) ?_
        show OGo _ _ _ _ (T_0_57.setTop (mkF m 122 #[.val (.int va), .val (.int vb), .val (.int vc), .val (.int vd), .val (.int w_0_1), .val (.ref kp), .val (.int (0 : Int32)), .val (.ref r_0_42), .val (.ref r_0_42), .val (.ref r_0_42)] [(.int (1 : Int32))]))
        refine ogo (fun _ k => XS.ifNo X_0_57.here hx rfl (hb hby at_122) rfl ((if0 _ _).trans (feq (by decide : ¬ ((1 : Int32) = (0 : Int32)))).1) k) ?_
        show OGo _ _ _ _ (T_0_57.setTop (mkF m 125 #[.val (.int va), .val (.int vb), .val (.int vc), .val (.int vd), .val (.int w_0_1), .val (.ref kp), .val (.int (0 : Int32)), .val (.ref r_0_42), .val (.ref r_0_42), .val (.ref r_0_42)] []))
        refine ogo (fun _ k => XS.iconst X_0_57.here hx rfl (hb hby at_125) k) ?_
        show OGo _ _ _ _ (T_0_57.setTop (mkF m 126 #[.val (.int va), .val (.int vb), .val (.int vc), .val (.int vd), .val (.int w_0_1), .val (.ref kp), .val (.int (0 : Int32)), .val (.ref r_0_42), .val (.ref r_0_42), .val (.ref r_0_42)] [(.int (1 : Int32))]))
        refine ogo (fun _ k => XS.goto X_0_57.here hx rfl (pc0 := 126) (pc' := 130) rfl (hb hby at_126) (by decide) (by decide) k) ?_
        show OGo _ _ _ _ (T_0_57.setTop (mkF m 130 #[.val (.int va), .val (.int vb), .val (.int vc), .val (.int vd), .val (.int w_0_1), .val (.ref kp), .val (.int (0 : Int32)), .val (.ref r_0_42), .val (.ref r_0_42), .val (.ref r_0_42)] [(.int (1 : Int32))]))
        exact oretW (s := s) X_0_57 hS_0_42 (by rw [e_0_57]; exact (Nat.le_refl _)) hx hlk Bd.returns rfl (Or.inl ⟨rfl, Or.inr (Or.inl rfl), _, rfl⟩) (hb hby at_130) (by decide) (by decide) ⟨rfl, N_0_42⟩
      · refine ogo (fun _ k => XS.ifNo X_0_40.here hx rfl (hb hby at_43) rfl ((if0 _ _).trans (feq hc_0_41).1) k) ?_
        show OGo _ _ _ _ (T_0_40.setTop (mkF m 46 #[.val (.int va), .val (.int vb), .val (.int vc), .val (.int vd), .val (.int w_0_1), .val (.ref kp), .unset, .unset, .unset, .unset] []))
        refine ogo (fun _ k => XS.iconst X_0_40.here hx rfl (hb hby at_46) k) ?_
        show OGo _ _ _ _ (T_0_40.setTop (mkF m 47 #[.val (.int va), .val (.int vb), .val (.int vc), .val (.int vd), .val (.int w_0_1), .val (.ref kp), .unset, .unset, .unset, .unset] [(.int (1 : Int32))]))
        refine ogo (fun _ k => XS.goto X_0_40.here hx rfl (pc0 := 47) (pc' := 51) rfl (hb hby at_47) (by decide) (by decide) k) ?_
        show OGo _ _ _ _ (T_0_40.setTop (mkF m 51 #[.val (.int va), .val (.int vb), .val (.int vc), .val (.int vd), .val (.int w_0_1), .val (.ref kp), .unset, .unset, .unset, .unset] [(.int (1 : Int32))]))
        refine ogo (fun _ k => XS.istore X_0_40.here hx rfl (hb hby at_51) rfl (l' := #[.val (.int va), .val (.int vb), .val (.int vc), .val (.int vd), .val (.int w_0_1), .val (.ref kp), .val (.int (1 : Int32)), .unset, .unset, .unset]) rfl k) ?_
        show OGo _ _ _ _ (T_0_40.setTop (mkF m 53 #[.val (.int va), .val (.int vb), .val (.int vc), .val (.int vd), .val (.int w_0_1), .val (.ref kp), .val (.int (1 : Int32)), .unset, .unset, .unset] []))
        refine ogo (fun _ k => XS.iload X_0_40.here hx rfl (hb hby at_53) rfl k) ?_
        show OGo _ _ _ _ (T_0_40.setTop (mkF m 55 #[.val (.int va), .val (.int vb), .val (.int vc), .val (.int vd), .val (.int w_0_1), .val (.ref kp), .val (.int (1 : Int32)), .unset, .unset, .unset] [(.int (1 : Int32))]))
        refine ogo (fun _ k => XS.ifNo X_0_40.here hx rfl (hb hby at_55) rfl ((if0 _ _).trans (feq (by decide : ¬ ((1 : Int32) = (0 : Int32)))).1) k) ?_
        show OGo _ _ _ _ (T_0_40.setTop (mkF m 58 #[.val (.int va), .val (.int vb), .val (.int vc), .val (.int vd), .val (.int w_0_1), .val (.ref kp), .val (.int (1 : Int32)), .unset, .unset, .unset] []))
        refine ogo (fun _ k => XS.aconstNull X_0_40.here hx rfl (hb hby at_58) k) ?_
        show OGo _ _ _ _ (T_0_40.setTop (mkF m 59 #[.val (.int va), .val (.int vb), .val (.int vc), .val (.int vd), .val (.int w_0_1), .val (.ref kp), .val (.int (1 : Int32)), .unset, .unset, .unset] [.null]))
        refine ogo (fun _ k => XS.goto X_0_40.here hx rfl (pc0 := 59) (pc' := 69) rfl (hb hby at_59) (by decide) (by decide) k) ?_
        show OGo _ _ _ _ (T_0_40.setTop (mkF m 69 #[.val (.int va), .val (.int vb), .val (.int vc), .val (.int vd), .val (.int w_0_1), .val (.ref kp), .val (.int (1 : Int32)), .unset, .unset, .unset] [.null]))
        refine ogo (fun _ k => XS.astore X_0_40.here hx rfl (hb hby at_69) rfl rfl (l' := #[.val (.int va), .val (.int vb), .val (.int vc), .val (.int vd), .val (.int w_0_1), .val (.ref kp), .val (.int (1 : Int32)), .val .null, .unset, .unset]) rfl k) ?_
        show OGo _ _ _ _ (T_0_40.setTop (mkF m 71 #[.val (.int va), .val (.int vb), .val (.int vc), .val (.int vd), .val (.int w_0_1), .val (.ref kp), .val (.int (1 : Int32)), .val .null, .unset, .unset] []))
        refine ogo (fun _ k => XS.iload X_0_40.here hx rfl (hb hby at_71) rfl k) ?_
        show OGo _ _ _ _ (T_0_40.setTop (mkF m 73 #[.val (.int va), .val (.int vb), .val (.int vc), .val (.int vd), .val (.int w_0_1), .val (.ref kp), .val (.int (1 : Int32)), .val .null, .unset, .unset] [(.int w_0_1)]))
        refine ogo (fun _ k => XS.iconst X_0_40.here hx rfl (hb hby at_73) k) ?_
        show OGo _ _ _ _ (T_0_40.setTop (mkF m 74 #[.val (.int va), .val (.int vb), .val (.int vc), .val (.int vd), .val (.int w_0_1), .val (.ref kp), .val (.int (1 : Int32)), .val .null, .unset, .unset] [(.int (2 : Int32)), (.int w_0_1)]))
        refine ogo (fun _ k => XS.icmpNo X_0_40.here hx rfl (hb hby at_74) rfl (teq (own_k3 hw_0_1 hc_0_2 hc_0_21)).2 k) ?_
        show OGo _ _ _ _ (T_0_40.setTop (mkF m 77 #[.val (.int va), .val (.int vb), .val (.int vc), .val (.int vd), .val (.int w_0_1), .val (.ref kp), .val (.int (1 : Int32)), .val .null, .unset, .unset] []))
        refine ogo (fun _ k => XS.aload X_0_40.here hx rfl (hb hby at_77) rfl rfl k) ?_
        show OGo _ _ _ _ (T_0_40.setTop (mkF m 79 #[.val (.int va), .val (.int vb), .val (.int vc), .val (.int vd), .val (.int w_0_1), .val (.ref kp), .val (.int (1 : Int32)), .val .null, .unset, .unset] [.null]))
        refine ogo (fun _ k => XS.goto X_0_40.here hx rfl (pc0 := 79) (pc' := 83) rfl (hb hby at_79) (by decide) (by decide) k) ?_
        show OGo _ _ _ _ (T_0_40.setTop (mkF m 83 #[.val (.int va), .val (.int vb), .val (.int vc), .val (.int vd), .val (.int w_0_1), .val (.ref kp), .val (.int (1 : Int32)), .val .null, .unset, .unset] [.null]))
        refine ogo (fun _ k => XS.astore X_0_40.here hx rfl (hb hby at_83) rfl rfl (l' := #[.val (.int va), .val (.int vb), .val (.int vc), .val (.int vd), .val (.int w_0_1), .val (.ref kp), .val (.int (1 : Int32)), .val .null, .val .null, .unset]) rfl k) ?_
        show OGo _ _ _ _ (T_0_40.setTop (mkF m 85 #[.val (.int va), .val (.int vb), .val (.int vc), .val (.int vd), .val (.int w_0_1), .val (.ref kp), .val (.int (1 : Int32)), .val .null, .val .null, .unset] []))
        refine ogo (fun _ k => XS.aload X_0_40.here hx rfl (hb hby at_85) rfl rfl k) ?_
        show OGo _ _ _ _ (T_0_40.setTop (mkF m 87 #[.val (.int va), .val (.int vb), .val (.int vc), .val (.int vd), .val (.int w_0_1), .val (.ref kp), .val (.int (1 : Int32)), .val .null, .val .null, .unset] [(.ref kp)]))
        refine ogo (fun _ k => XS.aload X_0_40.here hx rfl (hb hby at_87) rfl rfl k) ?_
        show OGo _ _ _ _ (T_0_40.setTop (mkF m 89 #[.val (.int va), .val (.int vb), .val (.int vc), .val (.int vd), .val (.int w_0_1), .val (.ref kp), .val (.int (1 : Int32)), .val .null, .val .null, .unset] [.null, (.ref kp)]))
        obtain ⟨T_0_58, X_0_58, e_0_58, st_0_58⟩ := ovirtP X_0_40 hx hZ e_0_40 (rm1p l Z a0 hw kp .null rfl h0 Bkp Ckp) hown (hw _ (List.mem_of_getElem? (i := 4) rfl)) (hw _ (List.mem_of_getElem? (i := 5) rfl)) (hw _ (List.mem_of_getElem? (i := 7) rfl)) (hw _ (List.mem_of_getElem? (i := 6) rfl)) (hw _ (List.mem_of_getElem? (i := 2) rfl)) (hw _ (List.mem_of_getElem? (i := 8) rfl)) (by decide) Ekp (g := (mkF m 89 #[.val (.int va), .val (.int vb), .val (.int vc), .val (.int vd), .val (.int w_0_1), .val (.ref kp), .val (.int (1 : Int32)), .val .null, .val .null, .unset] [.null, (.ref kp)])) rfl (by rw [hml]; rfl) [.null] [] rfl (lenOf pd__Ljava_lang_String__Ljava_lang_String_ rfl) rfl (hb hby at_89) 0 (by show 2 * 0 + _ ≤ _; exact Nat.le_of_eq rfl) (by decide) (by decide) (by decide) (by decide) rfl rfl
        refine ogo (fun _ k => st_0_58 _ k) ?_
        show OGo _ _ _ _ (T_0_58.setTop (mkF m 92 #[.val (.int va), .val (.int vb), .val (.int vc), .val (.int vd), .val (.int w_0_1), .val (.ref kp), .val (.int (1 : Int32)), .val .null, .val .null, .unset] [.null]))
        refine ogo (fun _ k => XS.astore X_0_58.here hx rfl (hb hby at_92) rfl rfl (l' := #[.val (.int va), .val (.int vb), .val (.int vc), .val (.int vd), .val (.int w_0_1), .val (.ref kp), .val (.int (1 : Int32)), .val .null, .val .null, .val .null]) rfl k) ?_
        show OGo _ _ _ _ (T_0_58.setTop (mkF m 94 #[.val (.int va), .val (.int vb), .val (.int vc), .val (.int vd), .val (.int w_0_1), .val (.ref kp), .val (.int (1 : Int32)), .val .null, .val .null, .val .null] []))
        refine ogo (fun _ k => XS.aload X_0_58.here hx rfl (hb hby at_94) rfl rfl k) ?_
        show OGo _ _ _ _ (T_0_58.setTop (mkF m 96 #[.val (.int va), .val (.int vb), .val (.int vc), .val (.int vd), .val (.int w_0_1), .val (.ref kp), .val (.int (1 : Int32)), .val .null, .val .null, .val .null] [.null]))
        refine ogo (fun _ k => XS.ifnonnullNo X_0_58.here hx rfl (hb hby at_96) rfl k) ?_
        show OGo _ _ _ _ (T_0_58.setTop (mkF m 99 #[.val (.int va), .val (.int vb), .val (.int vc), .val (.int vd), .val (.int w_0_1), .val (.ref kp), .val (.int (1 : Int32)), .val .null, .val .null, .val .null] []))
        refine ogo (fun _ k => XS.aload X_0_58.here hx rfl (hb hby at_99) rfl rfl k) ?_
        show OGo _ _ _ _ (T_0_58.setTop (mkF m 101 #[.val (.int va), .val (.int vb), .val (.int vc), .val (.int vd), .val (.int w_0_1), .val (.ref kp), .val (.int (1 : Int32)), .val .null, .val .null, .val .null] [.null]))
        refine ogo (fun _ k => XS.ifnonnullNo X_0_58.here hx rfl (hb hby at_101) rfl k) ?_
        show OGo _ _ _ _ (T_0_58.setTop (mkF m 104 #[.val (.int va), .val (.int vb), .val (.int vc), .val (.int vd), .val (.int w_0_1), .val (.ref kp), .val (.int (1 : Int32)), .val .null, .val .null, .val .null] []))
        refine ogo (fun _ k => XS.iconst X_0_58.here hx rfl (hb hby at_104) k) ?_
        show OGo _ _ _ _ (T_0_58.setTop (mkF m 105 #[.val (.int va), .val (.int vb), .val (.int vc), .val (.int vd), .val (.int w_0_1), .val (.ref kp), .val (.int (1 : Int32)), .val .null, .val .null, .val .null] [(.int (1 : Int32))]))
        refine ogo (fun _ k => XS.goto X_0_58.here hx rfl (pc0 := 105) (pc' := 109) rfl (hb hby at_105) (by decide) (by decide) k) ?_
        show OGo _ _ _ _ (T_0_58.setTop (mkF m 109 #[.val (.int va), .val (.int vb), .val (.int vc), .val (.int vd), .val (.int w_0_1), .val (.ref kp), .val (.int (1 : Int32)), .val .null, .val .null, .val .null] [(.int (1 : Int32))]))
        exact oretW (s := s) (vm1 := s.vm) X_0_58 (osince s 0) (Nat.zero_le _) hx hlk Bd.returns rfl (Or.inl ⟨rfl, Or.inr (Or.inl rfl), _, rfl⟩) (hb hby at_109) (by decide) (by decide) ⟨rfl, N0⟩
set_option maxRecDepth 65536 in
set_option maxHeartbeats 40000000 in
theorem comes_1 {Post : Tables → Env → Array Value → State → Outcome → State → Prop} (hpost : ∀ tb e args s v u, (limb_1_1.after args s (.returned v) u = true ∧ limb_1_2.after args s (.returned v) u = true) → ReturnedEndW s (.returned v) u (Jvm.fieldLocs frame_1_writes args s ++ Jvm.arrayLocs frame_1_arrays args s ++ Jvm.staticLocs frame_1_statics s) 16 1152 → Post tb e args s (.returned v) u) :
    ArmFor flags0 classFile x code maxLocals ret World_1 tables_1 room_1 Calls_1 rest_1 Pre_1 Post := by
  intro l hfl _ _ p e ha hc hk s m args below hf hA hF happ hP
  obtain ⟨⟨hheld, -⟩, hrest, hpre⟩ := hP
  obtain ⟨-, -, -, hnamed, -, -, -, hat⟩ := (Spec.applies_iff hf).mp happ
  obtain ⟨hg, hn⟩ := and_e (Cond.before_iff.mp (show (Jvm.Cond.and given_1 narrow_1).before args s = true from hpre))
  obtain ⟨gc, g0⟩ := and_e hg
  obtain ⟨ga0, g1⟩ := and_e g0
  obtain ⟨ga1, g2⟩ := and_e g1
  obtain ⟨ga2, ga3⟩ := and_e g2
  obtain ⟨w0, w1, w2, w3, rfl⟩ : ∃ w0 w1 w2 w3 : Value, args = #[w0, w1, w2, w3] := by
    have hs : args.size = 4 := by simpa [Cond.value, given_1] using gc
    obtain ⟨L⟩ := args
    match L, hs with
    | [w0, w1, w2, w3], _ => exact ⟨w0, w1, w2, w3, rfl⟩
  have hw := fun d (hd : d ∈ tables_1) => atoms_spec (ws := Jvm.Cond.code x code maxLocals ret :: tables_1) hat d (List.mem_cons_of_mem _ hd)
  obtain ⟨hsets, hown0⟩ := atoms_of _ (rest_1_c_eq ▸ (show rest_1_c.before _ s = true from hrest))
  obtain ⟨i0, ei0⟩ := is_v ga0
  obtain rfl : w0 = (.int i0) := Option.some.inj ei0
  obtain ⟨i1, ei1⟩ := is_v ga1
  obtain rfl : w1 = (.int i1) := Option.some.inj ei1
  obtain ⟨i2, ei2⟩ := is_v ga2
  obtain rfl : w2 = (.int i2) := Option.some.inj ei2
  obtain ⟨i3, ei3⟩ := is_v ga3
  obtain rfl : w3 = (.int i3) := Option.some.inj ei3
  have n3 := not_v (Cond.before_iff.mp (hsets _ (List.mem_of_getElem? (i := 2) rfl)))
  obtain ⟨z, ez⟩ := is_v (Cond.before_iff.mp (hsets _ (List.mem_of_getElem? (i := 1) rfl)))
  have SC : Sta s s.heap "java/lang/String" "COMPACT_STRINGS" "Z" (.int z) := Sta.start ez (Or.inl (hsets _ (List.mem_of_getElem? (i := 0) rfl)))
  have hz : ¬ z = 0 := gotF (Cond.eq_ints ez (Term.int_eval (0))) n3
  obtain ⟨x1, m1⟩ := and_e hn
  obtain ⟨x2, m2⟩ := and_e m1
  obtain ⟨x3, m3⟩ := and_e m2
  obtain ⟨x4, m4⟩ := and_e m3
  obtain ⟨x5, m5⟩ := and_e m4
  obtain ⟨x6, m6⟩ := and_e m5
  obtain ⟨x7, m7⟩ := and_e m6
  obtain ⟨x8, x9⟩ := and_e m7
  obtain ⟨ku, tku⟩ := exa_v x1
  have Sku := Sta.start (C := "com/example/bouncr/bouncr/Key") (n := "USER") (d := "Lcom/example/bouncr/bouncr/Key;") tku (Or.inr ⟨(hw _ (List.mem_of_getElem? (i := 2) rfl)), (hw _ (List.mem_of_getElem? (i := 3) rfl))⟩)
  have Eku := Exa.start tku x1
  have Bku := Fld.start ((fld_at tku).symm.trans (eqv_i rfl x2))
  have Cku := Fld.start ((fld_at tku).symm.trans (eqv_i rfl x3))
  obtain ⟨ka, tka⟩ := exa_v x4
  have Ska := Sta.start (C := "com/example/bouncr/bouncr/Key") (n := "ADDRESS") (d := "Lcom/example/bouncr/bouncr/Key;") tka (Or.inr ⟨(hw _ (List.mem_of_getElem? (i := 2) rfl)), (hw _ (List.mem_of_getElem? (i := 48) rfl))⟩)
  have Eka := Exa.start tka x4
  have Bka := Fld.start ((fld_at tka).symm.trans (eqv_i rfl x5))
  have Cka := Fld.start ((fld_at tka).symm.trans (eqv_i rfl x9))
  obtain ⟨kp, tkp⟩ := exa_v x6
  have Skp := Sta.start (C := "com/example/bouncr/bouncr/Key") (n := "PAIR") (d := "Lcom/example/bouncr/bouncr/Key;") tkp (Or.inr ⟨(hw _ (List.mem_of_getElem? (i := 2) rfl)), (hw _ (List.mem_of_getElem? (i := 53) rfl))⟩)
  have Ekp := Exa.start tkp x6
  have Bkp := Fld.start ((fld_at tkp).symm.trans (eqv_i rfl x7))
  have Ckp := Fld.start ((fld_at tkp).symm.trans (eqv_i rfl x8))
  have hcw : Jvm.Lit.compactW.before _ s = true := hsets _ (List.mem_of_getElem? (i := 2) rfl)
  have hh7 : Jvm.Lit.constHeld s "java/lang/String" 7 := hheld _ (List.mem_of_getElem? (i := 0) rfl)
  obtain ⟨n, o, h1, h2, h3, _, L, rfl, ⟨rfl, N⟩, hq⟩ := rm0 l s _ hw tables_1 i0 i1 i2 i3 z ku ka kp s.heap s.heap.size (Nat.le_refl _) SC hz (fun _ _ q => q) hh7 hcw Sku Eku Bku Cku Ska Eka Bka Cka Skp Ekp Bkp Ckp p e ha hc hk s m _ below hf ((Spec.applies_iff_loose hf).mp happ).1 ⟨rfl, State.Warmed39.refl s, rfl, IB.start⟩ trivial
  exact ⟨n, _, h1, h2, h3, hpost _ _ _ _ _ _ ⟨Cond.after_iff.mpr rfl, Cond.after_iff.mpr (eq_i res_at (Term.int_eval (1)) rfl)⟩ ⟨hq.1, hq.2.1, hq.2.2.1, (hq.2.2.2.sift fun y hy => Or.inr (N y hy)).mono (by decide) (by decide)⟩⟩
theorem main_1_1 : Claimed_1_1 := comes_1 fun _ _ _ _ _ _ h hF => ⟨h.1, hF⟩
theorem main_1_2 : Claimed_1_2 := comes_1 fun _ _ _ _ _ _ h hF => ⟨h.2, hF⟩
end Jvm.Pilot.@@N@@
namespace Jvm.Pilot.@@N@@
open Jvm Jvm.ClassFile Sem Op Lib Jvm.Free Jvm.Stand Jvm.Pilot.@@N@@.Jvm.D
/-! MADE BY PROGRAM (witnessworld.py) out of the Statement's table words and the real class files: 21 classes; the members and pool entries that the words name. The judged class is class 1, her method 2. -/
namespace start1
open Jvm.ClassFile
def u (s : String) : CpInfo := .utf8 (stringToUtf16 s)
/-- a pool by its gaps: so many unusable entries, then the entry; so many at the end -/
def gap : Nat → List CpInfo → List CpInfo
  | 0, r => r
  | n + 1, r => .unusable :: gap n r
def poolList (es : List (Nat × CpInfo)) (last : Nat) : List CpInfo := es.foldr (fun e r => gap e.1 (e.2 :: r)) (gap last [])
def pool (es : List (Nat × CpInfo)) (last : Nat) : Array CpInfo := ⟨poolList es last⟩
def fileOf (pool : Array CpInfo) (this : Nat) (attrs : Array Attribute := #[]) (ms : Array MethodInfo := #[]) (fl : Nat := 33) (sup : Nat := 0) (ifs : Array Nat := #[]) (fds : Array FieldInfo := #[]) : ClassFile where
  minorVersion := 0
  majorVersion := 65
  constantPool := pool
  accessFlags := fl
  thisClass := this
  superClass := sup
  interfaces := ifs
  fields := fds
  methods := ms
  attributes := attrs
def plain (name : String) (sup : Option ClassId) : Class where
  name := name
  kind := .ordinary
  loader := none
  accessFlags := 33
  super := sup
  interfaces := #[]
  cf := none
  fields := #[]
  methods := #[]
  instanceTypes := #[]
  staticTypes := #[]
  resolved := #[]
  callSites := []
  init := .initialized
  statics := none
  mirror := none

def pool0 : Array CpInfo := pool [(5, u "<init>"), (0, u "()V"), (1, .class_ 10), (1, u "java/lang/Object")] 113

def k0c0 : Code := { maxStack := 0, maxLocals := 1, code := object_method_1_code, exceptionTable := #[], attributes := #[] }
def k0m0 : Method := { name := "<init>", desc := "()V", sig := { parameters := [], returnType := none }, accessFlags := 1, code := some k0c0 }
/-- java/lang/Object -/
def k0 : Class := { plain "java/lang/Object" none with
  accessFlags := 33
  interfaces := #[]
  cf := some (fileOf pool0 8 #[] #[{ accessFlags := 1, nameIndex := 5, descriptorIndex := 6, attributes := #[] }] 33 0 #[] #[])
  fields := #[]
  methods := #[k0m0]
  instanceTypes := #[]
  staticTypes := #[]
  resolved := Array.replicate 124 none
  statics := none }

def pool1 : Array CpInfo := pool [(2, .class_ 4), (1, u "java/lang/Object"), (0, u "<init>"), (0, u "()V"), (0, .class_ 8), (0, u "java/lang/String"), (0, .methodref 7 10), (0, .nameAndType 5 11), (0, u "([C)V"), (0, .integer 2147483647), (0, .fieldref 14 15), (0, .class_ 16), (0, .nameAndType 17 18), (0, u "com/example/bouncr/bouncr/Key"), (0, u "USER"), (0, u "Lcom/example/bouncr/bouncr/Key;"), (0, .fieldref 14 20), (0, .nameAndType 21 18), (0, u "ADDRESS"), (0, .fieldref 14 23), (0, .nameAndType 24 18), (0, u "PAIR"), (0, .methodref 26 27), (0, .class_ 28), (0, .nameAndType 29 30), (0, u "com/example/bouncr/bouncr/KeySecondPinLaw"), (0, u "build"), (0, u "(II)Ljava/lang/String;"), (0, .methodref 14 32), (0, .nameAndType 33 34), (0, u "second"), (0, u "(Ljava/lang/String;)Ljava/lang/String;"), (0, .methodref 7 36), (0, .nameAndType 37 38), (0, u "equals"), (0, u "(Ljava/lang/Object;)Z"), (3, u "law"), (0, u "(IIII)Z")] 2

def k1m0 : Method := { name := "<init>", desc := "()V", sig := { parameters := [], returnType := none }, accessFlags := 1, code := none }
def k1c1 : Code := { maxStack := 6, maxLocals := 5, code := method_2_code, exceptionTable := #[], attributes := #[] }
def k1m1 : Method := { name := "build", desc := "(II)Ljava/lang/String;", sig := { parameters := [.int, .int], returnType := some (.object "java/lang/String") }, accessFlags := 10, code := some k1c1 }
def k1c2 : Code := { maxStack := 2, maxLocals := 10, code := code, exceptionTable := #[], attributes := #[] }
def k1m2 : Method := { name := "law", desc := "(IIII)Z", sig := { parameters := [.int, .int, .int, .int], returnType := some .boolean }, accessFlags := 9, code := some k1c2 }
/-- com/example/bouncr/bouncr/KeySecondPinLaw -/
def k1 : Class := { plain "com/example/bouncr/bouncr/KeySecondPinLaw" (some 0) with
  accessFlags := 49
  interfaces := #[]
  cf := some (fileOf pool1 26 #[] #[{ accessFlags := 1, nameIndex := 5, descriptorIndex := 6, attributes := #[] }, { accessFlags := 10, nameIndex := 29, descriptorIndex := 30, attributes := #[] }, { accessFlags := 9, nameIndex := 42, descriptorIndex := 43, attributes := #[] }] 49 2 #[] #[])
  fields := #[]
  methods := #[k1m0, k1m1, k1m2]
  instanceTypes := #[]
  staticTypes := #[]
  resolved := Array.replicate 46 none
  statics := none }

def pool2 : Array CpInfo := pool [(1, .class_ 2), (0, u "java/lang/constant/Constable"), (0, .class_ 4), (0, u "java/lang/Object")] 6

/-- java/lang/constant/Constable -/
def k2 : Class := { plain "java/lang/constant/Constable" (some 0) with
  accessFlags := 1537
  interfaces := #[]
  cf := some (fileOf pool2 1 #[] #[] 1537 3 #[] #[])
  fields := #[]
  methods := #[]
  instanceTypes := #[]
  staticTypes := #[]
  resolved := Array.replicate 11 none
  statics := none }

def pool3 : Array CpInfo := pool [(1, .class_ 2), (0, u "java/lang/Comparable"), (0, .class_ 4), (0, u "java/lang/Object")] 7

/-- java/lang/Comparable -/
def k3 : Class := { plain "java/lang/Comparable" (some 0) with
  accessFlags := 1537
  interfaces := #[]
  cf := some (fileOf pool3 1 #[] #[] 1537 3 #[] #[])
  fields := #[]
  methods := #[]
  instanceTypes := #[]
  staticTypes := #[]
  resolved := Array.replicate 12 none
  statics := none }

def pool4 : Array CpInfo := pool [(1, .class_ 2), (0, u "java/io/Serializable"), (0, .class_ 4), (0, u "java/lang/Object")] 2

/-- java/io/Serializable -/
def k4 : Class := { plain "java/io/Serializable" (some 0) with
  accessFlags := 1537
  interfaces := #[]
  cf := some (fileOf pool4 1 #[] #[] 1537 3 #[] #[])
  fields := #[]
  methods := #[]
  instanceTypes := #[]
  staticTypes := #[]
  resolved := Array.replicate 7 none
  statics := none }

def pool5 : Array CpInfo := pool [(2, .class_ 4), (1, u "java/lang/Enum"), (0, u "name"), (0, u "Ljava/lang/String;"), (2, u "ordinal"), (0, u "I"), (1, .class_ 14), (1, u "java/lang/Object"), (4, u "hash"), (86, .class_ 108), (1, u "java/lang/Enum$EnumDesc"), (2, .class_ 112), (0, u "java/lang/constant/Constable"), (0, .class_ 114), (0, u "java/lang/Comparable"), (0, .class_ 116), (0, u "java/io/Serializable")] 87

/-- java/lang/Enum -/
def k5 : Class := { plain "java/lang/Enum" (some 0) with
  accessFlags := 1057
  interfaces := #[2, 3, 4]
  cf := some (fileOf pool5 2 #[.nestMembers #[106]] #[] 1057 12 #[111, 113, 115] #[{ accessFlags := 18, nameIndex := 5, descriptorIndex := 6, attributes := #[] }, { accessFlags := 18, nameIndex := 9, descriptorIndex := 10, attributes := #[] }, { accessFlags := 2, nameIndex := 19, descriptorIndex := 10, attributes := #[] }])
  fields := #[{ name := "name", type := (.object "java/lang/String"), accessFlags := 18, slot := 0, constantValue := 0 }, { name := "ordinal", type := .int, accessFlags := 18, slot := 1, constantValue := 0 }, { name := "hash", type := .int, accessFlags := 2, slot := 2, constantValue := 0 }]
  methods := #[]
  instanceTypes := #[(.object "java/lang/String"), .int, .int]
  staticTypes := #[]
  resolved := Array.replicate 204 none
  statics := none }

def pool6 : Array CpInfo := pool [(1, .class_ 2), (0, u "com/example/bouncr/bouncr/Key"), (2, u "USER"), (0, u "Lcom/example/bouncr/bouncr/Key;"), (2, u "ADDRESS"), (2, u "PAIR"), (2, u "$VALUES"), (0, u "[Lcom/example/bouncr/bouncr/Key;"), (6, .class_ 25), (1, u "java/lang/Enum"), (8, u "label"), (0, u "Ljava/lang/String;"), (0, .fieldref 1 37), (0, .nameAndType 38 39), (0, u "byName"), (0, u "Z"), (0, .fieldref 1 41), (0, .nameAndType 42 39), (0, u "byAddress"), (2, u "successClears"), (2, u "knownAddresses"), (15, u "second"), (0, u "(Ljava/lang/String;)Ljava/lang/String;"), (27, u "BY_NAME"), (0, u "I"), (5, u "BY_ADDRESS")] 57

def k6c0 : Code := { maxStack := 1, maxLocals := 2, code := prog_24_method_12_code, exceptionTable := #[], attributes := #[] }
def k6m0 : Method := { name := "second", desc := "(Ljava/lang/String;)Ljava/lang/String;", sig := { parameters := [(.object "java/lang/String")], returnType := some (.object "java/lang/String") }, accessFlags := 0, code := some k6c0 }
/-- com/example/bouncr/bouncr/Key -/
def k6 : Class := { plain "com/example/bouncr/bouncr/Key" (some 5) with
  accessFlags := 16433
  interfaces := #[]
  cf := some (fileOf pool6 1 #[] #[{ accessFlags := 0, nameIndex := 64, descriptorIndex := 65, attributes := #[] }] 16433 23 #[] #[{ accessFlags := 16409, nameIndex := 5, descriptorIndex := 6, attributes := #[] }, { accessFlags := 16409, nameIndex := 9, descriptorIndex := 6, attributes := #[] }, { accessFlags := 16409, nameIndex := 12, descriptorIndex := 6, attributes := #[] }, { accessFlags := 24, nameIndex := 93, descriptorIndex := 94, attributes := #[] }, { accessFlags := 24, nameIndex := 100, descriptorIndex := 94, attributes := #[] }, { accessFlags := 18, nameIndex := 34, descriptorIndex := 35, attributes := #[] }, { accessFlags := 18, nameIndex := 38, descriptorIndex := 39, attributes := #[] }, { accessFlags := 18, nameIndex := 42, descriptorIndex := 39, attributes := #[] }, { accessFlags := 18, nameIndex := 45, descriptorIndex := 39, attributes := #[] }, { accessFlags := 18, nameIndex := 48, descriptorIndex := 39, attributes := #[] }, { accessFlags := 4122, nameIndex := 15, descriptorIndex := 16, attributes := #[] }])
  fields := #[{ name := "USER", type := (.object "com/example/bouncr/bouncr/Key"), accessFlags := 16409, slot := 0, constantValue := 0 }, { name := "ADDRESS", type := (.object "com/example/bouncr/bouncr/Key"), accessFlags := 16409, slot := 1, constantValue := 0 }, { name := "PAIR", type := (.object "com/example/bouncr/bouncr/Key"), accessFlags := 16409, slot := 2, constantValue := 0 }, { name := "BY_NAME", type := .int, accessFlags := 24, slot := 3, constantValue := 0 }, { name := "BY_ADDRESS", type := .int, accessFlags := 24, slot := 4, constantValue := 0 }, { name := "label", type := (.object "java/lang/String"), accessFlags := 18, slot := 3, constantValue := 0 }, { name := "byName", type := .boolean, accessFlags := 18, slot := 4, constantValue := 0 }, { name := "byAddress", type := .boolean, accessFlags := 18, slot := 5, constantValue := 0 }, { name := "successClears", type := .boolean, accessFlags := 18, slot := 6, constantValue := 0 }, { name := "knownAddresses", type := .boolean, accessFlags := 18, slot := 7, constantValue := 0 }, { name := "$VALUES", type := (.array (.object "com/example/bouncr/bouncr/Key")), accessFlags := 4122, slot := 5, constantValue := 0 }]
  methods := #[k6m0]
  instanceTypes := #[(.object "java/lang/String"), .int, .int, (.object "java/lang/String"), .boolean, .boolean, .boolean, .boolean]
  staticTypes := #[(.object "com/example/bouncr/bouncr/Key"), (.object "com/example/bouncr/bouncr/Key"), (.object "com/example/bouncr/bouncr/Key"), .int, .int, (.array (.object "com/example/bouncr/bouncr/Key"))]
  resolved := Array.replicate 158 none
  statics := some 0 }

def pool7 : Array CpInfo := pool [(2, .class_ 4), (1, u "java/lang/CharSequence"), (42, .class_ 48), (0, u "java/lang/CharSequence$1CodePointIterator"), (10, .class_ 60), (0, u "java/lang/CharSequence$1CharIterator"), (5, .class_ 67), (0, u "java/lang/Object")] 63

/-- java/lang/CharSequence -/
def k7 : Class := { plain "java/lang/CharSequence" (some 0) with
  accessFlags := 1537
  interfaces := #[]
  cf := some (fileOf pool7 2 #[.nestMembers #[47, 59]] #[] 1537 66 #[] #[])
  fields := #[]
  methods := #[]
  instanceTypes := #[]
  staticTypes := #[]
  resolved := Array.replicate 131 none
  statics := none }

def pool8 : Array CpInfo := pool [(1, .class_ 2), (0, u "java/lang/constant/ConstantDesc"), (0, .class_ 4), (0, u "java/lang/Object")] 32

/-- java/lang/constant/ConstantDesc -/
def k8 : Class := { plain "java/lang/constant/ConstantDesc" (some 0) with
  accessFlags := 1537
  interfaces := #[]
  cf := some (fileOf pool8 1 #[] #[] 1537 3 #[] #[])
  fields := #[]
  methods := #[]
  instanceTypes := #[]
  staticTypes := #[]
  resolved := Array.replicate 37 none
  statics := none }

def pool9 : Array CpInfo := pool [(1, .methodref 2 3), (0, .class_ 4), (0, .nameAndType 5 6), (0, u "java/lang/Object"), (0, u "<init>"), (0, u "()V"), (0, .string 8), (0, u ""), (0, .fieldref 10 11), (0, .class_ 12), (0, .nameAndType 13 14), (0, u "java/lang/String"), (0, u "value"), (0, u "[B"), (0, .fieldref 10 16), (0, .nameAndType 17 18), (0, u "coder"), (0, u "B"), (2, u "hash"), (0, u "I"), (2, u "hashIsZero"), (0, u "Z"), (0, .methodref 10 28), (0, .nameAndType 5 29), (0, u "([CIILjava/lang/Void;)V"), (8, .fieldref 10 39), (0, .nameAndType 40 26), (0, u "COMPACT_STRINGS"), (1, .class_ 44), (1, u "java/lang/StringUTF16"), (0, u "compress"), (1, .methodref 42 48), (0, .nameAndType 49 50), (0, u "coderFromArrayLen"), (0, u "([BI)B"), (126, .methodref 42 178), (0, .nameAndType 45 179), (0, u "([CII)[B"), (363, u "equals"), (29, u "(Ljava/lang/Object;)Z"), (1, .class_ 576), (0, u "java/lang/CharSequence"), (22, u "CASE_INSENSITIVE_ORDER"), (0, u "Ljava/util/Comparator;"), (409, u "([C)V"), (90, u "serialPersistentFields"), (0, u "[Ljava/io/ObjectStreamField;"), (0, .class_ 1104), (0, u "java/lang/String$CaseInsensitiveComparator"), (1, .class_ 1107), (0, u "java/io/Serializable"), (0, .class_ 1109), (0, u "java/lang/Comparable"), (0, .class_ 1111), (0, u "java/lang/constant/Constable"), (0, .class_ 1113), (0, u "java/lang/constant/ConstantDesc"), (2, u "serialVersionUID"), (0, u "J"), (3, u "REPL"), (0, u "C"), (2, u "LATIN1"), (1, u "UTF16")] 323

def k9m0 : Method := { name := "<init>", desc := "()V", sig := { parameters := [], returnType := none }, accessFlags := 1, code := none }
def k9c1 : Code := { maxStack := 5, maxLocals := 2, code := jdk_42_method_3_code, exceptionTable := #[], attributes := #[] }
def k9m1 : Method := { name := "<init>", desc := "([C)V", sig := { parameters := [(.array .char)], returnType := none }, accessFlags := 1, code := some k9c1 }
def k9c2 : Code := { maxStack := 2, maxLocals := 3, code := jdk_42_method_66_code, exceptionTable := #[], attributes := #[] }
def k9m2 : Method := { name := "equals", desc := "(Ljava/lang/Object;)Z", sig := { parameters := [(.object "java/lang/Object")], returnType := some .boolean }, accessFlags := 1, code := some k9c2 }
def k9c3 : Code := { maxStack := 4, maxLocals := 6, code := jdk_42_method_149_code, exceptionTable := #[], attributes := #[] }
def k9m3 : Method := { name := "<init>", desc := "([CIILjava/lang/Void;)V", sig := { parameters := [(.array .char), .int, .int, (.object "java/lang/Void")], returnType := none }, accessFlags := 2, code := some k9c3 }
/-- java/lang/String -/
def k9 : Class := { plain "java/lang/String" (some 0) with
  accessFlags := 49
  interfaces := #[4, 3, 7, 2, 8]
  cf := some (fileOf pool9 10 #[.nestMembers #[1103]] #[{ accessFlags := 1, nameIndex := 5, descriptorIndex := 6, attributes := #[] }, { accessFlags := 1, nameIndex := 5, descriptorIndex := 1010, attributes := #[] }, { accessFlags := 1, nameIndex := 543, descriptorIndex := 573, attributes := #[] }, { accessFlags := 2, nameIndex := 5, descriptorIndex := 29, attributes := #[] }] 49 2 #[1106, 1108, 575, 1110, 1112] #[{ accessFlags := 18, nameIndex := 13, descriptorIndex := 14, attributes := #[] }, { accessFlags := 18, nameIndex := 17, descriptorIndex := 18, attributes := #[] }, { accessFlags := 2, nameIndex := 21, descriptorIndex := 22, attributes := #[] }, { accessFlags := 2, nameIndex := 25, descriptorIndex := 26, attributes := #[] }, { accessFlags := 26, nameIndex := 1116, descriptorIndex := 1117, attributes := #[] }, { accessFlags := 24, nameIndex := 40, descriptorIndex := 26, attributes := #[] }, { accessFlags := 26, nameIndex := 1101, descriptorIndex := 1102, attributes := #[] }, { accessFlags := 26, nameIndex := 1121, descriptorIndex := 1122, attributes := #[] }, { accessFlags := 25, nameIndex := 599, descriptorIndex := 600, attributes := #[] }, { accessFlags := 24, nameIndex := 1125, descriptorIndex := 18, attributes := #[] }, { accessFlags := 24, nameIndex := 1127, descriptorIndex := 18, attributes := #[] }])
  fields := #[{ name := "value", type := (.array .byte), accessFlags := 18, slot := 0, constantValue := 0 }, { name := "coder", type := .byte, accessFlags := 18, slot := 1, constantValue := 0 }, { name := "hash", type := .int, accessFlags := 2, slot := 2, constantValue := 0 }, { name := "hashIsZero", type := .boolean, accessFlags := 2, slot := 3, constantValue := 0 }, { name := "serialVersionUID", type := .long, accessFlags := 26, slot := 0, constantValue := 0 }, { name := "COMPACT_STRINGS", type := .boolean, accessFlags := 24, slot := 1, constantValue := 0 }, { name := "serialPersistentFields", type := (.array (.object "java/io/ObjectStreamField")), accessFlags := 26, slot := 2, constantValue := 0 }, { name := "REPL", type := .char, accessFlags := 26, slot := 3, constantValue := 0 }, { name := "CASE_INSENSITIVE_ORDER", type := (.object "java/util/Comparator"), accessFlags := 25, slot := 4, constantValue := 0 }, { name := "LATIN1", type := .byte, accessFlags := 24, slot := 5, constantValue := 0 }, { name := "UTF16", type := .byte, accessFlags := 24, slot := 6, constantValue := 0 }]
  methods := #[k9m0, k9m1, k9m2, k9m3]
  instanceTypes := #[(.array .byte), .byte, .int, .boolean]
  staticTypes := #[.long, .boolean, (.array (.object "java/io/ObjectStreamField")), .char, (.object "java/util/Comparator"), .byte, .byte]
  resolved := Array.replicate 1451 none
  statics := some 1 }

def pool10 : Array CpInfo := pool [(6, .class_ 8), (1, u "java/lang/Object"), (0, u "<init>"), (0, u "()V"), (1, .class_ 14), (1, u "java/lang/StringUTF16"), (31, u "$assertionsDisabled"), (0, u "Z"), (13, u "HI_BYTE_SHIFT"), (0, u "I"), (2, u "LO_BYTE_SHIFT"), (49, .methodref 12 116), (0, .nameAndType 117 118), (0, u "compress"), (0, u "([CI[BII)I"), (3, u "([CII)[B"), (138, u "coderFromArrayLen"), (0, u "([BI)B"), (106, .class_ 371), (1, u "java/lang/StringUTF16$LinesSpliterator"), (58, u "MAX_LENGTH"), (196, .class_ 628), (0, u "java/lang/StringUTF16$CodePointsSpliterator"), (0, .class_ 630), (0, u "java/lang/StringUTF16$CharsSpliterator")] 4

def k10m0 : Method := { name := "<init>", desc := "()V", sig := { parameters := [], returnType := none }, accessFlags := 0, code := none }
def k10c1 : Code := { maxStack := 2, maxLocals := 2, code := jdk_52_method_15_code, exceptionTable := #[], attributes := #[] }
def k10m1 : Method := { name := "coderFromArrayLen", desc := "([BI)B", sig := { parameters := [(.array .byte), .int], returnType := some .byte }, accessFlags := 8, code := some k10c1 }
def k10c2 : Code := { maxStack := 5, maxLocals := 6, code := jdk_52_method_16_code, exceptionTable := #[], attributes := #[] }
def k10m2 : Method := { name := "compress", desc := "([CII)[B", sig := { parameters := [(.array .char), .int, .int], returnType := some (.array .byte) }, accessFlags := 9, code := some k10c2 }
def k10c3 : Code := { maxStack := 3, maxLocals := 7, code := jdk_52_method_21_code, exceptionTable := #[], attributes := #[] }
def k10m3 : Method := { name := "compress", desc := "([CI[BII)I", sig := { parameters := [(.array .char), .int, (.array .byte), .int, .int], returnType := some .int }, accessFlags := 9, code := some k10c3 }
/-- java/lang/StringUTF16 -/
def k10 : Class := { plain "java/lang/StringUTF16" (some 0) with
  accessFlags := 48
  interfaces := #[]
  cf := some (fileOf pool10 12 #[.nestMembers #[627, 629, 369]] #[{ accessFlags := 0, nameIndex := 9, descriptorIndex := 10, attributes := #[] }, { accessFlags := 8, nameIndex := 261, descriptorIndex := 262, attributes := #[] }, { accessFlags := 9, nameIndex := 117, descriptorIndex := 122, attributes := #[] }, { accessFlags := 9, nameIndex := 117, descriptorIndex := 118, attributes := #[] }] 48 6 #[] #[{ accessFlags := 26, nameIndex := 61, descriptorIndex := 62, attributes := #[] }, { accessFlags := 26, nameIndex := 65, descriptorIndex := 62, attributes := #[] }, { accessFlags := 24, nameIndex := 430, descriptorIndex := 62, attributes := #[] }, { accessFlags := 4120, nameIndex := 46, descriptorIndex := 47, attributes := #[] }])
  fields := #[{ name := "HI_BYTE_SHIFT", type := .int, accessFlags := 26, slot := 0, constantValue := 0 }, { name := "LO_BYTE_SHIFT", type := .int, accessFlags := 26, slot := 1, constantValue := 0 }, { name := "MAX_LENGTH", type := .int, accessFlags := 24, slot := 2, constantValue := 0 }, { name := "$assertionsDisabled", type := .boolean, accessFlags := 4120, slot := 3, constantValue := 0 }]
  methods := #[k10m0, k10m1, k10m2, k10m3]
  instanceTypes := #[]
  staticTypes := #[.int, .int, .int, .boolean]
  resolved := Array.replicate 635 none
  statics := none }

def pool11 : Array CpInfo := pool [(4, .class_ 6), (1, u "java/lang/Object"), (0, u "<init>"), (0, u "()V"), (5, .class_ 16), (1, u "java/lang/StringLatin1"), (104, u "$assertionsDisabled"), (0, u "Z"), (98, .class_ 223), (1, u "java/lang/StringLatin1$LinesSpliterator"), (166, .class_ 391), (0, u "java/lang/StringLatin1$CharsSpliterator")] 3

def k11m0 : Method := { name := "<init>", desc := "()V", sig := { parameters := [], returnType := none }, accessFlags := 0, code := none }
/-- java/lang/StringLatin1 -/
def k11 : Class := { plain "java/lang/StringLatin1" (some 0) with
  accessFlags := 48
  interfaces := #[]
  cf := some (fileOf pool11 14 #[.nestMembers #[390, 221]] #[{ accessFlags := 0, nameIndex := 7, descriptorIndex := 8, attributes := #[] }] 48 4 #[] #[{ accessFlags := 4120, nameIndex := 121, descriptorIndex := 122, attributes := #[] }])
  fields := #[{ name := "$assertionsDisabled", type := .boolean, accessFlags := 4120, slot := 0, constantValue := 0 }]
  methods := #[k11m0]
  instanceTypes := #[]
  staticTypes := #[.boolean]
  resolved := Array.replicate 395 none
  statics := none }

def pool12 : Array CpInfo := pool [(2, .class_ 4), (1, u "java/lang/Object"), (0, u "<init>"), (0, u "()V"), (17, .class_ 26), (1, u "jdk/internal/util/Preconditions"), (28, .class_ 56), (0, u "jdk/internal/util/Preconditions$4"), (57, .class_ 115), (0, u "jdk/internal/util/Preconditions$1"), (7, u "SIOOBE_FORMATTER"), (0, u "Ljava/util/function/BiFunction;"), (0, .class_ 126), (0, u "jdk/internal/util/Preconditions$2"), (3, u "AIOOBE_FORMATTER"), (0, .class_ 132), (0, u "jdk/internal/util/Preconditions$3"), (3, u "IOOBE_FORMATTER")] 57

def k12m0 : Method := { name := "<init>", desc := "()V", sig := { parameters := [], returnType := none }, accessFlags := 1, code := none }
/-- jdk/internal/util/Preconditions -/
def k12 : Class := { plain "jdk/internal/util/Preconditions" (some 0) with
  accessFlags := 33
  interfaces := #[]
  cf := some (fileOf pool12 24 #[.nestMembers #[55, 131, 125, 114]] #[{ accessFlags := 1, nameIndex := 5, descriptorIndex := 6, attributes := #[] }] 33 2 #[] #[{ accessFlags := 25, nameIndex := 123, descriptorIndex := 124, attributes := #[] }, { accessFlags := 25, nameIndex := 130, descriptorIndex := 124, attributes := #[] }, { accessFlags := 25, nameIndex := 136, descriptorIndex := 124, attributes := #[] }])
  fields := #[{ name := "SIOOBE_FORMATTER", type := (.object "java/util/function/BiFunction"), accessFlags := 25, slot := 0, constantValue := 0 }, { name := "AIOOBE_FORMATTER", type := (.object "java/util/function/BiFunction"), accessFlags := 25, slot := 1, constantValue := 0 }, { name := "IOOBE_FORMATTER", type := (.object "java/util/function/BiFunction"), accessFlags := 25, slot := 2, constantValue := 0 }]
  methods := #[k12m0]
  instanceTypes := #[]
  staticTypes := #[(.object "java/util/function/BiFunction"), (.object "java/util/function/BiFunction"), (.object "java/util/function/BiFunction")]
  resolved := Array.replicate 194 none
  statics := some 2 }

def pool13 : Array CpInfo := pool [(9, u "<init>"), (6, .class_ 18), (1, u "java/lang/Object"), (0, u "()V"), (1, .class_ 23), (1, u "jdk/internal/util/ArraysSupport"), (0, u "LOG2_ARRAY_LONG_INDEX_SCALE"), (0, u "I"), (2, u "U"), (0, u "Ljdk/internal/misc/Unsafe;"), (8, u "BIG_ENDIAN"), (0, u "Z"), (8, u "LOG2_BYTE_BIT_SIZE"), (4, u "LOG2_ARRAY_INT_INDEX_SCALE"), (54, u "JLA"), (0, u "Ljdk/internal/access/JavaLangAccess;"), (11, u "LOG2_ARRAY_BOOLEAN_INDEX_SCALE"), (9, u "LOG2_ARRAY_BYTE_INDEX_SCALE"), (5, u "LOG2_ARRAY_CHAR_INDEX_SCALE"), (5, u "LOG2_ARRAY_SHORT_INDEX_SCALE"), (18, u "LOG2_ARRAY_FLOAT_INDEX_SCALE"), (24, u "LOG2_ARRAY_DOUBLE_INDEX_SCALE"), (89, u "T_BOOLEAN"), (2, u "T_CHAR"), (1, u "T_FLOAT"), (1, u "T_DOUBLE"), (1, u "T_BYTE"), (1, u "T_SHORT"), (1, u "T_INT"), (1, u "T_LONG"), (1, u "SOFT_MAX_ARRAY_LENGTH")] 83

def k13m0 : Method := { name := "<init>", desc := "()V", sig := { parameters := [], returnType := none }, accessFlags := 2, code := none }
/-- jdk/internal/util/ArraysSupport -/
def k13 : Class := { plain "jdk/internal/util/ArraysSupport" (some 0) with
  accessFlags := 33
  interfaces := #[]
  cf := some (fileOf pool13 21 #[] #[{ accessFlags := 2, nameIndex := 9, descriptorIndex := 19, attributes := #[] }] 33 16 #[] #[{ accessFlags := 24, nameIndex := 28, descriptorIndex := 29, attributes := #[] }, { accessFlags := 26, nameIndex := 38, descriptorIndex := 39, attributes := #[] }, { accessFlags := 25, nameIndex := 121, descriptorIndex := 25, attributes := #[] }, { accessFlags := 25, nameIndex := 131, descriptorIndex := 25, attributes := #[] }, { accessFlags := 25, nameIndex := 137, descriptorIndex := 25, attributes := #[] }, { accessFlags := 25, nameIndex := 143, descriptorIndex := 25, attributes := #[] }, { accessFlags := 25, nameIndex := 53, descriptorIndex := 25, attributes := #[] }, { accessFlags := 25, nameIndex := 24, descriptorIndex := 25, attributes := #[] }, { accessFlags := 25, nameIndex := 162, descriptorIndex := 25, attributes := #[] }, { accessFlags := 25, nameIndex := 187, descriptorIndex := 25, attributes := #[] }, { accessFlags := 26, nameIndex := 48, descriptorIndex := 25, attributes := #[] }, { accessFlags := 25, nameIndex := 277, descriptorIndex := 25, attributes := #[] }, { accessFlags := 25, nameIndex := 280, descriptorIndex := 25, attributes := #[] }, { accessFlags := 25, nameIndex := 282, descriptorIndex := 25, attributes := #[] }, { accessFlags := 25, nameIndex := 284, descriptorIndex := 25, attributes := #[] }, { accessFlags := 25, nameIndex := 286, descriptorIndex := 25, attributes := #[] }, { accessFlags := 25, nameIndex := 288, descriptorIndex := 25, attributes := #[] }, { accessFlags := 25, nameIndex := 290, descriptorIndex := 25, attributes := #[] }, { accessFlags := 25, nameIndex := 292, descriptorIndex := 25, attributes := #[] }, { accessFlags := 26, nameIndex := 108, descriptorIndex := 109, attributes := #[] }, { accessFlags := 25, nameIndex := 294, descriptorIndex := 25, attributes := #[] }])
  fields := #[{ name := "U", type := (.object "jdk/internal/misc/Unsafe"), accessFlags := 24, slot := 0, constantValue := 0 }, { name := "BIG_ENDIAN", type := .boolean, accessFlags := 26, slot := 1, constantValue := 0 }, { name := "LOG2_ARRAY_BOOLEAN_INDEX_SCALE", type := .int, accessFlags := 25, slot := 2, constantValue := 0 }, { name := "LOG2_ARRAY_BYTE_INDEX_SCALE", type := .int, accessFlags := 25, slot := 3, constantValue := 0 }, { name := "LOG2_ARRAY_CHAR_INDEX_SCALE", type := .int, accessFlags := 25, slot := 4, constantValue := 0 }, { name := "LOG2_ARRAY_SHORT_INDEX_SCALE", type := .int, accessFlags := 25, slot := 5, constantValue := 0 }, { name := "LOG2_ARRAY_INT_INDEX_SCALE", type := .int, accessFlags := 25, slot := 6, constantValue := 0 }, { name := "LOG2_ARRAY_LONG_INDEX_SCALE", type := .int, accessFlags := 25, slot := 7, constantValue := 0 }, { name := "LOG2_ARRAY_FLOAT_INDEX_SCALE", type := .int, accessFlags := 25, slot := 8, constantValue := 0 }, { name := "LOG2_ARRAY_DOUBLE_INDEX_SCALE", type := .int, accessFlags := 25, slot := 9, constantValue := 0 }, { name := "LOG2_BYTE_BIT_SIZE", type := .int, accessFlags := 26, slot := 10, constantValue := 0 }, { name := "T_BOOLEAN", type := .int, accessFlags := 25, slot := 11, constantValue := 0 }, { name := "T_CHAR", type := .int, accessFlags := 25, slot := 12, constantValue := 0 }, { name := "T_FLOAT", type := .int, accessFlags := 25, slot := 13, constantValue := 0 }, { name := "T_DOUBLE", type := .int, accessFlags := 25, slot := 14, constantValue := 0 }, { name := "T_BYTE", type := .int, accessFlags := 25, slot := 15, constantValue := 0 }, { name := "T_SHORT", type := .int, accessFlags := 25, slot := 16, constantValue := 0 }, { name := "T_INT", type := .int, accessFlags := 25, slot := 17, constantValue := 0 }, { name := "T_LONG", type := .int, accessFlags := 25, slot := 18, constantValue := 0 }, { name := "JLA", type := (.object "jdk/internal/access/JavaLangAccess"), accessFlags := 26, slot := 19, constantValue := 0 }, { name := "SOFT_MAX_ARRAY_LENGTH", type := .int, accessFlags := 25, slot := 20, constantValue := 0 }]
  methods := #[k13m0]
  instanceTypes := #[]
  staticTypes := #[(.object "jdk/internal/misc/Unsafe"), .boolean, .int, .int, .int, .int, .int, .int, .int, .int, .int, .int, .int, .int, .int, .int, .int, .int, .int, (.object "jdk/internal/access/JavaLangAccess"), .int]
  resolved := Array.replicate 378 none
  statics := none }

def pool14 : Array CpInfo := pool [(1, u "java/lang/Cloneable"), (0, .class_ 1), (0, u "java/lang/Object"), (0, .class_ 3)] 3

/-- java/lang/Cloneable -/
def k14 : Class := { plain "java/lang/Cloneable" (some 0) with
  accessFlags := 1537
  interfaces := #[]
  cf := some (fileOf pool14 2 #[] #[] 1537 4 #[] #[])
  fields := #[]
  methods := #[]
  instanceTypes := #[]
  staticTypes := #[]
  resolved := Array.replicate 8 none
  statics := none }

/-- the primitive byte -/
def k15 : Class := { plain "byte" none with kind := .primitive 'B', accessFlags := 0x411 }
/-- [B -/
def k16 : Class := { plain "[B" (some 0) with kind := .array 15 .byte, interfaces := #[14, 4], accessFlags := 1041 }

/-- the primitive char -/
def k17 : Class := { plain "char" none with kind := .primitive 'C', accessFlags := 0x411 }
/-- [C -/
def k18 : Class := { plain "[C" (some 0) with kind := .array 17 .char, interfaces := #[14, 4], accessFlags := 1041 }

/-- the primitive int -/
def k19 : Class := { plain "int" none with kind := .primitive 'I', accessFlags := 0x411 }
/-- [I -/
def k20 : Class := { plain "[I" (some 0) with kind := .array 19 .int, interfaces := #[14, 4], accessFlags := 1041 }

def heap : Heap := #[{ cls := 6, slots := #[.ref 3, .ref 4, .ref 5, .int 0, .int 0, .null], vm := .statics 6 },
  { cls := 9, slots := #[.long 0, .int 1, .null, .int 0, .null, .int 0, .int 0], vm := .statics 9 },
  { cls := 12, slots := #[.null, .null, .null], vm := .statics 12 },
  { cls := 6, slots := #[.null, .int 0, .int 0, .null, .int 1, .int 0, .int 0, .int 0], vm := .none },
  { cls := 6, slots := #[.null, .int 0, .int 0, .null, .int 0, .int 1, .int 0, .int 0], vm := .none },
  { cls := 6, slots := #[.null, .int 0, .int 0, .null, .int 1, .int 1, .int 0, .int 0], vm := .none }]
def classes : Array Class := #[k0, k1, k2, k3, k4, k5, k6, k7, k8, k9, k10, k11, k12, k13, k14, k15, k16, k17, k18, k19, k20]
def interned : List (Array UInt16 × Addr) := []
def slotsUsed : Nat := 40
def theMethod : MethodId := ⟨1, 2⟩
def args0 : Array Value := #[.int 3, .int 4, .int 5, .int 6]
def aboutOver (below : List Frame) : State where
  vm := { classes := classes, interned := interned.toArray }
  heap := heap
  slotsUsed := slotsUsed
  threads := #[{ frames := .invoking theMethod args0 :: below }]
def below0 : List Frame := [.native { method := ⟨0, 0⟩, args := #[] }]
def about1 : State := aboutOver below0
def p0 : Program := .bare "" "" ""
def e0 : Env := launch0.env 0 0 0
theorem w_frames : about1.frames = Frame.invoking theMethod args0 :: below0 := rfl
set_option maxRecDepth 65536 in
theorem w_args : argsFit about1.vm theMethod args0 = true := by decide +kernel
set_option maxRecDepth 65536 in
theorem w_heap : heapFits about1 = true := by decide +kernel
set_option maxRecDepth 65536 in
theorem w_runnable : about1.curStatus? = some .runnable := by decide +kernel
set_option maxRecDepth 65536 in
theorem w_alone : about1.alone = true := by decide +kernel
set_option maxRecDepth 65536 in
theorem w_named : about1.methodNamed? x = some theMethod := by decide +kernel
set_option maxRecDepth 65536 in
theorem w_hears : about1.hears theMethod below0 = true := by decide +kernel
set_option maxRecDepth 65536 in
theorem w_ripe : about1.ripe theMethod args0 below0 = true := by decide +kernel
theorem w_running : about1.status = .running := rfl
set_option maxRecDepth 65536 in
theorem w_room : about1.hasRoom e0.platform room_1 = true :=
  launch0.hasRoom_least _ room_1 (by decide +kernel) (by decide +kernel) (by decide +kernel) (by decide +kernel) (by decide +kernel) (by decide +kernel)
theorem allAtoms_all (ts : List Jvm.Cond) (a : Array Jvm.Value) (st : Jvm.State) : (allAtoms ts).before a st = ts.all (fun c => c.before a st) := by
  induction ts with
  | nil => rfl
  | cons c t ih =>
    show (Jvm.Cond.and c (allAtoms t)).before a st = _
    rw [Jvm.Cond.before_and, ih, List.all_cons]
def words1 : List Jvm.Cond := Jvm.Cond.code x code maxLocals ret :: tables_1
/-- a 'code' word, met by the world's own term for the bytes: nothing is compared byte by byte -/
theorem code_word {y : MethodName} {bytes : ByteArray} {mx : Nat} {rt : Option FieldType} {a : Array Value} {s : State} {m : MethodId} {meth : Method} {c : Code} (h1 : s.methodNamed? y = some m) (h2 : s.vm.method? m = some meth) (h3 : meth.code = some c) (h4 : c.code = bytes)
    (h5 : (c.maxLocals == mx && c.exceptionTable.isEmpty && decide (c.maxStack ≤ mostOperands) && decide (meth.sig.returnType = rt) && !meth.locks && decide (parseMethodDescriptor y.desc = some meth.sig)) = true) : (Jvm.Cond.code y bytes mx rt).before a s = true := by
  simp only [Bool.and_eq_true, beq_iff_eq, Bool.not_eq_true', decide_eq_true_eq] at h5
  obtain ⟨⟨⟨⟨⟨g1, g2⟩, g3⟩, g4⟩, g5⟩, g6⟩ := h5
  simp [Cond.before, Cond.holds, Cond.value, h1, h2, h3, h4, g1, g2, g3, g4, g5, g6]
def isCode : Jvm.Cond → Bool
  | .code _ _ _ _ => true
  | _ => false
theorem all_split {L : List Jvm.Cond} {P : Jvm.Cond → Bool} (h1 : L.all (fun c => isCode c || P c) = true) (h2 : ∀ c ∈ L.filter isCode, P c = true) : L.all P = true := by
  refine List.all_eq_true.mpr fun c hc => ?_
  have h := List.all_eq_true.mp h1 c hc
  rcases Bool.eq_false_or_eq_true (isCode c) with hi | hi
  · exact h2 c (List.mem_filter.mpr ⟨hc, hi⟩)
  · simpa [hi] using h
set_option maxRecDepth 65536 in
theorem w_c0 : (Jvm.Cond.code x code maxLocals ret).before args0 about1 = true := code_word (m := ⟨1, 2⟩) (meth := k1m2) (c := k1c2) (by decide +kernel) rfl rfl rfl (by decide +kernel)
set_option maxRecDepth 65536 in
theorem w_c1 : (Jvm.Cond.code ({ cls := "com/example/bouncr/bouncr/Key", name := "second", desc := "(Ljava/lang/String;)Ljava/lang/String;" } : Jvm.MethodName) prog_24_method_12_code (2 : Nat) (Option.some (Jvm.ClassFile.FieldType.object "java/lang/String"))).before args0 about1 = true := code_word (m := ⟨6, 0⟩) (meth := k6m0) (c := k6c0) (by decide +kernel) rfl rfl rfl (by decide +kernel)
set_option maxRecDepth 65536 in
theorem w_c2 : (Jvm.Cond.code ({ cls := "com/example/bouncr/bouncr/KeySecondPinLaw", name := "build", desc := "(II)Ljava/lang/String;" } : Jvm.MethodName) method_2_code (5 : Nat) (Option.some (Jvm.ClassFile.FieldType.object "java/lang/String"))).before args0 about1 = true := code_word (m := ⟨1, 1⟩) (meth := k1m1) (c := k1c1) (by decide +kernel) rfl rfl rfl (by decide +kernel)
set_option maxRecDepth 65536 in
theorem w_c3 : (Jvm.Cond.code ({ cls := "java/lang/String", name := "<init>", desc := "([C)V" } : Jvm.MethodName) jdk_42_method_3_code (2 : Nat) (Option.none : Option Jvm.ClassFile.FieldType)).before args0 about1 = true := code_word (m := ⟨9, 1⟩) (meth := k9m1) (c := k9c1) (by decide +kernel) rfl rfl rfl (by decide +kernel)
set_option maxRecDepth 65536 in
theorem w_c4 : (Jvm.Cond.code ({ cls := "java/lang/String", name := "<init>", desc := "([CIILjava/lang/Void;)V" } : Jvm.MethodName) jdk_42_method_149_code (6 : Nat) (Option.none : Option Jvm.ClassFile.FieldType)).before args0 about1 = true := code_word (m := ⟨9, 3⟩) (meth := k9m3) (c := k9c3) (by decide +kernel) rfl rfl rfl (by decide +kernel)
set_option maxRecDepth 65536 in
theorem w_c5 : (Jvm.Cond.code ({ cls := "java/lang/Object", name := "<init>", desc := "()V" } : Jvm.MethodName) object_method_1_code (1 : Nat) (Option.none : Option Jvm.ClassFile.FieldType)).before args0 about1 = true := code_word (m := ⟨0, 0⟩) (meth := k0m0) (c := k0c0) (by decide +kernel) rfl rfl rfl (by decide +kernel)
set_option maxRecDepth 65536 in
theorem w_c6 : (Jvm.Cond.code ({ cls := "java/lang/StringUTF16", name := "compress", desc := "([CII)[B" } : Jvm.MethodName) jdk_52_method_16_code (6 : Nat) (Option.some (Jvm.ClassFile.FieldType.array Jvm.ClassFile.FieldType.byte))).before args0 about1 = true := code_word (m := ⟨10, 2⟩) (meth := k10m2) (c := k10c2) (by decide +kernel) rfl rfl rfl (by decide +kernel)
set_option maxRecDepth 65536 in
theorem w_c7 : (Jvm.Cond.code ({ cls := "java/lang/StringUTF16", name := "compress", desc := "([CI[BII)I" } : Jvm.MethodName) jdk_52_method_21_code (7 : Nat) (Option.some Jvm.ClassFile.FieldType.int)).before args0 about1 = true := code_word (m := ⟨10, 3⟩) (meth := k10m3) (c := k10c3) (by decide +kernel) rfl rfl rfl (by decide +kernel)
set_option maxRecDepth 65536 in
theorem w_c8 : (Jvm.Cond.code ({ cls := "java/lang/StringUTF16", name := "coderFromArrayLen", desc := "([BI)B" } : Jvm.MethodName) jdk_52_method_15_code (2 : Nat) (Option.some Jvm.ClassFile.FieldType.byte)).before args0 about1 = true := code_word (m := ⟨10, 1⟩) (meth := k10m1) (c := k10c1) (by decide +kernel) rfl rfl rfl (by decide +kernel)
set_option maxRecDepth 65536 in
theorem w_c9 : (Jvm.Cond.code ({ cls := "java/lang/String", name := "equals", desc := "(Ljava/lang/Object;)Z" } : Jvm.MethodName) jdk_42_method_66_code (3 : Nat) (Option.some Jvm.ClassFile.FieldType.boolean)).before args0 about1 = true := code_word (m := ⟨9, 2⟩) (meth := k9m2) (c := k9c2) (by decide +kernel) rfl rfl rfl (by decide +kernel)
def codes1 : List Jvm.Cond := [Jvm.Cond.code x code maxLocals ret, Jvm.Cond.code ({ cls := "com/example/bouncr/bouncr/Key", name := "second", desc := "(Ljava/lang/String;)Ljava/lang/String;" } : Jvm.MethodName) prog_24_method_12_code (2 : Nat) (Option.some (Jvm.ClassFile.FieldType.object "java/lang/String")), Jvm.Cond.code ({ cls := "com/example/bouncr/bouncr/KeySecondPinLaw", name := "build", desc := "(II)Ljava/lang/String;" } : Jvm.MethodName) method_2_code (5 : Nat) (Option.some (Jvm.ClassFile.FieldType.object "java/lang/String")), Jvm.Cond.code ({ cls := "java/lang/String", name := "<init>", desc := "([C)V" } : Jvm.MethodName) jdk_42_method_3_code (2 : Nat) (Option.none : Option Jvm.ClassFile.FieldType), Jvm.Cond.code ({ cls := "java/lang/String", name := "<init>", desc := "([CIILjava/lang/Void;)V" } : Jvm.MethodName) jdk_42_method_149_code (6 : Nat) (Option.none : Option Jvm.ClassFile.FieldType), Jvm.Cond.code ({ cls := "java/lang/Object", name := "<init>", desc := "()V" } : Jvm.MethodName) object_method_1_code (1 : Nat) (Option.none : Option Jvm.ClassFile.FieldType), Jvm.Cond.code ({ cls := "java/lang/StringUTF16", name := "compress", desc := "([CII)[B" } : Jvm.MethodName) jdk_52_method_16_code (6 : Nat) (Option.some (Jvm.ClassFile.FieldType.array Jvm.ClassFile.FieldType.byte)), Jvm.Cond.code ({ cls := "java/lang/StringUTF16", name := "compress", desc := "([CI[BII)I" } : Jvm.MethodName) jdk_52_method_21_code (7 : Nat) (Option.some Jvm.ClassFile.FieldType.int), Jvm.Cond.code ({ cls := "java/lang/StringUTF16", name := "coderFromArrayLen", desc := "([BI)B" } : Jvm.MethodName) jdk_52_method_15_code (2 : Nat) (Option.some Jvm.ClassFile.FieldType.byte), Jvm.Cond.code ({ cls := "java/lang/String", name := "equals", desc := "(Ljava/lang/Object;)Z" } : Jvm.MethodName) jdk_42_method_66_code (3 : Nat) (Option.some Jvm.ClassFile.FieldType.boolean)]
set_option maxRecDepth 65536 in
theorem codes_eq : words1.filter isCode = codes1 := rfl
theorem w_codes : ∀ c ∈ words1.filter isCode, c.before args0 about1 = true := by
  rw [codes_eq]
  intro c hc
  simp only [codes1, List.mem_cons, List.not_mem_nil, or_false] at hc
  rcases hc with rfl | rfl | rfl | rfl | rfl | rfl | rfl | rfl | rfl | rfl
  · exact w_c0
  · exact w_c1
  · exact w_c2
  · exact w_c3
  · exact w_c4
  · exact w_c5
  · exact w_c6
  · exact w_c7
  · exact w_c8
  · exact w_c9
set_option maxRecDepth 65536 in
theorem w_t1 : (words1.take 24).all (fun c => isCode c || c.before args0 about1) = true := by decide +kernel
set_option maxRecDepth 65536 in
theorem w_t2 : ((words1.drop 24).take 24).all (fun c => isCode c || c.before args0 about1) = true := by decide +kernel
set_option maxRecDepth 65536 in
theorem w_t3 : ((words1.drop 24).drop 24).all (fun c => isCode c || c.before args0 about1) = true := by decide +kernel
theorem w_tables : (allAtoms (Jvm.Cond.code x code maxLocals ret :: tables_1)).before args0 about1 = true := by
  rw [allAtoms_all]
  show words1.all (fun c => c.before args0 about1) = true
  refine all_split ?_ w_codes
  rw [← List.take_append_drop 24 words1, List.all_append, w_t1, ← List.take_append_drop 24 (words1.drop 24), List.all_append, w_t2, w_t3]
  rfl
set_option maxRecDepth 65536 in
theorem w_rest : rest_1_c.before args0 about1 = true := by decide +kernel
set_option maxRecDepth 65536 in
theorem w_case : (Jvm.Cond.and given_1 narrow_1).before args0 about1 = true := by decide +kernel
set_option maxRecDepth 65536 in
theorem w_consts : constsHeld consts_1 about1 := Jvm.Lit.constsHeldB_iff.mp (by decide +kernel)
theorem w_applies : (headSpec (Jvm.Cond.code x code maxLocals ret :: tables_1) room_1).applies x e0.platform about1 = true :=
  (Spec.applies_iff w_frames).mpr ⟨w_running, w_runnable, w_alone, w_named, w_hears, w_ripe, w_room, w_tables⟩
theorem atStart : AtStart classFile x code maxLocals ret World_1 tables_1 room_1 Calls_1 rest_1 Pre_1 launch0 p0 e0 about1 theMethod args0 below0 :=
  ⟨lists_1, trivial, launch0.admits_env _ _ _, launch0.least_env, fairChoices_fair.cas, fairChoices_fair.clock, w_frames, w_args, w_heap, w_applies, ⟨w_consts, trivial⟩, w_rest, w_case⟩
end start1
theorem witness_1 : WitnessClaimed_1 := ⟨start1.p0, start1.e0, start1.about1, start1.theMethod, start1.args0, start1.below0, start1.atStart⟩
end Jvm.Pilot.@@N@@
