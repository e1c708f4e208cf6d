import JvmDerived
import JvmDerived.Pilot.@@N@@Statement
import JvmDerived.Pilot.@@N@@Code
set_option linter.unusedVariables false
set_option linter.unusedSimpArgs false
namespace Jvm.OwnKit
open Sem ClassFile Op Lib Jvm.Stand Jvm.Free Jvm.LawKit Jvm.RoadKit
section OwnGo
variable {p : Program} {l : Launch} {e : Env} {R : Room} {s : State} {m : MethodId} {args : Array Value} {below : List Frame} {meth : Method} {c : Code} {T : State} {locs : List Loc} {cells slots : Nat} {Z : State} {a0 : Array Value} {h : Heap}
/-- from the state t the run comes to an end of which P holds -/
def OGo (tb : Tables) (e : Env) (below : List Frame) (P : Outcome → State → Prop) (t : State) : Prop :=
  ∃ s₂ o, Steps tb e below t s₂ ∧ s₂.status = .running ∧ Ended s₂ below o ∧ P o s₂
theorem ogo {tb : Tables} {P : Outcome → State → Prop} {t t' : State} (k : ∀ u, Steps tb e below t' u → Steps tb e below t u) (g : OGo tb e below P t') : OGo tb e below P t := by
  obtain ⟨s₂, o, h1, h2⟩ := g
  exact ⟨s₂, o, k _ h1, h2⟩
theorem ogoT {tb : Tables} {P : Outcome → State → Prop} {t t' : State} (k : Steps tb e below t t') (g : OGo tb e below P t') : OGo tb e below P t := ogo (fun _ q => k.trans q) g
/-- the end of a body: returned, the heap as Q says, the frame kept -/
abbrev OFin (s : State) (Q : Option Value → Heap → List Loc → Prop) (K N : Nat) : Outcome → State → Prop :=
  fun o U => ∃ v L, o = .returned v ∧ Q v U.heap L ∧ FrameEnd s o U L K N
/-- a body's contract -/
def OMet (l : Launch) (Z : State) (y : MethodName) (bytes : ByteArray) (maxL : Nat) (ret : Option FieldType) (rm : Room) (as : Array Value) (h : Heap) (Q : Option Value → Heap → List Loc → Prop) : Prop :=
  ∀ ws : List Jvm.Cond, MetFree l y (head1 (Jvm.Cond.code y bytes maxL ret :: ws) rm) (fun a U => a = as ∧ Z.Warmed39 U.vm ∧ U.heap = h) (fun _ _ _ _ _ => True) (fun _ U o U' => ∃ v L, o = .returned v ∧ Q v U'.heap L ∧ FrameEnd U o U' L rm.cells rm.slots)
/-- a body that returns w and writes nothing -/
abbrev OPure (w : Option Value) (h : Heap) : Option Value → Heap → List Loc → Prop := fun v h' L => v = w ∧ L = [] ∧ h' = h
theorem oret (X : Stand p l e R s m args below meth c T locs cells slots) (hx : p.tables.exec = Jvm.exec) (hlk : meth.locks = false) {pc : Nat} {Ls : Array Slot} {w : Value} {t : FieldType} {i : Instr} {rest : List Value} (hret : meth.sig.returnType = some t) (hn : narrow t w = w)
    (hi : (i = .ireturn ∧ (t = .int ∨ t = .boolean ∨ t = .byte ∨ t = .char ∨ t = .short) ∧ ∃ z, w = .int z) ∨ (i = .lreturn ∧ t = .long ∧ ∃ z, w = .long z) ∨ (i = .dreturn ∧ t = .double ∧ ∃ z, w = .double z) ∨ (i = .freturn ∧ t = .float ∧ ∃ z, w = .float z) ∨ (i = .areturn ∧ t.isReference = true ∧ w.isRef = true))
    (hd : decode c.code pc = .ok (i, 1)) {K N : Nat} (hk : cells ≤ K) (hs : slots ≤ N) {Q : Option Value → Heap → List Loc → Prop} (hQ : Q (some w) T.heap locs) :
    OGo p.tables e below (OFin s Q K N) (T.setTop (mkF m pc Ls (w :: rest))) := by
  obtain ⟨fs, hr, hrun, hended, hW, hsame⟩ := X.leave (v := some w) (fun h => by rw [hret] at h; cases h) hlk
  exact ⟨_, _, retOut X hx hret hn hi hd hr, hrun, hended, _, _, rfl, hQ, ⟨_, rfl⟩, hW, hsame.mono hk hs⟩
theorem oretV (X : Stand p l e R s m args below meth c T locs cells slots) (hx : p.tables.exec = Jvm.exec) (hlk : meth.locks = false) {pc : Nat} {Ls : Array Slot} (hret : meth.sig.returnType = none)
    (hd : decode c.code pc = .ok (.return_, 1)) {K N : Nat} (hk : cells ≤ K) (hs : slots ≤ N) {Q : Option Value → Heap → List Loc → Prop} (hQ : Q none T.heap locs) :
    OGo p.tables e below (OFin s Q K N) (T.setTop (mkF m pc Ls [])) := by
  obtain ⟨fs, hr, hrun, hended, hW, hsame⟩ := X.leave (v := none) (fun _ => rfl) hlk
  exact ⟨_, _, X.returnOut hx hret hd hr, hrun, hended, _, _, rfl, hQ, ⟨_, rfl⟩, hW, hsame.mono hk hs⟩
abbrev OPlain (y : MethodName) : Prop := y.cls ≠ "java/lang/invoke/MethodHandle" ∧ y.cls ≠ "java/lang/invoke/VarHandle"
/-- a static call by its contract -/
theorem ocallQ (X : Stand p l e R s m args below meth c T locs cells slots) (hx : p.tables.exec = Jvm.exec) (hZ : Z.Warmed39 s.vm) (eT : T.heap = h) {own : String} {index : Nat} {y : MethodName} {bytes : ByteArray} {maxL : Nat} {ret : Option FieldType} {rm : Room} {as : Array Value} {Q : Option Value → Heap → List Loc → Prop} (hM : OMet l Z y bytes maxL ret rm as h Q)
    (hown : s.vm.findClass own = some m.cls) (w1 : (Jvm.Cond.methodLink own index y).before a0 Z = true) (w2 : (Jvm.Cond.static y).before a0 Z = true) (w3 : (Jvm.Cond.initialized y.cls).before a0 Z = true) (w4 : (Jvm.Cond.code y bytes maxL ret).before a0 Z = true) (hy : OPlain y)
    {g : JFrame} (hg : g.method = m) (hsize : g.locals.size = c.maxLocals) (argsL rest : List Value) (has : argsL.toArray = as) (hlen : ∀ sig, parseMethodDescriptor y.desc = some sig → argsL.length = sig.parameters.length) (hstack : g.stack = argsL.reverse ++ rest) (hdg : decode c.code g.pc = .ok (.invokestatic index, 3))
    (W : Nat) (hW : 2 * g.monitorRoom + (rest.map fun v => v.category).sum ≤ W) (hf : rm.frames + 1 ≤ R.frames) (hl : W + (maxL + 11) + rm.locals ≤ R.locals) (hc : cells + rm.cells ≤ R.cells) (hs : slots + rm.slots ≤ R.slots) :
    ∃ (v : Option Value) (T' : State) (h' : Heap) (L : List Loc), T'.heap = h' ∧ Q v h' L ∧ Stand p l e R s m args below meth c T' (locs ++ L) (cells + rm.cells) (slots + rm.slots) ∧
      ∀ target, Steps p.tables e below (T'.setTop { g with pc := g.pc + 3, stack := v.toList ++ rest }) target → Steps p.tables e below (T.setTop g) target := by
  obtain ⟨v, vm₁, ⟨T', L', k', n'⟩, -, X', ⟨L, hQ, l1, l2, l3⟩, st⟩ := Jvm.LawKit.callS X hx (y := y) hown (mvT hZ w1) (mvT hZ w2) (mvT hZ w3) (mvT hZ w4) hy (backOf (W := W) (hM []) hZ w4 w3 hf hl) (g := g) hg hsize (argsL := argsL) (rest := rest) hlen hstack hW hdg (fun _ _ => ⟨has, eT, hc, hs⟩)
  dsimp only [Pt.U, Pt.locs, Pt.cells, Pt.slots] at X' l1 l2 l3 st hQ
  subst l1 l2 l3
  exact ⟨v, T', _, L, rfl, hQ, X', st⟩
/-- a static call of a body that writes nothing -/
theorem ocallP (X : Stand p l e R s m args below meth c T locs cells slots) (hx : p.tables.exec = Jvm.exec) (hZ : Z.Warmed39 s.vm) (eT : T.heap = h) {own : String} {index : Nat} {y : MethodName} {bytes : ByteArray} {maxL : Nat} {ret : Option FieldType} {rm : Room} {as : Array Value} {w : Option Value} (hM : OMet l Z y bytes maxL ret rm as h (OPure w h))
    (hown : s.vm.findClass own = some m.cls) (w1 : (Jvm.Cond.methodLink own index y).before a0 Z = true) (w2 : (Jvm.Cond.static y).before a0 Z = true) (w3 : (Jvm.Cond.initialized y.cls).before a0 Z = true) (w4 : (Jvm.Cond.code y bytes maxL ret).before a0 Z = true) (hy : OPlain y)
    {g : JFrame} (hg : g.method = m) (hsize : g.locals.size = c.maxLocals) (argsL rest : List Value) (has : argsL.toArray = as) (hlen : ∀ sig, parseMethodDescriptor y.desc = some sig → argsL.length = sig.parameters.length) (hstack : g.stack = argsL.reverse ++ rest) (hdg : decode c.code g.pc = .ok (.invokestatic index, 3))
    (W : Nat) (hW : 2 * g.monitorRoom + (rest.map fun v => v.category).sum ≤ W) (hf : rm.frames + 1 ≤ R.frames) (hl : W + (maxL + 11) + rm.locals ≤ R.locals) (hc : cells + rm.cells ≤ R.cells) (hs : slots + rm.slots ≤ R.slots) (z1 : rm.cells = 0) (z2 : rm.slots = 0) :
    ∃ T' : State, Stand p l e R s m args below meth c T' locs cells slots ∧ T'.heap = h ∧
      ∀ target, Steps p.tables e below (T'.setTop { g with pc := g.pc + 3, stack := w.toList ++ rest }) target → Steps p.tables e below (T.setTop g) target := by
  obtain ⟨v, T', h', L, e2, ⟨rfl, rfl, e'⟩, X', st⟩ := ocallQ X hx hZ eT hM hown w1 w2 w3 w4 hy hg hsize argsL rest has hlen hstack hdg W hW hf hl hc hs
  rw [z1, z2, List.append_nil] at X'
  exact ⟨T', X', e2.trans e', st⟩
/-- an instance call by its contract -/
theorem ovirtQ (X : Stand p l e R s m args below meth c T locs cells slots) (hx : p.tables.exec = Jvm.exec) (hZ : Z.Warmed39 s.vm) (eT : T.heap = h) {own C : String} {index : Nat} {y : MethodName} {bytes : ByteArray} {maxL : Nat} {ret : Option FieldType} {rm : Room} {as : Array Value} {Q : Option Value → Heap → List Loc → Prop} (hM : OMet l Z y bytes maxL ret rm as h Q)
    (hown : s.vm.findClass own = some m.cls) (w1 : (Jvm.Cond.methodLink own index y).before a0 Z = true) (w2 : (Jvm.Cond.declares y).before a0 Z = true) (w3 : (Jvm.Cond.selects C y y).before a0 Z = true) (w4 : (Jvm.Cond.instanceMethod y).before a0 Z = true) (w5 : (Jvm.Cond.initialized y.cls).before a0 Z = true) (w6 : (Jvm.Cond.code y bytes maxL ret).before a0 Z = true) (hy : OPlain y) {b : Addr} (E : Exa Z h b C)
    {g : JFrame} (hg : g.method = m) (hsize : g.locals.size = c.maxLocals) (argsL rest : List Value) (has : (.ref b :: argsL).toArray = as) (hlen : ∀ sig, parseMethodDescriptor y.desc = some sig → argsL.length = sig.parameters.length) (hstack : g.stack = argsL.reverse ++ .ref b :: rest) (hdg : decode c.code g.pc = .ok (.invokevirtual index, 3))
    (W : Nat) (hW : 2 * g.monitorRoom + (rest.map fun v => v.category).sum ≤ W) (hf : rm.frames + 1 ≤ R.frames) (hl : W + (maxL + 11) + rm.locals ≤ R.locals) (hc : cells + rm.cells ≤ R.cells) (hs : slots + rm.slots ≤ R.slots) :
    ∃ (v : Option Value) (T' : State) (h' : Heap) (L : List Loc), T'.heap = h' ∧ Q v h' L ∧ Stand p l e R s m args below meth c T' (locs ++ L) (cells + rm.cells) (slots + rm.slots) ∧
      ∀ target, Steps p.tables e below (T'.setTop { g with pc := g.pc + 3, stack := v.toList ++ rest }) target → Steps p.tables e below (T.setTop g) target := by
  obtain ⟨cq, kq, qa, -, qc⟩ := isOf (T := T) hZ eT E
  have w3' : (Jvm.Cond.selects C y y).before args s = true := mvT hZ w3
  obtain ⟨v, vm₁, ⟨T', L', k', n'⟩, -, X', ⟨L, hQ, l1, l2, l3⟩, st⟩ := X.virtualBack hx (y := y) (z := y) hown (mvT hZ w1) (mvT hZ w2) (notFace_of_selects w3') w3' (mvT hZ w4) hy (backOf (W := W) (hM []) hZ w6 w5 hf hl) qa qc (g := g) hg hsize (Steps.refl _) (argsL := argsL) (rest := rest) hlen hstack hW hdg (fun _ _ => ⟨has, eT, hc, hs⟩)
  dsimp only [Pt.U, Pt.locs, Pt.cells, Pt.slots] at X' l1 l2 l3 st hQ
  subst l1 l2 l3
  exact ⟨v, T', _, L, rfl, hQ, X', fun _ k => st.trans k⟩
theorem ovirtP (X : Stand p l e R s m args below meth c T locs cells slots) (hx : p.tables.exec = Jvm.exec) (hZ : Z.Warmed39 s.vm) (eT : T.heap = h) {own C : String} {index : Nat} {y : MethodName} {bytes : ByteArray} {maxL : Nat} {ret : Option FieldType} {rm : Room} {as : Array Value} {w : Option Value} (hM : OMet l Z y bytes maxL ret rm as h (OPure w h))
    (hown : s.vm.findClass own = some m.cls) (w1 : (Jvm.Cond.methodLink own index y).before a0 Z = true) (w2 : (Jvm.Cond.declares y).before a0 Z = true) (w3 : (Jvm.Cond.selects C y y).before a0 Z = true) (w4 : (Jvm.Cond.instanceMethod y).before a0 Z = true) (w5 : (Jvm.Cond.initialized y.cls).before a0 Z = true) (w6 : (Jvm.Cond.code y bytes maxL ret).before a0 Z = true) (hy : OPlain y) {b : Addr} (E : Exa Z h b C)
    {g : JFrame} (hg : g.method = m) (hsize : g.locals.size = c.maxLocals) (argsL rest : List Value) (has : (.ref b :: argsL).toArray = as) (hlen : ∀ sig, parseMethodDescriptor y.desc = some sig → argsL.length = sig.parameters.length) (hstack : g.stack = argsL.reverse ++ .ref b :: rest) (hdg : decode c.code g.pc = .ok (.invokevirtual index, 3))
    (W : Nat) (hW : 2 * g.monitorRoom + (rest.map fun v => v.category).sum ≤ W) (hf : rm.frames + 1 ≤ R.frames) (hl : W + (maxL + 11) + rm.locals ≤ R.locals) (hc : cells + rm.cells ≤ R.cells) (hs : slots + rm.slots ≤ R.slots) (z1 : rm.cells = 0) (z2 : rm.slots = 0) :
    ∃ T' : State, Stand p l e R s m args below meth c T' locs cells slots ∧ T'.heap = h ∧
      ∀ target, Steps p.tables e below (T'.setTop { g with pc := g.pc + 3, stack := w.toList ++ rest }) target → Steps p.tables e below (T.setTop g) target := by
  obtain ⟨v, T', h', L, e2, ⟨rfl, rfl, e'⟩, X', st⟩ := ovirtQ X hx hZ eT hM hown w1 w2 w3 w4 w5 w6 hy E hg hsize argsL rest has hlen hstack hdg W hW hf hl hc hs
  rw [z1, z2, List.append_nil] at X'
  exact ⟨T', X', e2.trans e', st⟩
/-- a constructor by its contract -/
theorem ospecQ (X : Stand p l e R s m args below meth c T locs cells slots) (hx : p.tables.exec = Jvm.exec) (hZ : Z.Warmed39 s.vm) (eT : T.heap = h) {own : String} {index : Nat} {y : MethodName} {bytes : ByteArray} {maxL : Nat} {rm : Room} {as : Array Value} {Q : Option Value → Heap → List Loc → Prop} (hM : OMet l Z y bytes maxL none rm as h Q)
    (hyi : y.name = "<init>") (hown : s.vm.findClass own = some m.cls) (w1 : (Jvm.Cond.methodLink own index y).before a0 Z = true) (w4 : (Jvm.Cond.instanceMethod y).before a0 Z = true) (w5 : (Jvm.Cond.initialized y.cls).before a0 Z = true) (w6 : (Jvm.Cond.code y bytes maxL none).before a0 Z = true) (hy : OPlain y) {b : Addr}
    {g : JFrame} (hg : g.method = m) (hsize : g.locals.size = c.maxLocals) (argsL rest : List Value) (has : (.ref b :: argsL).toArray = as) (hlen : ∀ sig, parseMethodDescriptor y.desc = some sig → argsL.length = sig.parameters.length) (hstack : g.stack = argsL.reverse ++ .ref b :: rest) (hdg : decode c.code g.pc = .ok (.invokespecial index, 3))
    (W : Nat) (hW : 2 * g.monitorRoom + (rest.map fun v => v.category).sum ≤ W) (hf : rm.frames + 1 ≤ R.frames) (hl : W + (maxL + 11) + rm.locals ≤ R.locals) (hc : cells + rm.cells ≤ R.cells) (hs : slots + rm.slots ≤ R.slots) :
    ∃ (v : Option Value) (T' : State) (h' : Heap) (L : List Loc), T'.heap = h' ∧ Q v h' L ∧ Stand p l e R s m args below meth c T' (locs ++ L) (cells + rm.cells) (slots + rm.slots) ∧
      ∀ target, Steps p.tables e below (T'.setTop { g with pc := g.pc + 3, stack := v.toList ++ rest }) target → Steps p.tables e below (T.setTop g) target := by
  obtain ⟨v, vm₁, ⟨T', L', k', n'⟩, -, X', ⟨L, hQ, l1, l2, l3⟩, st⟩ := X.specialBack hx (y := y) hyi hown (mvT hZ w1) (mvT hZ w4) (mvT hZ w6) hy (backOf (W := W) (hM []) hZ w6 w5 hf hl) (g := g) hg hsize (Steps.refl _) (a := b) (argsL := argsL) (rest := rest) hlen hstack hW hdg (fun _ _ => ⟨has, eT, hc, hs⟩)
  dsimp only [Pt.U, Pt.locs, Pt.cells, Pt.slots] at X' l1 l2 l3 st hQ
  subst l1 l2 l3
  exact ⟨v, T', _, L, rfl, hQ, X', fun _ k => st.trans k⟩
theorem onb {z : Int32} (q : z = 0 ∨ z = 1) : narrow .boolean (.int z) = .int z := by rcases q with rfl | rfl <;> rfl
theorem ofb {z : Int32} (q : z = 0 ∨ z = 1) : fits .boolean (.int z) = true := by rcases q with rfl | rfl <;> rfl
theorem oif01 {c : Prop} [Decidable c] {a b : Int32} (qa : a = 0 ∨ a = 1) (qb : b = 0 ∨ b = 1) : (if c then a else b) = 0 ∨ (if c then a else b) = 1 := by split <;> assumption
/-! arrays by a function of the place -/
variable {ty : FieldType} {a b : Addr} {n : Nat} {f f' : Nat → Value} {h' : Heap} {ws : List Addr} {sl : Nat} {v : Value}
def OAr (Z : State) (h : Heap) (a : Addr) (ty : FieldType) (n : Nat) (f : Nat → Value) : Prop :=
  ∃ c : Cell, Arr Z h a c ty ∧ c.slots.size = n ∧ (∀ j, j < n → c.slots[j]? = some (f j)) ∧ ∀ j, j < n → fits ty (f j) = true
theorem OAr.lt (F : OAr Z h a ty n f) : a < h.size := by obtain ⟨c, A, -⟩ := F; exact A.lt
theorem OAr.ext (F : OAr Z h a ty n f) (E : Ext h h') : OAr Z h' a ty n f := by obtain ⟨c, A, r⟩ := F; exact ⟨c, A.ext E, r⟩
theorem OAr.other (F : OAr Z h b ty n f) (W : Wr h h' a sl v) (q : b ≠ a) : OAr Z h' b ty n f := by obtain ⟨c, A, r⟩ := F; exact ⟨c, A.other W q, r⟩
theorem OAr.keep (F : OAr Z h a ty n f) (K : Keep h h' ws) (q : a ∉ ws) : OAr Z h' a ty n f := by obtain ⟨c, A, r⟩ := F; exact ⟨c, ⟨K.2.1 a c A.1 q, A.2⟩, r⟩
theorem OAr.conv (F : OAr Z h a ty n f) (q : ∀ j, j < n → f j = f' j) : OAr Z h a ty n f' := by
  obtain ⟨c, A, S, H, G⟩ := F
  exact ⟨c, A, S, fun j hj => by rw [← q j hj]; exact H j hj, fun j hj => by rw [← q j hj]; exact G j hj⟩
theorem OAr.new {k : ClassId} {z : Int32} (A : Arr Z h a (newA k ty z) ty) (q : z.toNatClampNeg = n) : OAr Z h a ty n (fun _ => defaultValue ty) :=
  ⟨_, A, (sz_new _ _ _).trans q, fun j hj => by simp [newA, q, hj], fun j _ => by cases ty <;> rfl⟩
theorem OAr.set (F : OAr Z h a ty n f) (W : Wr h h' a sl v) (hv : fits ty v = true) : OAr Z h' a ty n (fun j => if j = sl then v else f j) := by
  obtain ⟨c, A, S, H, G⟩ := F
  refine ⟨_, A.same W, by rw [sz_set]; exact S, fun j hj => ?_, fun j hj => ?_⟩
  · show (c.slots.setIfInBounds sl v)[j]? = _
    rw [Array.getElem?_setIfInBounds]
    by_cases q : j = sl
    · subst q; simp [S, hj]
    · rw [if_neg (fun z => q z.symm), H j hj]; simp [q]
  · by_cases q : j = sl
    · simp [q, hv]
    · simp [q, G j hj]
theorem oidx {j : Int32} (h0 : 0 ≤ j.toInt) (h1 : j.toInt < (n : Int)) : ¬ (j < 0) ∧ j.toNatClampNeg < n := by
  refine ⟨fun q => ?_, ?_⟩
  · rw [Int32.lt_iff_toInt_lt] at q; have : (0 : Int32).toInt = 0 := rfl; omega
  · simp only [Int32.toNatClampNeg]; omega
theorem oin {c : Cell} {j : Int32} (S : c.slots.size = n) (h0 : 0 ≤ j.toInt) (h1 : j.toInt < (n : Int)) : ¬ (j < 0 ∨ c.slots.size ≤ j.toNatClampNeg) := by
  obtain ⟨q1, q2⟩ := oidx h0 h1
  rw [S]; exact fun z => z.elim q1 (fun u => Nat.not_le.mpr q2 u)
theorem ostB (X : Stand p l e R s m args below meth c T locs cells slots) (hx : p.tables.exec = Jvm.exec) (hZ : Z.Warmed39 s.vm) (eT : T.heap = h) (F : OAr Z h a .byte n f) {j x : Int32} (h0 : 0 ≤ j.toInt) (h1 : j.toInt < (n : Int)) {g : JFrame} (hg : g.method = m) {rest : List Value} (hs : g.stack = .int x :: .int j :: .ref a :: rest) (hd : decode c.code g.pc = .ok (.bastore, 1)) :
    ∃ T' h', Stand p l e R s m args below meth c T' (locs ++ [⟨a, j.toNatClampNeg⟩]) cells slots ∧ T'.heap = h' ∧ Wr h h' a j.toNatClampNeg (.int x.toInt8.toInt32) ∧ OAr Z h' a .byte n (fun i => if i = j.toNatClampNeg then .int x.toInt8.toInt32 else f i) ∧ ∀ target, Steps p.tables e below (T'.setTop { g with pc := g.pc + 1, stack := rest }) target → Steps p.tables e below (T.setTop g) target := by
  obtain ⟨cl, A, S, H, G⟩ := F
  obtain ⟨T', h', X', e', W, st⟩ := stB X hx hZ eT A (j := j) (x := x) (oin S h0 h1) hg hs hd
  exact ⟨T', h', X', e', W, OAr.set ⟨cl, A, S, H, G⟩ W (fits_nar_byte x), st⟩
theorem ostI (X : Stand p l e R s m args below meth c T locs cells slots) (hx : p.tables.exec = Jvm.exec) (hZ : Z.Warmed39 s.vm) (eT : T.heap = h) (F : OAr Z h a .int n f) {j x : Int32} (h0 : 0 ≤ j.toInt) (h1 : j.toInt < (n : Int)) {g : JFrame} (hg : g.method = m) {rest : List Value} (hs : g.stack = .int x :: .int j :: .ref a :: rest) (hd : decode c.code g.pc = .ok (.iastore, 1)) :
    ∃ T' h', Stand p l e R s m args below meth c T' (locs ++ [⟨a, j.toNatClampNeg⟩]) cells slots ∧ T'.heap = h' ∧ Wr h h' a j.toNatClampNeg (.int x) ∧ OAr Z h' a .int n (fun i => if i = j.toNatClampNeg then .int x else f i) ∧ ∀ target, Steps p.tables e below (T'.setTop { g with pc := g.pc + 1, stack := rest }) target → Steps p.tables e below (T.setTop g) target := by
  obtain ⟨cl, A, S, H, G⟩ := F
  obtain ⟨T', h', X', e', W, st⟩ := stI X hx hZ eT A (j := j) (x := x) (oin S h0 h1) hg hs hd
  exact ⟨T', h', X', e', W, OAr.set ⟨cl, A, S, H, G⟩ W rfl, st⟩
theorem ostJ (X : Stand p l e R s m args below meth c T locs cells slots) (hx : p.tables.exec = Jvm.exec) (hZ : Z.Warmed39 s.vm) (eT : T.heap = h) (F : OAr Z h a .long n f) {j : Int32} {x : Int64} (h0 : 0 ≤ j.toInt) (h1 : j.toInt < (n : Int)) {g : JFrame} (hg : g.method = m) {rest : List Value} (hs : g.stack = .long x :: .int j :: .ref a :: rest) (hd : decode c.code g.pc = .ok (.lastore, 1)) :
    ∃ T' h', Stand p l e R s m args below meth c T' (locs ++ [⟨a, j.toNatClampNeg⟩]) cells slots ∧ T'.heap = h' ∧ Wr h h' a j.toNatClampNeg (.long x) ∧ OAr Z h' a .long n (fun i => if i = j.toNatClampNeg then .long x else f i) ∧ ∀ target, Steps p.tables e below (T'.setTop { g with pc := g.pc + 1, stack := rest }) target → Steps p.tables e below (T.setTop g) target := by
  obtain ⟨cl, A, S, H, G⟩ := F
  obtain ⟨T', h', X', e', W, st⟩ := stJ X hx hZ eT A (j := j) (x := x) (oin S h0 h1) hg hs hd
  exact ⟨T', h', X', e', W, OAr.set ⟨cl, A, S, H, G⟩ W rfl, st⟩
theorem oldB (X : Stand p l e R s m args below meth c T locs cells slots) (hx : p.tables.exec = Jvm.exec) (hZ : Z.Warmed39 s.vm) (eT : T.heap = h) (F : OAr Z h a .byte n f) {j : Int32} (h0 : 0 ≤ j.toInt) (h1 : j.toInt < (n : Int)) {g : JFrame} (hg : g.method = m) {rest : List Value} (hs : g.stack = .int j :: .ref a :: rest) (hd : decode c.code g.pc = .ok (.baload, 1)) :
    ∀ target, Steps p.tables e below (T.setTop { g with pc := g.pc + 1, stack := f j.toNatClampNeg :: rest }) target → Steps p.tables e below (T.setTop g) target := by
  obtain ⟨cl, A, S, H, G⟩ := F
  exact fun t k => X.baloadBytes hx (by rw [eT]; exact A.1) (State.isArrayOf_alike hZ.alike A.2.1) A.2.2 (oin S h0 h1) (H _ (oidx h0 h1).2) hg hs hd t k
theorem oldI (X : Stand p l e R s m args below meth c T locs cells slots) (hx : p.tables.exec = Jvm.exec) (hZ : Z.Warmed39 s.vm) (eT : T.heap = h) (F : OAr Z h a .int n f) {j : Int32} (h0 : 0 ≤ j.toInt) (h1 : j.toInt < (n : Int)) {g : JFrame} (hg : g.method = m) {rest : List Value} (hs : g.stack = .int j :: .ref a :: rest) (hd : decode c.code g.pc = .ok (.iaload, 1)) :
    ∀ target, Steps p.tables e below (T.setTop { g with pc := g.pc + 1, stack := f j.toNatClampNeg :: rest }) target → Steps p.tables e below (T.setTop g) target := by
  obtain ⟨cl, A, S, H, G⟩ := F
  exact fun t k => X.iaload hx (by rw [eT]; exact A.1) (State.isArrayOf_alike hZ.alike A.2.1) A.2.2 (oin S h0 h1) (H _ (oidx h0 h1).2) hg hs hd t k
theorem oldJ (X : Stand p l e R s m args below meth c T locs cells slots) (hx : p.tables.exec = Jvm.exec) (hZ : Z.Warmed39 s.vm) (eT : T.heap = h) (F : OAr Z h a .long n f) {j : Int32} (h0 : 0 ≤ j.toInt) (h1 : j.toInt < (n : Int)) {g : JFrame} (hg : g.method = m) {rest : List Value} (hs : g.stack = .int j :: .ref a :: rest) (hd : decode c.code g.pc = .ok (.laload, 1)) :
    ∀ target, Steps p.tables e below (T.setTop { g with pc := g.pc + 1, stack := f j.toNatClampNeg :: rest }) target → Steps p.tables e below (T.setTop g) target := by
  obtain ⟨cl, A, S, H, G⟩ := F
  exact fun t k => X.laload hx (by rw [eT]; exact A.1) (State.isArrayOf_alike hZ.alike A.2.1) A.2.2 (oin S h0 h1) (H _ (oidx h0 h1).2) hg hs hd t k
theorem oalen (X : Stand p l e R s m args below meth c T locs cells slots) (hx : p.tables.exec = Jvm.exec) (hZ : Z.Warmed39 s.vm) (eT : T.heap = h) (F : OAr Z h a ty n f) {g : JFrame} (hg : g.method = m) {rest : List Value} (hs : g.stack = .ref a :: rest) (hd : decode c.code g.pc = .ok (.arraylength, 1)) :
    ∀ target, Steps p.tables e below (T.setTop { g with pc := g.pc + 1, stack := .int n.toInt32 :: rest }) target → Steps p.tables e below (T.setTop g) target := by
  obtain ⟨cl, A, S, H, G⟩ := F
  subst S
  exact fun t k => X.arraylength hx (by rw [eT]; exact A.1) (State.isArrayOf_alike hZ.alike A.2.1) hg hs hd t k
theorem oclone (X : Stand p l e R s m args below meth c T locs cells slots) (hx : p.tables.exec = Jvm.exec) (hZ : Z.Warmed39 s.vm) {own ad : String} {index : Nat} (hown : s.vm.findClass own = some m.cls)
    (w1 : (Jvm.Cond.methodLink own index ⟨ad, "clone", "()Ljava/lang/Object;"⟩).before a0 Z = true) (w2 : (Jvm.Cond.sameMethod ad "java/lang/Object" "clone" "()Ljava/lang/Object;").before a0 Z = true) (w3 : (Jvm.Cond.native ⟨"java/lang/Object", "clone", "()Ljava/lang/Object;"⟩).before a0 Z = true)
    (w4 : (Jvm.Cond.instanceMethod ⟨"java/lang/Object", "clone", "()Ljava/lang/Object;"⟩).before a0 Z = true) (w5 : (Jvm.Cond.selects ad ⟨ad, "clone", "()Ljava/lang/Object;"⟩ ⟨"java/lang/Object", "clone", "()Ljava/lang/Object;"⟩).before a0 Z = true) (w6 : (Jvm.Cond.castable ad "java/lang/Cloneable").before a0 Z = true)
    (eT : T.heap = h) (F : OAr Z h a ty n f) (E : Exa Z h a ad) {g : JFrame} (hg : g.method = m) (hsize : g.locals.size = c.maxLocals) {rest : List Value} (hs : g.stack = .ref a :: rest) (hd : decode c.code g.pc = .ok (.invokevirtual index, 3))
    (hf : 1 ≤ R.frames) (W : Nat) (hW : 2 * g.monitorRoom + (rest.map fun v => v.category).sum ≤ W) (hl : W + 14 ≤ R.locals) (hc : cells + 1 ≤ R.cells) (hsl : slots + n ≤ R.slots) :
    ∃ T' h', Stand p l e R s m args below meth c T' locs (cells + 1) (slots + n) ∧ T'.heap = h' ∧ Ext h h' ∧ OAr Z h' h.size ty n f ∧ Exa Z h' h.size ad ∧
      ∀ target, Steps p.tables e below (T'.setTop { g with pc := g.pc + 3, stack := .ref h.size :: rest }) target → Steps p.tables e below (T.setTop g) target := by
  obtain ⟨cl, A, S, H, G⟩ := F
  have FC : FitC Z cl := fitC_of A fun i hi v hv => by rw [H i (S ▸ hi)] at hv; cases hv; exact G i (S ▸ hi)
  obtain ⟨T', h', X', e', ex, A', E', st⟩ := cloneA X hx hZ hown w1 w2 w3 w4 w5 w6 eT A E FC hg hsize hs hd hf hW hl (Nat.le_of_eq S) hc hsl
  exact ⟨T', h', X', e', ex, ⟨cloneOf cl, A', S, H, G⟩, E', st⟩
end OwnGo
end Jvm.OwnKit
namespace Jvm.Pilot.@@N@@
open Jvm Jvm.ClassFile Sem Op Lib Jvm.Free Jvm.Stand Jvm.LawKit Jvm.RoadKit Bundle Jvm.OwnKit Jvm.Pilot.@@N@@.Jvm.D
def lastN (fa : Nat → Int32) (w : Int32) (fr : Int) : Nat → Int32
  | 0 => (-1 : Int32)
  | k + 1 => if (k : Int) < fr then (-1 : Int32) else if fa k = w then Int32.ofNat k else lastN fa w fr k
def lastF (q1 q2 q3 : Int32) (fa : Nat → Int32) : Int32 := lastN fa q3 q1.toInt q2.toInt.toNat
theorem own_q9 : ∀ r : Fin 9, (Int32.ofNat r.val).toInt = r.val := by decide +kernel
theorem own_of {i : Int32} {j : Nat} (hi : i.toInt = (j : Int)) (hj : j < 9) : i = Int32.ofNat j := Int32.toInt_inj.mp (hi.trans (own_q9 ⟨j, hj⟩).symm)
theorem own_dec {i : Int32} {j : Nat} (hi : i.toInt = (j : Int)) (hj : j < 9) : (i + (-1 : Int32)).toInt = (j : Int) - 1 := by
  have c := c_iadd i (-1 : Int32)
  have r := rng32 (i + (-1 : Int32))
  have o : (-1 : Int32).toInt = -1 := rfl
  omega
theorem d1_0 : decode prog_1_method_4_code 0 = .ok (.iload_n 2, 1) := by decide +kernel
theorem d1_1 : decode prog_1_method_4_code 1 = .ok (.iconst 1, 1) := by decide +kernel
theorem d1_2 : decode prog_1_method_4_code 2 = .ok (.isub, 1) := by decide +kernel
theorem d1_3 : decode prog_1_method_4_code 3 = .ok (.istore 4, 2) := by decide +kernel
theorem d1_5 : decode prog_1_method_4_code 5 = .ok (.iload 4, 2) := by decide +kernel
theorem d1_7 : decode prog_1_method_4_code 7 = .ok (.iload_n 1, 1) := by decide +kernel
theorem d1_8 : decode prog_1_method_4_code 8 = .ok (.if_icmp .lt 20, 3) := by decide +kernel
theorem d1_11 : decode prog_1_method_4_code 11 = .ok (.aload_n 0, 1) := by decide +kernel
theorem d1_12 : decode prog_1_method_4_code 12 = .ok (.iload 4, 2) := by decide +kernel
theorem d1_14 : decode prog_1_method_4_code 14 = .ok (.baload, 1) := by decide +kernel
theorem d1_15 : decode prog_1_method_4_code 15 = .ok (.iload_n 3, 1) := by decide +kernel
theorem d1_16 : decode prog_1_method_4_code 16 = .ok (.if_icmp .ne 6, 3) := by decide +kernel
theorem d1_19 : decode prog_1_method_4_code 19 = .ok (.iload 4, 2) := by decide +kernel
theorem d1_21 : decode prog_1_method_4_code 21 = .ok (.ireturn, 1) := by decide +kernel
theorem d1_22 : decode prog_1_method_4_code 22 = .ok (.iinc 4 (-1), 3) := by decide +kernel
theorem d1_25 : decode prog_1_method_4_code 25 = .ok (.goto (-20), 3) := by decide +kernel
theorem d1_28 : decode prog_1_method_4_code 28 = .ok (.iconst (-1), 1) := by decide +kernel
theorem d1_29 : decode prog_1_method_4_code 29 = .ok (.ireturn, 1) := by decide +kernel
theorem pn_1 : plainName "com/example/tidy_handshake/tidyhandshake/Bytes" = true := by first | (simp [plainName, overriddenIn]; done) | decide +kernel
theorem ef_1 (m : MethodId) (x0 : Addr) (x1 : Int32) (x2 : Int32) (x3 : Int32) : entryFrame m #[(.ref x0), (.int x1), (.int x2), (.int x3)] 5 = mkF m 0 #[.val (.ref x0), .val (.int x1), .val (.int x2), .val (.int x3), .unset] [] := by first | (simp [entryFrame, mkF, argsToLocals, Value.category]; done) | rfl
set_option maxRecDepth 65536 in
set_option maxHeartbeats 40000000 in
theorem rm1 (l : Launch) (Z : State) (a0 : Array Value) (hw : ∀ d ∈ tables_1, d.before a0 Z = true) (ar : Addr) (q1 : Int32) (q2 : Int32) (q3 : Int32) (fa : Nat → Int32) (h0 : Heap) (P0 : OAr Z h0 ar .byte 8 (fun i => .int (fa i))) (a1 : 0 ≤ q1.toInt) (a2 : 0 ≤ q2.toInt ∧ q2.toInt ≤ 8) :
    OMet l Z (⟨"com/example/tidy_handshake/tidyhandshake/Bytes", "lastIndexOf", "([BIIB)I"⟩ : MethodName) prog_1_method_4_code 5 (some .int) ({ frames := 0, cells := 0, slots := 0, locals := 0 } : Room) #[(.ref ar), (.int q1), (.int q2), (.int q3)] h0 (OPure (some (.int (lastF q1 q2 q3 fa))) h0) := by
  intro ws
  refine MetFree.of_bodySF (plainFor_of_name pn_1) hisR ?_
  intro p e s m args below meth c s₁ Bd hml0 hP hK
  obtain ⟨rfl, hZ, hh⟩ := hP
  have hx := Bd.exec
  have hby := Bd.bytes
  have hml : c.maxLocals = 5 := hml0
  have hown : s.vm.findClass "com/example/tidy_handshake/tidyhandshake/Bytes" = some m.cls := findClass_of_methodNamed Bd.named
  have hnm := (name_of_methodNamed Bd.named Bd.method).1
  have hlk : meth.locks = false := Bd.notSynchronized
  have X0 : Stand p l e ({ frames := 0, cells := 0, slots := 0, locals := 0 } : Room) s m #[(.ref ar), (.int q1), (.int q2), (.int q3)] below meth c s₁ [] 0 0 := Stand.of_body Bd
  have e0 : s₁.heap = h0 := by rw [← hh, Bd.state]; rfl
  refine (?_ : OGo p.tables e below (OFin s (OPure (some (.int (lastF q1 q2 q3 fa))) h0) 0 0) _)
  refine ogo (fun _ k => castTop (ef_1 m ar q1 q2 q3) k) ?_
  show OGo _ _ _ _ (s₁.setTop (mkF m 0 #[.val (.ref ar), .val (.int q1), .val (.int q2), .val (.int q3), .unset] []))
  refine ogo (fun _ k => XS.iloadN X0.here hx rfl (hb hby d1_0) rfl k) ?_
  show OGo _ _ _ _ (s₁.setTop (mkF m 1 #[.val (.ref ar), .val (.int q1), .val (.int q2), .val (.int q3), .unset] [(.int q2)]))
  refine ogo (fun _ k => XS.iconst X0.here hx rfl (hb hby d1_1) k) ?_
  show OGo _ _ _ _ (s₁.setTop (mkF m 2 #[.val (.ref ar), .val (.int q1), .val (.int q2), .val (.int q3), .unset] [(.int (1 : Int32)), (.int q2)]))
  refine ogo (fun _ k => XS.isub X0.here hx rfl (hb hby d1_2) rfl k) ?_
  show OGo _ _ _ _ (s₁.setTop (mkF m 3 #[.val (.ref ar), .val (.int q1), .val (.int q2), .val (.int q3), .unset] [(.int (q2 - (1 : Int32)))]))
  refine ogo (fun _ k => XS.istore X0.here hx rfl (hb hby d1_3) rfl (l' := #[.val (.ref ar), .val (.int q1), .val (.int q2), .val (.int q3), .val (.int (q2 - (1 : Int32)))]) rfl k) ?_
  show OGo _ _ _ _ (s₁.setTop (mkF m 5 #[.val (.ref ar), .val (.int q1), .val (.int q2), .val (.int q3), .val (.int (q2 - (1 : Int32)))] []))
  suffices LP : ∀ (kk : Nat) (i : Int32) (hi : i.toInt = (kk : Int) - 1) (hk : kk ≤ 8) (hr : lastN fa q3 q1.toInt kk = lastF q1 q2 q3 fa) (T : State) (X : Stand p l e ({ frames := 0, cells := 0, slots := 0, locals := 0 } : Room) s m #[(.ref ar), (.int q1), (.int q2), (.int q3)] below meth c T [] 0 0) (e1 : T.heap = h0), OGo p.tables e below (OFin s (OPure (some (.int (lastF q1 q2 q3 fa))) h0) 0 0) (T.setTop (mkF m 5 #[.val (.ref ar), .val (.int q1), .val (.int q2), .val (.int q3), .val (.int i)] [])) from LP q2.toInt.toNat (q2 - (1 : Int32)) (by have c := c_isub q2 (1 : Int32); have o : (1 : Int32).toInt = 1 := rfl; have r := rng32 (q2 - (1 : Int32)); omega) (by omega) rfl _ X0 e0
  intro kk
  induction kk with
  | zero =>
    intro i hi hk hr T X e1
    have hlt : i < q1 := by rw [Int32.lt_iff_toInt_lt]; omega
    show OGo _ _ _ _ (T.setTop (mkF m 5 #[.val (.ref ar), .val (.int q1), .val (.int q2), .val (.int q3), .val (.int i)] []))
    refine ogo (fun _ k => XS.iload X.here hx rfl (hb hby d1_5) rfl k) ?_
    show OGo _ _ _ _ (T.setTop (mkF m 7 #[.val (.ref ar), .val (.int q1), .val (.int q2), .val (.int q3), .val (.int i)] [(.int i)]))
    refine ogo (fun _ k => XS.iloadN X.here hx rfl (hb hby d1_7) rfl k) ?_
    show OGo _ _ _ _ (T.setTop (mkF m 8 #[.val (.ref ar), .val (.int q1), .val (.int q2), .val (.int q3), .val (.int i)] [(.int q1), (.int i)]))
    refine ogo (fun _ k => XS.icmpYes X.here hx rfl (pc0 := 8) (pc' := 28) rfl (hb hby d1_8) rfl (tlt hlt).1 (by decide) (by decide) k) ?_
    show OGo _ _ _ _ (T.setTop (mkF m 28 #[.val (.ref ar), .val (.int q1), .val (.int q2), .val (.int q3), .val (.int i)] []))
    refine ogo (fun _ k => XS.iconst X.here hx rfl (hb hby d1_28) k) ?_
    show OGo _ _ _ _ (T.setTop (mkF m 29 #[.val (.ref ar), .val (.int q1), .val (.int q2), .val (.int q3), .val (.int i)] [(.int (-1 : Int32))]))
    exact oret X hx hlk Bd.returns rfl (Or.inl ⟨rfl, Or.inl rfl, _, rfl⟩) (hb hby d1_29) (by decide) (by decide) ⟨by rw [← hr]; rfl, rfl, e1⟩
  | succ kk ih =>
    intro i hi hk hr T X e1
    have hi' : i.toInt = (kk : Int) := by omega
    have hn : i.toNatClampNeg = kk := by simp only [Int32.toNatClampNeg, hi']; omega
    simp only [lastN] at hr
    show OGo _ _ _ _ (T.setTop (mkF m 5 #[.val (.ref ar), .val (.int q1), .val (.int q2), .val (.int q3), .val (.int i)] []))
    refine ogo (fun _ k => XS.iload X.here hx rfl (hb hby d1_5) rfl k) ?_
    show OGo _ _ _ _ (T.setTop (mkF m 7 #[.val (.ref ar), .val (.int q1), .val (.int q2), .val (.int q3), .val (.int i)] [(.int i)]))
    refine ogo (fun _ k => XS.iloadN X.here hx rfl (hb hby d1_7) rfl k) ?_
    show OGo _ _ _ _ (T.setTop (mkF m 8 #[.val (.ref ar), .val (.int q1), .val (.int q2), .val (.int q3), .val (.int i)] [(.int q1), (.int i)]))
    by_cases hc_1_1 : i < q1
    · refine ogo (fun _ k => XS.icmpYes X.here hx rfl (pc0 := 8) (pc' := 28) rfl (hb hby d1_8) rfl (tlt hc_1_1).1 (by decide) (by decide) k) ?_
      show OGo _ _ _ _ (T.setTop (mkF m 28 #[.val (.ref ar), .val (.int q1), .val (.int q2), .val (.int q3), .val (.int i)] []))
      refine ogo (fun _ k => XS.iconst X.here hx rfl (hb hby d1_28) k) ?_
      show OGo _ _ _ _ (T.setTop (mkF m 29 #[.val (.ref ar), .val (.int q1), .val (.int q2), .val (.int q3), .val (.int i)] [(.int (-1 : Int32))]))
      exact oret X hx hlk Bd.returns rfl (Or.inl ⟨rfl, Or.inl rfl, _, rfl⟩) (hb hby d1_29) (by decide) (by decide) ⟨by rw [← hr, if_pos (by rw [Int32.lt_iff_toInt_lt] at hc_1_1; omega)], rfl, e1⟩
    · refine ogo (fun _ k => XS.icmpNo X.here hx rfl (hb hby d1_8) rfl (flt hc_1_1).1 k) ?_
      show OGo _ _ _ _ (T.setTop (mkF m 11 #[.val (.ref ar), .val (.int q1), .val (.int q2), .val (.int q3), .val (.int i)] []))
      refine ogo (fun _ k => XS.aloadN X.here hx rfl (hb hby d1_11) rfl rfl k) ?_
      show OGo _ _ _ _ (T.setTop (mkF m 12 #[.val (.ref ar), .val (.int q1), .val (.int q2), .val (.int q3), .val (.int i)] [(.ref ar)]))
      refine ogo (fun _ k => XS.iload X.here hx rfl (hb hby d1_12) rfl k) ?_
      show OGo _ _ _ _ (T.setTop (mkF m 14 #[.val (.ref ar), .val (.int q1), .val (.int q2), .val (.int q3), .val (.int i)] [(.int i), (.ref ar)]))
      refine ogo (fun _ k => oldB X hx hZ e1 P0 (by omega) (by omega) (g := (mkF m 14 #[.val (.ref ar), .val (.int q1), .val (.int q2), .val (.int q3), .val (.int i)] [(.int i), (.ref ar)])) rfl rfl (hb hby d1_14) _ k) ?_
      show OGo _ _ _ _ (T.setTop (mkF m 15 #[.val (.ref ar), .val (.int q1), .val (.int q2), .val (.int q3), .val (.int i)] [(.int (fa (i).toNatClampNeg))]))
      refine ogo (fun _ k => XS.iloadN X.here hx rfl (hb hby d1_15) rfl k) ?_
      show OGo _ _ _ _ (T.setTop (mkF m 16 #[.val (.ref ar), .val (.int q1), .val (.int q2), .val (.int q3), .val (.int i)] [(.int q3), (.int (fa (i).toNatClampNeg))]))
      by_cases hc_1_2 : (fa (i).toNatClampNeg) = q3
      · refine ogo (fun _ k => XS.icmpNo X.here hx rfl (hb hby d1_16) rfl (teq hc_1_2).2 k) ?_
        show OGo _ _ _ _ (T.setTop (mkF m 19 #[.val (.ref ar), .val (.int q1), .val (.int q2), .val (.int q3), .val (.int i)] []))
        refine ogo (fun _ k => XS.iload X.here hx rfl (hb hby d1_19) rfl k) ?_
        show OGo _ _ _ _ (T.setTop (mkF m 21 #[.val (.ref ar), .val (.int q1), .val (.int q2), .val (.int q3), .val (.int i)] [(.int i)]))
        exact oret X hx hlk Bd.returns rfl (Or.inl ⟨rfl, Or.inl rfl, _, rfl⟩) (hb hby d1_21) (by decide) (by decide) ⟨by rw [← hr, if_neg (fun z => hc_1_1 (by rw [Int32.lt_iff_toInt_lt]; omega)), if_pos (by rw [← hn]; exact hc_1_2), own_of hi' (by omega)], rfl, e1⟩
      · refine ogo (fun _ k => XS.icmpYes X.here hx rfl (pc0 := 16) (pc' := 22) rfl (hb hby d1_16) rfl (feq hc_1_2).2 (by decide) (by decide) k) ?_
        show OGo _ _ _ _ (T.setTop (mkF m 22 #[.val (.ref ar), .val (.int q1), .val (.int q2), .val (.int q3), .val (.int i)] []))
        refine ogo (fun _ k => XS.iinc X.here hx rfl (hb hby d1_22) rfl (l' := #[.val (.ref ar), .val (.int q1), .val (.int q2), .val (.int q3), .val (.int (i + (-1 : Int32)))]) rfl k) ?_
        show OGo _ _ _ _ (T.setTop (mkF m 25 #[.val (.ref ar), .val (.int q1), .val (.int q2), .val (.int q3), .val (.int (i + (-1 : Int32)))] []))
        refine ogo (fun _ k => XS.goto X.here hx rfl (pc0 := 25) (pc' := 5) rfl (hb hby d1_25) (by decide) (by decide) k) ?_
        show OGo _ _ _ _ (T.setTop (mkF m 5 #[.val (.ref ar), .val (.int q1), .val (.int q2), .val (.int q3), .val (.int (i + (-1 : Int32)))] []))
        have hr2 := hr
        rw [if_neg (fun z => hc_1_1 (by rw [Int32.lt_iff_toInt_lt]; omega)), if_neg (fun z => hc_1_2 (by rw [hn]; exact z))] at hr2
        exact ih _ (own_dec hi' (by omega)) (by omega) hr2 _ X e1
theorem d2_0 : decode method_2_code 0 = .ok (.iload 5, 2) := by decide +kernel
theorem d2_2 : decode method_2_code 2 = .ok (.iload_n 1, 1) := by decide +kernel
theorem d2_3 : decode method_2_code 3 = .ok (.if_icmp .lt 21, 3) := by decide +kernel
theorem d2_6 : decode method_2_code 6 = .ok (.iload 5, 2) := by decide +kernel
theorem d2_8 : decode method_2_code 8 = .ok (.iload_n 2, 1) := by decide +kernel
theorem d2_9 : decode method_2_code 9 = .ok (.if_icmp .ge 15, 3) := by decide +kernel
theorem d2_12 : decode method_2_code 12 = .ok (.aload_n 0, 1) := by decide +kernel
theorem d2_13 : decode method_2_code 13 = .ok (.iload 5, 2) := by decide +kernel
theorem d2_15 : decode method_2_code 15 = .ok (.baload, 1) := by decide +kernel
theorem d2_16 : decode method_2_code 16 = .ok (.iload_n 3, 1) := by decide +kernel
theorem d2_17 : decode method_2_code 17 = .ok (.if_icmp .ne 7, 3) := by decide +kernel
theorem d2_20 : decode method_2_code 20 = .ok (.iconst 1, 1) := by decide +kernel
theorem d2_21 : decode method_2_code 21 = .ok (.goto 4, 3) := by decide +kernel
theorem d2_24 : decode method_2_code 24 = .ok (.iconst 0, 1) := by decide +kernel
theorem d2_25 : decode method_2_code 25 = .ok (.istore 6, 2) := by decide +kernel
theorem d2_27 : decode method_2_code 27 = .ok (.iload 6, 2) := by decide +kernel
theorem d2_29 : decode method_2_code 29 = .ok (.ifCond .eq 10, 3) := by decide +kernel
theorem d2_32 : decode method_2_code 32 = .ok (.iload 5, 2) := by decide +kernel
theorem d2_34 : decode method_2_code 34 = .ok (.iload 4, 2) := by decide +kernel
theorem d2_36 : decode method_2_code 36 = .ok (.if_icmp .gt 7, 3) := by decide +kernel
theorem d2_39 : decode method_2_code 39 = .ok (.iconst 1, 1) := by decide +kernel
theorem d2_40 : decode method_2_code 40 = .ok (.goto 4, 3) := by decide +kernel
theorem d2_43 : decode method_2_code 43 = .ok (.iconst 0, 1) := by decide +kernel
theorem d2_44 : decode method_2_code 44 = .ok (.ireturn, 1) := by decide +kernel
theorem pn_2 : plainName "com/example/tidy_handshake/tidyhandshake/BytesLastIndexOfPinLaw" = true := by first | (simp [plainName, overriddenIn]; done) | decide +kernel
theorem ef_2 (m : MethodId) (x0 : Addr) (x1 : Int32) (x2 : Int32) (x3 : Int32) (x4 : Int32) (x5 : Int32) : entryFrame m #[(.ref x0), (.int x1), (.int x2), (.int x3), (.int x4), (.int x5)] 7 = mkF m 0 #[.val (.ref x0), .val (.int x1), .val (.int x2), .val (.int x3), .val (.int x4), .val (.int x5), .unset] [] := by first | (simp [entryFrame, mkF, argsToLocals, Value.category]; done) | rfl
def laterF (q1 : Int32) (q2 : Int32) (q3 : Int32) (q4 : Int32) (q5 : Int32) (fa : Nat → Int32) : Int32 := (let w_2_10 : Int32 := (if q5 < q1 then (0 : Int32) else (if q5 < q2 then (if (fa (q5).toNatClampNeg) = q3 then (1 : Int32) else (0 : Int32)) else (0 : Int32))); (let w_2_18 : Int32 := (if w_2_10 = (0 : Int32) then (1 : Int32) else (if q4 < q5 then (0 : Int32) else (1 : Int32))); w_2_18))
set_option maxRecDepth 65536 in
set_option maxHeartbeats 40000000 in
theorem rm2 (l : Launch) (Z : State) (a0 : Array Value) (hw : ∀ d ∈ tables_1, d.before a0 Z = true) (ar : Addr) (q1 : Int32) (q2 : Int32) (q3 : Int32) (q4 : Int32) (q5 : Int32) (fa : Nat → Int32) (h0 : Heap) (P0 : OAr Z h0 ar .byte 8 (fun i => .int (fa i))) (a1 : 0 ≤ q5.toInt) (a2 : q5.toInt < ((8 : Nat) : Int)) :
    OMet l Z (⟨"com/example/tidy_handshake/tidyhandshake/BytesLastIndexOfPinLaw", "noLaterHit", "([BIIBII)Z"⟩ : MethodName) method_2_code 7 (some .boolean) ({ frames := 0, cells := 0, slots := 0, locals := 0 } : Room) #[(.ref ar), (.int q1), (.int q2), (.int q3), (.int q4), (.int q5)] h0 (OPure (some (.int (laterF q1 q2 q3 q4 q5 fa))) h0) := by
  intro ws
  refine MetFree.of_bodySF (plainFor_of_name pn_2) hisR ?_
  intro p e s m args below meth c s₁ Bd hml0 hP hK
  obtain ⟨rfl, hZ, hh⟩ := hP
  have hx := Bd.exec
  have hby := Bd.bytes
  have hml : c.maxLocals = 7 := hml0
  have hown : s.vm.findClass "com/example/tidy_handshake/tidyhandshake/BytesLastIndexOfPinLaw" = some m.cls := findClass_of_methodNamed Bd.named
  have hnm := (name_of_methodNamed Bd.named Bd.method).1
  have hlk : meth.locks = false := Bd.notSynchronized
  have X0 : Stand p l e ({ frames := 0, cells := 0, slots := 0, locals := 0 } : Room) s m #[(.ref ar), (.int q1), (.int q2), (.int q3), (.int q4), (.int q5)] below meth c s₁ [] 0 0 := Stand.of_body Bd
  have e0 : s₁.heap = h0 := by rw [← hh, Bd.state]; rfl
  refine (?_ : OGo p.tables e below (OFin s (OPure (some (.int (laterF q1 q2 q3 q4 q5 fa))) h0) 0 0) _)
  refine ogo (fun _ k => castTop (ef_2 m ar q1 q2 q3 q4 q5) k) ?_
  show OGo _ _ _ _ (s₁.setTop (mkF m 0 #[.val (.ref ar), .val (.int q1), .val (.int q2), .val (.int q3), .val (.int q4), .val (.int q5), .unset] []))
  refine ogo (fun _ k => XS.iload X0.here hx rfl (hb hby d2_0) rfl k) ?_
  show OGo _ _ _ _ (s₁.setTop (mkF m 2 #[.val (.ref ar), .val (.int q1), .val (.int q2), .val (.int q3), .val (.int q4), .val (.int q5), .unset] [(.int q5)]))
  refine ogo (fun _ k => XS.iloadN X0.here hx rfl (hb hby d2_2) rfl k) ?_
  show OGo _ _ _ _ (s₁.setTop (mkF m 3 #[.val (.ref ar), .val (.int q1), .val (.int q2), .val (.int q3), .val (.int q4), .val (.int q5), .unset] [(.int q1), (.int q5)]))
  suffices J_2_11 : ∀ (w_2_10 : Int32) (hw_2_10 : w_2_10 = (if q5 < q1 then (0 : Int32) else (if q5 < q2 then (if (fa (q5).toNatClampNeg) = q3 then (1 : Int32) else (0 : Int32)) else (0 : Int32)))), OGo p.tables e below (OFin s (OPure (some (.int (laterF q1 q2 q3 q4 q5 fa))) h0) 0 0) (s₁.setTop (mkF m 25 #[.val (.ref ar), .val (.int q1), .val (.int q2), .val (.int q3), .val (.int q4), .val (.int q5), .unset] [(.int w_2_10)])) by
    by_cases hc_2_1 : q5 < q1
    · refine ogo (fun _ k => XS.icmpYes X0.here hx rfl (pc0 := 3) (pc' := 24) rfl (hb hby d2_3) rfl (tlt hc_2_1).1 (by decide) (by decide) k) ?_
      show OGo _ _ _ _ (s₁.setTop (mkF m 24 #[.val (.ref ar), .val (.int q1), .val (.int q2), .val (.int q3), .val (.int q4), .val (.int q5), .unset] []))
      refine ogo (fun _ k => XS.iconst X0.here hx rfl (hb hby d2_24) k) ?_
      show OGo _ _ _ _ (s₁.setTop (mkF m 25 #[.val (.ref ar), .val (.int q1), .val (.int q2), .val (.int q3), .val (.int q4), .val (.int q5), .unset] [(.int (0 : Int32))]))
      exact J_2_11 _ (if_pos hc_2_1).symm
    · refine ogo (fun _ k => XS.icmpNo X0.here hx rfl (hb hby d2_3) rfl (flt hc_2_1).1 k) ?_
      show OGo _ _ _ _ (s₁.setTop (mkF m 6 #[.val (.ref ar), .val (.int q1), .val (.int q2), .val (.int q3), .val (.int q4), .val (.int q5), .unset] []))
      refine ogo (fun _ k => XS.iload X0.here hx rfl (hb hby d2_6) rfl k) ?_
      show OGo _ _ _ _ (s₁.setTop (mkF m 8 #[.val (.ref ar), .val (.int q1), .val (.int q2), .val (.int q3), .val (.int q4), .val (.int q5), .unset] [(.int q5)]))
      refine ogo (fun _ k => XS.iloadN X0.here hx rfl (hb hby d2_8) rfl k) ?_
      show OGo _ _ _ _ (s₁.setTop (mkF m 9 #[.val (.ref ar), .val (.int q1), .val (.int q2), .val (.int q3), .val (.int q4), .val (.int q5), .unset] [(.int q2), (.int q5)]))
      suffices J_2_8 : ∀ (w_2_7 : Int32) (hw_2_7 : w_2_7 = (if q5 < q2 then (if (fa (q5).toNatClampNeg) = q3 then (1 : Int32) else (0 : Int32)) else (0 : Int32))), OGo p.tables e below (OFin s (OPure (some (.int (laterF q1 q2 q3 q4 q5 fa))) h0) 0 0) (s₁.setTop (mkF m 25 #[.val (.ref ar), .val (.int q1), .val (.int q2), .val (.int q3), .val (.int q4), .val (.int q5), .unset] [(.int w_2_7)])) by
        by_cases hc_2_2 : q5 < q2
        · refine ogo (fun _ k => XS.icmpNo X0.here hx rfl (hb hby d2_9) rfl (tlt hc_2_2).2.1 k) ?_
          show OGo _ _ _ _ (s₁.setTop (mkF m 12 #[.val (.ref ar), .val (.int q1), .val (.int q2), .val (.int q3), .val (.int q4), .val (.int q5), .unset] []))
          refine ogo (fun _ k => XS.aloadN X0.here hx rfl (hb hby d2_12) rfl rfl k) ?_
          show OGo _ _ _ _ (s₁.setTop (mkF m 13 #[.val (.ref ar), .val (.int q1), .val (.int q2), .val (.int q3), .val (.int q4), .val (.int q5), .unset] [(.ref ar)]))
          refine ogo (fun _ k => XS.iload X0.here hx rfl (hb hby d2_13) rfl k) ?_
          show OGo _ _ _ _ (s₁.setTop (mkF m 15 #[.val (.ref ar), .val (.int q1), .val (.int q2), .val (.int q3), .val (.int q4), .val (.int q5), .unset] [(.int q5), (.ref ar)]))
          refine ogo (fun _ k => oldB X0 hx hZ e0 P0 a1 a2 (g := (mkF m 15 #[.val (.ref ar), .val (.int q1), .val (.int q2), .val (.int q3), .val (.int q4), .val (.int q5), .unset] [(.int q5), (.ref ar)])) rfl rfl (hb hby d2_15) _ k) ?_
          show OGo _ _ _ _ (s₁.setTop (mkF m 16 #[.val (.ref ar), .val (.int q1), .val (.int q2), .val (.int q3), .val (.int q4), .val (.int q5), .unset] [(.int (fa (q5).toNatClampNeg))]))
          refine ogo (fun _ k => XS.iloadN X0.here hx rfl (hb hby d2_16) rfl k) ?_
          show OGo _ _ _ _ (s₁.setTop (mkF m 17 #[.val (.ref ar), .val (.int q1), .val (.int q2), .val (.int q3), .val (.int q4), .val (.int q5), .unset] [(.int q3), (.int (fa (q5).toNatClampNeg))]))
          suffices J_2_5 : ∀ (w_2_4 : Int32) (hw_2_4 : w_2_4 = (if (fa (q5).toNatClampNeg) = q3 then (1 : Int32) else (0 : Int32))), OGo p.tables e below (OFin s (OPure (some (.int (laterF q1 q2 q3 q4 q5 fa))) h0) 0 0) (s₁.setTop (mkF m 25 #[.val (.ref ar), .val (.int q1), .val (.int q2), .val (.int q3), .val (.int q4), .val (.int q5), .unset] [(.int w_2_4)])) by
            by_cases hc_2_3 : (fa (q5).toNatClampNeg) = q3
            · refine ogo (fun _ k => XS.icmpNo X0.here hx rfl (hb hby d2_17) rfl (teq hc_2_3).2 k) ?_
              show OGo _ _ _ _ (s₁.setTop (mkF m 20 #[.val (.ref ar), .val (.int q1), .val (.int q2), .val (.int q3), .val (.int q4), .val (.int q5), .unset] []))
              refine ogo (fun _ k => XS.iconst X0.here hx rfl (hb hby d2_20) k) ?_
              show OGo _ _ _ _ (s₁.setTop (mkF m 21 #[.val (.ref ar), .val (.int q1), .val (.int q2), .val (.int q3), .val (.int q4), .val (.int q5), .unset] [(.int (1 : Int32))]))
              refine ogo (fun _ k => XS.goto X0.here hx rfl (pc0 := 21) (pc' := 25) rfl (hb hby d2_21) (by decide) (by decide) k) ?_
              show OGo _ _ _ _ (s₁.setTop (mkF m 25 #[.val (.ref ar), .val (.int q1), .val (.int q2), .val (.int q3), .val (.int q4), .val (.int q5), .unset] [(.int (1 : Int32))]))
              exact J_2_5 _ (if_pos hc_2_3).symm
            · refine ogo (fun _ k => XS.icmpYes X0.here hx rfl (pc0 := 17) (pc' := 24) rfl (hb hby d2_17) rfl (feq hc_2_3).2 (by decide) (by decide) k) ?_
              show OGo _ _ _ _ (s₁.setTop (mkF m 24 #[.val (.ref ar), .val (.int q1), .val (.int q2), .val (.int q3), .val (.int q4), .val (.int q5), .unset] []))
              refine ogo (fun _ k => XS.iconst X0.here hx rfl (hb hby d2_24) k) ?_
              show OGo _ _ _ _ (s₁.setTop (mkF m 25 #[.val (.ref ar), .val (.int q1), .val (.int q2), .val (.int q3), .val (.int q4), .val (.int q5), .unset] [(.int (0 : Int32))]))
              exact J_2_5 _ (if_neg hc_2_3).symm
          intro w_2_4 hw_2_4
          subst hw_2_4
          exact J_2_8 _ (if_pos hc_2_2).symm
        · refine ogo (fun _ k => XS.icmpYes X0.here hx rfl (pc0 := 9) (pc' := 24) rfl (hb hby d2_9) rfl (flt hc_2_2).2.1 (by decide) (by decide) k) ?_
          show OGo _ _ _ _ (s₁.setTop (mkF m 24 #[.val (.ref ar), .val (.int q1), .val (.int q2), .val (.int q3), .val (.int q4), .val (.int q5), .unset] []))
          refine ogo (fun _ k => XS.iconst X0.here hx rfl (hb hby d2_24) k) ?_
          show OGo _ _ _ _ (s₁.setTop (mkF m 25 #[.val (.ref ar), .val (.int q1), .val (.int q2), .val (.int q3), .val (.int q4), .val (.int q5), .unset] [(.int (0 : Int32))]))
          exact J_2_8 _ (if_neg hc_2_2).symm
      intro w_2_7 hw_2_7
      subst hw_2_7
      exact J_2_11 _ (if_neg hc_2_1).symm
  intro w_2_10 hw_2_10
  refine ogo (fun _ k => XS.istore X0.here hx rfl (hb hby d2_25) rfl (l' := #[.val (.ref ar), .val (.int q1), .val (.int q2), .val (.int q3), .val (.int q4), .val (.int q5), .val (.int w_2_10)]) rfl k) ?_
  show OGo _ _ _ _ (s₁.setTop (mkF m 27 #[.val (.ref ar), .val (.int q1), .val (.int q2), .val (.int q3), .val (.int q4), .val (.int q5), .val (.int w_2_10)] []))
  refine ogo (fun _ k => XS.iload X0.here hx rfl (hb hby d2_27) rfl k) ?_
  show OGo _ _ _ _ (s₁.setTop (mkF m 29 #[.val (.ref ar), .val (.int q1), .val (.int q2), .val (.int q3), .val (.int q4), .val (.int q5), .val (.int w_2_10)] [(.int w_2_10)]))
  suffices J_2_19 : ∀ (w_2_18 : Int32) (hw_2_18 : w_2_18 = (if w_2_10 = (0 : Int32) then (1 : Int32) else (if q4 < q5 then (0 : Int32) else (1 : Int32)))), OGo p.tables e below (OFin s (OPure (some (.int (laterF q1 q2 q3 q4 q5 fa))) h0) 0 0) (s₁.setTop (mkF m 44 #[.val (.ref ar), .val (.int q1), .val (.int q2), .val (.int q3), .val (.int q4), .val (.int q5), .val (.int w_2_10)] [(.int w_2_18)])) by
    by_cases hc_2_13 : w_2_10 = (0 : Int32)
    · refine ogo (fun _ k => XS.ifYes X0.here hx rfl (pc0 := 29) (pc' := 39) rfl (hb hby d2_29) rfl ((if0 _ _).trans (teq hc_2_13).1) (by decide) (by decide) k) ?_
      show OGo _ _ _ _ (s₁.setTop (mkF m 39 #[.val (.ref ar), .val (.int q1), .val (.int q2), .val (.int q3), .val (.int q4), .val (.int q5), .val (.int w_2_10)] []))
      refine ogo (fun _ k => XS.iconst X0.here hx rfl (hb hby d2_39) k) ?_
      show OGo _ _ _ _ (s₁.setTop (mkF m 40 #[.val (.ref ar), .val (.int q1), .val (.int q2), .val (.int q3), .val (.int q4), .val (.int q5), .val (.int w_2_10)] [(.int (1 : Int32))]))
      refine ogo (fun _ k => XS.goto X0.here hx rfl (pc0 := 40) (pc' := 44) rfl (hb hby d2_40) (by decide) (by decide) k) ?_
      show OGo _ _ _ _ (s₁.setTop (mkF m 44 #[.val (.ref ar), .val (.int q1), .val (.int q2), .val (.int q3), .val (.int q4), .val (.int q5), .val (.int w_2_10)] [(.int (1 : Int32))]))
      exact J_2_19 _ (if_pos hc_2_13).symm
    · refine ogo (fun _ k => XS.ifNo X0.here hx rfl (hb hby d2_29) rfl ((if0 _ _).trans (feq hc_2_13).1) k) ?_
      show OGo _ _ _ _ (s₁.setTop (mkF m 32 #[.val (.ref ar), .val (.int q1), .val (.int q2), .val (.int q3), .val (.int q4), .val (.int q5), .val (.int w_2_10)] []))
      refine ogo (fun _ k => XS.iload X0.here hx rfl (hb hby d2_32) rfl k) ?_
      show OGo _ _ _ _ (s₁.setTop (mkF m 34 #[.val (.ref ar), .val (.int q1), .val (.int q2), .val (.int q3), .val (.int q4), .val (.int q5), .val (.int w_2_10)] [(.int q5)]))
      refine ogo (fun _ k => XS.iload X0.here hx rfl (hb hby d2_34) rfl k) ?_
      show OGo _ _ _ _ (s₁.setTop (mkF m 36 #[.val (.ref ar), .val (.int q1), .val (.int q2), .val (.int q3), .val (.int q4), .val (.int q5), .val (.int w_2_10)] [(.int q4), (.int q5)]))
      suffices J_2_16 : ∀ (w_2_15 : Int32) (hw_2_15 : w_2_15 = (if q4 < q5 then (0 : Int32) else (1 : Int32))), OGo p.tables e below (OFin s (OPure (some (.int (laterF q1 q2 q3 q4 q5 fa))) h0) 0 0) (s₁.setTop (mkF m 44 #[.val (.ref ar), .val (.int q1), .val (.int q2), .val (.int q3), .val (.int q4), .val (.int q5), .val (.int w_2_10)] [(.int w_2_15)])) by
        by_cases hc_2_14 : q4 < q5
        · refine ogo (fun _ k => XS.icmpYes X0.here hx rfl (pc0 := 36) (pc' := 43) rfl (hb hby d2_36) rfl (tlt hc_2_14).2.2.1 (by decide) (by decide) k) ?_
          show OGo _ _ _ _ (s₁.setTop (mkF m 43 #[.val (.ref ar), .val (.int q1), .val (.int q2), .val (.int q3), .val (.int q4), .val (.int q5), .val (.int w_2_10)] []))
          refine ogo (fun _ k => XS.iconst X0.here hx rfl (hb hby d2_43) k) ?_
          show OGo _ _ _ _ (s₁.setTop (mkF m 44 #[.val (.ref ar), .val (.int q1), .val (.int q2), .val (.int q3), .val (.int q4), .val (.int q5), .val (.int w_2_10)] [(.int (0 : Int32))]))
          exact J_2_16 _ (if_pos hc_2_14).symm
        · refine ogo (fun _ k => XS.icmpNo X0.here hx rfl (hb hby d2_36) rfl (flt hc_2_14).2.2.1 k) ?_
          show OGo _ _ _ _ (s₁.setTop (mkF m 39 #[.val (.ref ar), .val (.int q1), .val (.int q2), .val (.int q3), .val (.int q4), .val (.int q5), .val (.int w_2_10)] []))
          refine ogo (fun _ k => XS.iconst X0.here hx rfl (hb hby d2_39) k) ?_
          show OGo _ _ _ _ (s₁.setTop (mkF m 40 #[.val (.ref ar), .val (.int q1), .val (.int q2), .val (.int q3), .val (.int q4), .val (.int q5), .val (.int w_2_10)] [(.int (1 : Int32))]))
          refine ogo (fun _ k => XS.goto X0.here hx rfl (pc0 := 40) (pc' := 44) rfl (hb hby d2_40) (by decide) (by decide) k) ?_
          show OGo _ _ _ _ (s₁.setTop (mkF m 44 #[.val (.ref ar), .val (.int q1), .val (.int q2), .val (.int q3), .val (.int q4), .val (.int q5), .val (.int w_2_10)] [(.int (1 : Int32))]))
          exact J_2_16 _ (if_neg hc_2_14).symm
      intro w_2_15 hw_2_15
      subst hw_2_15
      exact J_2_19 _ (if_neg hc_2_13).symm
  intro w_2_18 hw_2_18
  exact oret X0 hx hlk Bd.returns (onb (by subst_vars; repeat' first | decide | apply oif01)) (Or.inl ⟨rfl, Or.inr (Or.inl rfl), _, rfl⟩) (hb hby d2_44) (by decide) (by decide) ⟨by subst_vars; rfl, rfl, e0⟩
theorem own_r9 {w y : Int32} (h : w = (y &&& (15 : Int32)) % (9 : Int32)) : 0 ≤ w.toInt ∧ w.toInt ≤ 8 := by
  have c := c_mask y (15 : Int32) 4 (by decide) (by decide)
  have d := (c_irem (y &&& (15 : Int32)) (9 : Int32) 9 rfl).1 (by omega)
  rw [h, d]
  omega
theorem own_7 (y : Int32) : 0 ≤ (y &&& (7 : Int32)).toInt ∧ (y &&& (7 : Int32)).toInt < ((8 : Nat) : Int) := by
  have c := c_mask y (7 : Int32) 3 (by decide) (by decide)
  omega
theorem own_in8 {r : Int32} (h0 : ¬ r < (0 : Int32)) (h1 : r < (8 : Int32)) : 0 ≤ r.toInt ∧ r.toInt < ((8 : Nat) : Int) := by
  rw [Int32.lt_iff_toInt_lt] at h0 h1
  have o0 : (0 : Int32).toInt = 0 := rfl
  have o8 : (8 : Int32).toInt = 8 := rfl
  omega
theorem pn_0 : plainName "com/example/tidy_handshake/tidyhandshake/BytesLastIndexOfPinLaw" = true := by first | (simp [plainName, overriddenIn]; done) | decide +kernel
theorem ef_0 (m : MethodId) (x0 : Int64) (x1 : Int32) (x2 : Int32) : entryFrame m #[(.long x0), (.int x1), (.int x2)] maxLocals = mkF m 0 #[.val (.long x0), .second, .val (.int x1), .val (.int x2), .unset, .unset, .unset, .unset, .unset, .unset] [] := by first | (simp [entryFrame, mkF, argsToLocals, Value.category, maxLocals]; done) | rfl
theorem pd___BIIB_I : parseMethodDescriptor "([BIIB)I" = some ⟨[(.array .byte), .int, .int, .byte], some .int⟩ := by decide +kernel
theorem pd___BIIBII_Z : parseMethodDescriptor "([BIIBII)Z" = some ⟨[(.array .byte), .int, .int, .byte, .int, .int], some .boolean⟩ := by decide +kernel
theorem own_m1 : (-1 : Int32).toInt = -1 := rfl
theorem own_nn {r : Int32} {j : Nat} (h : r.toInt = (j : Int)) : r.toNatClampNeg = j := by simp only [Int32.toNatClampNeg, h]; omega
theorem own_last (fa : Nat → Int32) (w : Int32) (fr : Int) (h0 : 0 ≤ fr) : ∀ k : Nat, k ≤ 8 → (lastN fa w fr k = (-1 : Int32) ∨ (fr ≤ (lastN fa w fr k).toInt ∧ (lastN fa w fr k).toInt < (k : Int) ∧ fa (lastN fa w fr k).toNatClampNeg = w)) ∧ ∀ j : Nat, fr ≤ (j : Int) → j < k → fa j = w → (j : Int) ≤ (lastN fa w fr k).toInt := by
  intro k
  induction k with
  | zero => exact fun _ => ⟨Or.inl rfl, fun j _ h => absurd h (Nat.not_lt_zero j)⟩
  | succ k ih =>
    intro hk
    obtain ⟨i1, i2⟩ := ih (by omega)
    simp only [lastN]
    by_cases a : (k : Int) < fr
    · rw [if_pos a]
      exact ⟨Or.inl rfl, fun j h1 h2 _ => by omega⟩
    · rw [if_neg a]
      by_cases b : fa k = w
      · rw [if_pos b]
        have e := own_q9 ⟨k, by omega⟩
        dsimp only at e
        refine ⟨Or.inr ⟨by omega, by omega, by rw [own_nn e]; exact b⟩, fun j h1 h2 _ => by omega⟩
      · rw [if_neg b]
        refine ⟨i1.imp id (fun z => ⟨z.1, by omega, z.2.2⟩), fun j h1 h2 h3 => ?_⟩
        by_cases c : j = k
        · rw [c] at h3; exact absurd h3 b
        · exact i2 j h1 (by omega) h3
theorem own_later {q1 q2 q3 q4 q5 : Int32} {fa : Nat → Int32} (H : ¬ (q5 < q1) → q5 < q2 → fa q5.toNatClampNeg = q3 → ¬ q4 < q5) : laterF q1 q2 q3 q4 q5 fa = (1 : Int32) := by
  simp only [laterF]
  by_cases a : q5 < q1
  · rw [if_pos a]; rfl
  · rw [if_neg a]
    by_cases b : q5 < q2
    · rw [if_pos b]
      by_cases d : fa q5.toNatClampNeg = q3
      · rw [if_pos d, if_neg (by decide), if_neg (H a b d)]
      · rw [if_neg d]; rfl
    · rw [if_neg b]; rfl
theorem own_valid {fr en w r : Int32} {fb : Nat → Int32} (a1 : 0 ≤ fr.toInt ∧ fr.toInt ≤ 8) (a2 : 0 ≤ en.toInt ∧ en.toInt ≤ 8) (hr : r = lastF fr en w fb) :
    (if r = (-1 : Int32) then (1 : Int32) else (if r < fr then (0 : Int32) else (if r < en then (if r < (0 : Int32) then (0 : Int32) else (if r < (8 : Int32) then (if (fb (r).toNatClampNeg) = w then (1 : Int32) else (0 : Int32)) else (0 : Int32))) else (0 : Int32)))) = (1 : Int32) := by
  have S := (own_last fb w fr.toInt a1.1 en.toInt.toNat (by omega)).1
  rw [show lastN fb w fr.toInt en.toInt.toNat = r from hr.symm] at S
  have o0 : (0 : Int32).toInt = 0 := rfl
  have o8 : (8 : Int32).toInt = 8 := rfl
  by_cases q : r = (-1 : Int32)
  · rw [if_pos q]
  · obtain ⟨s1, s2, s3⟩ := S.resolve_left q
    rw [if_neg q, if_neg (by rw [Int32.lt_iff_toInt_lt]; omega), if_pos (by rw [Int32.lt_iff_toInt_lt]; omega), if_neg (by rw [Int32.lt_iff_toInt_lt]; omega), if_pos (by rw [Int32.lt_iff_toInt_lt]; omega), if_pos s3]
theorem own_lc {fr en w r : Int32} {fb : Nat → Int32} (a1 : 0 ≤ fr.toInt ∧ fr.toInt ≤ 8) (a2 : 0 ≤ en.toInt ∧ en.toInt ≤ 8) (hr : r = lastF fr en w fb) (j : Nat) (hj : j < 8) : laterF fr en w r (Int32.ofNat j) fb = (1 : Int32) := by
  have S := (own_last fb w fr.toInt a1.1 en.toInt.toNat (by omega)).2
  rw [show lastN fb w fr.toInt en.toInt.toNat = r from hr.symm] at S
  have e := own_q9 ⟨j, by omega⟩
  dsimp only at e
  refine own_later fun h1 h2 h3 h4 => ?_
  rw [Int32.lt_iff_toInt_lt] at h1 h2 h4
  rw [own_nn e] at h3
  have := S j (by omega) (by omega) h3
  omega
theorem plain0 (va : Int64) (vb : Int32) (vc : Int32) (fb : Nat → Int32) (w_0_18 : Int32) (hw_0_18 : w_0_18 = ((vb &&& (15 : Int32)) % (9 : Int32))) (w_0_19 : Int32) (hw_0_19 : w_0_19 = ((((vb.toUInt32 >>> ((4 : Int32) &&& 31).toUInt32).toInt32) &&& (15 : Int32)) % (9 : Int32))) (w_0_21 : Int32) (hw_0_21 : w_0_21 = (if (vc &&& (256 : Int32)) = (0 : Int32) then (vc.toInt8.toInt32) else (fb ((((vc.toUInt32 >>> ((9 : Int32) &&& 31).toUInt32).toInt32) &&& (7 : Int32))).toNatClampNeg))) (w_0_25 : Int32) (hw_0_25 : w_0_25 = (lastF w_0_18 w_0_19 w_0_21 fb)) (w_0_47 : Int32) (hw_0_47 : w_0_47 = (if w_0_25 = (-1 : Int32) then (1 : Int32) else (if w_0_25 < w_0_18 then (0 : Int32) else (if w_0_25 < w_0_19 then (if w_0_25 < (0 : Int32) then (0 : Int32) else (if w_0_25 < (8 : Int32) then (if (fb (w_0_25).toNatClampNeg) = w_0_21 then (1 : Int32) else (0 : Int32)) else (0 : Int32))) else (0 : Int32))))) (hc_0_50 : w_0_47 = (0 : Int32)) : (0 : Int32) = (1 : Int32) := by
  have u := own_valid (own_r9 hw_0_18) (own_r9 hw_0_19) hw_0_25
  rw [← hw_0_47, hc_0_50] at u
  exact u
theorem plain1 (va : Int64) (vb : Int32) (vc : Int32) (fb : Nat → Int32) (w_0_18 : Int32) (hw_0_18 : w_0_18 = ((vb &&& (15 : Int32)) % (9 : Int32))) (w_0_19 : Int32) (hw_0_19 : w_0_19 = ((((vb.toUInt32 >>> ((4 : Int32) &&& 31).toUInt32).toInt32) &&& (15 : Int32)) % (9 : Int32))) (w_0_21 : Int32) (hw_0_21 : w_0_21 = (if (vc &&& (256 : Int32)) = (0 : Int32) then (vc.toInt8.toInt32) else (fb ((((vc.toUInt32 >>> ((9 : Int32) &&& 31).toUInt32).toInt32) &&& (7 : Int32))).toNatClampNeg))) (w_0_25 : Int32) (hw_0_25 : w_0_25 = (lastF w_0_18 w_0_19 w_0_21 fb)) (w_0_47 : Int32) (hw_0_47 : w_0_47 = (if w_0_25 = (-1 : Int32) then (1 : Int32) else (if w_0_25 < w_0_18 then (0 : Int32) else (if w_0_25 < w_0_19 then (if w_0_25 < (0 : Int32) then (0 : Int32) else (if w_0_25 < (8 : Int32) then (if (fb (w_0_25).toNatClampNeg) = w_0_21 then (1 : Int32) else (0 : Int32)) else (0 : Int32))) else (0 : Int32))))) (hc_0_50 : ¬ (w_0_47 = (0 : Int32))) (w_0_88 : Int32) (hw_0_88 : w_0_88 = (if (laterF w_0_18 w_0_19 w_0_21 w_0_25 (0 : Int32) fb) = (0 : Int32) then (0 : Int32) else (if (laterF w_0_18 w_0_19 w_0_21 w_0_25 (1 : Int32) fb) = (0 : Int32) then (0 : Int32) else (if (laterF w_0_18 w_0_19 w_0_21 w_0_25 (2 : Int32) fb) = (0 : Int32) then (0 : Int32) else (if (laterF w_0_18 w_0_19 w_0_21 w_0_25 (3 : Int32) fb) = (0 : Int32) then (0 : Int32) else (if (laterF w_0_18 w_0_19 w_0_21 w_0_25 (4 : Int32) fb) = (0 : Int32) then (0 : Int32) else (if (laterF w_0_18 w_0_19 w_0_21 w_0_25 (5 : Int32) fb) = (0 : Int32) then (0 : Int32) else (if (laterF w_0_18 w_0_19 w_0_21 w_0_25 (6 : Int32) fb) = (0 : Int32) then (0 : Int32) else (if (laterF w_0_18 w_0_19 w_0_21 w_0_25 (7 : Int32) fb) = (0 : Int32) then (0 : Int32) else (1 : Int32)))))))))) : w_0_88 = (1 : Int32) := by
  have L := fun j hj => own_lc (own_r9 hw_0_18) (own_r9 hw_0_19) hw_0_25 j hj
  have e0 : laterF w_0_18 w_0_19 w_0_21 w_0_25 (0 : Int32) fb = (1 : Int32) := L 0 (by decide)
  have e1 : laterF w_0_18 w_0_19 w_0_21 w_0_25 (1 : Int32) fb = (1 : Int32) := L 1 (by decide)
  have e2 : laterF w_0_18 w_0_19 w_0_21 w_0_25 (2 : Int32) fb = (1 : Int32) := L 2 (by decide)
  have e3 : laterF w_0_18 w_0_19 w_0_21 w_0_25 (3 : Int32) fb = (1 : Int32) := L 3 (by decide)
  have e4 : laterF w_0_18 w_0_19 w_0_21 w_0_25 (4 : Int32) fb = (1 : Int32) := L 4 (by decide)
  have e5 : laterF w_0_18 w_0_19 w_0_21 w_0_25 (5 : Int32) fb = (1 : Int32) := L 5 (by decide)
  have e6 : laterF w_0_18 w_0_19 w_0_21 w_0_25 (6 : Int32) fb = (1 : Int32) := L 6 (by decide)
  have e7 : laterF w_0_18 w_0_19 w_0_21 w_0_25 (7 : Int32) fb = (1 : Int32) := L 7 (by decide)
  rw [hw_0_88, e0, e1, e2, e3, e4, e5, e6, e7]
  rfl
set_option maxRecDepth 65536 in
set_option maxHeartbeats 40000000 in
theorem rm0 (l : Launch) (Z : State) (a0 : Array Value) (hw : ∀ d ∈ tables_1, d.before a0 Z = true) (ws : List Jvm.Cond) (va : Int64) (vb : Int32) (vc : Int32) (h0 : Heap) (n0 : Nat) (Z0 : n0 ≤ h0.size)  :
    MetFree l x (head1 (Jvm.Cond.code x code maxLocals ret :: ws) room_1) (fun a U => a = #[(.long va), (.int vb), (.int vc)] ∧ Z.Warmed39 U.vm ∧ U.heap = h0) (fun _ _ _ _ _ => True) (fun _ U o U' => ∃ v L, o = .returned v ∧ (v = some (.int 1) ∧ Fr n0 L) ∧ FrameEnd U o U' L 16 128) := by
  refine MetFree.of_bodySF (plainFor_of_name pn_0) hisR ?_
  intro p e s m args below meth c s₁ Bd hml0 hP hK
  obtain ⟨rfl, hZ, hh⟩ := hP
  have hx := Bd.exec
  have hby := Bd.bytes
  have hml : c.maxLocals = 10 := hml0
  have hown : s.vm.findClass "com/example/tidy_handshake/tidyhandshake/BytesLastIndexOfPinLaw" = some m.cls := findClass_of_methodNamed Bd.named
  have hnm := (name_of_methodNamed Bd.named Bd.method).1
  have hlk : meth.locks = false := Bd.notSynchronized
  have X0 : Stand p l e room_1 s m #[(.long va), (.int vb), (.int vc)] below meth c s₁ [] 0 0 := Stand.of_body Bd
  have e0 : s₁.heap = h0 := by rw [← hh, Bd.state]; rfl
  have N0 := Fr.nil n0
  refine (?_ : OGo p.tables e below (OFin s (fun v _ L => v = some (.int 1) ∧ Fr n0 L) 16 128) _)
  refine ogo (fun _ k => castTop (ef_0 m va vb vc) k) ?_
  show OGo _ _ _ _ (s₁.setTop (mkF m 0 #[.val (.long va), .second, .val (.int vb), .val (.int vc), .unset, .unset, .unset, .unset, .unset, .unset] []))
  refine ogo (fun _ k => XS.bipush X0.here hx rfl (hb hby at_0) k) ?_
  show OGo _ _ _ _ (s₁.setTop (mkF m 2 #[.val (.long va), .second, .val (.int vb), .val (.int vc), .unset, .unset, .unset, .unset, .unset, .unset] [(.int (8 : Int32))]))
  obtain ⟨T_0_1, h_0_1, k_0_1, X_0_1, e_0_1, E_0_1, A_0_1, Ex_0_1, st_0_1⟩ := newPE X0 hx hZ (hw _ (List.mem_of_getElem? (i := 0) rfl)) e0 (g := (mkF m 2 #[.val (.long va), .second, .val (.int vb), .val (.int vc), .unset, .unset, .unset, .unset, .unset, .unset] [(.int (8 : Int32))])) rfl (hb hby at_2) rfl (by decide) (cap := 8) (by decide) (by decide) (by decide) (by decide) (ad := "[B") (by first | rfl | decide +kernel)
  obtain ⟨b_0_1, g_0_1⟩ : ∃ z, z = h0.size := ⟨_, rfl⟩
  rw [← g_0_1] at A_0_1 Ex_0_1 st_0_1
  have g_b_0_1 : n0 ≤ b_0_1 := Nat.le_trans Z0 (Nat.le_of_eq g_0_1.symm)
  have Z_0_1 : n0 ≤ h_0_1.size := Nat.le_trans Z0 E_0_1.1
  have V_0_1 : OAr Z h_0_1 b_0_1 .byte 8 (fun i => .int ((fun _ : Nat => (0 : Int32)) i)) := OAr.new A_0_1 (by decide)
  obtain ⟨lc_0_1, N_0_1, X_0_1⟩ : ∃ L, Fr n0 L ∧ Stand p l e room_1 s m #[(.long va), (.int vb), (.int vc)] below meth c T_0_1 L 1 8 := ⟨_, N0, X_0_1⟩
  refine ogo (fun _ k => st_0_1 _ k) ?_
  show OGo _ _ _ _ (T_0_1.setTop (mkF m 4 #[.val (.long va), .second, .val (.int vb), .val (.int vc), .unset, .unset, .unset, .unset, .unset, .unset] [(.ref b_0_1)]))
  refine ogo (fun _ k => XS.astore X_0_1.here hx rfl (hb hby at_4) rfl rfl (l' := #[.val (.long va), .second, .val (.int vb), .val (.int vc), .val (.ref b_0_1), .unset, .unset, .unset, .unset, .unset]) rfl k) ?_
  show OGo _ _ _ _ (T_0_1.setTop (mkF m 6 #[.val (.long va), .second, .val (.int vb), .val (.int vc), .val (.ref b_0_1), .unset, .unset, .unset, .unset, .unset] []))
  refine ogo (fun _ k => XS.aload X_0_1.here hx rfl (hb hby at_6) rfl rfl k) ?_
  show OGo _ _ _ _ (T_0_1.setTop (mkF m 8 #[.val (.long va), .second, .val (.int vb), .val (.int vc), .val (.ref b_0_1), .unset, .unset, .unset, .unset, .unset] [(.ref b_0_1)]))
  refine ogo (fun _ k => XS.iconst X_0_1.here hx rfl (hb hby at_8) k) ?_
  show OGo _ _ _ _ (T_0_1.setTop (mkF m 9 #[.val (.long va), .second, .val (.int vb), .val (.int vc), .val (.ref b_0_1), .unset, .unset, .unset, .unset, .unset] [(.int (0 : Int32)), (.ref b_0_1)]))
  refine ogo (fun _ k => XS.lloadN X_0_1.here hx rfl (hb hby at_9) rfl k) ?_
  show OGo _ _ _ _ (T_0_1.setTop (mkF m 10 #[.val (.long va), .second, .val (.int vb), .val (.int vc), .val (.ref b_0_1), .unset, .unset, .unset, .unset, .unset] [(.long va), (.int (0 : Int32)), (.ref b_0_1)]))
  refine ogo (fun _ k => XS.l2i X_0_1.here hx rfl (hb hby at_10) rfl k) ?_
  show OGo _ _ _ _ (T_0_1.setTop (mkF m 11 #[.val (.long va), .second, .val (.int vb), .val (.int vc), .val (.ref b_0_1), .unset, .unset, .unset, .unset, .unset] [(.int (va.toInt32)), (.int (0 : Int32)), (.ref b_0_1)]))
  refine ogo (fun _ k => XS.i2b X_0_1.here hx rfl (hb hby at_11) rfl k) ?_
  show OGo _ _ _ _ (T_0_1.setTop (mkF m 12 #[.val (.long va), .second, .val (.int vb), .val (.int vc), .val (.ref b_0_1), .unset, .unset, .unset, .unset, .unset] [(.int ((va.toInt32).toInt8.toInt32)), (.int (0 : Int32)), (.ref b_0_1)]))
  obtain ⟨T_0_2, h_0_2, X_0_2, e_0_2, W_0_2, V_0_2, st_0_2⟩ := ostB X_0_1 hx hZ e_0_1 V_0_1 (by decide) (by decide) (g := (mkF m 12 #[.val (.long va), .second, .val (.int vb), .val (.int vc), .val (.ref b_0_1), .unset, .unset, .unset, .unset, .unset] [(.int ((va.toInt32).toInt8.toInt32)), (.int (0 : Int32)), (.ref b_0_1)])) rfl rfl (hb hby at_12)
  have Y_0_2 : OAr Z h_0_2 b_0_1 .byte 8 (fun i => .int ((fun i : Nat => if i = ((0 : Int32)).toNatClampNeg then ((va.toInt32).toInt8.toInt32).toInt8.toInt32 else (fun _ : Nat => (0 : Int32)) i) i)) := V_0_2.conv (fun i _ => by dsimp only; split <;> rfl)
  have f_0_3 := Ex_0_1.wr W_0_2
  have Z_0_2 : n0 ≤ h_0_2.size := Nat.le_trans Z_0_1 (Keep.of_wr W_0_2).1
  obtain ⟨lc_0_2, N_0_2, X_0_2⟩ : ∃ L, Fr n0 L ∧ Stand p l e room_1 s m #[(.long va), (.int vb), (.int vc)] below meth c T_0_2 L 1 8 := ⟨_, Fr.snoc X_0_2 N_0_1 g_b_0_1, X_0_2⟩
  refine ogo (fun _ k => st_0_2 _ k) ?_
  show OGo _ _ _ _ (T_0_2.setTop (mkF m 13 #[.val (.long va), .second, .val (.int vb), .val (.int vc), .val (.ref b_0_1), .unset, .unset, .unset, .unset, .unset] []))
  refine ogo (fun _ k => XS.aload X_0_2.here hx rfl (hb hby at_13) rfl rfl k) ?_
  show OGo _ _ _ _ (T_0_2.setTop (mkF m 15 #[.val (.long va), .second, .val (.int vb), .val (.int vc), .val (.ref b_0_1), .unset, .unset, .unset, .unset, .unset] [(.ref b_0_1)]))
  refine ogo (fun _ k => XS.iconst X_0_2.here hx rfl (hb hby at_15) k) ?_
  show OGo _ _ _ _ (T_0_2.setTop (mkF m 16 #[.val (.long va), .second, .val (.int vb), .val (.int vc), .val (.ref b_0_1), .unset, .unset, .unset, .unset, .unset] [(.int (1 : Int32)), (.ref b_0_1)]))
  refine ogo (fun _ k => XS.lloadN X_0_2.here hx rfl (hb hby at_16) rfl k) ?_
  show OGo _ _ _ _ (T_0_2.setTop (mkF m 17 #[.val (.long va), .second, .val (.int vb), .val (.int vc), .val (.ref b_0_1), .unset, .unset, .unset, .unset, .unset] [(.long va), (.int (1 : Int32)), (.ref b_0_1)]))
  refine ogo (fun _ k => XS.bipush X_0_2.here hx rfl (hb hby at_17) k) ?_
  show OGo _ _ _ _ (T_0_2.setTop (mkF m 19 #[.val (.long va), .second, .val (.int vb), .val (.int vc), .val (.ref b_0_1), .unset, .unset, .unset, .unset, .unset] [(.int (8 : Int32)), (.long va), (.int (1 : Int32)), (.ref b_0_1)]))
  refine ogo (fun _ k => XS.lushr X_0_2.here hx rfl (hb hby at_19) rfl k) ?_
  show OGo _ _ _ _ (T_0_2.setTop (mkF m 20 #[.val (.long va), .second, .val (.int vb), .val (.int vc), .val (.ref b_0_1), .unset, .unset, .unset, .unset, .unset] [(.long ((va.toUInt64 >>> ((8 : Int32) &&& 0x3f).toInt64.toUInt64).toInt64)), (.int (1 : Int32)), (.ref b_0_1)]))
  refine ogo (fun _ k => XS.l2i X_0_2.here hx rfl (hb hby at_20) rfl k) ?_
  show OGo _ _ _ _ (T_0_2.setTop (mkF m 21 #[.val (.long va), .second, .val (.int vb), .val (.int vc), .val (.ref b_0_1), .unset, .unset, .unset, .unset, .unset] [(.int (((va.toUInt64 >>> ((8 : Int32) &&& 0x3f).toInt64.toUInt64).toInt64).toInt32)), (.int (1 : Int32)), (.ref b_0_1)]))
  refine ogo (fun _ k => XS.i2b X_0_2.here hx rfl (hb hby at_21) rfl k) ?_
  show OGo _ _ _ _ (T_0_2.setTop (mkF m 22 #[.val (.long va), .second, .val (.int vb), .val (.int vc), .val (.ref b_0_1), .unset, .unset, .unset, .unset, .unset] [(.int ((((va.toUInt64 >>> ((8 : Int32) &&& 0x3f).toInt64.toUInt64).toInt64).toInt32).toInt8.toInt32)), (.int (1 : Int32)), (.ref b_0_1)]))
  obtain ⟨T_0_4, h_0_4, X_0_4, e_0_4, W_0_4, V_0_4, st_0_4⟩ := ostB X_0_2 hx hZ e_0_2 Y_0_2 (by decide) (by decide) (g := (mkF m 22 #[.val (.long va), .second, .val (.int vb), .val (.int vc), .val (.ref b_0_1), .unset, .unset, .unset, .unset, .unset] [(.int ((((va.toUInt64 >>> ((8 : Int32) &&& 0x3f).toInt64.toUInt64).toInt64).toInt32).toInt8.toInt32)), (.int (1 : Int32)), (.ref b_0_1)])) rfl rfl (hb hby at_22)
  have Y_0_4 : OAr Z h_0_4 b_0_1 .byte 8 (fun i => .int ((fun i : Nat => if i = ((1 : Int32)).toNatClampNeg then ((((va.toUInt64 >>> ((8 : Int32) &&& 0x3f).toInt64.toUInt64).toInt64).toInt32).toInt8.toInt32).toInt8.toInt32 else (fun i : Nat => if i = ((0 : Int32)).toNatClampNeg then ((va.toInt32).toInt8.toInt32).toInt8.toInt32 else (fun _ : Nat => (0 : Int32)) i) i) i)) := V_0_4.conv (fun i _ => by dsimp only; split <;> rfl)
  have f_0_5 := f_0_3.wr W_0_4
  have Z_0_4 : n0 ≤ h_0_4.size := Nat.le_trans Z_0_2 (Keep.of_wr W_0_4).1
  obtain ⟨lc_0_4, N_0_4, X_0_4⟩ : ∃ L, Fr n0 L ∧ Stand p l e room_1 s m #[(.long va), (.int vb), (.int vc)] below meth c T_0_4 L 1 8 := ⟨_, Fr.snoc X_0_4 N_0_2 g_b_0_1, X_0_4⟩
  refine ogo (fun _ k => st_0_4 _ k) ?_
  show OGo _ _ _ _ (T_0_4.setTop (mkF m 23 #[.val (.long va), .second, .val (.int vb), .val (.int vc), .val (.ref b_0_1), .unset, .unset, .unset, .unset, .unset] []))
  refine ogo (fun _ k => XS.aload X_0_4.here hx rfl (hb hby at_23) rfl rfl k) ?_
  show OGo _ _ _ _ (T_0_4.setTop (mkF m 25 #[.val (.long va), .second, .val (.int vb), .val (.int vc), .val (.ref b_0_1), .unset, .unset, .unset, .unset, .unset] [(.ref b_0_1)]))
  refine ogo (fun _ k => XS.iconst X_0_4.here hx rfl (hb hby at_25) k) ?_
  show OGo _ _ _ _ (T_0_4.setTop (mkF m 26 #[.val (.long va), .second, .val (.int vb), .val (.int vc), .val (.ref b_0_1), .unset, .unset, .unset, .unset, .unset] [(.int (2 : Int32)), (.ref b_0_1)]))
  refine ogo (fun _ k => XS.lloadN X_0_4.here hx rfl (hb hby at_26) rfl k) ?_
  show OGo _ _ _ _ (T_0_4.setTop (mkF m 27 #[.val (.long va), .second, .val (.int vb), .val (.int vc), .val (.ref b_0_1), .unset, .unset, .unset, .unset, .unset] [(.long va), (.int (2 : Int32)), (.ref b_0_1)]))
  refine ogo (fun _ k => XS.bipush X_0_4.here hx rfl (hb hby at_27) k) ?_
  show OGo _ _ _ _ (T_0_4.setTop (mkF m 29 #[.val (.long va), .second, .val (.int vb), .val (.int vc), .val (.ref b_0_1), .unset, .unset, .unset, .unset, .unset] [(.int (16 : Int32)), (.long va), (.int (2 : Int32)), (.ref b_0_1)]))
  refine ogo (fun _ k => XS.lushr X_0_4.here hx rfl (hb hby at_29) rfl k) ?_
  show OGo _ _ _ _ (T_0_4.setTop (mkF m 30 #[.val (.long va), .second, .val (.int vb), .val (.int vc), .val (.ref b_0_1), .unset, .unset, .unset, .unset, .unset] [(.long ((va.toUInt64 >>> ((16 : Int32) &&& 0x3f).toInt64.toUInt64).toInt64)), (.int (2 : Int32)), (.ref b_0_1)]))
  refine ogo (fun _ k => XS.l2i X_0_4.here hx rfl (hb hby at_30) rfl k) ?_
  show OGo _ _ _ _ (T_0_4.setTop (mkF m 31 #[.val (.long va), .second, .val (.int vb), .val (.int vc), .val (.ref b_0_1), .unset, .unset, .unset, .unset, .unset] [(.int (((va.toUInt64 >>> ((16 : Int32) &&& 0x3f).toInt64.toUInt64).toInt64).toInt32)), (.int (2 : Int32)), (.ref b_0_1)]))
  refine ogo (fun _ k => XS.i2b X_0_4.here hx rfl (hb hby at_31) rfl k) ?_
  show OGo _ _ _ _ (T_0_4.setTop (mkF m 32 #[.val (.long va), .second, .val (.int vb), .val (.int vc), .val (.ref b_0_1), .unset, .unset, .unset, .unset, .unset] [(.int ((((va.toUInt64 >>> ((16 : Int32) &&& 0x3f).toInt64.toUInt64).toInt64).toInt32).toInt8.toInt32)), (.int (2 : Int32)), (.ref b_0_1)]))
  obtain ⟨T_0_6, h_0_6, X_0_6, e_0_6, W_0_6, V_0_6, st_0_6⟩ := ostB X_0_4 hx hZ e_0_4 Y_0_4 (by decide) (by decide) (g := (mkF m 32 #[.val (.long va), .second, .val (.int vb), .val (.int vc), .val (.ref b_0_1), .unset, .unset, .unset, .unset, .unset] [(.int ((((va.toUInt64 >>> ((16 : Int32) &&& 0x3f).toInt64.toUInt64).toInt64).toInt32).toInt8.toInt32)), (.int (2 : Int32)), (.ref b_0_1)])) rfl rfl (hb hby at_32)
  have Y_0_6 : OAr Z h_0_6 b_0_1 .byte 8 (fun i => .int ((fun i : Nat => if i = ((2 : Int32)).toNatClampNeg then ((((va.toUInt64 >>> ((16 : Int32) &&& 0x3f).toInt64.toUInt64).toInt64).toInt32).toInt8.toInt32).toInt8.toInt32 else (fun i : Nat => if i = ((1 : Int32)).toNatClampNeg then ((((va.toUInt64 >>> ((8 : Int32) &&& 0x3f).toInt64.toUInt64).toInt64).toInt32).toInt8.toInt32).toInt8.toInt32 else (fun i : Nat => if i = ((0 : Int32)).toNatClampNeg then ((va.toInt32).toInt8.toInt32).toInt8.toInt32 else (fun _ : Nat => (0 : Int32)) i) i) i) i)) := V_0_6.conv (fun i _ => by dsimp only; split <;> rfl)
  have f_0_7 := f_0_5.wr W_0_6
  have Z_0_6 : n0 ≤ h_0_6.size := Nat.le_trans Z_0_4 (Keep.of_wr W_0_6).1
  obtain ⟨lc_0_6, N_0_6, X_0_6⟩ : ∃ L, Fr n0 L ∧ Stand p l e room_1 s m #[(.long va), (.int vb), (.int vc)] below meth c T_0_6 L 1 8 := ⟨_, Fr.snoc X_0_6 N_0_4 g_b_0_1, X_0_6⟩
  refine ogo (fun _ k => st_0_6 _ k) ?_
  show OGo _ _ _ _ (T_0_6.setTop (mkF m 33 #[.val (.long va), .second, .val (.int vb), .val (.int vc), .val (.ref b_0_1), .unset, .unset, .unset, .unset, .unset] []))
  refine ogo (fun _ k => XS.aload X_0_6.here hx rfl (hb hby at_33) rfl rfl k) ?_
  show OGo _ _ _ _ (T_0_6.setTop (mkF m 35 #[.val (.long va), .second, .val (.int vb), .val (.int vc), .val (.ref b_0_1), .unset, .unset, .unset, .unset, .unset] [(.ref b_0_1)]))
  refine ogo (fun _ k => XS.iconst X_0_6.here hx rfl (hb hby at_35) k) ?_
  show OGo _ _ _ _ (T_0_6.setTop (mkF m 36 #[.val (.long va), .second, .val (.int vb), .val (.int vc), .val (.ref b_0_1), .unset, .unset, .unset, .unset, .unset] [(.int (3 : Int32)), (.ref b_0_1)]))
  refine ogo (fun _ k => XS.lloadN X_0_6.here hx rfl (hb hby at_36) rfl k) ?_
  show OGo _ _ _ _ (T_0_6.setTop (mkF m 37 #[.val (.long va), .second, .val (.int vb), .val (.int vc), .val (.ref b_0_1), .unset, .unset, .unset, .unset, .unset] [(.long va), (.int (3 : Int32)), (.ref b_0_1)]))
  refine ogo (fun _ k => XS.bipush X_0_6.here hx rfl (hb hby at_37) k) ?_
  show OGo _ _ _ _ (T_0_6.setTop (mkF m 39 #[.val (.long va), .second, .val (.int vb), .val (.int vc), .val (.ref b_0_1), .unset, .unset, .unset, .unset, .unset] [(.int (24 : Int32)), (.long va), (.int (3 : Int32)), (.ref b_0_1)]))
  refine ogo (fun _ k => XS.lushr X_0_6.here hx rfl (hb hby at_39) rfl k) ?_
  show OGo _ _ _ _ (T_0_6.setTop (mkF m 40 #[.val (.long va), .second, .val (.int vb), .val (.int vc), .val (.ref b_0_1), .unset, .unset, .unset, .unset, .unset] [(.long ((va.toUInt64 >>> ((24 : Int32) &&& 0x3f).toInt64.toUInt64).toInt64)), (.int (3 : Int32)), (.ref b_0_1)]))
  refine ogo (fun _ k => XS.l2i X_0_6.here hx rfl (hb hby at_40) rfl k) ?_
  show OGo _ _ _ _ (T_0_6.setTop (mkF m 41 #[.val (.long va), .second, .val (.int vb), .val (.int vc), .val (.ref b_0_1), .unset, .unset, .unset, .unset, .unset] [(.int (((va.toUInt64 >>> ((24 : Int32) &&& 0x3f).toInt64.toUInt64).toInt64).toInt32)), (.int (3 : Int32)), (.ref b_0_1)]))
  refine ogo (fun _ k => XS.i2b X_0_6.here hx rfl (hb hby at_41) rfl k) ?_
  show OGo _ _ _ _ (T_0_6.setTop (mkF m 42 #[.val (.long va), .second, .val (.int vb), .val (.int vc), .val (.ref b_0_1), .unset, .unset, .unset, .unset, .unset] [(.int ((((va.toUInt64 >>> ((24 : Int32) &&& 0x3f).toInt64.toUInt64).toInt64).toInt32).toInt8.toInt32)), (.int (3 : Int32)), (.ref b_0_1)]))
  obtain ⟨T_0_8, h_0_8, X_0_8, e_0_8, W_0_8, V_0_8, st_0_8⟩ := ostB X_0_6 hx hZ e_0_6 Y_0_6 (by decide) (by decide) (g := (mkF m 42 #[.val (.long va), .second, .val (.int vb), .val (.int vc), .val (.ref b_0_1), .unset, .unset, .unset, .unset, .unset] [(.int ((((va.toUInt64 >>> ((24 : Int32) &&& 0x3f).toInt64.toUInt64).toInt64).toInt32).toInt8.toInt32)), (.int (3 : Int32)), (.ref b_0_1)])) rfl rfl (hb hby at_42)
  have Y_0_8 : OAr Z h_0_8 b_0_1 .byte 8 (fun i => .int ((fun i : Nat => if i = ((3 : Int32)).toNatClampNeg then ((((va.toUInt64 >>> ((24 : Int32) &&& 0x3f).toInt64.toUInt64).toInt64).toInt32).toInt8.toInt32).toInt8.toInt32 else (fun i : Nat => if i = ((2 : Int32)).toNatClampNeg then ((((va.toUInt64 >>> ((16 : Int32) &&& 0x3f).toInt64.toUInt64).toInt64).toInt32).toInt8.toInt32).toInt8.toInt32 else (fun i : Nat => if i = ((1 : Int32)).toNatClampNeg then ((((va.toUInt64 >>> ((8 : Int32) &&& 0x3f).toInt64.toUInt64).toInt64).toInt32).toInt8.toInt32).toInt8.toInt32 else (fun i : Nat => if i = ((0 : Int32)).toNatClampNeg then ((va.toInt32).toInt8.toInt32).toInt8.toInt32 else (fun _ : Nat => (0 : Int32)) i) i) i) i) i)) := V_0_8.conv (fun i _ => by dsimp only; split <;> rfl)
  have f_0_9 := f_0_7.wr W_0_8
  have Z_0_8 : n0 ≤ h_0_8.size := Nat.le_trans Z_0_6 (Keep.of_wr W_0_8).1
  obtain ⟨lc_0_8, N_0_8, X_0_8⟩ : ∃ L, Fr n0 L ∧ Stand p l e room_1 s m #[(.long va), (.int vb), (.int vc)] below meth c T_0_8 L 1 8 := ⟨_, Fr.snoc X_0_8 N_0_6 g_b_0_1, X_0_8⟩
  refine ogo (fun _ k => st_0_8 _ k) ?_
  show OGo _ _ _ _ (T_0_8.setTop (mkF m 43 #[.val (.long va), .second, .val (.int vb), .val (.int vc), .val (.ref b_0_1), .unset, .unset, .unset, .unset, .unset] []))
  refine ogo (fun _ k => XS.aload X_0_8.here hx rfl (hb hby at_43) rfl rfl k) ?_
  show OGo _ _ _ _ (T_0_8.setTop (mkF m 45 #[.val (.long va), .second, .val (.int vb), .val (.int vc), .val (.ref b_0_1), .unset, .unset, .unset, .unset, .unset] [(.ref b_0_1)]))
  refine ogo (fun _ k => XS.iconst X_0_8.here hx rfl (hb hby at_45) k) ?_
  show OGo _ _ _ _ (T_0_8.setTop (mkF m 46 #[.val (.long va), .second, .val (.int vb), .val (.int vc), .val (.ref b_0_1), .unset, .unset, .unset, .unset, .unset] [(.int (4 : Int32)), (.ref b_0_1)]))
  refine ogo (fun _ k => XS.lloadN X_0_8.here hx rfl (hb hby at_46) rfl k) ?_
  show OGo _ _ _ _ (T_0_8.setTop (mkF m 47 #[.val (.long va), .second, .val (.int vb), .val (.int vc), .val (.ref b_0_1), .unset, .unset, .unset, .unset, .unset] [(.long va), (.int (4 : Int32)), (.ref b_0_1)]))
  refine ogo (fun _ k => XS.bipush X_0_8.here hx rfl (hb hby at_47) k) ?_
  show OGo _ _ _ _ (T_0_8.setTop (mkF m 49 #[.val (.long va), .second, .val (.int vb), .val (.int vc), .val (.ref b_0_1), .unset, .unset, .unset, .unset, .unset] [(.int (32 : Int32)), (.long va), (.int (4 : Int32)), (.ref b_0_1)]))
  refine ogo (fun _ k => XS.lushr X_0_8.here hx rfl (hb hby at_49) rfl k) ?_
  show OGo _ _ _ _ (T_0_8.setTop (mkF m 50 #[.val (.long va), .second, .val (.int vb), .val (.int vc), .val (.ref b_0_1), .unset, .unset, .unset, .unset, .unset] [(.long ((va.toUInt64 >>> ((32 : Int32) &&& 0x3f).toInt64.toUInt64).toInt64)), (.int (4 : Int32)), (.ref b_0_1)]))
  refine ogo (fun _ k => XS.l2i X_0_8.here hx rfl (hb hby at_50) rfl k) ?_
  show OGo _ _ _ _ (T_0_8.setTop (mkF m 51 #[.val (.long va), .second, .val (.int vb), .val (.int vc), .val (.ref b_0_1), .unset, .unset, .unset, .unset, .unset] [(.int (((va.toUInt64 >>> ((32 : Int32) &&& 0x3f).toInt64.toUInt64).toInt64).toInt32)), (.int (4 : Int32)), (.ref b_0_1)]))
  refine ogo (fun _ k => XS.i2b X_0_8.here hx rfl (hb hby at_51) rfl k) ?_
  show OGo _ _ _ _ (T_0_8.setTop (mkF m 52 #[.val (.long va), .second, .val (.int vb), .val (.int vc), .val (.ref b_0_1), .unset, .unset, .unset, .unset, .unset] [(.int ((((va.toUInt64 >>> ((32 : Int32) &&& 0x3f).toInt64.toUInt64).toInt64).toInt32).toInt8.toInt32)), (.int (4 : Int32)), (.ref b_0_1)]))
  obtain ⟨T_0_10, h_0_10, X_0_10, e_0_10, W_0_10, V_0_10, st_0_10⟩ := ostB X_0_8 hx hZ e_0_8 Y_0_8 (by decide) (by decide) (g := (mkF m 52 #[.val (.long va), .second, .val (.int vb), .val (.int vc), .val (.ref b_0_1), .unset, .unset, .unset, .unset, .unset] [(.int ((((va.toUInt64 >>> ((32 : Int32) &&& 0x3f).toInt64.toUInt64).toInt64).toInt32).toInt8.toInt32)), (.int (4 : Int32)), (.ref b_0_1)])) rfl rfl (hb hby at_52)
  have Y_0_10 : OAr Z h_0_10 b_0_1 .byte 8 (fun i => .int ((fun i : Nat => if i = ((4 : Int32)).toNatClampNeg then ((((va.toUInt64 >>> ((32 : Int32) &&& 0x3f).toInt64.toUInt64).toInt64).toInt32).toInt8.toInt32).toInt8.toInt32 else (fun i : Nat => if i = ((3 : Int32)).toNatClampNeg then ((((va.toUInt64 >>> ((24 : Int32) &&& 0x3f).toInt64.toUInt64).toInt64).toInt32).toInt8.toInt32).toInt8.toInt32 else (fun i : Nat => if i = ((2 : Int32)).toNatClampNeg then ((((va.toUInt64 >>> ((16 : Int32) &&& 0x3f).toInt64.toUInt64).toInt64).toInt32).toInt8.toInt32).toInt8.toInt32 else (fun i : Nat => if i = ((1 : Int32)).toNatClampNeg then ((((va.toUInt64 >>> ((8 : Int32) &&& 0x3f).toInt64.toUInt64).toInt64).toInt32).toInt8.toInt32).toInt8.toInt32 else (fun i : Nat => if i = ((0 : Int32)).toNatClampNeg then ((va.toInt32).toInt8.toInt32).toInt8.toInt32 else (fun _ : Nat => (0 : Int32)) i) i) i) i) i) i)) := V_0_10.conv (fun i _ => by dsimp only; split <;> rfl)
  have f_0_11 := f_0_9.wr W_0_10
  have Z_0_10 : n0 ≤ h_0_10.size := Nat.le_trans Z_0_8 (Keep.of_wr W_0_10).1
  obtain ⟨lc_0_10, N_0_10, X_0_10⟩ : ∃ L, Fr n0 L ∧ Stand p l e room_1 s m #[(.long va), (.int vb), (.int vc)] below meth c T_0_10 L 1 8 := ⟨_, Fr.snoc X_0_10 N_0_8 g_b_0_1, X_0_10⟩
  refine ogo (fun _ k => st_0_10 _ k) ?_
  show OGo _ _ _ _ (T_0_10.setTop (mkF m 53 #[.val (.long va), .second, .val (.int vb), .val (.int vc), .val (.ref b_0_1), .unset, .unset, .unset, .unset, .unset] []))
  refine ogo (fun _ k => XS.aload X_0_10.here hx rfl (hb hby at_53) rfl rfl k) ?_
  show OGo _ _ _ _ (T_0_10.setTop (mkF m 55 #[.val (.long va), .second, .val (.int vb), .val (.int vc), .val (.ref b_0_1), .unset, .unset, .unset, .unset, .unset] [(.ref b_0_1)]))
  refine ogo (fun _ k => XS.iconst X_0_10.here hx rfl (hb hby at_55) k) ?_
  show OGo _ _ _ _ (T_0_10.setTop (mkF m 56 #[.val (.long va), .second, .val (.int vb), .val (.int vc), .val (.ref b_0_1), .unset, .unset, .unset, .unset, .unset] [(.int (5 : Int32)), (.ref b_0_1)]))
  refine ogo (fun _ k => XS.lloadN X_0_10.here hx rfl (hb hby at_56) rfl k) ?_
  show OGo _ _ _ _ (T_0_10.setTop (mkF m 57 #[.val (.long va), .second, .val (.int vb), .val (.int vc), .val (.ref b_0_1), .unset, .unset, .unset, .unset, .unset] [(.long va), (.int (5 : Int32)), (.ref b_0_1)]))
  refine ogo (fun _ k => XS.bipush X_0_10.here hx rfl (hb hby at_57) k) ?_
  show OGo _ _ _ _ (T_0_10.setTop (mkF m 59 #[.val (.long va), .second, .val (.int vb), .val (.int vc), .val (.ref b_0_1), .unset, .unset, .unset, .unset, .unset] [(.int (40 : Int32)), (.long va), (.int (5 : Int32)), (.ref b_0_1)]))
  refine ogo (fun _ k => XS.lushr X_0_10.here hx rfl (hb hby at_59) rfl k) ?_
  show OGo _ _ _ _ (T_0_10.setTop (mkF m 60 #[.val (.long va), .second, .val (.int vb), .val (.int vc), .val (.ref b_0_1), .unset, .unset, .unset, .unset, .unset] [(.long ((va.toUInt64 >>> ((40 : Int32) &&& 0x3f).toInt64.toUInt64).toInt64)), (.int (5 : Int32)), (.ref b_0_1)]))
  refine ogo (fun _ k => XS.l2i X_0_10.here hx rfl (hb hby at_60) rfl k) ?_
  show OGo _ _ _ _ (T_0_10.setTop (mkF m 61 #[.val (.long va), .second, .val (.int vb), .val (.int vc), .val (.ref b_0_1), .unset, .unset, .unset, .unset, .unset] [(.int (((va.toUInt64 >>> ((40 : Int32) &&& 0x3f).toInt64.toUInt64).toInt64).toInt32)), (.int (5 : Int32)), (.ref b_0_1)]))
  refine ogo (fun _ k => XS.i2b X_0_10.here hx rfl (hb hby at_61) rfl k) ?_
  show OGo _ _ _ _ (T_0_10.setTop (mkF m 62 #[.val (.long va), .second, .val (.int vb), .val (.int vc), .val (.ref b_0_1), .unset, .unset, .unset, .unset, .unset] [(.int ((((va.toUInt64 >>> ((40 : Int32) &&& 0x3f).toInt64.toUInt64).toInt64).toInt32).toInt8.toInt32)), (.int (5 : Int32)), (.ref b_0_1)]))
  obtain ⟨T_0_12, h_0_12, X_0_12, e_0_12, W_0_12, V_0_12, st_0_12⟩ := ostB X_0_10 hx hZ e_0_10 Y_0_10 (by decide) (by decide) (g := (mkF m 62 #[.val (.long va), .second, .val (.int vb), .val (.int vc), .val (.ref b_0_1), .unset, .unset, .unset, .unset, .unset] [(.int ((((va.toUInt64 >>> ((40 : Int32) &&& 0x3f).toInt64.toUInt64).toInt64).toInt32).toInt8.toInt32)), (.int (5 : Int32)), (.ref b_0_1)])) rfl rfl (hb hby at_62)
  have Y_0_12 : OAr Z h_0_12 b_0_1 .byte 8 (fun i => .int ((fun i : Nat => if i = ((5 : Int32)).toNatClampNeg then ((((va.toUInt64 >>> ((40 : Int32) &&& 0x3f).toInt64.toUInt64).toInt64).toInt32).toInt8.toInt32).toInt8.toInt32 else (fun i : Nat => if i = ((4 : Int32)).toNatClampNeg then ((((va.toUInt64 >>> ((32 : Int32) &&& 0x3f).toInt64.toUInt64).toInt64).toInt32).toInt8.toInt32).toInt8.toInt32 else (fun i : Nat => if i = ((3 : Int32)).toNatClampNeg then ((((va.toUInt64 >>> ((24 : Int32) &&& 0x3f).toInt64.toUInt64).toInt64).toInt32).toInt8.toInt32).toInt8.toInt32 else (fun i : Nat => if i = ((2 : Int32)).toNatClampNeg then ((((va.toUInt64 >>> ((16 : Int32) &&& 0x3f).toInt64.toUInt64).toInt64).toInt32).toInt8.toInt32).toInt8.toInt32 else (fun i : Nat => if i = ((1 : Int32)).toNatClampNeg then ((((va.toUInt64 >>> ((8 : Int32) &&& 0x3f).toInt64.toUInt64).toInt64).toInt32).toInt8.toInt32).toInt8.toInt32 else (fun i : Nat => if i = ((0 : Int32)).toNatClampNeg then ((va.toInt32).toInt8.toInt32).toInt8.toInt32 else (fun _ : Nat => (0 : Int32)) i) i) i) i) i) i) i)) := V_0_12.conv (fun i _ => by dsimp only; split <;> rfl)
  have f_0_13 := f_0_11.wr W_0_12
  have Z_0_12 : n0 ≤ h_0_12.size := Nat.le_trans Z_0_10 (Keep.of_wr W_0_12).1
  obtain ⟨lc_0_12, N_0_12, X_0_12⟩ : ∃ L, Fr n0 L ∧ Stand p l e room_1 s m #[(.long va), (.int vb), (.int vc)] below meth c T_0_12 L 1 8 := ⟨_, Fr.snoc X_0_12 N_0_10 g_b_0_1, X_0_12⟩
  refine ogo (fun _ k => st_0_12 _ k) ?_
  show OGo _ _ _ _ (T_0_12.setTop (mkF m 63 #[.val (.long va), .second, .val (.int vb), .val (.int vc), .val (.ref b_0_1), .unset, .unset, .unset, .unset, .unset] []))
  refine ogo (fun _ k => XS.aload X_0_12.here hx rfl (hb hby at_63) rfl rfl k) ?_
  show OGo _ _ _ _ (T_0_12.setTop (mkF m 65 #[.val (.long va), .second, .val (.int vb), .val (.int vc), .val (.ref b_0_1), .unset, .unset, .unset, .unset, .unset] [(.ref b_0_1)]))
  refine ogo (fun _ k => XS.bipush X_0_12.here hx rfl (hb hby at_65) k) ?_
  show OGo _ _ _ _ (T_0_12.setTop (mkF m 67 #[.val (.long va), .second, .val (.int vb), .val (.int vc), .val (.ref b_0_1), .unset, .unset, .unset, .unset, .unset] [(.int (6 : Int32)), (.ref b_0_1)]))
  refine ogo (fun _ k => XS.lloadN X_0_12.here hx rfl (hb hby at_67) rfl k) ?_
  show OGo _ _ _ _ (T_0_12.setTop (mkF m 68 #[.val (.long va), .second, .val (.int vb), .val (.int vc), .val (.ref b_0_1), .unset, .unset, .unset, .unset, .unset] [(.long va), (.int (6 : Int32)), (.ref b_0_1)]))
  refine ogo (fun _ k => XS.bipush X_0_12.here hx rfl (hb hby at_68) k) ?_
  show OGo _ _ _ _ (T_0_12.setTop (mkF m 70 #[.val (.long va), .second, .val (.int vb), .val (.int vc), .val (.ref b_0_1), .unset, .unset, .unset, .unset, .unset] [(.int (48 : Int32)), (.long va), (.int (6 : Int32)), (.ref b_0_1)]))
  refine ogo (fun _ k => XS.lushr X_0_12.here hx rfl (hb hby at_70) rfl k) ?_
  show OGo _ _ _ _ (T_0_12.setTop (mkF m 71 #[.val (.long va), .second, .val (.int vb), .val (.int vc), .val (.ref b_0_1), .unset, .unset, .unset, .unset, .unset] [(.long ((va.toUInt64 >>> ((48 : Int32) &&& 0x3f).toInt64.toUInt64).toInt64)), (.int (6 : Int32)), (.ref b_0_1)]))
  refine ogo (fun _ k => XS.l2i X_0_12.here hx rfl (hb hby at_71) rfl k) ?_
  show OGo _ _ _ _ (T_0_12.setTop (mkF m 72 #[.val (.long va), .second, .val (.int vb), .val (.int vc), .val (.ref b_0_1), .unset, .unset, .unset, .unset, .unset] [(.int (((va.toUInt64 >>> ((48 : Int32) &&& 0x3f).toInt64.toUInt64).toInt64).toInt32)), (.int (6 : Int32)), (.ref b_0_1)]))
  refine ogo (fun _ k => XS.i2b X_0_12.here hx rfl (hb hby at_72) rfl k) ?_
  show OGo _ _ _ _ (T_0_12.setTop (mkF m 73 #[.val (.long va), .second, .val (.int vb), .val (.int vc), .val (.ref b_0_1), .unset, .unset, .unset, .unset, .unset] [(.int ((((va.toUInt64 >>> ((48 : Int32) &&& 0x3f).toInt64.toUInt64).toInt64).toInt32).toInt8.toInt32)), (.int (6 : Int32)), (.ref b_0_1)]))
  obtain ⟨T_0_14, h_0_14, X_0_14, e_0_14, W_0_14, V_0_14, st_0_14⟩ := ostB X_0_12 hx hZ e_0_12 Y_0_12 (by decide) (by decide) (g := (mkF m 73 #[.val (.long va), .second, .val (.int vb), .val (.int vc), .val (.ref b_0_1), .unset, .unset, .unset, .unset, .unset] [(.int ((((va.toUInt64 >>> ((48 : Int32) &&& 0x3f).toInt64.toUInt64).toInt64).toInt32).toInt8.toInt32)), (.int (6 : Int32)), (.ref b_0_1)])) rfl rfl (hb hby at_73)
  have Y_0_14 : OAr Z h_0_14 b_0_1 .byte 8 (fun i => .int ((fun i : Nat => if i = ((6 : Int32)).toNatClampNeg then ((((va.toUInt64 >>> ((48 : Int32) &&& 0x3f).toInt64.toUInt64).toInt64).toInt32).toInt8.toInt32).toInt8.toInt32 else (fun i : Nat => if i = ((5 : Int32)).toNatClampNeg then ((((va.toUInt64 >>> ((40 : Int32) &&& 0x3f).toInt64.toUInt64).toInt64).toInt32).toInt8.toInt32).toInt8.toInt32 else (fun i : Nat => if i = ((4 : Int32)).toNatClampNeg then ((((va.toUInt64 >>> ((32 : Int32) &&& 0x3f).toInt64.toUInt64).toInt64).toInt32).toInt8.toInt32).toInt8.toInt32 else (fun i : Nat => if i = ((3 : Int32)).toNatClampNeg then ((((va.toUInt64 >>> ((24 : Int32) &&& 0x3f).toInt64.toUInt64).toInt64).toInt32).toInt8.toInt32).toInt8.toInt32 else (fun i : Nat => if i = ((2 : Int32)).toNatClampNeg then ((((va.toUInt64 >>> ((16 : Int32) &&& 0x3f).toInt64.toUInt64).toInt64).toInt32).toInt8.toInt32).toInt8.toInt32 else (fun i : Nat => if i = ((1 : Int32)).toNatClampNeg then ((((va.toUInt64 >>> ((8 : Int32) &&& 0x3f).toInt64.toUInt64).toInt64).toInt32).toInt8.toInt32).toInt8.toInt32 else (fun i : Nat => if i = ((0 : Int32)).toNatClampNeg then ((va.toInt32).toInt8.toInt32).toInt8.toInt32 else (fun _ : Nat => (0 : Int32)) i) i) i) i) i) i) i) i)) := V_0_14.conv (fun i _ => by dsimp only; split <;> rfl)
  have f_0_15 := f_0_13.wr W_0_14
  have Z_0_14 : n0 ≤ h_0_14.size := Nat.le_trans Z_0_12 (Keep.of_wr W_0_14).1
  obtain ⟨lc_0_14, N_0_14, X_0_14⟩ : ∃ L, Fr n0 L ∧ Stand p l e room_1 s m #[(.long va), (.int vb), (.int vc)] below meth c T_0_14 L 1 8 := ⟨_, Fr.snoc X_0_14 N_0_12 g_b_0_1, X_0_14⟩
  refine ogo (fun _ k => st_0_14 _ k) ?_
  show OGo _ _ _ _ (T_0_14.setTop (mkF m 74 #[.val (.long va), .second, .val (.int vb), .val (.int vc), .val (.ref b_0_1), .unset, .unset, .unset, .unset, .unset] []))
  refine ogo (fun _ k => XS.aload X_0_14.here hx rfl (hb hby at_74) rfl rfl k) ?_
  show OGo _ _ _ _ (T_0_14.setTop (mkF m 76 #[.val (.long va), .second, .val (.int vb), .val (.int vc), .val (.ref b_0_1), .unset, .unset, .unset, .unset, .unset] [(.ref b_0_1)]))
  refine ogo (fun _ k => XS.bipush X_0_14.here hx rfl (hb hby at_76) k) ?_
  show OGo _ _ _ _ (T_0_14.setTop (mkF m 78 #[.val (.long va), .second, .val (.int vb), .val (.int vc), .val (.ref b_0_1), .unset, .unset, .unset, .unset, .unset] [(.int (7 : Int32)), (.ref b_0_1)]))
  refine ogo (fun _ k => XS.lloadN X_0_14.here hx rfl (hb hby at_78) rfl k) ?_
  show OGo _ _ _ _ (T_0_14.setTop (mkF m 79 #[.val (.long va), .second, .val (.int vb), .val (.int vc), .val (.ref b_0_1), .unset, .unset, .unset, .unset, .unset] [(.long va), (.int (7 : Int32)), (.ref b_0_1)]))
  refine ogo (fun _ k => XS.bipush X_0_14.here hx rfl (hb hby at_79) k) ?_
  show OGo _ _ _ _ (T_0_14.setTop (mkF m 81 #[.val (.long va), .second, .val (.int vb), .val (.int vc), .val (.ref b_0_1), .unset, .unset, .unset, .unset, .unset] [(.int (56 : Int32)), (.long va), (.int (7 : Int32)), (.ref b_0_1)]))
  refine ogo (fun _ k => XS.lushr X_0_14.here hx rfl (hb hby at_81) rfl k) ?_
  show OGo _ _ _ _ (T_0_14.setTop (mkF m 82 #[.val (.long va), .second, .val (.int vb), .val (.int vc), .val (.ref b_0_1), .unset, .unset, .unset, .unset, .unset] [(.long ((va.toUInt64 >>> ((56 : Int32) &&& 0x3f).toInt64.toUInt64).toInt64)), (.int (7 : Int32)), (.ref b_0_1)]))
  refine ogo (fun _ k => XS.l2i X_0_14.here hx rfl (hb hby at_82) rfl k) ?_
  show OGo _ _ _ _ (T_0_14.setTop (mkF m 83 #[.val (.long va), .second, .val (.int vb), .val (.int vc), .val (.ref b_0_1), .unset, .unset, .unset, .unset, .unset] [(.int (((va.toUInt64 >>> ((56 : Int32) &&& 0x3f).toInt64.toUInt64).toInt64).toInt32)), (.int (7 : Int32)), (.ref b_0_1)]))
  refine ogo (fun _ k => XS.i2b X_0_14.here hx rfl (hb hby at_83) rfl k) ?_
  show OGo _ _ _ _ (T_0_14.setTop (mkF m 84 #[.val (.long va), .second, .val (.int vb), .val (.int vc), .val (.ref b_0_1), .unset, .unset, .unset, .unset, .unset] [(.int ((((va.toUInt64 >>> ((56 : Int32) &&& 0x3f).toInt64.toUInt64).toInt64).toInt32).toInt8.toInt32)), (.int (7 : Int32)), (.ref b_0_1)]))
  obtain ⟨T_0_16, h_0_16, X_0_16, e_0_16, W_0_16, V_0_16, st_0_16⟩ := ostB X_0_14 hx hZ e_0_14 Y_0_14 (by decide) (by decide) (g := (mkF m 84 #[.val (.long va), .second, .val (.int vb), .val (.int vc), .val (.ref b_0_1), .unset, .unset, .unset, .unset, .unset] [(.int ((((va.toUInt64 >>> ((56 : Int32) &&& 0x3f).toInt64.toUInt64).toInt64).toInt32).toInt8.toInt32)), (.int (7 : Int32)), (.ref b_0_1)])) rfl rfl (hb hby at_84)
  have Y_0_16 : OAr Z h_0_16 b_0_1 .byte 8 (fun i => .int ((fun i : Nat => if i = ((7 : Int32)).toNatClampNeg then ((((va.toUInt64 >>> ((56 : Int32) &&& 0x3f).toInt64.toUInt64).toInt64).toInt32).toInt8.toInt32).toInt8.toInt32 else (fun i : Nat => if i = ((6 : Int32)).toNatClampNeg then ((((va.toUInt64 >>> ((48 : Int32) &&& 0x3f).toInt64.toUInt64).toInt64).toInt32).toInt8.toInt32).toInt8.toInt32 else (fun i : Nat => if i = ((5 : Int32)).toNatClampNeg then ((((va.toUInt64 >>> ((40 : Int32) &&& 0x3f).toInt64.toUInt64).toInt64).toInt32).toInt8.toInt32).toInt8.toInt32 else (fun i : Nat => if i = ((4 : Int32)).toNatClampNeg then ((((va.toUInt64 >>> ((32 : Int32) &&& 0x3f).toInt64.toUInt64).toInt64).toInt32).toInt8.toInt32).toInt8.toInt32 else (fun i : Nat => if i = ((3 : Int32)).toNatClampNeg then ((((va.toUInt64 >>> ((24 : Int32) &&& 0x3f).toInt64.toUInt64).toInt64).toInt32).toInt8.toInt32).toInt8.toInt32 else (fun i : Nat => if i = ((2 : Int32)).toNatClampNeg then ((((va.toUInt64 >>> ((16 : Int32) &&& 0x3f).toInt64.toUInt64).toInt64).toInt32).toInt8.toInt32).toInt8.toInt32 else (fun i : Nat => if i = ((1 : Int32)).toNatClampNeg then ((((va.toUInt64 >>> ((8 : Int32) &&& 0x3f).toInt64.toUInt64).toInt64).toInt32).toInt8.toInt32).toInt8.toInt32 else (fun i : Nat => if i = ((0 : Int32)).toNatClampNeg then ((va.toInt32).toInt8.toInt32).toInt8.toInt32 else (fun _ : Nat => (0 : Int32)) i) i) i) i) i) i) i) i) i)) := V_0_16.conv (fun i _ => by dsimp only; split <;> rfl)
  have f_0_17 := f_0_15.wr W_0_16
  have Z_0_16 : n0 ≤ h_0_16.size := Nat.le_trans Z_0_14 (Keep.of_wr W_0_16).1
  obtain ⟨lc_0_16, N_0_16, X_0_16⟩ : ∃ L, Fr n0 L ∧ Stand p l e room_1 s m #[(.long va), (.int vb), (.int vc)] below meth c T_0_16 L 1 8 := ⟨_, Fr.snoc X_0_16 N_0_14 g_b_0_1, X_0_16⟩
  refine ogo (fun _ k => st_0_16 _ k) ?_
  show OGo _ _ _ _ (T_0_16.setTop (mkF m 85 #[.val (.long va), .second, .val (.int vb), .val (.int vc), .val (.ref b_0_1), .unset, .unset, .unset, .unset, .unset] []))
  obtain ⟨fb, Yfb⟩ : ∃ g : Nat → Int32, OAr Z h_0_16 b_0_1 .byte 8 (fun i => .int (g i)) := ⟨_, Y_0_16⟩
  refine ogo (fun _ k => XS.iloadN X_0_16.here hx rfl (hb hby at_85) rfl k) ?_
  show OGo _ _ _ _ (T_0_16.setTop (mkF m 86 #[.val (.long va), .second, .val (.int vb), .val (.int vc), .val (.ref b_0_1), .unset, .unset, .unset, .unset, .unset] [(.int vb)]))
  refine ogo (fun _ k => XS.bipush X_0_16.here hx rfl (hb hby at_86) k) ?_
  show OGo _ _ _ _ (T_0_16.setTop (mkF m 88 #[.val (.long va), .second, .val (.int vb), .val (.int vc), .val (.ref b_0_1), .unset, .unset, .unset, .unset, .unset] [(.int (15 : Int32)), (.int vb)]))
  refine ogo (fun _ k => XS.iand X_0_16.here hx rfl (hb hby at_88) rfl k) ?_
  show OGo _ _ _ _ (T_0_16.setTop (mkF m 89 #[.val (.long va), .second, .val (.int vb), .val (.int vc), .val (.ref b_0_1), .unset, .unset, .unset, .unset, .unset] [(.int (vb &&& (15 : Int32)))]))
  refine ogo (fun _ k => XS.bipush X_0_16.here hx rfl (hb hby at_89) k) ?_
  show OGo _ _ _ _ (T_0_16.setTop (mkF m 91 #[.val (.long va), .second, .val (.int vb), .val (.int vc), .val (.ref b_0_1), .unset, .unset, .unset, .unset, .unset] [(.int (9 : Int32)), (.int (vb &&& (15 : Int32)))]))
  refine ogo (fun _ k => iremM X_0_16 hx rfl (hb hby at_91) rfl (by decide) k) ?_
  show OGo _ _ _ _ (T_0_16.setTop (mkF m 92 #[.val (.long va), .second, .val (.int vb), .val (.int vc), .val (.ref b_0_1), .unset, .unset, .unset, .unset, .unset] [(.int ((vb &&& (15 : Int32)) % (9 : Int32)))]))
  suffices Nw_0_18 : ∀ w_0_18 : Int32, w_0_18 = ((vb &&& (15 : Int32)) % (9 : Int32)) → OGo p.tables e below (OFin s (fun v _ L => v = some (.int 1) ∧ Fr n0 L) 16 128) (T_0_16.setTop (mkF m 92 #[.val (.long va), .second, .val (.int vb), .val (.int vc), .val (.ref b_0_1), .unset, .unset, .unset, .unset, .unset] [(.int w_0_18)])) from Nw_0_18 _ rfl
  intro w_0_18 hw_0_18
  refine ogo (fun _ k => XS.istore X_0_16.here hx rfl (hb hby at_92) rfl (l' := #[.val (.long va), .second, .val (.int vb), .val (.int vc), .val (.ref b_0_1), .val (.int w_0_18), .unset, .unset, .unset, .unset]) rfl k) ?_
  show OGo _ _ _ _ (T_0_16.setTop (mkF m 94 #[.val (.long va), .second, .val (.int vb), .val (.int vc), .val (.ref b_0_1), .val (.int w_0_18), .unset, .unset, .unset, .unset] []))
  refine ogo (fun _ k => XS.iloadN X_0_16.here hx rfl (hb hby at_94) rfl k) ?_
  show OGo _ _ _ _ (T_0_16.setTop (mkF m 95 #[.val (.long va), .second, .val (.int vb), .val (.int vc), .val (.ref b_0_1), .val (.int w_0_18), .unset, .unset, .unset, .unset] [(.int vb)]))
  refine ogo (fun _ k => XS.iconst X_0_16.here hx rfl (hb hby at_95) k) ?_
  show OGo _ _ _ _ (T_0_16.setTop (mkF m 96 #[.val (.long va), .second, .val (.int vb), .val (.int vc), .val (.ref b_0_1), .val (.int w_0_18), .unset, .unset, .unset, .unset] [(.int (4 : Int32)), (.int vb)]))
  refine ogo (fun _ k => XS.iushr X_0_16.here hx rfl (hb hby at_96) rfl k) ?_
  show OGo _ _ _ _ (T_0_16.setTop (mkF m 97 #[.val (.long va), .second, .val (.int vb), .val (.int vc), .val (.ref b_0_1), .val (.int w_0_18), .unset, .unset, .unset, .unset] [(.int ((vb.toUInt32 >>> ((4 : Int32) &&& 31).toUInt32).toInt32))]))
  refine ogo (fun _ k => XS.bipush X_0_16.here hx rfl (hb hby at_97) k) ?_
  show OGo _ _ _ _ (T_0_16.setTop (mkF m 99 #[.val (.long va), .second, .val (.int vb), .val (.int vc), .val (.ref b_0_1), .val (.int w_0_18), .unset, .unset, .unset, .unset] [(.int (15 : Int32)), (.int ((vb.toUInt32 >>> ((4 : Int32) &&& 31).toUInt32).toInt32))]))
  refine ogo (fun _ k => XS.iand X_0_16.here hx rfl (hb hby at_99) rfl k) ?_
  show OGo _ _ _ _ (T_0_16.setTop (mkF m 100 #[.val (.long va), .second, .val (.int vb), .val (.int vc), .val (.ref b_0_1), .val (.int w_0_18), .unset, .unset, .unset, .unset] [(.int (((vb.toUInt32 >>> ((4 : Int32) &&& 31).toUInt32).toInt32) &&& (15 : Int32)))]))
  refine ogo (fun _ k => XS.bipush X_0_16.here hx rfl (hb hby at_100) k) ?_
  show OGo _ _ _ _ (T_0_16.setTop (mkF m 102 #[.val (.long va), .second, .val (.int vb), .val (.int vc), .val (.ref b_0_1), .val (.int w_0_18), .unset, .unset, .unset, .unset] [(.int (9 : Int32)), (.int (((vb.toUInt32 >>> ((4 : Int32) &&& 31).toUInt32).toInt32) &&& (15 : Int32)))]))
  refine ogo (fun _ k => iremM X_0_16 hx rfl (hb hby at_102) rfl (by decide) k) ?_
  show OGo _ _ _ _ (T_0_16.setTop (mkF m 103 #[.val (.long va), .second, .val (.int vb), .val (.int vc), .val (.ref b_0_1), .val (.int w_0_18), .unset, .unset, .unset, .unset] [(.int ((((vb.toUInt32 >>> ((4 : Int32) &&& 31).toUInt32).toInt32) &&& (15 : Int32)) % (9 : Int32)))]))
  suffices Nw_0_19 : ∀ w_0_19 : Int32, w_0_19 = ((((vb.toUInt32 >>> ((4 : Int32) &&& 31).toUInt32).toInt32) &&& (15 : Int32)) % (9 : Int32)) → OGo p.tables e below (OFin s (fun v _ L => v = some (.int 1) ∧ Fr n0 L) 16 128) (T_0_16.setTop (mkF m 103 #[.val (.long va), .second, .val (.int vb), .val (.int vc), .val (.ref b_0_1), .val (.int w_0_18), .unset, .unset, .unset, .unset] [(.int w_0_19)])) from Nw_0_19 _ rfl
  intro w_0_19 hw_0_19
  refine ogo (fun _ k => XS.istore X_0_16.here hx rfl (hb hby at_103) rfl (l' := #[.val (.long va), .second, .val (.int vb), .val (.int vc), .val (.ref b_0_1), .val (.int w_0_18), .val (.int w_0_19), .unset, .unset, .unset]) rfl k) ?_
  show OGo _ _ _ _ (T_0_16.setTop (mkF m 105 #[.val (.long va), .second, .val (.int vb), .val (.int vc), .val (.ref b_0_1), .val (.int w_0_18), .val (.int w_0_19), .unset, .unset, .unset] []))
  refine ogo (fun _ k => XS.iloadN X_0_16.here hx rfl (hb hby at_105) rfl k) ?_
  show OGo _ _ _ _ (T_0_16.setTop (mkF m 106 #[.val (.long va), .second, .val (.int vb), .val (.int vc), .val (.ref b_0_1), .val (.int w_0_18), .val (.int w_0_19), .unset, .unset, .unset] [(.int vc)]))
  refine ogo (fun _ k => XS.sipush X_0_16.here hx rfl (hb hby at_106) k) ?_
  show OGo _ _ _ _ (T_0_16.setTop (mkF m 109 #[.val (.long va), .second, .val (.int vb), .val (.int vc), .val (.ref b_0_1), .val (.int w_0_18), .val (.int w_0_19), .unset, .unset, .unset] [(.int (256 : Int32)), (.int vc)]))
  refine ogo (fun _ k => XS.iand X_0_16.here hx rfl (hb hby at_109) rfl k) ?_
  show OGo _ _ _ _ (T_0_16.setTop (mkF m 110 #[.val (.long va), .second, .val (.int vb), .val (.int vc), .val (.ref b_0_1), .val (.int w_0_18), .val (.int w_0_19), .unset, .unset, .unset] [(.int (vc &&& (256 : Int32)))]))
  suffices J_0_22 : ∀ (w_0_21 : Int32) (hw_0_21 : w_0_21 = (if (vc &&& (256 : Int32)) = (0 : Int32) then (vc.toInt8.toInt32) else (fb ((((vc.toUInt32 >>> ((9 : Int32) &&& 31).toUInt32).toInt32) &&& (7 : Int32))).toNatClampNeg))), OGo p.tables e below (OFin s (fun v _ L => v = some (.int 1) ∧ Fr n0 L) 16 128) (T_0_16.setTop (mkF m 132 #[.val (.long va), .second, .val (.int vb), .val (.int vc), .val (.ref b_0_1), .val (.int w_0_18), .val (.int w_0_19), .val (.int w_0_21), .unset, .unset] [])) by
    by_cases hc_0_20 : (vc &&& (256 : Int32)) = (0 : Int32)
    · refine ogo (fun _ k => XS.ifYes X_0_16.here hx rfl (pc0 := 110) (pc' := 128) rfl (hb hby at_110) rfl ((if0 _ _).trans (teq hc_0_20).1) (by decide) (by decide) k) ?_
      show OGo _ _ _ _ (T_0_16.setTop (mkF m 128 #[.val (.long va), .second, .val (.int vb), .val (.int vc), .val (.ref b_0_1), .val (.int w_0_18), .val (.int w_0_19), .unset, .unset, .unset] []))
      refine ogo (fun _ k => XS.iloadN X_0_16.here hx rfl (hb hby at_128) rfl k) ?_
      show OGo _ _ _ _ (T_0_16.setTop (mkF m 129 #[.val (.long va), .second, .val (.int vb), .val (.int vc), .val (.ref b_0_1), .val (.int w_0_18), .val (.int w_0_19), .unset, .unset, .unset] [(.int vc)]))
      refine ogo (fun _ k => XS.i2b X_0_16.here hx rfl (hb hby at_129) rfl k) ?_
      show OGo _ _ _ _ (T_0_16.setTop (mkF m 130 #[.val (.long va), .second, .val (.int vb), .val (.int vc), .val (.ref b_0_1), .val (.int w_0_18), .val (.int w_0_19), .unset, .unset, .unset] [(.int (vc.toInt8.toInt32))]))
      refine ogo (fun _ k => XS.istore X_0_16.here hx rfl (hb hby at_130) rfl (l' := #[.val (.long va), .second, .val (.int vb), .val (.int vc), .val (.ref b_0_1), .val (.int w_0_18), .val (.int w_0_19), .val (.int (vc.toInt8.toInt32)), .unset, .unset]) rfl k) ?_
      show OGo _ _ _ _ (T_0_16.setTop (mkF m 132 #[.val (.long va), .second, .val (.int vb), .val (.int vc), .val (.ref b_0_1), .val (.int w_0_18), .val (.int w_0_19), .val (.int (vc.toInt8.toInt32)), .unset, .unset] []))
      exact J_0_22 _ (if_pos hc_0_20).symm
    · refine ogo (fun _ k => XS.ifNo X_0_16.here hx rfl (hb hby at_110) rfl ((if0 _ _).trans (feq hc_0_20).1) k) ?_
      show OGo _ _ _ _ (T_0_16.setTop (mkF m 113 #[.val (.long va), .second, .val (.int vb), .val (.int vc), .val (.ref b_0_1), .val (.int w_0_18), .val (.int w_0_19), .unset, .unset, .unset] []))
      refine ogo (fun _ k => XS.aload X_0_16.here hx rfl (hb hby at_113) rfl rfl k) ?_
      show OGo _ _ _ _ (T_0_16.setTop (mkF m 115 #[.val (.long va), .second, .val (.int vb), .val (.int vc), .val (.ref b_0_1), .val (.int w_0_18), .val (.int w_0_19), .unset, .unset, .unset] [(.ref b_0_1)]))
      refine ogo (fun _ k => XS.iloadN X_0_16.here hx rfl (hb hby at_115) rfl k) ?_
      show OGo _ _ _ _ (T_0_16.setTop (mkF m 116 #[.val (.long va), .second, .val (.int vb), .val (.int vc), .val (.ref b_0_1), .val (.int w_0_18), .val (.int w_0_19), .unset, .unset, .unset] [(.int vc), (.ref b_0_1)]))
      refine ogo (fun _ k => XS.bipush X_0_16.here hx rfl (hb hby at_116) k) ?_
      show OGo _ _ _ _ (T_0_16.setTop (mkF m 118 #[.val (.long va), .second, .val (.int vb), .val (.int vc), .val (.ref b_0_1), .val (.int w_0_18), .val (.int w_0_19), .unset, .unset, .unset] [(.int (9 : Int32)), (.int vc), (.ref b_0_1)]))
      refine ogo (fun _ k => XS.iushr X_0_16.here hx rfl (hb hby at_118) rfl k) ?_
      show OGo _ _ _ _ (T_0_16.setTop (mkF m 119 #[.val (.long va), .second, .val (.int vb), .val (.int vc), .val (.ref b_0_1), .val (.int w_0_18), .val (.int w_0_19), .unset, .unset, .unset] [(.int ((vc.toUInt32 >>> ((9 : Int32) &&& 31).toUInt32).toInt32)), (.ref b_0_1)]))
      refine ogo (fun _ k => XS.bipush X_0_16.here hx rfl (hb hby at_119) k) ?_
      show OGo _ _ _ _ (T_0_16.setTop (mkF m 121 #[.val (.long va), .second, .val (.int vb), .val (.int vc), .val (.ref b_0_1), .val (.int w_0_18), .val (.int w_0_19), .unset, .unset, .unset] [(.int (7 : Int32)), (.int ((vc.toUInt32 >>> ((9 : Int32) &&& 31).toUInt32).toInt32)), (.ref b_0_1)]))
      refine ogo (fun _ k => XS.iand X_0_16.here hx rfl (hb hby at_121) rfl k) ?_
      show OGo _ _ _ _ (T_0_16.setTop (mkF m 122 #[.val (.long va), .second, .val (.int vb), .val (.int vc), .val (.ref b_0_1), .val (.int w_0_18), .val (.int w_0_19), .unset, .unset, .unset] [(.int (((vc.toUInt32 >>> ((9 : Int32) &&& 31).toUInt32).toInt32) &&& (7 : Int32))), (.ref b_0_1)]))
      refine ogo (fun _ k => oldB X_0_16 hx hZ e_0_16 Yfb (own_7 _).1 (own_7 _).2 (g := (mkF m 122 #[.val (.long va), .second, .val (.int vb), .val (.int vc), .val (.ref b_0_1), .val (.int w_0_18), .val (.int w_0_19), .unset, .unset, .unset] [(.int (((vc.toUInt32 >>> ((9 : Int32) &&& 31).toUInt32).toInt32) &&& (7 : Int32))), (.ref b_0_1)])) rfl rfl (hb hby at_122) _ k) ?_
      show OGo _ _ _ _ (T_0_16.setTop (mkF m 123 #[.val (.long va), .second, .val (.int vb), .val (.int vc), .val (.ref b_0_1), .val (.int w_0_18), .val (.int w_0_19), .unset, .unset, .unset] [(.int (fb ((((vc.toUInt32 >>> ((9 : Int32) &&& 31).toUInt32).toInt32) &&& (7 : Int32))).toNatClampNeg))]))
      refine ogo (fun _ k => XS.istore X_0_16.here hx rfl (hb hby at_123) rfl (l' := #[.val (.long va), .second, .val (.int vb), .val (.int vc), .val (.ref b_0_1), .val (.int w_0_18), .val (.int w_0_19), .val (.int (fb ((((vc.toUInt32 >>> ((9 : Int32) &&& 31).toUInt32).toInt32) &&& (7 : Int32))).toNatClampNeg)), .unset, .unset]) rfl k) ?_
      show OGo _ _ _ _ (T_0_16.setTop (mkF m 125 #[.val (.long va), .second, .val (.int vb), .val (.int vc), .val (.ref b_0_1), .val (.int w_0_18), .val (.int w_0_19), .val (.int (fb ((((vc.toUInt32 >>> ((9 : Int32) &&& 31).toUInt32).toInt32) &&& (7 : Int32))).toNatClampNeg)), .unset, .unset] []))
      refine ogo (fun _ k => XS.goto X_0_16.here hx rfl (pc0 := 125) (pc' := 132) rfl (hb hby at_125) (by decide) (by decide) k) ?_
      show OGo _ _ _ _ (T_0_16.setTop (mkF m 132 #[.val (.long va), .second, .val (.int vb), .val (.int vc), .val (.ref b_0_1), .val (.int w_0_18), .val (.int w_0_19), .val (.int (fb ((((vc.toUInt32 >>> ((9 : Int32) &&& 31).toUInt32).toInt32) &&& (7 : Int32))).toNatClampNeg)), .unset, .unset] []))
      exact J_0_22 _ (if_neg hc_0_20).symm
  intro w_0_21 hw_0_21
  refine ogo (fun _ k => XS.aload X_0_16.here hx rfl (hb hby at_132) rfl rfl k) ?_
  show OGo _ _ _ _ (T_0_16.setTop (mkF m 134 #[.val (.long va), .second, .val (.int vb), .val (.int vc), .val (.ref b_0_1), .val (.int w_0_18), .val (.int w_0_19), .val (.int w_0_21), .unset, .unset] [(.ref b_0_1)]))
  refine ogo (fun _ k => XS.iload X_0_16.here hx rfl (hb hby at_134) rfl k) ?_
  show OGo _ _ _ _ (T_0_16.setTop (mkF m 136 #[.val (.long va), .second, .val (.int vb), .val (.int vc), .val (.ref b_0_1), .val (.int w_0_18), .val (.int w_0_19), .val (.int w_0_21), .unset, .unset] [(.int w_0_18), (.ref b_0_1)]))
  refine ogo (fun _ k => XS.iload X_0_16.here hx rfl (hb hby at_136) rfl k) ?_
  show OGo _ _ _ _ (T_0_16.setTop (mkF m 138 #[.val (.long va), .second, .val (.int vb), .val (.int vc), .val (.ref b_0_1), .val (.int w_0_18), .val (.int w_0_19), .val (.int w_0_21), .unset, .unset] [(.int w_0_19), (.int w_0_18), (.ref b_0_1)]))
  refine ogo (fun _ k => XS.iload X_0_16.here hx rfl (hb hby at_138) rfl k) ?_
  show OGo _ _ _ _ (T_0_16.setTop (mkF m 140 #[.val (.long va), .second, .val (.int vb), .val (.int vc), .val (.ref b_0_1), .val (.int w_0_18), .val (.int w_0_19), .val (.int w_0_21), .unset, .unset] [(.int w_0_21), (.int w_0_19), (.int w_0_18), (.ref b_0_1)]))
  obtain ⟨T_0_24, X_0_24, e_0_24, st_0_24⟩ := ocallP X_0_16 hx hZ e_0_16 (rm1 l Z a0 hw b_0_1 w_0_18 w_0_19 w_0_21 fb h_0_16 Yfb (own_r9 hw_0_18).1 (own_r9 hw_0_19)) hown (hw _ (List.mem_of_getElem? (i := 1) rfl)) (hw _ (List.mem_of_getElem? (i := 2) rfl)) (hw _ (List.mem_of_getElem? (i := 3) rfl)) (hw _ (List.mem_of_getElem? (i := 4) rfl)) (by decide) (g := (mkF m 140 #[.val (.long va), .second, .val (.int vb), .val (.int vc), .val (.ref b_0_1), .val (.int w_0_18), .val (.int w_0_19), .val (.int w_0_21), .unset, .unset] [(.int w_0_21), (.int w_0_19), (.int w_0_18), (.ref b_0_1)])) rfl (by rw [hml]; rfl) [(.ref b_0_1), (.int w_0_18), (.int w_0_19), (.int w_0_21)] [] rfl (lenOf pd___BIIB_I rfl) rfl (hb hby at_140) 0 (by show 2 * 0 + _ ≤ _; exact Nat.le_of_eq rfl) (by decide) (by decide) (by decide) (by decide) rfl rfl
  refine ogo (fun _ k => st_0_24 _ k) ?_
  show OGo _ _ _ _ (T_0_24.setTop (mkF m 143 #[.val (.long va), .second, .val (.int vb), .val (.int vc), .val (.ref b_0_1), .val (.int w_0_18), .val (.int w_0_19), .val (.int w_0_21), .unset, .unset] [(.int (lastF w_0_18 w_0_19 w_0_21 fb))]))
  suffices Nw_0_25 : ∀ w_0_25 : Int32, w_0_25 = (lastF w_0_18 w_0_19 w_0_21 fb) → OGo p.tables e below (OFin s (fun v _ L => v = some (.int 1) ∧ Fr n0 L) 16 128) (T_0_24.setTop (mkF m 143 #[.val (.long va), .second, .val (.int vb), .val (.int vc), .val (.ref b_0_1), .val (.int w_0_18), .val (.int w_0_19), .val (.int w_0_21), .unset, .unset] [(.int w_0_25)])) from Nw_0_25 _ rfl
  intro w_0_25 hw_0_25
  refine ogo (fun _ k => XS.istore X_0_24.here hx rfl (hb hby at_143) rfl (l' := #[.val (.long va), .second, .val (.int vb), .val (.int vc), .val (.ref b_0_1), .val (.int w_0_18), .val (.int w_0_19), .val (.int w_0_21), .val (.int w_0_25), .unset]) rfl k) ?_
  show OGo _ _ _ _ (T_0_24.setTop (mkF m 145 #[.val (.long va), .second, .val (.int vb), .val (.int vc), .val (.ref b_0_1), .val (.int w_0_18), .val (.int w_0_19), .val (.int w_0_21), .val (.int w_0_25), .unset] []))
  refine ogo (fun _ k => XS.iload X_0_24.here hx rfl (hb hby at_145) rfl k) ?_
  show OGo _ _ _ _ (T_0_24.setTop (mkF m 147 #[.val (.long va), .second, .val (.int vb), .val (.int vc), .val (.ref b_0_1), .val (.int w_0_18), .val (.int w_0_19), .val (.int w_0_21), .val (.int w_0_25), .unset] [(.int w_0_25)]))
  refine ogo (fun _ k => XS.iconst X_0_24.here hx rfl (hb hby at_147) k) ?_
  show OGo _ _ _ _ (T_0_24.setTop (mkF m 148 #[.val (.long va), .second, .val (.int vb), .val (.int vc), .val (.ref b_0_1), .val (.int w_0_18), .val (.int w_0_19), .val (.int w_0_21), .val (.int w_0_25), .unset] [(.int (-1 : Int32)), (.int w_0_25)]))
  suffices J_0_48 : ∀ (w_0_47 : Int32) (hw_0_47 : w_0_47 = (if w_0_25 = (-1 : Int32) then (1 : Int32) else (if w_0_25 < w_0_18 then (0 : Int32) else (if w_0_25 < w_0_19 then (if w_0_25 < (0 : Int32) then (0 : Int32) else (if w_0_25 < (8 : Int32) then (if (fb (w_0_25).toNatClampNeg) = w_0_21 then (1 : Int32) else (0 : Int32)) else (0 : Int32))) else (0 : Int32))))), OGo p.tables e below (OFin s (fun v _ L => v = some (.int 1) ∧ Fr n0 L) 16 128) (T_0_24.setTop (mkF m 206 #[.val (.long va), .second, .val (.int vb), .val (.int vc), .val (.ref b_0_1), .val (.int w_0_18), .val (.int w_0_19), .val (.int w_0_21), .val (.int w_0_25), .val (.int w_0_47)] [])) by
    by_cases hc_0_26 : w_0_25 = (-1 : Int32)
    · refine ogo (fun _ k => XS.icmpNo X_0_24.here hx rfl (hb hby at_148) rfl (teq hc_0_26).2 k) ?_
      show OGo _ _ _ _ (T_0_24.setTop (mkF m 151 #[.val (.long va), .second, .val (.int vb), .val (.int vc), .val (.ref b_0_1), .val (.int w_0_18), .val (.int w_0_19), .val (.int w_0_21), .val (.int w_0_25), .unset] []))
      refine ogo (fun _ k => XS.iconst X_0_24.here hx rfl (hb hby at_151) k) ?_
      show OGo _ _ _ _ (T_0_24.setTop (mkF m 152 #[.val (.long va), .second, .val (.int vb), .val (.int vc), .val (.ref b_0_1), .val (.int w_0_18), .val (.int w_0_19), .val (.int w_0_21), .val (.int w_0_25), .unset] [(.int (1 : Int32))]))
      refine ogo (fun _ k => XS.istore X_0_24.here hx rfl (hb hby at_152) rfl (l' := #[.val (.long va), .second, .val (.int vb), .val (.int vc), .val (.ref b_0_1), .val (.int w_0_18), .val (.int w_0_19), .val (.int w_0_21), .val (.int w_0_25), .val (.int (1 : Int32))]) rfl k) ?_
      show OGo _ _ _ _ (T_0_24.setTop (mkF m 154 #[.val (.long va), .second, .val (.int vb), .val (.int vc), .val (.ref b_0_1), .val (.int w_0_18), .val (.int w_0_19), .val (.int w_0_21), .val (.int w_0_25), .val (.int (1 : Int32))] []))
      refine ogo (fun _ k => XS.goto X_0_24.here hx rfl (pc0 := 154) (pc' := 206) rfl (hb hby at_154) (by decide) (by decide) k) ?_
      show OGo _ _ _ _ (T_0_24.setTop (mkF m 206 #[.val (.long va), .second, .val (.int vb), .val (.int vc), .val (.ref b_0_1), .val (.int w_0_18), .val (.int w_0_19), .val (.int w_0_21), .val (.int w_0_25), .val (.int (1 : Int32))] []))
      exact J_0_48 _ (if_pos hc_0_26).symm
    · refine ogo (fun _ k => XS.icmpYes X_0_24.here hx rfl (pc0 := 148) (pc' := 157) rfl (hb hby at_148) rfl (feq hc_0_26).2 (by decide) (by decide) k) ?_
      show OGo _ _ _ _ (T_0_24.setTop (mkF m 157 #[.val (.long va), .second, .val (.int vb), .val (.int vc), .val (.ref b_0_1), .val (.int w_0_18), .val (.int w_0_19), .val (.int w_0_21), .val (.int w_0_25), .unset] []))
      refine ogo (fun _ k => XS.iload X_0_24.here hx rfl (hb hby at_157) rfl k) ?_
      show OGo _ _ _ _ (T_0_24.setTop (mkF m 159 #[.val (.long va), .second, .val (.int vb), .val (.int vc), .val (.ref b_0_1), .val (.int w_0_18), .val (.int w_0_19), .val (.int w_0_21), .val (.int w_0_25), .unset] [(.int w_0_25)]))
      refine ogo (fun _ k => XS.iload X_0_24.here hx rfl (hb hby at_159) rfl k) ?_
      show OGo _ _ _ _ (T_0_24.setTop (mkF m 161 #[.val (.long va), .second, .val (.int vb), .val (.int vc), .val (.ref b_0_1), .val (.int w_0_18), .val (.int w_0_19), .val (.int w_0_21), .val (.int w_0_25), .unset] [(.int w_0_18), (.int w_0_25)]))
      suffices J_0_45 : ∀ (w_0_44 : Int32) (hw_0_44 : w_0_44 = (if w_0_25 < w_0_18 then (0 : Int32) else (if w_0_25 < w_0_19 then (if w_0_25 < (0 : Int32) then (0 : Int32) else (if w_0_25 < (8 : Int32) then (if (fb (w_0_25).toNatClampNeg) = w_0_21 then (1 : Int32) else (0 : Int32)) else (0 : Int32))) else (0 : Int32)))), OGo p.tables e below (OFin s (fun v _ L => v = some (.int 1) ∧ Fr n0 L) 16 128) (T_0_24.setTop (mkF m 206 #[.val (.long va), .second, .val (.int vb), .val (.int vc), .val (.ref b_0_1), .val (.int w_0_18), .val (.int w_0_19), .val (.int w_0_21), .val (.int w_0_25), .val (.int w_0_44)] [])) by
        by_cases hc_0_27 : w_0_25 < w_0_18
        · refine ogo (fun _ k => XS.icmpYes X_0_24.here hx rfl (pc0 := 161) (pc' := 203) rfl (hb hby at_161) rfl (tlt hc_0_27).1 (by decide) (by decide) k) ?_
          show OGo _ _ _ _ (T_0_24.setTop (mkF m 203 #[.val (.long va), .second, .val (.int vb), .val (.int vc), .val (.ref b_0_1), .val (.int w_0_18), .val (.int w_0_19), .val (.int w_0_21), .val (.int w_0_25), .unset] []))
          refine ogo (fun _ k => XS.iconst X_0_24.here hx rfl (hb hby at_203) k) ?_
          show OGo _ _ _ _ (T_0_24.setTop (mkF m 204 #[.val (.long va), .second, .val (.int vb), .val (.int vc), .val (.ref b_0_1), .val (.int w_0_18), .val (.int w_0_19), .val (.int w_0_21), .val (.int w_0_25), .unset] [(.int (0 : Int32))]))
          refine ogo (fun _ k => XS.istore X_0_24.here hx rfl (hb hby at_204) rfl (l' := #[.val (.long va), .second, .val (.int vb), .val (.int vc), .val (.ref b_0_1), .val (.int w_0_18), .val (.int w_0_19), .val (.int w_0_21), .val (.int w_0_25), .val (.int (0 : Int32))]) rfl k) ?_
          show OGo _ _ _ _ (T_0_24.setTop (mkF m 206 #[.val (.long va), .second, .val (.int vb), .val (.int vc), .val (.ref b_0_1), .val (.int w_0_18), .val (.int w_0_19), .val (.int w_0_21), .val (.int w_0_25), .val (.int (0 : Int32))] []))
          exact J_0_45 _ (if_pos hc_0_27).symm
        · refine ogo (fun _ k => XS.icmpNo X_0_24.here hx rfl (hb hby at_161) rfl (flt hc_0_27).1 k) ?_
          show OGo _ _ _ _ (T_0_24.setTop (mkF m 164 #[.val (.long va), .second, .val (.int vb), .val (.int vc), .val (.ref b_0_1), .val (.int w_0_18), .val (.int w_0_19), .val (.int w_0_21), .val (.int w_0_25), .unset] []))
          refine ogo (fun _ k => XS.iload X_0_24.here hx rfl (hb hby at_164) rfl k) ?_
          show OGo _ _ _ _ (T_0_24.setTop (mkF m 166 #[.val (.long va), .second, .val (.int vb), .val (.int vc), .val (.ref b_0_1), .val (.int w_0_18), .val (.int w_0_19), .val (.int w_0_21), .val (.int w_0_25), .unset] [(.int w_0_25)]))
          refine ogo (fun _ k => XS.iload X_0_24.here hx rfl (hb hby at_166) rfl k) ?_
          show OGo _ _ _ _ (T_0_24.setTop (mkF m 168 #[.val (.long va), .second, .val (.int vb), .val (.int vc), .val (.ref b_0_1), .val (.int w_0_18), .val (.int w_0_19), .val (.int w_0_21), .val (.int w_0_25), .unset] [(.int w_0_19), (.int w_0_25)]))
          suffices J_0_42 : ∀ (w_0_41 : Int32) (hw_0_41 : w_0_41 = (if w_0_25 < w_0_19 then (if w_0_25 < (0 : Int32) then (0 : Int32) else (if w_0_25 < (8 : Int32) then (if (fb (w_0_25).toNatClampNeg) = w_0_21 then (1 : Int32) else (0 : Int32)) else (0 : Int32))) else (0 : Int32))), OGo p.tables e below (OFin s (fun v _ L => v = some (.int 1) ∧ Fr n0 L) 16 128) (T_0_24.setTop (mkF m 206 #[.val (.long va), .second, .val (.int vb), .val (.int vc), .val (.ref b_0_1), .val (.int w_0_18), .val (.int w_0_19), .val (.int w_0_21), .val (.int w_0_25), .val (.int w_0_41)] [])) by
            by_cases hc_0_28 : w_0_25 < w_0_19
            · refine ogo (fun _ k => XS.icmpNo X_0_24.here hx rfl (hb hby at_168) rfl (tlt hc_0_28).2.1 k) ?_
              show OGo _ _ _ _ (T_0_24.setTop (mkF m 171 #[.val (.long va), .second, .val (.int vb), .val (.int vc), .val (.ref b_0_1), .val (.int w_0_18), .val (.int w_0_19), .val (.int w_0_21), .val (.int w_0_25), .unset] []))
              refine ogo (fun _ k => XS.iload X_0_24.here hx rfl (hb hby at_171) rfl k) ?_
              show OGo _ _ _ _ (T_0_24.setTop (mkF m 173 #[.val (.long va), .second, .val (.int vb), .val (.int vc), .val (.ref b_0_1), .val (.int w_0_18), .val (.int w_0_19), .val (.int w_0_21), .val (.int w_0_25), .unset] [(.int w_0_25)]))
              suffices J_0_39 : ∀ (w_0_38 : Int32) (hw_0_38 : w_0_38 = (if w_0_25 < (0 : Int32) then (0 : Int32) else (if w_0_25 < (8 : Int32) then (if (fb (w_0_25).toNatClampNeg) = w_0_21 then (1 : Int32) else (0 : Int32)) else (0 : Int32)))), OGo p.tables e below (OFin s (fun v _ L => v = some (.int 1) ∧ Fr n0 L) 16 128) (T_0_24.setTop (mkF m 206 #[.val (.long va), .second, .val (.int vb), .val (.int vc), .val (.ref b_0_1), .val (.int w_0_18), .val (.int w_0_19), .val (.int w_0_21), .val (.int w_0_25), .val (.int w_0_38)] [])) by
                by_cases hc_0_29 : w_0_25 < (0 : Int32)
                · refine ogo (fun _ k => XS.ifYes X_0_24.here hx rfl (pc0 := 173) (pc' := 203) rfl (hb hby at_173) rfl ((if0 _ _).trans (tlt hc_0_29).1) (by decide) (by decide) k) ?_
                  show OGo _ _ _ _ (T_0_24.setTop (mkF m 203 #[.val (.long va), .second, .val (.int vb), .val (.int vc), .val (.ref b_0_1), .val (.int w_0_18), .val (.int w_0_19), .val (.int w_0_21), .val (.int w_0_25), .unset] []))
                  refine ogo (fun _ k => XS.iconst X_0_24.here hx rfl (hb hby at_203) k) ?_
                  show OGo _ _ _ _ (T_0_24.setTop (mkF m 204 #[.val (.long va), .second, .val (.int vb), .val (.int vc), .val (.ref b_0_1), .val (.int w_0_18), .val (.int w_0_19), .val (.int w_0_21), .val (.int w_0_25), .unset] [(.int (0 : Int32))]))
                  refine ogo (fun _ k => XS.istore X_0_24.here hx rfl (hb hby at_204) rfl (l' := #[.val (.long va), .second, .val (.int vb), .val (.int vc), .val (.ref b_0_1), .val (.int w_0_18), .val (.int w_0_19), .val (.int w_0_21), .val (.int w_0_25), .val (.int (0 : Int32))]) rfl k) ?_
                  show OGo _ _ _ _ (T_0_24.setTop (mkF m 206 #[.val (.long va), .second, .val (.int vb), .val (.int vc), .val (.ref b_0_1), .val (.int w_0_18), .val (.int w_0_19), .val (.int w_0_21), .val (.int w_0_25), .val (.int (0 : Int32))] []))
                  exact J_0_39 _ (if_pos hc_0_29).symm
                · refine ogo (fun _ k => XS.ifNo X_0_24.here hx rfl (hb hby at_173) rfl ((if0 _ _).trans (flt hc_0_29).1) k) ?_
                  show OGo _ _ _ _ (T_0_24.setTop (mkF m 176 #[.val (.long va), .second, .val (.int vb), .val (.int vc), .val (.ref b_0_1), .val (.int w_0_18), .val (.int w_0_19), .val (.int w_0_21), .val (.int w_0_25), .unset] []))
                  refine ogo (fun _ k => XS.iload X_0_24.here hx rfl (hb hby at_176) rfl k) ?_
                  show OGo _ _ _ _ (T_0_24.setTop (mkF m 178 #[.val (.long va), .second, .val (.int vb), .val (.int vc), .val (.ref b_0_1), .val (.int w_0_18), .val (.int w_0_19), .val (.int w_0_21), .val (.int w_0_25), .unset] [(.int w_0_25)]))
                  refine ogo (fun _ k => XS.bipush X_0_24.here hx rfl (hb hby at_178) k) ?_
                  show OGo _ _ _ _ (T_0_24.setTop (mkF m 180 #[.val (.long va), .second, .val (.int vb), .val (.int vc), .val (.ref b_0_1), .val (.int w_0_18), .val (.int w_0_19), .val (.int w_0_21), .val (.int w_0_25), .unset] [(.int (8 : Int32)), (.int w_0_25)]))
                  suffices J_0_36 : ∀ (w_0_35 : Int32) (hw_0_35 : w_0_35 = (if w_0_25 < (8 : Int32) then (if (fb (w_0_25).toNatClampNeg) = w_0_21 then (1 : Int32) else (0 : Int32)) else (0 : Int32))), OGo p.tables e below (OFin s (fun v _ L => v = some (.int 1) ∧ Fr n0 L) 16 128) (T_0_24.setTop (mkF m 206 #[.val (.long va), .second, .val (.int vb), .val (.int vc), .val (.ref b_0_1), .val (.int w_0_18), .val (.int w_0_19), .val (.int w_0_21), .val (.int w_0_25), .val (.int w_0_35)] [])) by
                    by_cases hc_0_30 : w_0_25 < (8 : Int32)
                    · refine ogo (fun _ k => XS.icmpNo X_0_24.here hx rfl (hb hby at_180) rfl (tlt hc_0_30).2.1 k) ?_
                      show OGo _ _ _ _ (T_0_24.setTop (mkF m 183 #[.val (.long va), .second, .val (.int vb), .val (.int vc), .val (.ref b_0_1), .val (.int w_0_18), .val (.int w_0_19), .val (.int w_0_21), .val (.int w_0_25), .unset] []))
                      refine ogo (fun _ k => XS.aload X_0_24.here hx rfl (hb hby at_183) rfl rfl k) ?_
                      show OGo _ _ _ _ (T_0_24.setTop (mkF m 185 #[.val (.long va), .second, .val (.int vb), .val (.int vc), .val (.ref b_0_1), .val (.int w_0_18), .val (.int w_0_19), .val (.int w_0_21), .val (.int w_0_25), .unset] [(.ref b_0_1)]))
                      refine ogo (fun _ k => XS.iload X_0_24.here hx rfl (hb hby at_185) rfl k) ?_
                      show OGo _ _ _ _ (T_0_24.setTop (mkF m 187 #[.val (.long va), .second, .val (.int vb), .val (.int vc), .val (.ref b_0_1), .val (.int w_0_18), .val (.int w_0_19), .val (.int w_0_21), .val (.int w_0_25), .unset] [(.int w_0_25), (.ref b_0_1)]))
                      refine ogo (fun _ k => oldB X_0_24 hx hZ e_0_24 Yfb (own_in8 hc_0_29 hc_0_30).1 (own_in8 hc_0_29 hc_0_30).2 (g := (mkF m 187 #[.val (.long va), .second, .val (.int vb), .val (.int vc), .val (.ref b_0_1), .val (.int w_0_18), .val (.int w_0_19), .val (.int w_0_21), .val (.int w_0_25), .unset] [(.int w_0_25), (.ref b_0_1)])) rfl rfl (hb hby at_187) _ k) ?_
                      show OGo _ _ _ _ (T_0_24.setTop (mkF m 188 #[.val (.long va), .second, .val (.int vb), .val (.int vc), .val (.ref b_0_1), .val (.int w_0_18), .val (.int w_0_19), .val (.int w_0_21), .val (.int w_0_25), .unset] [(.int (fb (w_0_25).toNatClampNeg))]))
                      refine ogo (fun _ k => XS.iload X_0_24.here hx rfl (hb hby at_188) rfl k) ?_
                      show OGo _ _ _ _ (T_0_24.setTop (mkF m 190 #[.val (.long va), .second, .val (.int vb), .val (.int vc), .val (.ref b_0_1), .val (.int w_0_18), .val (.int w_0_19), .val (.int w_0_21), .val (.int w_0_25), .unset] [(.int w_0_21), (.int (fb (w_0_25).toNatClampNeg))]))
                      suffices J_0_33 : ∀ (w_0_32 : Int32) (hw_0_32 : w_0_32 = (if (fb (w_0_25).toNatClampNeg) = w_0_21 then (1 : Int32) else (0 : Int32))), OGo p.tables e below (OFin s (fun v _ L => v = some (.int 1) ∧ Fr n0 L) 16 128) (T_0_24.setTop (mkF m 198 #[.val (.long va), .second, .val (.int vb), .val (.int vc), .val (.ref b_0_1), .val (.int w_0_18), .val (.int w_0_19), .val (.int w_0_21), .val (.int w_0_25), .unset] [(.int w_0_32)])) by
                        by_cases hc_0_31 : (fb (w_0_25).toNatClampNeg) = w_0_21
                        · refine ogo (fun _ k => XS.icmpNo X_0_24.here hx rfl (hb hby at_190) rfl (teq hc_0_31).2 k) ?_
                          show OGo _ _ _ _ (T_0_24.setTop (mkF m 193 #[.val (.long va), .second, .val (.int vb), .val (.int vc), .val (.ref b_0_1), .val (.int w_0_18), .val (.int w_0_19), .val (.int w_0_21), .val (.int w_0_25), .unset] []))
                          refine ogo (fun _ k => XS.iconst X_0_24.here hx rfl (hb hby at_193) k) ?_
                          show OGo _ _ _ _ (T_0_24.setTop (mkF m 194 #[.val (.long va), .second, .val (.int vb), .val (.int vc), .val (.ref b_0_1), .val (.int w_0_18), .val (.int w_0_19), .val (.int w_0_21), .val (.int w_0_25), .unset] [(.int (1 : Int32))]))
                          refine ogo (fun _ k => XS.goto X_0_24.here hx rfl (pc0 := 194) (pc' := 198) rfl (hb hby at_194) (by decide) (by decide) k) ?_
                          show OGo _ _ _ _ (T_0_24.setTop (mkF m 198 #[.val (.long va), .second, .val (.int vb), .val (.int vc), .val (.ref b_0_1), .val (.int w_0_18), .val (.int w_0_19), .val (.int w_0_21), .val (.int w_0_25), .unset] [(.int (1 : Int32))]))
                          exact J_0_33 _ (if_pos hc_0_31).symm
                        · refine ogo (fun _ k => XS.icmpYes X_0_24.here hx rfl (pc0 := 190) (pc' := 197) rfl (hb hby at_190) rfl (feq hc_0_31).2 (by decide) (by decide) k) ?_
                          show OGo _ _ _ _ (T_0_24.setTop (mkF m 197 #[.val (.long va), .second, .val (.int vb), .val (.int vc), .val (.ref b_0_1), .val (.int w_0_18), .val (.int w_0_19), .val (.int w_0_21), .val (.int w_0_25), .unset] []))
                          refine ogo (fun _ k => XS.iconst X_0_24.here hx rfl (hb hby at_197) k) ?_
                          show OGo _ _ _ _ (T_0_24.setTop (mkF m 198 #[.val (.long va), .second, .val (.int vb), .val (.int vc), .val (.ref b_0_1), .val (.int w_0_18), .val (.int w_0_19), .val (.int w_0_21), .val (.int w_0_25), .unset] [(.int (0 : Int32))]))
                          exact J_0_33 _ (if_neg hc_0_31).symm
                      intro w_0_32 hw_0_32
                      subst hw_0_32
                      refine ogo (fun _ k => XS.istore X_0_24.here hx rfl (hb hby at_198) rfl (l' := #[.val (.long va), .second, .val (.int vb), .val (.int vc), .val (.ref b_0_1), .val (.int w_0_18), .val (.int w_0_19), .val (.int w_0_21), .val (.int w_0_25), .val (.int (if (fb (w_0_25).toNatClampNeg) = w_0_21 then (1 : Int32) else (0 : Int32)))]) rfl k) ?_
                      show OGo _ _ _ _ (T_0_24.setTop (mkF m 200 #[.val (.long va), .second, .val (.int vb), .val (.int vc), .val (.ref b_0_1), .val (.int w_0_18), .val (.int w_0_19), .val (.int w_0_21), .val (.int w_0_25), .val (.int (if (fb (w_0_25).toNatClampNeg) = w_0_21 then (1 : Int32) else (0 : Int32)))] []))
                      refine ogo (fun _ k => XS.goto X_0_24.here hx rfl (pc0 := 200) (pc' := 206) rfl (hb hby at_200) (by decide) (by decide) k) ?_
                      show OGo _ _ _ _ (T_0_24.setTop (mkF m 206 #[.val (.long va), .second, .val (.int vb), .val (.int vc), .val (.ref b_0_1), .val (.int w_0_18), .val (.int w_0_19), .val (.int w_0_21), .val (.int w_0_25), .val (.int (if (fb (w_0_25).toNatClampNeg) = w_0_21 then (1 : Int32) else (0 : Int32)))] []))
                      exact J_0_36 _ (if_pos hc_0_30).symm
                    · refine ogo (fun _ k => XS.icmpYes X_0_24.here hx rfl (pc0 := 180) (pc' := 203) rfl (hb hby at_180) rfl (flt hc_0_30).2.1 (by decide) (by decide) k) ?_
                      show OGo _ _ _ _ (T_0_24.setTop (mkF m 203 #[.val (.long va), .second, .val (.int vb), .val (.int vc), .val (.ref b_0_1), .val (.int w_0_18), .val (.int w_0_19), .val (.int w_0_21), .val (.int w_0_25), .unset] []))
                      refine ogo (fun _ k => XS.iconst X_0_24.here hx rfl (hb hby at_203) k) ?_
                      show OGo _ _ _ _ (T_0_24.setTop (mkF m 204 #[.val (.long va), .second, .val (.int vb), .val (.int vc), .val (.ref b_0_1), .val (.int w_0_18), .val (.int w_0_19), .val (.int w_0_21), .val (.int w_0_25), .unset] [(.int (0 : Int32))]))
                      refine ogo (fun _ k => XS.istore X_0_24.here hx rfl (hb hby at_204) rfl (l' := #[.val (.long va), .second, .val (.int vb), .val (.int vc), .val (.ref b_0_1), .val (.int w_0_18), .val (.int w_0_19), .val (.int w_0_21), .val (.int w_0_25), .val (.int (0 : Int32))]) rfl k) ?_
                      show OGo _ _ _ _ (T_0_24.setTop (mkF m 206 #[.val (.long va), .second, .val (.int vb), .val (.int vc), .val (.ref b_0_1), .val (.int w_0_18), .val (.int w_0_19), .val (.int w_0_21), .val (.int w_0_25), .val (.int (0 : Int32))] []))
                      exact J_0_36 _ (if_neg hc_0_30).symm
                  intro w_0_35 hw_0_35
                  subst hw_0_35
                  exact J_0_39 _ (if_neg hc_0_29).symm
              intro w_0_38 hw_0_38
              subst hw_0_38
              exact J_0_42 _ (if_pos hc_0_28).symm
            · refine ogo (fun _ k => XS.icmpYes X_0_24.here hx rfl (pc0 := 168) (pc' := 203) rfl (hb hby at_168) rfl (flt hc_0_28).2.1 (by decide) (by decide) k) ?_
              show OGo _ _ _ _ (T_0_24.setTop (mkF m 203 #[.val (.long va), .second, .val (.int vb), .val (.int vc), .val (.ref b_0_1), .val (.int w_0_18), .val (.int w_0_19), .val (.int w_0_21), .val (.int w_0_25), .unset] []))
              refine ogo (fun _ k => XS.iconst X_0_24.here hx rfl (hb hby at_203) k) ?_
              show OGo _ _ _ _ (T_0_24.setTop (mkF m 204 #[.val (.long va), .second, .val (.int vb), .val (.int vc), .val (.ref b_0_1), .val (.int w_0_18), .val (.int w_0_19), .val (.int w_0_21), .val (.int w_0_25), .unset] [(.int (0 : Int32))]))
              refine ogo (fun _ k => XS.istore X_0_24.here hx rfl (hb hby at_204) rfl (l' := #[.val (.long va), .second, .val (.int vb), .val (.int vc), .val (.ref b_0_1), .val (.int w_0_18), .val (.int w_0_19), .val (.int w_0_21), .val (.int w_0_25), .val (.int (0 : Int32))]) rfl k) ?_
              show OGo _ _ _ _ (T_0_24.setTop (mkF m 206 #[.val (.long va), .second, .val (.int vb), .val (.int vc), .val (.ref b_0_1), .val (.int w_0_18), .val (.int w_0_19), .val (.int w_0_21), .val (.int w_0_25), .val (.int (0 : Int32))] []))
              exact J_0_42 _ (if_neg hc_0_28).symm
          intro w_0_41 hw_0_41
          subst hw_0_41
          exact J_0_45 _ (if_neg hc_0_27).symm
      intro w_0_44 hw_0_44
      subst hw_0_44
      exact J_0_48 _ (if_neg hc_0_26).symm
  intro w_0_47 hw_0_47
  refine ogo (fun _ k => XS.iload X_0_24.here hx rfl (hb hby at_206) rfl k) ?_
  show OGo _ _ _ _ (T_0_24.setTop (mkF m 208 #[.val (.long va), .second, .val (.int vb), .val (.int vc), .val (.ref b_0_1), .val (.int w_0_18), .val (.int w_0_19), .val (.int w_0_21), .val (.int w_0_25), .val (.int w_0_47)] [(.int w_0_47)]))
  by_cases hc_0_50 : w_0_47 = (0 : Int32)
  · refine ogo (fun _ k => XS.ifNo X_0_24.here hx rfl (hb hby at_208) rfl ((if0 _ _).trans (teq hc_0_50).2) k) ?_
    show OGo _ _ _ _ (T_0_24.setTop (mkF m 211 #[.val (.long va), .second, .val (.int vb), .val (.int vc), .val (.ref b_0_1), .val (.int w_0_18), .val (.int w_0_19), .val (.int w_0_21), .val (.int w_0_25), .val (.int w_0_47)] []))
    refine ogo (fun _ k => XS.iconst X_0_24.here hx rfl (hb hby at_211) k) ?_
    show OGo _ _ _ _ (T_0_24.setTop (mkF m 212 #[.val (.long va), .second, .val (.int vb), .val (.int vc), .val (.ref b_0_1), .val (.int w_0_18), .val (.int w_0_19), .val (.int w_0_21), .val (.int w_0_25), .val (.int w_0_47)] [(.int (0 : Int32))]))
    have hz : (0 : Int32) = (1 : Int32) := plain0 va vb vc fb w_0_18 hw_0_18 w_0_19 hw_0_19 w_0_21 hw_0_21 w_0_25 hw_0_25 w_0_47 hw_0_47 hc_0_50
    rw [hz]
    exact oret X_0_24 hx hlk Bd.returns rfl (Or.inl ⟨rfl, Or.inr (Or.inl rfl), _, rfl⟩) (hb hby at_212) (by decide) (by decide) ⟨rfl, N_0_16⟩
  · refine ogo (fun _ k => XS.ifYes X_0_24.here hx rfl (pc0 := 208) (pc' := 213) rfl (hb hby at_208) rfl ((if0 _ _).trans (feq hc_0_50).2) (by decide) (by decide) k) ?_
    show OGo _ _ _ _ (T_0_24.setTop (mkF m 213 #[.val (.long va), .second, .val (.int vb), .val (.int vc), .val (.ref b_0_1), .val (.int w_0_18), .val (.int w_0_19), .val (.int w_0_21), .val (.int w_0_25), .val (.int w_0_47)] []))
    refine ogo (fun _ k => XS.aload X_0_24.here hx rfl (hb hby at_213) rfl rfl k) ?_
    show OGo _ _ _ _ (T_0_24.setTop (mkF m 215 #[.val (.long va), .second, .val (.int vb), .val (.int vc), .val (.ref b_0_1), .val (.int w_0_18), .val (.int w_0_19), .val (.int w_0_21), .val (.int w_0_25), .val (.int w_0_47)] [(.ref b_0_1)]))
    refine ogo (fun _ k => XS.iload X_0_24.here hx rfl (hb hby at_215) rfl k) ?_
    show OGo _ _ _ _ (T_0_24.setTop (mkF m 217 #[.val (.long va), .second, .val (.int vb), .val (.int vc), .val (.ref b_0_1), .val (.int w_0_18), .val (.int w_0_19), .val (.int w_0_21), .val (.int w_0_25), .val (.int w_0_47)] [(.int w_0_18), (.ref b_0_1)]))
    refine ogo (fun _ k => XS.iload X_0_24.here hx rfl (hb hby at_217) rfl k) ?_
    show OGo _ _ _ _ (T_0_24.setTop (mkF m 219 #[.val (.long va), .second, .val (.int vb), .val (.int vc), .val (.ref b_0_1), .val (.int w_0_18), .val (.int w_0_19), .val (.int w_0_21), .val (.int w_0_25), .val (.int w_0_47)] [(.int w_0_19), (.int w_0_18), (.ref b_0_1)]))
    refine ogo (fun _ k => XS.iload X_0_24.here hx rfl (hb hby at_219) rfl k) ?_
    show OGo _ _ _ _ (T_0_24.setTop (mkF m 221 #[.val (.long va), .second, .val (.int vb), .val (.int vc), .val (.ref b_0_1), .val (.int w_0_18), .val (.int w_0_19), .val (.int w_0_21), .val (.int w_0_25), .val (.int w_0_47)] [(.int w_0_21), (.int w_0_19), (.int w_0_18), (.ref b_0_1)]))
    refine ogo (fun _ k => XS.iload X_0_24.here hx rfl (hb hby at_221) rfl k) ?_
    show OGo _ _ _ _ (T_0_24.setTop (mkF m 223 #[.val (.long va), .second, .val (.int vb), .val (.int vc), .val (.ref b_0_1), .val (.int w_0_18), .val (.int w_0_19), .val (.int w_0_21), .val (.int w_0_25), .val (.int w_0_47)] [(.int w_0_25), (.int w_0_21), (.int w_0_19), (.int w_0_18), (.ref b_0_1)]))
    refine ogo (fun _ k => XS.iconst X_0_24.here hx rfl (hb hby at_223) k) ?_
    show OGo _ _ _ _ (T_0_24.setTop (mkF m 224 #[.val (.long va), .second, .val (.int vb), .val (.int vc), .val (.ref b_0_1), .val (.int w_0_18), .val (.int w_0_19), .val (.int w_0_21), .val (.int w_0_25), .val (.int w_0_47)] [(.int (0 : Int32)), (.int w_0_25), (.int w_0_21), (.int w_0_19), (.int w_0_18), (.ref b_0_1)]))
    obtain ⟨T_0_51, X_0_51, e_0_51, st_0_51⟩ := ocallP X_0_24 hx hZ e_0_24 (rm2 l Z a0 hw b_0_1 w_0_18 w_0_19 w_0_21 w_0_25 (0 : Int32) fb h_0_16 Yfb (by decide) (by decide)) hown (hw _ (List.mem_of_getElem? (i := 5) rfl)) (hw _ (List.mem_of_getElem? (i := 6) rfl)) (hw _ (List.mem_of_getElem? (i := 7) rfl)) (hw _ (List.mem_of_getElem? (i := 8) rfl)) (by decide) (g := (mkF m 224 #[.val (.long va), .second, .val (.int vb), .val (.int vc), .val (.ref b_0_1), .val (.int w_0_18), .val (.int w_0_19), .val (.int w_0_21), .val (.int w_0_25), .val (.int w_0_47)] [(.int (0 : Int32)), (.int w_0_25), (.int w_0_21), (.int w_0_19), (.int w_0_18), (.ref b_0_1)])) rfl (by rw [hml]; rfl) [(.ref b_0_1), (.int w_0_18), (.int w_0_19), (.int w_0_21), (.int w_0_25), (.int (0 : Int32))] [] rfl (lenOf pd___BIIBII_Z rfl) rfl (hb hby at_224) 0 (by show 2 * 0 + _ ≤ _; exact Nat.le_of_eq rfl) (by decide) (by decide) (by decide) (by decide) rfl rfl
    refine ogo (fun _ k => st_0_51 _ k) ?_
    show OGo _ _ _ _ (T_0_51.setTop (mkF m 227 #[.val (.long va), .second, .val (.int vb), .val (.int vc), .val (.ref b_0_1), .val (.int w_0_18), .val (.int w_0_19), .val (.int w_0_21), .val (.int w_0_25), .val (.int w_0_47)] [(.int (laterF w_0_18 w_0_19 w_0_21 w_0_25 (0 : Int32) fb))]))
    suffices J_0_89 : ∀ (w_0_88 : Int32) (hw_0_88 : w_0_88 = (if (laterF w_0_18 w_0_19 w_0_21 w_0_25 (0 : Int32) fb) = (0 : Int32) then (0 : Int32) else (if (laterF w_0_18 w_0_19 w_0_21 w_0_25 (1 : Int32) fb) = (0 : Int32) then (0 : Int32) else (if (laterF w_0_18 w_0_19 w_0_21 w_0_25 (2 : Int32) fb) = (0 : Int32) then (0 : Int32) else (if (laterF w_0_18 w_0_19 w_0_21 w_0_25 (3 : Int32) fb) = (0 : Int32) then (0 : Int32) else (if (laterF w_0_18 w_0_19 w_0_21 w_0_25 (4 : Int32) fb) = (0 : Int32) then (0 : Int32) else (if (laterF w_0_18 w_0_19 w_0_21 w_0_25 (5 : Int32) fb) = (0 : Int32) then (0 : Int32) else (if (laterF w_0_18 w_0_19 w_0_21 w_0_25 (6 : Int32) fb) = (0 : Int32) then (0 : Int32) else (if (laterF w_0_18 w_0_19 w_0_21 w_0_25 (7 : Int32) fb) = (0 : Int32) then (0 : Int32) else (1 : Int32)))))))))) (T_0_90 : State) (X_0_90 : Stand p l e room_1 s m #[(.long va), (.int vb), (.int vc)] below meth c T_0_90 lc_0_16 1 8) (e_0_90 : T_0_90.heap = h_0_16), OGo p.tables e below (OFin s (fun v _ L => v = some (.int 1) ∧ Fr n0 L) 16 128) (T_0_90.setTop (mkF m 356 #[.val (.long va), .second, .val (.int vb), .val (.int vc), .val (.ref b_0_1), .val (.int w_0_18), .val (.int w_0_19), .val (.int w_0_21), .val (.int w_0_25), .val (.int w_0_47)] [(.int w_0_88)])) by
      by_cases hc_0_52 : (laterF w_0_18 w_0_19 w_0_21 w_0_25 (0 : Int32) fb) = (0 : Int32)
      · refine ogo (fun _ k => XS.ifYes X_0_51.here hx rfl (pc0 := 227) (pc' := 355) rfl (hb hby at_227) rfl ((if0 _ _).trans (teq hc_0_52).1) (by decide) (by decide) k) ?_
        show OGo _ _ _ _ (T_0_51.setTop (mkF m 355 #[.val (.long va), .second, .val (.int vb), .val (.int vc), .val (.ref b_0_1), .val (.int w_0_18), .val (.int w_0_19), .val (.int w_0_21), .val (.int w_0_25), .val (.int w_0_47)] []))
        refine ogo (fun _ k => XS.iconst X_0_51.here hx rfl (hb hby at_355) k) ?_
        show OGo _ _ _ _ (T_0_51.setTop (mkF m 356 #[.val (.long va), .second, .val (.int vb), .val (.int vc), .val (.ref b_0_1), .val (.int w_0_18), .val (.int w_0_19), .val (.int w_0_21), .val (.int w_0_25), .val (.int w_0_47)] [(.int (0 : Int32))]))
        exact J_0_89 _ (if_pos hc_0_52).symm _ X_0_51 e_0_51
      · refine ogo (fun _ k => XS.ifNo X_0_51.here hx rfl (hb hby at_227) rfl ((if0 _ _).trans (feq hc_0_52).1) k) ?_
        show OGo _ _ _ _ (T_0_51.setTop (mkF m 230 #[.val (.long va), .second, .val (.int vb), .val (.int vc), .val (.ref b_0_1), .val (.int w_0_18), .val (.int w_0_19), .val (.int w_0_21), .val (.int w_0_25), .val (.int w_0_47)] []))
        refine ogo (fun _ k => XS.aload X_0_51.here hx rfl (hb hby at_230) rfl rfl k) ?_
        show OGo _ _ _ _ (T_0_51.setTop (mkF m 232 #[.val (.long va), .second, .val (.int vb), .val (.int vc), .val (.ref b_0_1), .val (.int w_0_18), .val (.int w_0_19), .val (.int w_0_21), .val (.int w_0_25), .val (.int w_0_47)] [(.ref b_0_1)]))
        refine ogo (fun _ k => XS.iload X_0_51.here hx rfl (hb hby at_232) rfl k) ?_
        show OGo _ _ _ _ (T_0_51.setTop (mkF m 234 #[.val (.long va), .second, .val (.int vb), .val (.int vc), .val (.ref b_0_1), .val (.int w_0_18), .val (.int w_0_19), .val (.int w_0_21), .val (.int w_0_25), .val (.int w_0_47)] [(.int w_0_18), (.ref b_0_1)]))
        refine ogo (fun _ k => XS.iload X_0_51.here hx rfl (hb hby at_234) rfl k) ?_
        show OGo _ _ _ _ (T_0_51.setTop (mkF m 236 #[.val (.long va), .second, .val (.int vb), .val (.int vc), .val (.ref b_0_1), .val (.int w_0_18), .val (.int w_0_19), .val (.int w_0_21), .val (.int w_0_25), .val (.int w_0_47)] [(.int w_0_19), (.int w_0_18), (.ref b_0_1)]))
        refine ogo (fun _ k => XS.iload X_0_51.here hx rfl (hb hby at_236) rfl k) ?_
        show OGo _ _ _ _ (T_0_51.setTop (mkF m 238 #[.val (.long va), .second, .val (.int vb), .val (.int vc), .val (.ref b_0_1), .val (.int w_0_18), .val (.int w_0_19), .val (.int w_0_21), .val (.int w_0_25), .val (.int w_0_47)] [(.int w_0_21), (.int w_0_19), (.int w_0_18), (.ref b_0_1)]))
        refine ogo (fun _ k => XS.iload X_0_51.here hx rfl (hb hby at_238) rfl k) ?_
        show OGo _ _ _ _ (T_0_51.setTop (mkF m 240 #[.val (.long va), .second, .val (.int vb), .val (.int vc), .val (.ref b_0_1), .val (.int w_0_18), .val (.int w_0_19), .val (.int w_0_21), .val (.int w_0_25), .val (.int w_0_47)] [(.int w_0_25), (.int w_0_21), (.int w_0_19), (.int w_0_18), (.ref b_0_1)]))
        refine ogo (fun _ k => XS.iconst X_0_51.here hx rfl (hb hby at_240) k) ?_
        show OGo _ _ _ _ (T_0_51.setTop (mkF m 241 #[.val (.long va), .second, .val (.int vb), .val (.int vc), .val (.ref b_0_1), .val (.int w_0_18), .val (.int w_0_19), .val (.int w_0_21), .val (.int w_0_25), .val (.int w_0_47)] [(.int (1 : Int32)), (.int w_0_25), (.int w_0_21), (.int w_0_19), (.int w_0_18), (.ref b_0_1)]))
        obtain ⟨T_0_53, X_0_53, e_0_53, st_0_53⟩ := ocallP X_0_51 hx hZ e_0_51 (rm2 l Z a0 hw b_0_1 w_0_18 w_0_19 w_0_21 w_0_25 (1 : Int32) fb h_0_16 Yfb (by decide) (by decide)) hown (hw _ (List.mem_of_getElem? (i := 5) rfl)) (hw _ (List.mem_of_getElem? (i := 6) rfl)) (hw _ (List.mem_of_getElem? (i := 7) rfl)) (hw _ (List.mem_of_getElem? (i := 8) rfl)) (by decide) (g := (mkF m 241 #[.val (.long va), .second, .val (.int vb), .val (.int vc), .val (.ref b_0_1), .val (.int w_0_18), .val (.int w_0_19), .val (.int w_0_21), .val (.int w_0_25), .val (.int w_0_47)] [(.int (1 : Int32)), (.int w_0_25), (.int w_0_21), (.int w_0_19), (.int w_0_18), (.ref b_0_1)])) rfl (by rw [hml]; rfl) [(.ref b_0_1), (.int w_0_18), (.int w_0_19), (.int w_0_21), (.int w_0_25), (.int (1 : Int32))] [] rfl (lenOf pd___BIIBII_Z rfl) rfl (hb hby at_241) 0 (by show 2 * 0 + _ ≤ _; exact Nat.le_of_eq rfl) (by decide) (by decide) (by decide) (by decide) rfl rfl
        refine ogo (fun _ k => st_0_53 _ k) ?_
        show OGo _ _ _ _ (T_0_53.setTop (mkF m 244 #[.val (.long va), .second, .val (.int vb), .val (.int vc), .val (.ref b_0_1), .val (.int w_0_18), .val (.int w_0_19), .val (.int w_0_21), .val (.int w_0_25), .val (.int w_0_47)] [(.int (laterF w_0_18 w_0_19 w_0_21 w_0_25 (1 : Int32) fb))]))
        suffices J_0_86 : ∀ (w_0_85 : Int32) (hw_0_85 : w_0_85 = (if (laterF w_0_18 w_0_19 w_0_21 w_0_25 (1 : Int32) fb) = (0 : Int32) then (0 : Int32) else (if (laterF w_0_18 w_0_19 w_0_21 w_0_25 (2 : Int32) fb) = (0 : Int32) then (0 : Int32) else (if (laterF w_0_18 w_0_19 w_0_21 w_0_25 (3 : Int32) fb) = (0 : Int32) then (0 : Int32) else (if (laterF w_0_18 w_0_19 w_0_21 w_0_25 (4 : Int32) fb) = (0 : Int32) then (0 : Int32) else (if (laterF w_0_18 w_0_19 w_0_21 w_0_25 (5 : Int32) fb) = (0 : Int32) then (0 : Int32) else (if (laterF w_0_18 w_0_19 w_0_21 w_0_25 (6 : Int32) fb) = (0 : Int32) then (0 : Int32) else (if (laterF w_0_18 w_0_19 w_0_21 w_0_25 (7 : Int32) fb) = (0 : Int32) then (0 : Int32) else (1 : Int32))))))))) (T_0_87 : State) (X_0_87 : Stand p l e room_1 s m #[(.long va), (.int vb), (.int vc)] below meth c T_0_87 lc_0_16 1 8) (e_0_87 : T_0_87.heap = h_0_16), OGo p.tables e below (OFin s (fun v _ L => v = some (.int 1) ∧ Fr n0 L) 16 128) (T_0_87.setTop (mkF m 356 #[.val (.long va), .second, .val (.int vb), .val (.int vc), .val (.ref b_0_1), .val (.int w_0_18), .val (.int w_0_19), .val (.int w_0_21), .val (.int w_0_25), .val (.int w_0_47)] [(.int w_0_85)])) by
          by_cases hc_0_54 : (laterF w_0_18 w_0_19 w_0_21 w_0_25 (1 : Int32) fb) = (0 : Int32)
          · refine ogo (fun _ k => XS.ifYes X_0_53.here hx rfl (pc0 := 244) (pc' := 355) rfl (hb hby at_244) rfl ((if0 _ _).trans (teq hc_0_54).1) (by decide) (by decide) k) ?_
            show OGo _ _ _ _ (T_0_53.setTop (mkF m 355 #[.val (.long va), .second, .val (.int vb), .val (.int vc), .val (.ref b_0_1), .val (.int w_0_18), .val (.int w_0_19), .val (.int w_0_21), .val (.int w_0_25), .val (.int w_0_47)] []))
            refine ogo (fun _ k => XS.iconst X_0_53.here hx rfl (hb hby at_355) k) ?_
            show OGo _ _ _ _ (T_0_53.setTop (mkF m 356 #[.val (.long va), .second, .val (.int vb), .val (.int vc), .val (.ref b_0_1), .val (.int w_0_18), .val (.int w_0_19), .val (.int w_0_21), .val (.int w_0_25), .val (.int w_0_47)] [(.int (0 : Int32))]))
            exact J_0_86 _ (if_pos hc_0_54).symm _ X_0_53 e_0_53
          · refine ogo (fun _ k => XS.ifNo X_0_53.here hx rfl (hb hby at_244) rfl ((if0 _ _).trans (feq hc_0_54).1) k) ?_
            show OGo _ _ _ _ (T_0_53.setTop (mkF m 247 #[.val (.long va), .second, .val (.int vb), .val (.int vc), .val (.ref b_0_1), .val (.int w_0_18), .val (.int w_0_19), .val (.int w_0_21), .val (.int w_0_25), .val (.int w_0_47)] []))
            refine ogo (fun _ k => XS.aload X_0_53.here hx rfl (hb hby at_247) rfl rfl k) ?_
            show OGo _ _ _ _ (T_0_53.setTop (mkF m 249 #[.val (.long va), .second, .val (.int vb), .val (.int vc), .val (.ref b_0_1), .val (.int w_0_18), .val (.int w_0_19), .val (.int w_0_21), .val (.int w_0_25), .val (.int w_0_47)] [(.ref b_0_1)]))
            refine ogo (fun _ k => XS.iload X_0_53.here hx rfl (hb hby at_249) rfl k) ?_
            show OGo _ _ _ _ (T_0_53.setTop (mkF m 251 #[.val (.long va), .second, .val (.int vb), .val (.int vc), .val (.ref b_0_1), .val (.int w_0_18), .val (.int w_0_19), .val (.int w_0_21), .val (.int w_0_25), .val (.int w_0_47)] [(.int w_0_18), (.ref b_0_1)]))
            refine ogo (fun _ k => XS.iload X_0_53.here hx rfl (hb hby at_251) rfl k) ?_
            show OGo _ _ _ _ (T_0_53.setTop (mkF m 253 #[.val (.long va), .second, .val (.int vb), .val (.int vc), .val (.ref b_0_1), .val (.int w_0_18), .val (.int w_0_19), .val (.int w_0_21), .val (.int w_0_25), .val (.int w_0_47)] [(.int w_0_19), (.int w_0_18), (.ref b_0_1)]))
            refine ogo (fun _ k => XS.iload X_0_53.here hx rfl (hb hby at_253) rfl k) ?_
            show OGo _ _ _ _ (T_0_53.setTop (mkF m 255 #[.val (.long va), .second, .val (.int vb), .val (.int vc), .val (.ref b_0_1), .val (.int w_0_18), .val (.int w_0_19), .val (.int w_0_21), .val (.int w_0_25), .val (.int w_0_47)] [(.int w_0_21), (.int w_0_19), (.int w_0_18), (.ref b_0_1)]))
            refine ogo (fun _ k => XS.iload X_0_53.here hx rfl (hb hby at_255) rfl k) ?_
            show OGo _ _ _ _ (T_0_53.setTop (mkF m 257 #[.val (.long va), .second, .val (.int vb), .val (.int vc), .val (.ref b_0_1), .val (.int w_0_18), .val (.int w_0_19), .val (.int w_0_21), .val (.int w_0_25), .val (.int w_0_47)] [(.int w_0_25), (.int w_0_21), (.int w_0_19), (.int w_0_18), (.ref b_0_1)]))
            refine ogo (fun _ k => XS.iconst X_0_53.here hx rfl (hb hby at_257) k) ?_
            show OGo _ _ _ _ (T_0_53.setTop (mkF m 258 #[.val (.long va), .second, .val (.int vb), .val (.int vc), .val (.ref b_0_1), .val (.int w_0_18), .val (.int w_0_19), .val (.int w_0_21), .val (.int w_0_25), .val (.int w_0_47)] [(.int (2 : Int32)), (.int w_0_25), (.int w_0_21), (.int w_0_19), (.int w_0_18), (.ref b_0_1)]))
            obtain ⟨T_0_55, X_0_55, e_0_55, st_0_55⟩ := ocallP X_0_53 hx hZ e_0_53 (rm2 l Z a0 hw b_0_1 w_0_18 w_0_19 w_0_21 w_0_25 (2 : Int32) fb h_0_16 Yfb (by decide) (by decide)) hown (hw _ (List.mem_of_getElem? (i := 5) rfl)) (hw _ (List.mem_of_getElem? (i := 6) rfl)) (hw _ (List.mem_of_getElem? (i := 7) rfl)) (hw _ (List.mem_of_getElem? (i := 8) rfl)) (by decide) (g := (mkF m 258 #[.val (.long va), .second, .val (.int vb), .val (.int vc), .val (.ref b_0_1), .val (.int w_0_18), .val (.int w_0_19), .val (.int w_0_21), .val (.int w_0_25), .val (.int w_0_47)] [(.int (2 : Int32)), (.int w_0_25), (.int w_0_21), (.int w_0_19), (.int w_0_18), (.ref b_0_1)])) rfl (by rw [hml]; rfl) [(.ref b_0_1), (.int w_0_18), (.int w_0_19), (.int w_0_21), (.int w_0_25), (.int (2 : Int32))] [] rfl (lenOf pd___BIIBII_Z rfl) rfl (hb hby at_258) 0 (by show 2 * 0 + _ ≤ _; exact Nat.le_of_eq rfl) (by decide) (by decide) (by decide) (by decide) rfl rfl
            refine ogo (fun _ k => st_0_55 _ k) ?_
            show OGo _ _ _ _ (T_0_55.setTop (mkF m 261 #[.val (.long va), .second, .val (.int vb), .val (.int vc), .val (.ref b_0_1), .val (.int w_0_18), .val (.int w_0_19), .val (.int w_0_21), .val (.int w_0_25), .val (.int w_0_47)] [(.int (laterF w_0_18 w_0_19 w_0_21 w_0_25 (2 : Int32) fb))]))
            suffices J_0_83 : ∀ (w_0_82 : Int32) (hw_0_82 : w_0_82 = (if (laterF w_0_18 w_0_19 w_0_21 w_0_25 (2 : Int32) fb) = (0 : Int32) then (0 : Int32) else (if (laterF w_0_18 w_0_19 w_0_21 w_0_25 (3 : Int32) fb) = (0 : Int32) then (0 : Int32) else (if (laterF w_0_18 w_0_19 w_0_21 w_0_25 (4 : Int32) fb) = (0 : Int32) then (0 : Int32) else (if (laterF w_0_18 w_0_19 w_0_21 w_0_25 (5 : Int32) fb) = (0 : Int32) then (0 : Int32) else (if (laterF w_0_18 w_0_19 w_0_21 w_0_25 (6 : Int32) fb) = (0 : Int32) then (0 : Int32) else (if (laterF w_0_18 w_0_19 w_0_21 w_0_25 (7 : Int32) fb) = (0 : Int32) then (0 : Int32) else (1 : Int32)))))))) (T_0_84 : State) (X_0_84 : Stand p l e room_1 s m #[(.long va), (.int vb), (.int vc)] below meth c T_0_84 lc_0_16 1 8) (e_0_84 : T_0_84.heap = h_0_16), OGo p.tables e below (OFin s (fun v _ L => v = some (.int 1) ∧ Fr n0 L) 16 128) (T_0_84.setTop (mkF m 356 #[.val (.long va), .second, .val (.int vb), .val (.int vc), .val (.ref b_0_1), .val (.int w_0_18), .val (.int w_0_19), .val (.int w_0_21), .val (.int w_0_25), .val (.int w_0_47)] [(.int w_0_82)])) by
              by_cases hc_0_56 : (laterF w_0_18 w_0_19 w_0_21 w_0_25 (2 : Int32) fb) = (0 : Int32)
              · refine ogo (fun _ k => XS.ifYes X_0_55.here hx rfl (pc0 := 261) (pc' := 355) rfl (hb hby at_261) rfl ((if0 _ _).trans (teq hc_0_56).1) (by decide) (by decide) k) ?_
                show OGo _ _ _ _ (T_0_55.setTop (mkF m 355 #[.val (.long va), .second, .val (.int vb), .val (.int vc), .val (.ref b_0_1), .val (.int w_0_18), .val (.int w_0_19), .val (.int w_0_21), .val (.int w_0_25), .val (.int w_0_47)] []))
                refine ogo (fun _ k => XS.iconst X_0_55.here hx rfl (hb hby at_355) k) ?_
                show OGo _ _ _ _ (T_0_55.setTop (mkF m 356 #[.val (.long va), .second, .val (.int vb), .val (.int vc), .val (.ref b_0_1), .val (.int w_0_18), .val (.int w_0_19), .val (.int w_0_21), .val (.int w_0_25), .val (.int w_0_47)] [(.int (0 : Int32))]))
                exact J_0_83 _ (if_pos hc_0_56).symm _ X_0_55 e_0_55
              · refine ogo (fun _ k => XS.ifNo X_0_55.here hx rfl (hb hby at_261) rfl ((if0 _ _).trans (feq hc_0_56).1) k) ?_
                show OGo _ _ _ _ (T_0_55.setTop (mkF m 264 #[.val (.long va), .second, .val (.int vb), .val (.int vc), .val (.ref b_0_1), .val (.int w_0_18), .val (.int w_0_19), .val (.int w_0_21), .val (.int w_0_25), .val (.int w_0_47)] []))
                refine ogo (fun _ k => XS.aload X_0_55.here hx rfl (hb hby at_264) rfl rfl k) ?_
                show OGo _ _ _ _ (T_0_55.setTop (mkF m 266 #[.val (.long va), .second, .val (.int vb), .val (.int vc), .val (.ref b_0_1), .val (.int w_0_18), .val (.int w_0_19), .val (.int w_0_21), .val (.int w_0_25), .val (.int w_0_47)] [(.ref b_0_1)]))
                refine ogo (fun _ k => XS.iload X_0_55.here hx rfl (hb hby at_266) rfl k) ?_
                show OGo _ _ _ _ (T_0_55.setTop (mkF m 268 #[.val (.long va), .second, .val (.int vb), .val (.int vc), .val (.ref b_0_1), .val (.int w_0_18), .val (.int w_0_19), .val (.int w_0_21), .val (.int w_0_25), .val (.int w_0_47)] [(.int w_0_18), (.ref b_0_1)]))
                refine ogo (fun _ k => XS.iload X_0_55.here hx rfl (hb hby at_268) rfl k) ?_
                show OGo _ _ _ _ (T_0_55.setTop (mkF m 270 #[.val (.long va), .second, .val (.int vb), .val (.int vc), .val (.ref b_0_1), .val (.int w_0_18), .val (.int w_0_19), .val (.int w_0_21), .val (.int w_0_25), .val (.int w_0_47)] [(.int w_0_19), (.int w_0_18), (.ref b_0_1)]))
                refine ogo (fun _ k => XS.iload X_0_55.here hx rfl (hb hby at_270) rfl k) ?_
                show OGo _ _ _ _ (T_0_55.setTop (mkF m 272 #[.val (.long va), .second, .val (.int vb), .val (.int vc), .val (.ref b_0_1), .val (.int w_0_18), .val (.int w_0_19), .val (.int w_0_21), .val (.int w_0_25), .val (.int w_0_47)] [(.int w_0_21), (.int w_0_19), (.int w_0_18), (.ref b_0_1)]))
                refine ogo (fun _ k => XS.iload X_0_55.here hx rfl (hb hby at_272) rfl k) ?_
                show OGo _ _ _ _ (T_0_55.setTop (mkF m 274 #[.val (.long va), .second, .val (.int vb), .val (.int vc), .val (.ref b_0_1), .val (.int w_0_18), .val (.int w_0_19), .val (.int w_0_21), .val (.int w_0_25), .val (.int w_0_47)] [(.int w_0_25), (.int w_0_21), (.int w_0_19), (.int w_0_18), (.ref b_0_1)]))
                refine ogo (fun _ k => XS.iconst X_0_55.here hx rfl (hb hby at_274) k) ?_
                show OGo _ _ _ _ (T_0_55.setTop (mkF m 275 #[.val (.long va), .second, .val (.int vb), .val (.int vc), .val (.ref b_0_1), .val (.int w_0_18), .val (.int w_0_19), .val (.int w_0_21), .val (.int w_0_25), .val (.int w_0_47)] [(.int (3 : Int32)), (.int w_0_25), (.int w_0_21), (.int w_0_19), (.int w_0_18), (.ref b_0_1)]))
                obtain ⟨T_0_57, X_0_57, e_0_57, st_0_57⟩ := ocallP X_0_55 hx hZ e_0_55 (rm2 l Z a0 hw b_0_1 w_0_18 w_0_19 w_0_21 w_0_25 (3 : Int32) fb h_0_16 Yfb (by decide) (by decide)) hown (hw _ (List.mem_of_getElem? (i := 5) rfl)) (hw _ (List.mem_of_getElem? (i := 6) rfl)) (hw _ (List.mem_of_getElem? (i := 7) rfl)) (hw _ (List.mem_of_getElem? (i := 8) rfl)) (by decide) (g := (mkF m 275 #[.val (.long va), .second, .val (.int vb), .val (.int vc), .val (.ref b_0_1), .val (.int w_0_18), .val (.int w_0_19), .val (.int w_0_21), .val (.int w_0_25), .val (.int w_0_47)] [(.int (3 : Int32)), (.int w_0_25), (.int w_0_21), (.int w_0_19), (.int w_0_18), (.ref b_0_1)])) rfl (by rw [hml]; rfl) [(.ref b_0_1), (.int w_0_18), (.int w_0_19), (.int w_0_21), (.int w_0_25), (.int (3 : Int32))] [] rfl (lenOf pd___BIIBII_Z rfl) rfl (hb hby at_275) 0 (by show 2 * 0 + _ ≤ _; exact Nat.le_of_eq rfl) (by decide) (by decide) (by decide) (by decide) rfl rfl
                refine ogo (fun _ k => st_0_57 _ k) ?_
                show OGo _ _ _ _ (T_0_57.setTop (mkF m 278 #[.val (.long va), .second, .val (.int vb), .val (.int vc), .val (.ref b_0_1), .val (.int w_0_18), .val (.int w_0_19), .val (.int w_0_21), .val (.int w_0_25), .val (.int w_0_47)] [(.int (laterF w_0_18 w_0_19 w_0_21 w_0_25 (3 : Int32) fb))]))
                suffices J_0_80 : ∀ (w_0_79 : Int32) (hw_0_79 : w_0_79 = (if (laterF w_0_18 w_0_19 w_0_21 w_0_25 (3 : Int32) fb) = (0 : Int32) then (0 : Int32) else (if (laterF w_0_18 w_0_19 w_0_21 w_0_25 (4 : Int32) fb) = (0 : Int32) then (0 : Int32) else (if (laterF w_0_18 w_0_19 w_0_21 w_0_25 (5 : Int32) fb) = (0 : Int32) then (0 : Int32) else (if (laterF w_0_18 w_0_19 w_0_21 w_0_25 (6 : Int32) fb) = (0 : Int32) then (0 : Int32) else (if (laterF w_0_18 w_0_19 w_0_21 w_0_25 (7 : Int32) fb) = (0 : Int32) then (0 : Int32) else (1 : Int32))))))) (T_0_81 : State) (X_0_81 : Stand p l e room_1 s m #[(.long va), (.int vb), (.int vc)] below meth c T_0_81 lc_0_16 1 8) (e_0_81 : T_0_81.heap = h_0_16), OGo p.tables e below (OFin s (fun v _ L => v = some (.int 1) ∧ Fr n0 L) 16 128) (T_0_81.setTop (mkF m 356 #[.val (.long va), .second, .val (.int vb), .val (.int vc), .val (.ref b_0_1), .val (.int w_0_18), .val (.int w_0_19), .val (.int w_0_21), .val (.int w_0_25), .val (.int w_0_47)] [(.int w_0_79)])) by
                  by_cases hc_0_58 : (laterF w_0_18 w_0_19 w_0_21 w_0_25 (3 : Int32) fb) = (0 : Int32)
                  · refine ogo (fun _ k => XS.ifYes X_0_57.here hx rfl (pc0 := 278) (pc' := 355) rfl (hb hby at_278) rfl ((if0 _ _).trans (teq hc_0_58).1) (by decide) (by decide) k) ?_
                    show OGo _ _ _ _ (T_0_57.setTop (mkF m 355 #[.val (.long va), .second, .val (.int vb), .val (.int vc), .val (.ref b_0_1), .val (.int w_0_18), .val (.int w_0_19), .val (.int w_0_21), .val (.int w_0_25), .val (.int w_0_47)] []))
                    refine ogo (fun _ k => XS.iconst X_0_57.here hx rfl (hb hby at_355) k) ?_
                    show OGo _ _ _ _ (T_0_57.setTop (mkF m 356 #[.val (.long va), .second, .val (.int vb), .val (.int vc), .val (.ref b_0_1), .val (.int w_0_18), .val (.int w_0_19), .val (.int w_0_21), .val (.int w_0_25), .val (.int w_0_47)] [(.int (0 : Int32))]))
                    exact J_0_80 _ (if_pos hc_0_58).symm _ X_0_57 e_0_57
                  · refine ogo (fun _ k => XS.ifNo X_0_57.here hx rfl (hb hby at_278) rfl ((if0 _ _).trans (feq hc_0_58).1) k) ?_
                    show OGo _ _ _ _ (T_0_57.setTop (mkF m 281 #[.val (.long va), .second, .val (.int vb), .val (.int vc), .val (.ref b_0_1), .val (.int w_0_18), .val (.int w_0_19), .val (.int w_0_21), .val (.int w_0_25), .val (.int w_0_47)] []))
                    refine ogo (fun _ k => XS.aload X_0_57.here hx rfl (hb hby at_281) rfl rfl k) ?_
                    show OGo _ _ _ _ (T_0_57.setTop (mkF m 283 #[.val (.long va), .second, .val (.int vb), .val (.int vc), .val (.ref b_0_1), .val (.int w_0_18), .val (.int w_0_19), .val (.int w_0_21), .val (.int w_0_25), .val (.int w_0_47)] [(.ref b_0_1)]))
                    refine ogo (fun _ k => XS.iload X_0_57.here hx rfl (hb hby at_283) rfl k) ?_
                    show OGo _ _ _ _ (T_0_57.setTop (mkF m 285 #[.val (.long va), .second, .val (.int vb), .val (.int vc), .val (.ref b_0_1), .val (.int w_0_18), .val (.int w_0_19), .val (.int w_0_21), .val (.int w_0_25), .val (.int w_0_47)] [(.int w_0_18), (.ref b_0_1)]))
                    refine ogo (fun _ k => XS.iload X_0_57.here hx rfl (hb hby at_285) rfl k) ?_
                    show OGo _ _ _ _ (T_0_57.setTop (mkF m 287 #[.val (.long va), .second, .val (.int vb), .val (.int vc), .val (.ref b_0_1), .val (.int w_0_18), .val (.int w_0_19), .val (.int w_0_21), .val (.int w_0_25), .val (.int w_0_47)] [(.int w_0_19), (.int w_0_18), (.ref b_0_1)]))
                    refine ogo (fun _ k => XS.iload X_0_57.here hx rfl (hb hby at_287) rfl k) ?_
                    show OGo _ _ _ _ (T_0_57.setTop (mkF m 289 #[.val (.long va), .second, .val (.int vb), .val (.int vc), .val (.ref b_0_1), .val (.int w_0_18), .val (.int w_0_19), .val (.int w_0_21), .val (.int w_0_25), .val (.int w_0_47)] [(.int w_0_21), (.int w_0_19), (.int w_0_18), (.ref b_0_1)]))
                    refine ogo (fun _ k => XS.iload X_0_57.here hx rfl (hb hby at_289) rfl k) ?_
                    show OGo _ _ _ _ (T_0_57.setTop (mkF m 291 #[.val (.long va), .second, .val (.int vb), .val (.int vc), .val (.ref b_0_1), .val (.int w_0_18), .val (.int w_0_19), .val (.int w_0_21), .val (.int w_0_25), .val (.int w_0_47)] [(.int w_0_25), (.int w_0_21), (.int w_0_19), (.int w_0_18), (.ref b_0_1)]))
                    refine ogo (fun _ k => XS.iconst X_0_57.here hx rfl (hb hby at_291) k) ?_
                    show OGo _ _ _ _ (T_0_57.setTop (mkF m 292 #[.val (.long va), .second, .val (.int vb), .val (.int vc), .val (.ref b_0_1), .val (.int w_0_18), .val (.int w_0_19), .val (.int w_0_21), .val (.int w_0_25), .val (.int w_0_47)] [(.int (4 : Int32)), (.int w_0_25), (.int w_0_21), (.int w_0_19), (.int w_0_18), (.ref b_0_1)]))
                    obtain ⟨T_0_59, X_0_59, e_0_59, st_0_59⟩ := ocallP X_0_57 hx hZ e_0_57 (rm2 l Z a0 hw b_0_1 w_0_18 w_0_19 w_0_21 w_0_25 (4 : Int32) fb h_0_16 Yfb (by decide) (by decide)) hown (hw _ (List.mem_of_getElem? (i := 5) rfl)) (hw _ (List.mem_of_getElem? (i := 6) rfl)) (hw _ (List.mem_of_getElem? (i := 7) rfl)) (hw _ (List.mem_of_getElem? (i := 8) rfl)) (by decide) (g := (mkF m 292 #[.val (.long va), .second, .val (.int vb), .val (.int vc), .val (.ref b_0_1), .val (.int w_0_18), .val (.int w_0_19), .val (.int w_0_21), .val (.int w_0_25), .val (.int w_0_47)] [(.int (4 : Int32)), (.int w_0_25), (.int w_0_21), (.int w_0_19), (.int w_0_18), (.ref b_0_1)])) rfl (by rw [hml]; rfl) [(.ref b_0_1), (.int w_0_18), (.int w_0_19), (.int w_0_21), (.int w_0_25), (.int (4 : Int32))] [] rfl (lenOf pd___BIIBII_Z rfl) rfl (hb hby at_292) 0 (by show 2 * 0 + _ ≤ _; exact Nat.le_of_eq rfl) (by decide) (by decide) (by decide) (by decide) rfl rfl
                    refine ogo (fun _ k => st_0_59 _ k) ?_
                    show OGo _ _ _ _ (T_0_59.setTop (mkF m 295 #[.val (.long va), .second, .val (.int vb), .val (.int vc), .val (.ref b_0_1), .val (.int w_0_18), .val (.int w_0_19), .val (.int w_0_21), .val (.int w_0_25), .val (.int w_0_47)] [(.int (laterF w_0_18 w_0_19 w_0_21 w_0_25 (4 : Int32) fb))]))
                    suffices J_0_77 : ∀ (w_0_76 : Int32) (hw_0_76 : w_0_76 = (if (laterF w_0_18 w_0_19 w_0_21 w_0_25 (4 : Int32) fb) = (0 : Int32) then (0 : Int32) else (if (laterF w_0_18 w_0_19 w_0_21 w_0_25 (5 : Int32) fb) = (0 : Int32) then (0 : Int32) else (if (laterF w_0_18 w_0_19 w_0_21 w_0_25 (6 : Int32) fb) = (0 : Int32) then (0 : Int32) else (if (laterF w_0_18 w_0_19 w_0_21 w_0_25 (7 : Int32) fb) = (0 : Int32) then (0 : Int32) else (1 : Int32)))))) (T_0_78 : State) (X_0_78 : Stand p l e room_1 s m #[(.long va), (.int vb), (.int vc)] below meth c T_0_78 lc_0_16 1 8) (e_0_78 : T_0_78.heap = h_0_16), OGo p.tables e below (OFin s (fun v _ L => v = some (.int 1) ∧ Fr n0 L) 16 128) (T_0_78.setTop (mkF m 356 #[.val (.long va), .second, .val (.int vb), .val (.int vc), .val (.ref b_0_1), .val (.int w_0_18), .val (.int w_0_19), .val (.int w_0_21), .val (.int w_0_25), .val (.int w_0_47)] [(.int w_0_76)])) by
                      by_cases hc_0_60 : (laterF w_0_18 w_0_19 w_0_21 w_0_25 (4 : Int32) fb) = (0 : Int32)
                      · refine ogo (fun _ k => XS.ifYes X_0_59.here hx rfl (pc0 := 295) (pc' := 355) rfl (hb hby at_295) rfl ((if0 _ _).trans (teq hc_0_60).1) (by decide) (by decide) k) ?_
                        show OGo _ _ _ _ (T_0_59.setTop (mkF m 355 #[.val (.long va), .second, .val (.int vb), .val (.int vc), .val (.ref b_0_1), .val (.int w_0_18), .val (.int w_0_19), .val (.int w_0_21), .val (.int w_0_25), .val (.int w_0_47)] []))
                        refine ogo (fun _ k => XS.iconst X_0_59.here hx rfl (hb hby at_355) k) ?_
                        show OGo _ _ _ _ (T_0_59.setTop (mkF m 356 #[.val (.long va), .second, .val (.int vb), .val (.int vc), .val (.ref b_0_1), .val (.int w_0_18), .val (.int w_0_19), .val (.int w_0_21), .val (.int w_0_25), .val (.int w_0_47)] [(.int (0 : Int32))]))
                        exact J_0_77 _ (if_pos hc_0_60).symm _ X_0_59 e_0_59
                      · refine ogo (fun _ k => XS.ifNo X_0_59.here hx rfl (hb hby at_295) rfl ((if0 _ _).trans (feq hc_0_60).1) k) ?_
                        show OGo _ _ _ _ (T_0_59.setTop (mkF m 298 #[.val (.long va), .second, .val (.int vb), .val (.int vc), .val (.ref b_0_1), .val (.int w_0_18), .val (.int w_0_19), .val (.int w_0_21), .val (.int w_0_25), .val (.int w_0_47)] []))
                        refine ogo (fun _ k => XS.aload X_0_59.here hx rfl (hb hby at_298) rfl rfl k) ?_
                        show OGo _ _ _ _ (T_0_59.setTop (mkF m 300 #[.val (.long va), .second, .val (.int vb), .val (.int vc), .val (.ref b_0_1), .val (.int w_0_18), .val (.int w_0_19), .val (.int w_0_21), .val (.int w_0_25), .val (.int w_0_47)] [(.ref b_0_1)]))
                        refine ogo (fun _ k => XS.iload X_0_59.here hx rfl (hb hby at_300) rfl k) ?_
                        show OGo _ _ _ _ (T_0_59.setTop (mkF m 302 #[.val (.long va), .second, .val (.int vb), .val (.int vc), .val (.ref b_0_1), .val (.int w_0_18), .val (.int w_0_19), .val (.int w_0_21), .val (.int w_0_25), .val (.int w_0_47)] [(.int w_0_18), (.ref b_0_1)]))
                        refine ogo (fun _ k => XS.iload X_0_59.here hx rfl (hb hby at_302) rfl k) ?_
                        show OGo _ _ _ _ (T_0_59.setTop (mkF m 304 #[.val (.long va), .second, .val (.int vb), .val (.int vc), .val (.ref b_0_1), .val (.int w_0_18), .val (.int w_0_19), .val (.int w_0_21), .val (.int w_0_25), .val (.int w_0_47)] [(.int w_0_19), (.int w_0_18), (.ref b_0_1)]))
                        refine ogo (fun _ k => XS.iload X_0_59.here hx rfl (hb hby at_304) rfl k) ?_
                        show OGo _ _ _ _ (T_0_59.setTop (mkF m 306 #[.val (.long va), .second, .val (.int vb), .val (.int vc), .val (.ref b_0_1), .val (.int w_0_18), .val (.int w_0_19), .val (.int w_0_21), .val (.int w_0_25), .val (.int w_0_47)] [(.int w_0_21), (.int w_0_19), (.int w_0_18), (.ref b_0_1)]))
                        refine ogo (fun _ k => XS.iload X_0_59.here hx rfl (hb hby at_306) rfl k) ?_
                        show OGo _ _ _ _ (T_0_59.setTop (mkF m 308 #[.val (.long va), .second, .val (.int vb), .val (.int vc), .val (.ref b_0_1), .val (.int w_0_18), .val (.int w_0_19), .val (.int w_0_21), .val (.int w_0_25), .val (.int w_0_47)] [(.int w_0_25), (.int w_0_21), (.int w_0_19), (.int w_0_18), (.ref b_0_1)]))
                        refine ogo (fun _ k => XS.iconst X_0_59.here hx rfl (hb hby at_308) k) ?_
                        show OGo _ _ _ _ (T_0_59.setTop (mkF m 309 #[.val (.long va), .second, .val (.int vb), .val (.int vc), .val (.ref b_0_1), .val (.int w_0_18), .val (.int w_0_19), .val (.int w_0_21), .val (.int w_0_25), .val (.int w_0_47)] [(.int (5 : Int32)), (.int w_0_25), (.int w_0_21), (.int w_0_19), (.int w_0_18), (.ref b_0_1)]))
                        obtain ⟨T_0_61, X_0_61, e_0_61, st_0_61⟩ := ocallP X_0_59 hx hZ e_0_59 (rm2 l Z a0 hw b_0_1 w_0_18 w_0_19 w_0_21 w_0_25 (5 : Int32) fb h_0_16 Yfb (by decide) (by decide)) hown (hw _ (List.mem_of_getElem? (i := 5) rfl)) (hw _ (List.mem_of_getElem? (i := 6) rfl)) (hw _ (List.mem_of_getElem? (i := 7) rfl)) (hw _ (List.mem_of_getElem? (i := 8) rfl)) (by decide) (g := (mkF m 309 #[.val (.long va), .second, .val (.int vb), .val (.int vc), .val (.ref b_0_1), .val (.int w_0_18), .val (.int w_0_19), .val (.int w_0_21), .val (.int w_0_25), .val (.int w_0_47)] [(.int (5 : Int32)), (.int w_0_25), (.int w_0_21), (.int w_0_19), (.int w_0_18), (.ref b_0_1)])) rfl (by rw [hml]; rfl) [(.ref b_0_1), (.int w_0_18), (.int w_0_19), (.int w_0_21), (.int w_0_25), (.int (5 : Int32))] [] rfl (lenOf pd___BIIBII_Z rfl) rfl (hb hby at_309) 0 (by show 2 * 0 + _ ≤ _; exact Nat.le_of_eq rfl) (by decide) (by decide) (by decide) (by decide) rfl rfl
                        refine ogo (fun _ k => st_0_61 _ k) ?_
                        show OGo _ _ _ _ (T_0_61.setTop (mkF m 312 #[.val (.long va), .second, .val (.int vb), .val (.int vc), .val (.ref b_0_1), .val (.int w_0_18), .val (.int w_0_19), .val (.int w_0_21), .val (.int w_0_25), .val (.int w_0_47)] [(.int (laterF w_0_18 w_0_19 w_0_21 w_0_25 (5 : Int32) fb))]))
                        suffices J_0_74 : ∀ (w_0_73 : Int32) (hw_0_73 : w_0_73 = (if (laterF w_0_18 w_0_19 w_0_21 w_0_25 (5 : Int32) fb) = (0 : Int32) then (0 : Int32) else (if (laterF w_0_18 w_0_19 w_0_21 w_0_25 (6 : Int32) fb) = (0 : Int32) then (0 : Int32) else (if (laterF w_0_18 w_0_19 w_0_21 w_0_25 (7 : Int32) fb) = (0 : Int32) then (0 : Int32) else (1 : Int32))))) (T_0_75 : State) (X_0_75 : Stand p l e room_1 s m #[(.long va), (.int vb), (.int vc)] below meth c T_0_75 lc_0_16 1 8) (e_0_75 : T_0_75.heap = h_0_16), OGo p.tables e below (OFin s (fun v _ L => v = some (.int 1) ∧ Fr n0 L) 16 128) (T_0_75.setTop (mkF m 356 #[.val (.long va), .second, .val (.int vb), .val (.int vc), .val (.ref b_0_1), .val (.int w_0_18), .val (.int w_0_19), .val (.int w_0_21), .val (.int w_0_25), .val (.int w_0_47)] [(.int w_0_73)])) by
                          by_cases hc_0_62 : (laterF w_0_18 w_0_19 w_0_21 w_0_25 (5 : Int32) fb) = (0 : Int32)
                          · refine ogo (fun _ k => XS.ifYes X_0_61.here hx rfl (pc0 := 312) (pc' := 355) rfl (hb hby at_312) rfl ((if0 _ _).trans (teq hc_0_62).1) (by decide) (by decide) k) ?_
                            show OGo _ _ _ _ (T_0_61.setTop (mkF m 355 #[.val (.long va), .second, .val (.int vb), .val (.int vc), .val (.ref b_0_1), .val (.int w_0_18), .val (.int w_0_19), .val (.int w_0_21), .val (.int w_0_25), .val (.int w_0_47)] []))
                            refine ogo (fun _ k => XS.iconst X_0_61.here hx rfl (hb hby at_355) k) ?_
                            show OGo _ _ _ _ (T_0_61.setTop (mkF m 356 #[.val (.long va), .second, .val (.int vb), .val (.int vc), .val (.ref b_0_1), .val (.int w_0_18), .val (.int w_0_19), .val (.int w_0_21), .val (.int w_0_25), .val (.int w_0_47)] [(.int (0 : Int32))]))
                            exact J_0_74 _ (if_pos hc_0_62).symm _ X_0_61 e_0_61
                          · refine ogo (fun _ k => XS.ifNo X_0_61.here hx rfl (hb hby at_312) rfl ((if0 _ _).trans (feq hc_0_62).1) k) ?_
                            show OGo _ _ _ _ (T_0_61.setTop (mkF m 315 #[.val (.long va), .second, .val (.int vb), .val (.int vc), .val (.ref b_0_1), .val (.int w_0_18), .val (.int w_0_19), .val (.int w_0_21), .val (.int w_0_25), .val (.int w_0_47)] []))
                            refine ogo (fun _ k => XS.aload X_0_61.here hx rfl (hb hby at_315) rfl rfl k) ?_
                            show OGo _ _ _ _ (T_0_61.setTop (mkF m 317 #[.val (.long va), .second, .val (.int vb), .val (.int vc), .val (.ref b_0_1), .val (.int w_0_18), .val (.int w_0_19), .val (.int w_0_21), .val (.int w_0_25), .val (.int w_0_47)] [(.ref b_0_1)]))
                            refine ogo (fun _ k => XS.iload X_0_61.here hx rfl (hb hby at_317) rfl k) ?_
                            show OGo _ _ _ _ (T_0_61.setTop (mkF m 319 #[.val (.long va), .second, .val (.int vb), .val (.int vc), .val (.ref b_0_1), .val (.int w_0_18), .val (.int w_0_19), .val (.int w_0_21), .val (.int w_0_25), .val (.int w_0_47)] [(.int w_0_18), (.ref b_0_1)]))
                            refine ogo (fun _ k => XS.iload X_0_61.here hx rfl (hb hby at_319) rfl k) ?_
                            show OGo _ _ _ _ (T_0_61.setTop (mkF m 321 #[.val (.long va), .second, .val (.int vb), .val (.int vc), .val (.ref b_0_1), .val (.int w_0_18), .val (.int w_0_19), .val (.int w_0_21), .val (.int w_0_25), .val (.int w_0_47)] [(.int w_0_19), (.int w_0_18), (.ref b_0_1)]))
                            refine ogo (fun _ k => XS.iload X_0_61.here hx rfl (hb hby at_321) rfl k) ?_
                            show OGo _ _ _ _ (T_0_61.setTop (mkF m 323 #[.val (.long va), .second, .val (.int vb), .val (.int vc), .val (.ref b_0_1), .val (.int w_0_18), .val (.int w_0_19), .val (.int w_0_21), .val (.int w_0_25), .val (.int w_0_47)] [(.int w_0_21), (.int w_0_19), (.int w_0_18), (.ref b_0_1)]))
                            refine ogo (fun _ k => XS.iload X_0_61.here hx rfl (hb hby at_323) rfl k) ?_
                            show OGo _ _ _ _ (T_0_61.setTop (mkF m 325 #[.val (.long va), .second, .val (.int vb), .val (.int vc), .val (.ref b_0_1), .val (.int w_0_18), .val (.int w_0_19), .val (.int w_0_21), .val (.int w_0_25), .val (.int w_0_47)] [(.int w_0_25), (.int w_0_21), (.int w_0_19), (.int w_0_18), (.ref b_0_1)]))
                            refine ogo (fun _ k => XS.bipush X_0_61.here hx rfl (hb hby at_325) k) ?_
                            show OGo _ _ _ _ (T_0_61.setTop (mkF m 327 #[.val (.long va), .second, .val (.int vb), .val (.int vc), .val (.ref b_0_1), .val (.int w_0_18), .val (.int w_0_19), .val (.int w_0_21), .val (.int w_0_25), .val (.int w_0_47)] [(.int (6 : Int32)), (.int w_0_25), (.int w_0_21), (.int w_0_19), (.int w_0_18), (.ref b_0_1)]))
                            obtain ⟨T_0_63, X_0_63, e_0_63, st_0_63⟩ := ocallP X_0_61 hx hZ e_0_61 (rm2 l Z a0 hw b_0_1 w_0_18 w_0_19 w_0_21 w_0_25 (6 : Int32) fb h_0_16 Yfb (by decide) (by decide)) hown (hw _ (List.mem_of_getElem? (i := 5) rfl)) (hw _ (List.mem_of_getElem? (i := 6) rfl)) (hw _ (List.mem_of_getElem? (i := 7) rfl)) (hw _ (List.mem_of_getElem? (i := 8) rfl)) (by decide) (g := (mkF m 327 #[.val (.long va), .second, .val (.int vb), .val (.int vc), .val (.ref b_0_1), .val (.int w_0_18), .val (.int w_0_19), .val (.int w_0_21), .val (.int w_0_25), .val (.int w_0_47)] [(.int (6 : Int32)), (.int w_0_25), (.int w_0_21), (.int w_0_19), (.int w_0_18), (.ref b_0_1)])) rfl (by rw [hml]; rfl) [(.ref b_0_1), (.int w_0_18), (.int w_0_19), (.int w_0_21), (.int w_0_25), (.int (6 : Int32))] [] rfl (lenOf pd___BIIBII_Z rfl) rfl (hb hby at_327) 0 (by show 2 * 0 + _ ≤ _; exact Nat.le_of_eq rfl) (by decide) (by decide) (by decide) (by decide) rfl rfl
                            refine ogo (fun _ k => st_0_63 _ k) ?_
                            show OGo _ _ _ _ (T_0_63.setTop (mkF m 330 #[.val (.long va), .second, .val (.int vb), .val (.int vc), .val (.ref b_0_1), .val (.int w_0_18), .val (.int w_0_19), .val (.int w_0_21), .val (.int w_0_25), .val (.int w_0_47)] [(.int (laterF w_0_18 w_0_19 w_0_21 w_0_25 (6 : Int32) fb))]))
                            suffices J_0_71 : ∀ (w_0_70 : Int32) (hw_0_70 : w_0_70 = (if (laterF w_0_18 w_0_19 w_0_21 w_0_25 (6 : Int32) fb) = (0 : Int32) then (0 : Int32) else (if (laterF w_0_18 w_0_19 w_0_21 w_0_25 (7 : Int32) fb) = (0 : Int32) then (0 : Int32) else (1 : Int32)))) (T_0_72 : State) (X_0_72 : Stand p l e room_1 s m #[(.long va), (.int vb), (.int vc)] below meth c T_0_72 lc_0_16 1 8) (e_0_72 : T_0_72.heap = h_0_16), OGo p.tables e below (OFin s (fun v _ L => v = some (.int 1) ∧ Fr n0 L) 16 128) (T_0_72.setTop (mkF m 356 #[.val (.long va), .second, .val (.int vb), .val (.int vc), .val (.ref b_0_1), .val (.int w_0_18), .val (.int w_0_19), .val (.int w_0_21), .val (.int w_0_25), .val (.int w_0_47)] [(.int w_0_70)])) by
                              by_cases hc_0_64 : (laterF w_0_18 w_0_19 w_0_21 w_0_25 (6 : Int32) fb) = (0 : Int32)
                              · refine ogo (fun _ k => XS.ifYes X_0_63.here hx rfl (pc0 := 330) (pc' := 355) rfl (hb hby at_330) rfl ((if0 _ _).trans (teq hc_0_64).1) (by decide) (by decide) k) ?_
                                show OGo _ _ _ _ (T_0_63.setTop (mkF m 355 #[.val (.long va), .second, .val (.int vb), .val (.int vc), .val (.ref b_0_1), .val (.int w_0_18), .val (.int w_0_19), .val (.int w_0_21), .val (.int w_0_25), .val (.int w_0_47)] []))
                                refine ogo (fun _ k => XS.iconst X_0_63.here hx rfl (hb hby at_355) k) ?_
                                show OGo _ _ _ _ (T_0_63.setTop (mkF m 356 #[.val (.long va), .second, .val (.int vb), .val (.int vc), .val (.ref b_0_1), .val (.int w_0_18), .val (.int w_0_19), .val (.int w_0_21), .val (.int w_0_25), .val (.int w_0_47)] [(.int (0 : Int32))]))
                                exact J_0_71 _ (if_pos hc_0_64).symm _ X_0_63 e_0_63
                              · refine ogo (fun _ k => XS.ifNo X_0_63.here hx rfl (hb hby at_330) rfl ((if0 _ _).trans (feq hc_0_64).1) k) ?_
                                show OGo _ _ _ _ (T_0_63.setTop (mkF m 333 #[.val (.long va), .second, .val (.int vb), .val (.int vc), .val (.ref b_0_1), .val (.int w_0_18), .val (.int w_0_19), .val (.int w_0_21), .val (.int w_0_25), .val (.int w_0_47)] []))
                                refine ogo (fun _ k => XS.aload X_0_63.here hx rfl (hb hby at_333) rfl rfl k) ?_
                                show OGo _ _ _ _ (T_0_63.setTop (mkF m 335 #[.val (.long va), .second, .val (.int vb), .val (.int vc), .val (.ref b_0_1), .val (.int w_0_18), .val (.int w_0_19), .val (.int w_0_21), .val (.int w_0_25), .val (.int w_0_47)] [(.ref b_0_1)]))
                                refine ogo (fun _ k => XS.iload X_0_63.here hx rfl (hb hby at_335) rfl k) ?_
                                show OGo _ _ _ _ (T_0_63.setTop (mkF m 337 #[.val (.long va), .second, .val (.int vb), .val (.int vc), .val (.ref b_0_1), .val (.int w_0_18), .val (.int w_0_19), .val (.int w_0_21), .val (.int w_0_25), .val (.int w_0_47)] [(.int w_0_18), (.ref b_0_1)]))
                                refine ogo (fun _ k => XS.iload X_0_63.here hx rfl (hb hby at_337) rfl k) ?_
                                show OGo _ _ _ _ (T_0_63.setTop (mkF m 339 #[.val (.long va), .second, .val (.int vb), .val (.int vc), .val (.ref b_0_1), .val (.int w_0_18), .val (.int w_0_19), .val (.int w_0_21), .val (.int w_0_25), .val (.int w_0_47)] [(.int w_0_19), (.int w_0_18), (.ref b_0_1)]))
                                refine ogo (fun _ k => XS.iload X_0_63.here hx rfl (hb hby at_339) rfl k) ?_
                                show OGo _ _ _ _ (T_0_63.setTop (mkF m 341 #[.val (.long va), .second, .val (.int vb), .val (.int vc), .val (.ref b_0_1), .val (.int w_0_18), .val (.int w_0_19), .val (.int w_0_21), .val (.int w_0_25), .val (.int w_0_47)] [(.int w_0_21), (.int w_0_19), (.int w_0_18), (.ref b_0_1)]))
                                refine ogo (fun _ k => XS.iload X_0_63.here hx rfl (hb hby at_341) rfl k) ?_
                                show OGo _ _ _ _ (T_0_63.setTop (mkF m 343 #[.val (.long va), .second, .val (.int vb), .val (.int vc), .val (.ref b_0_1), .val (.int w_0_18), .val (.int w_0_19), .val (.int w_0_21), .val (.int w_0_25), .val (.int w_0_47)] [(.int w_0_25), (.int w_0_21), (.int w_0_19), (.int w_0_18), (.ref b_0_1)]))
                                refine ogo (fun _ k => XS.bipush X_0_63.here hx rfl (hb hby at_343) k) ?_
                                show OGo _ _ _ _ (T_0_63.setTop (mkF m 345 #[.val (.long va), .second, .val (.int vb), .val (.int vc), .val (.ref b_0_1), .val (.int w_0_18), .val (.int w_0_19), .val (.int w_0_21), .val (.int w_0_25), .val (.int w_0_47)] [(.int (7 : Int32)), (.int w_0_25), (.int w_0_21), (.int w_0_19), (.int w_0_18), (.ref b_0_1)]))
                                obtain ⟨T_0_65, X_0_65, e_0_65, st_0_65⟩ := ocallP X_0_63 hx hZ e_0_63 (rm2 l Z a0 hw b_0_1 w_0_18 w_0_19 w_0_21 w_0_25 (7 : Int32) fb h_0_16 Yfb (by decide) (by decide)) hown (hw _ (List.mem_of_getElem? (i := 5) rfl)) (hw _ (List.mem_of_getElem? (i := 6) rfl)) (hw _ (List.mem_of_getElem? (i := 7) rfl)) (hw _ (List.mem_of_getElem? (i := 8) rfl)) (by decide) (g := (mkF m 345 #[.val (.long va), .second, .val (.int vb), .val (.int vc), .val (.ref b_0_1), .val (.int w_0_18), .val (.int w_0_19), .val (.int w_0_21), .val (.int w_0_25), .val (.int w_0_47)] [(.int (7 : Int32)), (.int w_0_25), (.int w_0_21), (.int w_0_19), (.int w_0_18), (.ref b_0_1)])) rfl (by rw [hml]; rfl) [(.ref b_0_1), (.int w_0_18), (.int w_0_19), (.int w_0_21), (.int w_0_25), (.int (7 : Int32))] [] rfl (lenOf pd___BIIBII_Z rfl) rfl (hb hby at_345) 0 (by show 2 * 0 + _ ≤ _; exact Nat.le_of_eq rfl) (by decide) (by decide) (by decide) (by decide) rfl rfl
                                refine ogo (fun _ k => st_0_65 _ k) ?_
                                show OGo _ _ _ _ (T_0_65.setTop (mkF m 348 #[.val (.long va), .second, .val (.int vb), .val (.int vc), .val (.ref b_0_1), .val (.int w_0_18), .val (.int w_0_19), .val (.int w_0_21), .val (.int w_0_25), .val (.int w_0_47)] [(.int (laterF w_0_18 w_0_19 w_0_21 w_0_25 (7 : Int32) fb))]))
                                suffices J_0_68 : ∀ (w_0_67 : Int32) (hw_0_67 : w_0_67 = (if (laterF w_0_18 w_0_19 w_0_21 w_0_25 (7 : Int32) fb) = (0 : Int32) then (0 : Int32) else (1 : Int32))), OGo p.tables e below (OFin s (fun v _ L => v = some (.int 1) ∧ Fr n0 L) 16 128) (T_0_65.setTop (mkF m 356 #[.val (.long va), .second, .val (.int vb), .val (.int vc), .val (.ref b_0_1), .val (.int w_0_18), .val (.int w_0_19), .val (.int w_0_21), .val (.int w_0_25), .val (.int w_0_47)] [(.int w_0_67)])) by
                                  by_cases hc_0_66 : (laterF w_0_18 w_0_19 w_0_21 w_0_25 (7 : Int32) fb) = (0 : Int32)
                                  · refine ogo (fun _ k => XS.ifYes X_0_65.here hx rfl (pc0 := 348) (pc' := 355) rfl (hb hby at_348) rfl ((if0 _ _).trans (teq hc_0_66).1) (by decide) (by decide) k) ?_
                                    show OGo _ _ _ _ (T_0_65.setTop (mkF m 355 #[.val (.long va), .second, .val (.int vb), .val (.int vc), .val (.ref b_0_1), .val (.int w_0_18), .val (.int w_0_19), .val (.int w_0_21), .val (.int w_0_25), .val (.int w_0_47)] []))
                                    refine ogo (fun _ k => XS.iconst X_0_65.here hx rfl (hb hby at_355) k) ?_
                                    show OGo _ _ _ _ (T_0_65.setTop (mkF m 356 #[.val (.long va), .second, .val (.int vb), .val (.int vc), .val (.ref b_0_1), .val (.int w_0_18), .val (.int w_0_19), .val (.int w_0_21), .val (.int w_0_25), .val (.int w_0_47)] [(.int (0 : Int32))]))
                                    exact J_0_68 _ (if_pos hc_0_66).symm
                                  · refine ogo (fun _ k => XS.ifNo X_0_65.here hx rfl (hb hby at_348) rfl ((if0 _ _).trans (feq hc_0_66).1) k) ?_
                                    show OGo _ _ _ _ (T_0_65.setTop (mkF m 351 #[.val (.long va), .second, .val (.int vb), .val (.int vc), .val (.ref b_0_1), .val (.int w_0_18), .val (.int w_0_19), .val (.int w_0_21), .val (.int w_0_25), .val (.int w_0_47)] []))
                                    refine ogo (fun _ k => XS.iconst X_0_65.here hx rfl (hb hby at_351) k) ?_
                                    show OGo _ _ _ _ (T_0_65.setTop (mkF m 352 #[.val (.long va), .second, .val (.int vb), .val (.int vc), .val (.ref b_0_1), .val (.int w_0_18), .val (.int w_0_19), .val (.int w_0_21), .val (.int w_0_25), .val (.int w_0_47)] [(.int (1 : Int32))]))
                                    refine ogo (fun _ k => XS.goto X_0_65.here hx rfl (pc0 := 352) (pc' := 356) rfl (hb hby at_352) (by decide) (by decide) k) ?_
                                    show OGo _ _ _ _ (T_0_65.setTop (mkF m 356 #[.val (.long va), .second, .val (.int vb), .val (.int vc), .val (.ref b_0_1), .val (.int w_0_18), .val (.int w_0_19), .val (.int w_0_21), .val (.int w_0_25), .val (.int w_0_47)] [(.int (1 : Int32))]))
                                    exact J_0_68 _ (if_neg hc_0_66).symm
                                intro w_0_67 hw_0_67
                                subst hw_0_67
                                exact J_0_71 _ (if_neg hc_0_64).symm _ X_0_65 e_0_65
                            intro w_0_70 hw_0_70 T_0_72 X_0_72 e_0_72
                            subst hw_0_70
                            exact J_0_74 _ (if_neg hc_0_62).symm _ X_0_72 e_0_72
                        intro w_0_73 hw_0_73 T_0_75 X_0_75 e_0_75
                        subst hw_0_73
                        exact J_0_77 _ (if_neg hc_0_60).symm _ X_0_75 e_0_75
                    intro w_0_76 hw_0_76 T_0_78 X_0_78 e_0_78
                    subst hw_0_76
                    exact J_0_80 _ (if_neg hc_0_58).symm _ X_0_78 e_0_78
                intro w_0_79 hw_0_79 T_0_81 X_0_81 e_0_81
                subst hw_0_79
                exact J_0_83 _ (if_neg hc_0_56).symm _ X_0_81 e_0_81
            intro w_0_82 hw_0_82 T_0_84 X_0_84 e_0_84
            subst hw_0_82
            exact J_0_86 _ (if_neg hc_0_54).symm _ X_0_84 e_0_84
        intro w_0_85 hw_0_85 T_0_87 X_0_87 e_0_87
        subst hw_0_85
        exact J_0_89 _ (if_neg hc_0_52).symm _ X_0_87 e_0_87
    intro w_0_88 hw_0_88 T_0_90 X_0_90 e_0_90
    have hz : w_0_88 = (1 : Int32) := plain1 va vb vc fb w_0_18 hw_0_18 w_0_19 hw_0_19 w_0_21 hw_0_21 w_0_25 hw_0_25 w_0_47 hw_0_47 hc_0_50 w_0_88 hw_0_88
    rw [hz]
    exact oret X_0_90 hx hlk Bd.returns rfl (Or.inl ⟨rfl, Or.inr (Or.inl rfl), _, rfl⟩) (hb hby at_356) (by decide) (by decide) ⟨rfl, N_0_16⟩
set_option maxRecDepth 65536 in
set_option maxHeartbeats 40000000 in
theorem comes_1 {Post : Tables → Env → Array Value → State → Outcome → State → Prop} (hpost : ∀ tb e args s v u, (limb_1_1.after args s (.returned v) u = true ∧ limb_1_2.after args s (.returned v) u = true) → FrameEnd s (.returned v) u (Jvm.fieldLocs frame_1_writes args s ++ Jvm.arrayLocs frame_1_arrays args s ++ Jvm.staticLocs frame_1_statics s) 16 128 → Post tb e args s (.returned v) u) :
    ArmFor flags0 classFile x code maxLocals ret World_1 tables_1 room_1 Calls_1 rest_1 Pre_1 Post := by
  intro l hfl _ _ p e ha hc hk s m args below hf hA hF happ hP
  obtain ⟨hcalls, hrest, hpre⟩ := hP
  obtain ⟨-, -, -, hnamed, -, -, -, hat⟩ := (Spec.applies_iff hf).mp happ
  obtain ⟨hg, hn⟩ := and_e (Cond.before_iff.mp (show (Jvm.Cond.and given_1 narrow_1).before args s = true from hpre))
  obtain ⟨gc, g0⟩ := and_e hg
  obtain ⟨ga0, g1⟩ := and_e g0
  obtain ⟨ga1, g2⟩ := and_e g1
  obtain ⟨w0, w1, w2, rfl⟩ : ∃ w0 w1 w2 : Value, args = #[w0, w1, w2] := by
    have hs : args.size = 3 := by simpa [Cond.value, given_1] using gc
    obtain ⟨L⟩ := args
    match L, hs with
    | [w0, w1, w2], _ => exact ⟨w0, w1, w2, rfl⟩
  have hw := fun d (hd : d ∈ tables_1) => atoms_spec (ws := Jvm.Cond.code x code maxLocals ret :: tables_1) hat d (List.mem_cons_of_mem _ hd)
  obtain ⟨i0, ei0⟩ := isL_v ga0
  obtain rfl : w0 = (.long i0) := Option.some.inj ei0
  obtain ⟨i1, ei1⟩ := is_v ga1
  obtain rfl : w1 = (.int i1) := Option.some.inj ei1
  obtain ⟨i2, ei2⟩ := is_v g2
  obtain rfl : w2 = (.int i2) := Option.some.inj ei2
  obtain ⟨n, o, h1, h2, h3, _, L, rfl, ⟨rfl, N⟩, hq⟩ := rm0 l s _ hw tables_1 i0 i1 i2 s.heap s.heap.size (Nat.le_refl _)  p e ha hc hk s m _ below hf ((Spec.applies_iff_loose hf).mp happ).1 ⟨rfl, State.Warmed39.refl s, rfl⟩ trivial
  exact ⟨n, _, h1, h2, h3, hpost _ _ _ _ _ _ ⟨Cond.after_iff.mpr rfl, Cond.after_iff.mpr (eq_i res_at (Term.int_eval (1)) rfl)⟩ ⟨hq.1, hq.2.1, (hq.2.2.sift fun y hy => Or.inr (N y hy)).mono (by decide) (by decide)⟩⟩
theorem main_1_1 : Claimed_1_1 := comes_1 fun _ _ _ _ _ _ h hF => ⟨h.1, hF⟩
theorem main_1_2 : Claimed_1_2 := comes_1 fun _ _ _ _ _ _ h hF => ⟨h.2, hF⟩
end Jvm.Pilot.@@N@@
namespace Jvm.Pilot.@@N@@
open Jvm Jvm.ClassFile Sem Op Lib Jvm.Free Jvm.Stand Jvm.Pilot.@@N@@.Jvm.D
/-! MADE BY PROGRAM (witnessworld.py) out of the Statement's table words and the real class files: 7 classes; the members and pool entries that the words name. The judged class is class 1, her method 2. -/
namespace start1
open Jvm.ClassFile
def u (s : String) : CpInfo := .utf8 (stringToUtf16 s)
/-- a pool by its gaps: so many unusable entries, then the entry; so many at the end -/
def gap : Nat → List CpInfo → List CpInfo
  | 0, r => r
  | n + 1, r => .unusable :: gap n r
def poolList (es : List (Nat × CpInfo)) (last : Nat) : List CpInfo := es.foldr (fun e r => gap e.1 (e.2 :: r)) (gap last [])
def pool (es : List (Nat × CpInfo)) (last : Nat) : Array CpInfo := ⟨poolList es last⟩
def fileOf (pool : Array CpInfo) (this : Nat) (attrs : Array Attribute := #[]) (ms : Array MethodInfo := #[]) (fl : Nat := 33) (sup : Nat := 0) (ifs : Array Nat := #[]) (fds : Array FieldInfo := #[]) : ClassFile where
  minorVersion := 0
  majorVersion := 65
  constantPool := pool
  accessFlags := fl
  thisClass := this
  superClass := sup
  interfaces := ifs
  fields := fds
  methods := ms
  attributes := attrs
def plain (name : String) (sup : Option ClassId) : Class where
  name := name
  kind := .ordinary
  loader := none
  accessFlags := 33
  super := sup
  interfaces := #[]
  cf := none
  fields := #[]
  methods := #[]
  instanceTypes := #[]
  staticTypes := #[]
  resolved := #[]
  callSites := []
  init := .initialized
  statics := none
  mirror := none

def pool0 : Array CpInfo := pool [(5, u "<init>"), (0, u "()V"), (1, .class_ 10), (1, u "java/lang/Object")] 113

def k0m0 : Method := { name := "<init>", desc := "()V", sig := { parameters := [], returnType := none }, accessFlags := 1, code := none }
/-- java/lang/Object -/
def k0 : Class := { plain "java/lang/Object" none with
  accessFlags := 33
  interfaces := #[]
  cf := some (fileOf pool0 8 #[] #[{ accessFlags := 1, nameIndex := 5, descriptorIndex := 6, attributes := #[] }] 33 0 #[] #[])
  fields := #[]
  methods := #[k0m0]
  instanceTypes := #[]
  staticTypes := #[]
  resolved := Array.replicate 124 none
  statics := none }

def pool1 : Array CpInfo := pool [(2, .class_ 4), (1, u "java/lang/Object"), (0, u "<init>"), (0, u "()V"), (0, .methodref 8 9), (0, .class_ 10), (0, .nameAndType 11 12), (0, u "com/example/tidy_handshake/tidyhandshake/Bytes"), (0, u "lastIndexOf"), (0, u "([BIIB)I"), (0, .methodref 14 15), (0, .class_ 16), (0, .nameAndType 17 18), (0, u "com/example/tidy_handshake/tidyhandshake/BytesLastIndexOfPinLaw"), (0, u "noLaterHit"), (0, u "([BIIBII)Z"), (3, u "law"), (0, u "(JII)Z")] 4

def k1m0 : Method := { name := "<init>", desc := "()V", sig := { parameters := [], returnType := none }, accessFlags := 2, code := none }
def k1c1 : Code := { maxStack := 2, maxLocals := 7, code := method_2_code, exceptionTable := #[], attributes := #[] }
def k1m1 : Method := { name := "noLaterHit", desc := "([BIIBII)Z", sig := { parameters := [(.array .byte), .int, .int, .byte, .int, .int], returnType := some .boolean }, accessFlags := 10, code := some k1c1 }
def k1c2 : Code := { maxStack := 6, maxLocals := 10, code := code, exceptionTable := #[], attributes := #[] }
def k1m2 : Method := { name := "law", desc := "(JII)Z", sig := { parameters := [.long, .int, .int], returnType := some .boolean }, accessFlags := 9, code := some k1c2 }
/-- com/example/tidy_handshake/tidyhandshake/BytesLastIndexOfPinLaw -/
def k1 : Class := { plain "com/example/tidy_handshake/tidyhandshake/BytesLastIndexOfPinLaw" (some 0) with
  accessFlags := 49
  interfaces := #[]
  cf := some (fileOf pool1 14 #[] #[{ accessFlags := 2, nameIndex := 5, descriptorIndex := 6, attributes := #[] }, { accessFlags := 10, nameIndex := 17, descriptorIndex := 18, attributes := #[] }, { accessFlags := 9, nameIndex := 22, descriptorIndex := 23, attributes := #[] }] 49 2 #[] #[])
  fields := #[]
  methods := #[k1m0, k1m1, k1m2]
  instanceTypes := #[]
  staticTypes := #[]
  resolved := Array.replicate 28 none
  statics := none }

def pool2 : Array CpInfo := pool [(2, .class_ 4), (1, u "java/lang/Object"), (0, u "<init>"), (0, u "()V"), (0, .class_ 8), (0, u "com/example/tidy_handshake/tidyhandshake/Bytes"), (6, u "LONGS"), (0, u "Ljava/lang/invoke/VarHandle;"), (40, u "ONES"), (0, u "J"), (1, u "HIGH_BITS"), (3, u "([BIIB)I"), (3, u "lastIndexOf")] 3

def k2m0 : Method := { name := "<init>", desc := "()V", sig := { parameters := [], returnType := none }, accessFlags := 2, code := none }
def k2c1 : Code := { maxStack := 2, maxLocals := 5, code := prog_1_method_4_code, exceptionTable := #[], attributes := #[] }
def k2m1 : Method := { name := "lastIndexOf", desc := "([BIIB)I", sig := { parameters := [(.array .byte), .int, .int, .byte], returnType := some .int }, accessFlags := 8, code := some k2c1 }
/-- com/example/tidy_handshake/tidyhandshake/Bytes -/
def k2 : Class := { plain "com/example/tidy_handshake/tidyhandshake/Bytes" (some 0) with
  accessFlags := 32
  interfaces := #[]
  cf := some (fileOf pool2 7 #[] #[{ accessFlags := 2, nameIndex := 5, descriptorIndex := 6, attributes := #[] }, { accessFlags := 8, nameIndex := 68, descriptorIndex := 64, attributes := #[] }] 32 2 #[] #[{ accessFlags := 24, nameIndex := 15, descriptorIndex := 16, attributes := #[] }, { accessFlags := 26, nameIndex := 57, descriptorIndex := 58, attributes := #[] }, { accessFlags := 26, nameIndex := 60, descriptorIndex := 58, attributes := #[] }])
  fields := #[{ name := "LONGS", type := (.object "java/lang/invoke/VarHandle"), accessFlags := 24, slot := 0, constantValue := 0 }, { name := "ONES", type := .long, accessFlags := 26, slot := 1, constantValue := 0 }, { name := "HIGH_BITS", type := .long, accessFlags := 26, slot := 2, constantValue := 0 }]
  methods := #[k2m0, k2m1]
  instanceTypes := #[]
  staticTypes := #[(.object "java/lang/invoke/VarHandle"), .long, .long]
  resolved := Array.replicate 72 none
  statics := none }

def pool3 : Array CpInfo := pool [(1, u "java/lang/Cloneable"), (0, .class_ 1), (0, u "java/lang/Object"), (0, .class_ 3)] 3

/-- java/lang/Cloneable -/
def k3 : Class := { plain "java/lang/Cloneable" (some 0) with
  accessFlags := 1537
  interfaces := #[]
  cf := some (fileOf pool3 2 #[] #[] 1537 4 #[] #[])
  fields := #[]
  methods := #[]
  instanceTypes := #[]
  staticTypes := #[]
  resolved := Array.replicate 8 none
  statics := none }

def pool4 : Array CpInfo := pool [(1, u "java/io/Serializable"), (0, .class_ 1), (0, u "java/lang/Object"), (0, .class_ 3)] 3

/-- java/io/Serializable -/
def k4 : Class := { plain "java/io/Serializable" (some 0) with
  accessFlags := 1537
  interfaces := #[]
  cf := some (fileOf pool4 2 #[] #[] 1537 4 #[] #[])
  fields := #[]
  methods := #[]
  instanceTypes := #[]
  staticTypes := #[]
  resolved := Array.replicate 8 none
  statics := none }

/-- the primitive byte -/
def k5 : Class := { plain "byte" none with kind := .primitive 'B', accessFlags := 0x411 }
/-- [B -/
def k6 : Class := { plain "[B" (some 0) with kind := .array 5 .byte, interfaces := #[3, 4], accessFlags := 1041 }

def heap : Heap := #[]
def classes : Array Class := #[k0, k1, k2, k3, k4, k5, k6]
def interned : List (Array UInt16 × Addr) := []
def slotsUsed : Nat := 0
def theMethod : MethodId := ⟨1, 2⟩
def args0 : Array Value := #[.long 77, .int 80, .int 3]
def aboutOver (below : List Frame) : State where
  vm := { classes := classes, interned := interned.toArray }
  heap := heap
  slotsUsed := slotsUsed
  threads := #[{ frames := .invoking theMethod args0 :: below }]
def below0 : List Frame := [.native { method := ⟨0, 0⟩, args := #[] }]
def about1 : State := aboutOver below0
def p0 : Program := .bare "" "" ""
def e0 : Env := launch0.env 0 0 0
theorem w_frames : about1.frames = Frame.invoking theMethod args0 :: below0 := rfl
set_option maxRecDepth 65536 in
theorem w_args : argsFit about1.vm theMethod args0 = true := by decide +kernel
set_option maxRecDepth 65536 in
theorem w_heap : heapFits about1 = true := by decide +kernel
set_option maxRecDepth 65536 in
theorem w_runnable : about1.curStatus? = some .runnable := by decide +kernel
set_option maxRecDepth 65536 in
theorem w_alone : about1.alone = true := by decide +kernel
set_option maxRecDepth 65536 in
theorem w_named : about1.methodNamed? x = some theMethod := by decide +kernel
set_option maxRecDepth 65536 in
theorem w_hears : about1.hears theMethod below0 = true := by decide +kernel
set_option maxRecDepth 65536 in
theorem w_ripe : about1.ripe theMethod args0 below0 = true := by decide +kernel
theorem w_running : about1.status = .running := rfl
set_option maxRecDepth 65536 in
theorem w_room : about1.hasRoom e0.platform room_1 = true :=
  launch0.hasRoom_least _ room_1 (by decide +kernel) (by decide +kernel) (by decide +kernel) (by decide +kernel) (by decide +kernel) (by decide +kernel)
theorem allAtoms_all (ts : List Jvm.Cond) (a : Array Jvm.Value) (st : Jvm.State) : (allAtoms ts).before a st = ts.all (fun c => c.before a st) := by
  induction ts with
  | nil => rfl
  | cons c t ih =>
    show (Jvm.Cond.and c (allAtoms t)).before a st = _
    rw [Jvm.Cond.before_and, ih, List.all_cons]
def words1 : List Jvm.Cond := Jvm.Cond.code x code maxLocals ret :: tables_1
/-- a 'code' word, met by the world's own term for the bytes: nothing is compared byte by byte -/
theorem code_word {y : MethodName} {bytes : ByteArray} {mx : Nat} {rt : Option FieldType} {a : Array Value} {s : State} {m : MethodId} {meth : Method} {c : Code} (h1 : s.methodNamed? y = some m) (h2 : s.vm.method? m = some meth) (h3 : meth.code = some c) (h4 : c.code = bytes)
    (h5 : (c.maxLocals == mx && c.exceptionTable.isEmpty && decide (c.maxStack ≤ mostOperands) && decide (meth.sig.returnType = rt) && !meth.locks && decide (parseMethodDescriptor y.desc = some meth.sig)) = true) : (Jvm.Cond.code y bytes mx rt).before a s = true := by
  simp only [Bool.and_eq_true, beq_iff_eq, Bool.not_eq_true', decide_eq_true_eq] at h5
  obtain ⟨⟨⟨⟨⟨g1, g2⟩, g3⟩, g4⟩, g5⟩, g6⟩ := h5
  simp [Cond.before, Cond.holds, Cond.value, h1, h2, h3, h4, g1, g2, g3, g4, g5, g6]
def isCode : Jvm.Cond → Bool
  | .code _ _ _ _ => true
  | _ => false
theorem all_split {L : List Jvm.Cond} {P : Jvm.Cond → Bool} (h1 : L.all (fun c => isCode c || P c) = true) (h2 : ∀ c ∈ L.filter isCode, P c = true) : L.all P = true := by
  refine List.all_eq_true.mpr fun c hc => ?_
  have h := List.all_eq_true.mp h1 c hc
  rcases Bool.eq_false_or_eq_true (isCode c) with hi | hi
  · exact h2 c (List.mem_filter.mpr ⟨hc, hi⟩)
  · simpa [hi] using h
set_option maxRecDepth 65536 in
theorem w_c0 : (Jvm.Cond.code x code maxLocals ret).before args0 about1 = true := code_word (m := ⟨1, 2⟩) (meth := k1m2) (c := k1c2) (by decide +kernel) rfl rfl rfl (by decide +kernel)
set_option maxRecDepth 65536 in
theorem w_c1 : (Jvm.Cond.code ({ cls := "com/example/tidy_handshake/tidyhandshake/Bytes", name := "lastIndexOf", desc := "([BIIB)I" } : Jvm.MethodName) prog_1_method_4_code (5 : Nat) (Option.some Jvm.ClassFile.FieldType.int)).before args0 about1 = true := code_word (m := ⟨2, 1⟩) (meth := k2m1) (c := k2c1) (by decide +kernel) rfl rfl rfl (by decide +kernel)
set_option maxRecDepth 65536 in
theorem w_c2 : (Jvm.Cond.code ({ cls := "com/example/tidy_handshake/tidyhandshake/BytesLastIndexOfPinLaw", name := "noLaterHit", desc := "([BIIBII)Z" } : Jvm.MethodName) method_2_code (7 : Nat) (Option.some Jvm.ClassFile.FieldType.boolean)).before args0 about1 = true := code_word (m := ⟨1, 1⟩) (meth := k1m1) (c := k1c1) (by decide +kernel) rfl rfl rfl (by decide +kernel)
def codes1 : List Jvm.Cond := [Jvm.Cond.code x code maxLocals ret, Jvm.Cond.code ({ cls := "com/example/tidy_handshake/tidyhandshake/Bytes", name := "lastIndexOf", desc := "([BIIB)I" } : Jvm.MethodName) prog_1_method_4_code (5 : Nat) (Option.some Jvm.ClassFile.FieldType.int), Jvm.Cond.code ({ cls := "com/example/tidy_handshake/tidyhandshake/BytesLastIndexOfPinLaw", name := "noLaterHit", desc := "([BIIBII)Z" } : Jvm.MethodName) method_2_code (7 : Nat) (Option.some Jvm.ClassFile.FieldType.boolean)]
set_option maxRecDepth 65536 in
theorem codes_eq : words1.filter isCode = codes1 := rfl
theorem w_codes : ∀ c ∈ words1.filter isCode, c.before args0 about1 = true := by
  rw [codes_eq]
  intro c hc
  simp only [codes1, List.mem_cons, List.not_mem_nil, or_false] at hc
  rcases hc with rfl | rfl | rfl
  · exact w_c0
  · exact w_c1
  · exact w_c2
set_option maxRecDepth 65536 in
theorem w_t1 : words1.all (fun c => isCode c || c.before args0 about1) = true := by decide +kernel
theorem w_tables : (allAtoms (Jvm.Cond.code x code maxLocals ret :: tables_1)).before args0 about1 = true := by
  rw [allAtoms_all]
  show words1.all (fun c => c.before args0 about1) = true
  refine all_split ?_ w_codes
  rw [w_t1]
set_option maxRecDepth 65536 in
theorem w_case : (Jvm.Cond.and given_1 narrow_1).before args0 about1 = true := by decide +kernel
theorem w_applies : (headSpec (Jvm.Cond.code x code maxLocals ret :: tables_1) room_1).applies x e0.platform about1 = true :=
  (Spec.applies_iff w_frames).mpr ⟨w_running, w_runnable, w_alone, w_named, w_hears, w_ripe, w_room, w_tables⟩
theorem atStart : AtStart classFile x code maxLocals ret World_1 tables_1 room_1 Calls_1 rest_1 Pre_1 launch0 p0 e0 about1 theMethod args0 below0 :=
  ⟨lists_1, trivial, launch0.admits_env _ _ _, launch0.least_env, fairChoices_fair.cas, fairChoices_fair.clock, w_frames, w_args, w_heap, w_applies, trivial, trivial, w_case⟩
end start1
theorem witness_1 : WitnessClaimed_1 := ⟨start1.p0, start1.e0, start1.about1, start1.theMethod, start1.args0, start1.below0, start1.atStart⟩
end Jvm.Pilot.@@N@@
