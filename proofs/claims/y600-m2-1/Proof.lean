import JvmDerived
import JvmDerived.Pilot.@@N@@Statement
import JvmDerived.Pilot.@@N@@Code
set_option linter.unusedVariables false
set_option linter.unusedSimpArgs false
namespace Jvm.OwnKit
open Sem ClassFile Op Lib Jvm.Stand Jvm.Free Jvm.LawKit Jvm.RoadKit
section OwnGo
variable {p : Program} {l : Launch} {e : Env} {R : Room} {s : State} {m : MethodId} {args : Array Value} {below : List Frame} {meth : Method} {c : Code} {T : State} {locs : List Loc} {cells slots : Nat} {Z : State} {a0 : Array Value} {h : Heap}
/-- from the state t the run comes to an end of which P holds -/
def OGo (tb : Tables) (e : Env) (below : List Frame) (P : Outcome → State → Prop) (t : State) : Prop :=
  ∃ s₂ o, Steps tb e below t s₂ ∧ s₂.status = .running ∧ Ended s₂ below o ∧ P o s₂
theorem ogo {tb : Tables} {P : Outcome → State → Prop} {t t' : State} (k : ∀ u, Steps tb e below t' u → Steps tb e below t u) (g : OGo tb e below P t') : OGo tb e below P t := by
  obtain ⟨s₂, o, h1, h2⟩ := g
  exact ⟨s₂, o, k _ h1, h2⟩
theorem ogoT {tb : Tables} {P : Outcome → State → Prop} {t t' : State} (k : Steps tb e below t t') (g : OGo tb e below P t') : OGo tb e below P t := ogo (fun _ q => k.trans q) g
/-- the end of a body: returned, the heap as Q says, the frame kept -/
abbrev OFin (s : State) (Q : Option Value → Heap → List Loc → Prop) (K N : Nat) : Outcome → State → Prop :=
  fun o U => ∃ v L, o = .returned v ∧ Q v U.heap L ∧ FrameEnd s o U L K N
/-- a body's contract -/
def OMet (l : Launch) (Z : State) (y : MethodName) (bytes : ByteArray) (maxL : Nat) (ret : Option FieldType) (rm : Room) (as : Array Value) (h : Heap) (Q : Option Value → Heap → List Loc → Prop) : Prop :=
  ∀ ws : List Jvm.Cond, MetFree l y (head1 (Jvm.Cond.code y bytes maxL ret :: ws) rm) (fun a U => a = as ∧ Z.Warmed39 U.vm ∧ U.heap = h) (fun _ _ _ _ _ => True) (fun _ U o U' => ∃ v L, o = .returned v ∧ Q v U'.heap L ∧ FrameEnd U o U' L rm.cells rm.slots)
/-- a body that returns w and writes nothing -/
abbrev OPure (w : Option Value) (h : Heap) : Option Value → Heap → List Loc → Prop := fun v h' L => v = w ∧ L = [] ∧ h' = h
theorem oret (X : Stand p l e R s m args below meth c T locs cells slots) (hx : p.tables.exec = Jvm.exec) (hlk : meth.locks = false) {pc : Nat} {Ls : Array Slot} {w : Value} {t : FieldType} {i : Instr} {rest : List Value} (hret : meth.sig.returnType = some t) (hn : narrow t w = w)
    (hi : (i = .ireturn ∧ (t = .int ∨ t = .boolean ∨ t = .byte ∨ t = .char ∨ t = .short) ∧ ∃ z, w = .int z) ∨ (i = .lreturn ∧ t = .long ∧ ∃ z, w = .long z) ∨ (i = .dreturn ∧ t = .double ∧ ∃ z, w = .double z) ∨ (i = .freturn ∧ t = .float ∧ ∃ z, w = .float z) ∨ (i = .areturn ∧ t.isReference = true ∧ w.isRef = true))
    (hd : decode c.code pc = .ok (i, 1)) {K N : Nat} (hk : cells ≤ K) (hs : slots ≤ N) {Q : Option Value → Heap → List Loc → Prop} (hQ : Q (some w) T.heap locs) :
    OGo p.tables e below (OFin s Q K N) (T.setTop (mkF m pc Ls (w :: rest))) := by
  obtain ⟨fs, hr, hrun, hended, hW, hsame⟩ := X.leave (v := some w) (fun h => by rw [hret] at h; cases h) hlk
  exact ⟨_, _, retOut X hx hret hn hi hd hr, hrun, hended, _, _, rfl, hQ, ⟨_, rfl⟩, hW, hsame.mono hk hs⟩
theorem oretV (X : Stand p l e R s m args below meth c T locs cells slots) (hx : p.tables.exec = Jvm.exec) (hlk : meth.locks = false) {pc : Nat} {Ls : Array Slot} (hret : meth.sig.returnType = none)
    (hd : decode c.code pc = .ok (.return_, 1)) {K N : Nat} (hk : cells ≤ K) (hs : slots ≤ N) {Q : Option Value → Heap → List Loc → Prop} (hQ : Q none T.heap locs) :
    OGo p.tables e below (OFin s Q K N) (T.setTop (mkF m pc Ls [])) := by
  obtain ⟨fs, hr, hrun, hended, hW, hsame⟩ := X.leave (v := none) (fun _ => rfl) hlk
  exact ⟨_, _, X.returnOut hx hret hd hr, hrun, hended, _, _, rfl, hQ, ⟨_, rfl⟩, hW, hsame.mono hk hs⟩
abbrev OPlain (y : MethodName) : Prop := y.cls ≠ "java/lang/invoke/MethodHandle" ∧ y.cls ≠ "java/lang/invoke/VarHandle"
/-- a static call by its contract -/
theorem ocallQ (X : Stand p l e R s m args below meth c T locs cells slots) (hx : p.tables.exec = Jvm.exec) (hZ : Z.Warmed39 s.vm) (eT : T.heap = h) {own : String} {index : Nat} {y : MethodName} {bytes : ByteArray} {maxL : Nat} {ret : Option FieldType} {rm : Room} {as : Array Value} {Q : Option Value → Heap → List Loc → Prop} (hM : OMet l Z y bytes maxL ret rm as h Q)
    (hown : s.vm.findClass own = some m.cls) (w1 : (Jvm.Cond.methodLink own index y).before a0 Z = true) (w2 : (Jvm.Cond.static y).before a0 Z = true) (w3 : (Jvm.Cond.initialized y.cls).before a0 Z = true) (w4 : (Jvm.Cond.code y bytes maxL ret).before a0 Z = true) (hy : OPlain y)
    {g : JFrame} (hg : g.method = m) (hsize : g.locals.size = c.maxLocals) (argsL rest : List Value) (has : argsL.toArray = as) (hlen : ∀ sig, parseMethodDescriptor y.desc = some sig → argsL.length = sig.parameters.length) (hstack : g.stack = argsL.reverse ++ rest) (hdg : decode c.code g.pc = .ok (.invokestatic index, 3))
    (W : Nat) (hW : 2 * g.monitorRoom + (rest.map fun v => v.category).sum ≤ W) (hf : rm.frames + 1 ≤ R.frames) (hl : W + (maxL + 11) + rm.locals ≤ R.locals) (hc : cells + rm.cells ≤ R.cells) (hs : slots + rm.slots ≤ R.slots) :
    ∃ (v : Option Value) (T' : State) (h' : Heap) (L : List Loc), T'.heap = h' ∧ Q v h' L ∧ Stand p l e R s m args below meth c T' (locs ++ L) (cells + rm.cells) (slots + rm.slots) ∧
      ∀ target, Steps p.tables e below (T'.setTop { g with pc := g.pc + 3, stack := v.toList ++ rest }) target → Steps p.tables e below (T.setTop g) target := by
  obtain ⟨v, vm₁, ⟨T', L', k', n'⟩, -, X', ⟨L, hQ, l1, l2, l3⟩, st⟩ := Jvm.LawKit.callS X hx (y := y) hown (mvT hZ w1) (mvT hZ w2) (mvT hZ w3) (mvT hZ w4) hy (backOf (W := W) (hM []) hZ w4 w3 hf hl) (g := g) hg hsize (argsL := argsL) (rest := rest) hlen hstack hW hdg (fun _ _ => ⟨has, eT, hc, hs⟩)
  dsimp only [Pt.U, Pt.locs, Pt.cells, Pt.slots] at X' l1 l2 l3 st hQ
  subst l1 l2 l3
  exact ⟨v, T', _, L, rfl, hQ, X', st⟩
/-- a static call of a body that writes nothing -/
theorem ocallP (X : Stand p l e R s m args below meth c T locs cells slots) (hx : p.tables.exec = Jvm.exec) (hZ : Z.Warmed39 s.vm) (eT : T.heap = h) {own : String} {index : Nat} {y : MethodName} {bytes : ByteArray} {maxL : Nat} {ret : Option FieldType} {rm : Room} {as : Array Value} {w : Option Value} (hM : OMet l Z y bytes maxL ret rm as h (OPure w h))
    (hown : s.vm.findClass own = some m.cls) (w1 : (Jvm.Cond.methodLink own index y).before a0 Z = true) (w2 : (Jvm.Cond.static y).before a0 Z = true) (w3 : (Jvm.Cond.initialized y.cls).before a0 Z = true) (w4 : (Jvm.Cond.code y bytes maxL ret).before a0 Z = true) (hy : OPlain y)
    {g : JFrame} (hg : g.method = m) (hsize : g.locals.size = c.maxLocals) (argsL rest : List Value) (has : argsL.toArray = as) (hlen : ∀ sig, parseMethodDescriptor y.desc = some sig → argsL.length = sig.parameters.length) (hstack : g.stack = argsL.reverse ++ rest) (hdg : decode c.code g.pc = .ok (.invokestatic index, 3))
    (W : Nat) (hW : 2 * g.monitorRoom + (rest.map fun v => v.category).sum ≤ W) (hf : rm.frames + 1 ≤ R.frames) (hl : W + (maxL + 11) + rm.locals ≤ R.locals) (hc : cells + rm.cells ≤ R.cells) (hs : slots + rm.slots ≤ R.slots) (z1 : rm.cells = 0) (z2 : rm.slots = 0) :
    ∃ T' : State, Stand p l e R s m args below meth c T' locs cells slots ∧ T'.heap = h ∧
      ∀ target, Steps p.tables e below (T'.setTop { g with pc := g.pc + 3, stack := w.toList ++ rest }) target → Steps p.tables e below (T.setTop g) target := by
  obtain ⟨v, T', h', L, e2, ⟨rfl, rfl, e'⟩, X', st⟩ := ocallQ X hx hZ eT hM hown w1 w2 w3 w4 hy hg hsize argsL rest has hlen hstack hdg W hW hf hl hc hs
  rw [z1, z2, List.append_nil] at X'
  exact ⟨T', X', e2.trans e', st⟩
/-- an instance call by its contract -/
theorem ovirtQ (X : Stand p l e R s m args below meth c T locs cells slots) (hx : p.tables.exec = Jvm.exec) (hZ : Z.Warmed39 s.vm) (eT : T.heap = h) {own C : String} {index : Nat} {y : MethodName} {bytes : ByteArray} {maxL : Nat} {ret : Option FieldType} {rm : Room} {as : Array Value} {Q : Option Value → Heap → List Loc → Prop} (hM : OMet l Z y bytes maxL ret rm as h Q)
    (hown : s.vm.findClass own = some m.cls) (w1 : (Jvm.Cond.methodLink own index y).before a0 Z = true) (w2 : (Jvm.Cond.declares y).before a0 Z = true) (w3 : (Jvm.Cond.selects C y y).before a0 Z = true) (w4 : (Jvm.Cond.instanceMethod y).before a0 Z = true) (w5 : (Jvm.Cond.initialized y.cls).before a0 Z = true) (w6 : (Jvm.Cond.code y bytes maxL ret).before a0 Z = true) (hy : OPlain y) {b : Addr} (E : Exa Z h b C)
    {g : JFrame} (hg : g.method = m) (hsize : g.locals.size = c.maxLocals) (argsL rest : List Value) (has : (.ref b :: argsL).toArray = as) (hlen : ∀ sig, parseMethodDescriptor y.desc = some sig → argsL.length = sig.parameters.length) (hstack : g.stack = argsL.reverse ++ .ref b :: rest) (hdg : decode c.code g.pc = .ok (.invokevirtual index, 3))
    (W : Nat) (hW : 2 * g.monitorRoom + (rest.map fun v => v.category).sum ≤ W) (hf : rm.frames + 1 ≤ R.frames) (hl : W + (maxL + 11) + rm.locals ≤ R.locals) (hc : cells + rm.cells ≤ R.cells) (hs : slots + rm.slots ≤ R.slots) :
    ∃ (v : Option Value) (T' : State) (h' : Heap) (L : List Loc), T'.heap = h' ∧ Q v h' L ∧ Stand p l e R s m args below meth c T' (locs ++ L) (cells + rm.cells) (slots + rm.slots) ∧
      ∀ target, Steps p.tables e below (T'.setTop { g with pc := g.pc + 3, stack := v.toList ++ rest }) target → Steps p.tables e below (T.setTop g) target := by
  obtain ⟨cq, kq, qa, -, qc⟩ := isOf (T := T) hZ eT E
  have w3' : (Jvm.Cond.selects C y y).before args s = true := mvT hZ w3
  obtain ⟨v, vm₁, ⟨T', L', k', n'⟩, -, X', ⟨L, hQ, l1, l2, l3⟩, st⟩ := X.virtualBack hx (y := y) (z := y) hown (mvT hZ w1) (mvT hZ w2) (notFace_of_selects w3') w3' (mvT hZ w4) hy (backOf (W := W) (hM []) hZ w6 w5 hf hl) qa qc (g := g) hg hsize (Steps.refl _) (argsL := argsL) (rest := rest) hlen hstack hW hdg (fun _ _ => ⟨has, eT, hc, hs⟩)
  dsimp only [Pt.U, Pt.locs, Pt.cells, Pt.slots] at X' l1 l2 l3 st hQ
  subst l1 l2 l3
  exact ⟨v, T', _, L, rfl, hQ, X', fun _ k => st.trans k⟩
theorem ovirtP (X : Stand p l e R s m args below meth c T locs cells slots) (hx : p.tables.exec = Jvm.exec) (hZ : Z.Warmed39 s.vm) (eT : T.heap = h) {own C : String} {index : Nat} {y : MethodName} {bytes : ByteArray} {maxL : Nat} {ret : Option FieldType} {rm : Room} {as : Array Value} {w : Option Value} (hM : OMet l Z y bytes maxL ret rm as h (OPure w h))
    (hown : s.vm.findClass own = some m.cls) (w1 : (Jvm.Cond.methodLink own index y).before a0 Z = true) (w2 : (Jvm.Cond.declares y).before a0 Z = true) (w3 : (Jvm.Cond.selects C y y).before a0 Z = true) (w4 : (Jvm.Cond.instanceMethod y).before a0 Z = true) (w5 : (Jvm.Cond.initialized y.cls).before a0 Z = true) (w6 : (Jvm.Cond.code y bytes maxL ret).before a0 Z = true) (hy : OPlain y) {b : Addr} (E : Exa Z h b C)
    {g : JFrame} (hg : g.method = m) (hsize : g.locals.size = c.maxLocals) (argsL rest : List Value) (has : (.ref b :: argsL).toArray = as) (hlen : ∀ sig, parseMethodDescriptor y.desc = some sig → argsL.length = sig.parameters.length) (hstack : g.stack = argsL.reverse ++ .ref b :: rest) (hdg : decode c.code g.pc = .ok (.invokevirtual index, 3))
    (W : Nat) (hW : 2 * g.monitorRoom + (rest.map fun v => v.category).sum ≤ W) (hf : rm.frames + 1 ≤ R.frames) (hl : W + (maxL + 11) + rm.locals ≤ R.locals) (hc : cells + rm.cells ≤ R.cells) (hs : slots + rm.slots ≤ R.slots) (z1 : rm.cells = 0) (z2 : rm.slots = 0) :
    ∃ T' : State, Stand p l e R s m args below meth c T' locs cells slots ∧ T'.heap = h ∧
      ∀ target, Steps p.tables e below (T'.setTop { g with pc := g.pc + 3, stack := w.toList ++ rest }) target → Steps p.tables e below (T.setTop g) target := by
  obtain ⟨v, T', h', L, e2, ⟨rfl, rfl, e'⟩, X', st⟩ := ovirtQ X hx hZ eT hM hown w1 w2 w3 w4 w5 w6 hy E hg hsize argsL rest has hlen hstack hdg W hW hf hl hc hs
  rw [z1, z2, List.append_nil] at X'
  exact ⟨T', X', e2.trans e', st⟩
/-- a constructor by its contract -/
theorem ospecQ (X : Stand p l e R s m args below meth c T locs cells slots) (hx : p.tables.exec = Jvm.exec) (hZ : Z.Warmed39 s.vm) (eT : T.heap = h) {own : String} {index : Nat} {y : MethodName} {bytes : ByteArray} {maxL : Nat} {rm : Room} {as : Array Value} {Q : Option Value → Heap → List Loc → Prop} (hM : OMet l Z y bytes maxL none rm as h Q)
    (hyi : y.name = "<init>") (hown : s.vm.findClass own = some m.cls) (w1 : (Jvm.Cond.methodLink own index y).before a0 Z = true) (w4 : (Jvm.Cond.instanceMethod y).before a0 Z = true) (w5 : (Jvm.Cond.initialized y.cls).before a0 Z = true) (w6 : (Jvm.Cond.code y bytes maxL none).before a0 Z = true) (hy : OPlain y) {b : Addr}
    {g : JFrame} (hg : g.method = m) (hsize : g.locals.size = c.maxLocals) (argsL rest : List Value) (has : (.ref b :: argsL).toArray = as) (hlen : ∀ sig, parseMethodDescriptor y.desc = some sig → argsL.length = sig.parameters.length) (hstack : g.stack = argsL.reverse ++ .ref b :: rest) (hdg : decode c.code g.pc = .ok (.invokespecial index, 3))
    (W : Nat) (hW : 2 * g.monitorRoom + (rest.map fun v => v.category).sum ≤ W) (hf : rm.frames + 1 ≤ R.frames) (hl : W + (maxL + 11) + rm.locals ≤ R.locals) (hc : cells + rm.cells ≤ R.cells) (hs : slots + rm.slots ≤ R.slots) :
    ∃ (v : Option Value) (T' : State) (h' : Heap) (L : List Loc), T'.heap = h' ∧ Q v h' L ∧ Stand p l e R s m args below meth c T' (locs ++ L) (cells + rm.cells) (slots + rm.slots) ∧
      ∀ target, Steps p.tables e below (T'.setTop { g with pc := g.pc + 3, stack := v.toList ++ rest }) target → Steps p.tables e below (T.setTop g) target := by
  obtain ⟨v, vm₁, ⟨T', L', k', n'⟩, -, X', ⟨L, hQ, l1, l2, l3⟩, st⟩ := X.specialBack hx (y := y) hyi hown (mvT hZ w1) (mvT hZ w4) (mvT hZ w6) hy (backOf (W := W) (hM []) hZ w6 w5 hf hl) (g := g) hg hsize (Steps.refl _) (a := b) (argsL := argsL) (rest := rest) hlen hstack hW hdg (fun _ _ => ⟨has, eT, hc, hs⟩)
  dsimp only [Pt.U, Pt.locs, Pt.cells, Pt.slots] at X' l1 l2 l3 st hQ
  subst l1 l2 l3
  exact ⟨v, T', _, L, rfl, hQ, X', fun _ k => st.trans k⟩
theorem onb {z : Int32} (q : z = 0 ∨ z = 1) : narrow .boolean (.int z) = .int z := by rcases q with rfl | rfl <;> rfl
theorem ofb {z : Int32} (q : z = 0 ∨ z = 1) : fits .boolean (.int z) = true := by rcases q with rfl | rfl <;> rfl
theorem oif01 {c : Prop} [Decidable c] {a b : Int32} (qa : a = 0 ∨ a = 1) (qb : b = 0 ∨ b = 1) : (if c then a else b) = 0 ∨ (if c then a else b) = 1 := by split <;> assumption
/-! arrays by a function of the place -/
variable {ty : FieldType} {a b : Addr} {n : Nat} {f f' : Nat → Value} {h' : Heap} {ws : List Addr} {sl : Nat} {v : Value}
def OAr (Z : State) (h : Heap) (a : Addr) (ty : FieldType) (n : Nat) (f : Nat → Value) : Prop :=
  ∃ c : Cell, Arr Z h a c ty ∧ c.slots.size = n ∧ (∀ j, j < n → c.slots[j]? = some (f j)) ∧ ∀ j, j < n → fits ty (f j) = true
theorem OAr.lt (F : OAr Z h a ty n f) : a < h.size := by obtain ⟨c, A, -⟩ := F; exact A.lt
theorem OAr.ext (F : OAr Z h a ty n f) (E : Ext h h') : OAr Z h' a ty n f := by obtain ⟨c, A, r⟩ := F; exact ⟨c, A.ext E, r⟩
theorem OAr.other (F : OAr Z h b ty n f) (W : Wr h h' a sl v) (q : b ≠ a) : OAr Z h' b ty n f := by obtain ⟨c, A, r⟩ := F; exact ⟨c, A.other W q, r⟩
theorem OAr.keep (F : OAr Z h a ty n f) (K : Keep h h' ws) (q : a ∉ ws) : OAr Z h' a ty n f := by obtain ⟨c, A, r⟩ := F; exact ⟨c, ⟨K.2.1 a c A.1 q, A.2⟩, r⟩
theorem OAr.conv (F : OAr Z h a ty n f) (q : ∀ j, j < n → f j = f' j) : OAr Z h a ty n f' := by
  obtain ⟨c, A, S, H, G⟩ := F
  exact ⟨c, A, S, fun j hj => by rw [← q j hj]; exact H j hj, fun j hj => by rw [← q j hj]; exact G j hj⟩
theorem OAr.new {k : ClassId} {z : Int32} (A : Arr Z h a (newA k ty z) ty) (q : z.toNatClampNeg = n) : OAr Z h a ty n (fun _ => defaultValue ty) :=
  ⟨_, A, (sz_new _ _ _).trans q, fun j hj => by simp [newA, q, hj], fun j _ => by cases ty <;> rfl⟩
theorem OAr.set (F : OAr Z h a ty n f) (W : Wr h h' a sl v) (hv : fits ty v = true) : OAr Z h' a ty n (fun j => if j = sl then v else f j) := by
  obtain ⟨c, A, S, H, G⟩ := F
  refine ⟨_, A.same W, by rw [sz_set]; exact S, fun j hj => ?_, fun j hj => ?_⟩
  · show (c.slots.setIfInBounds sl v)[j]? = _
    rw [Array.getElem?_setIfInBounds]
    by_cases q : j = sl
    · subst q; simp [S, hj]
    · rw [if_neg (fun z => q z.symm), H j hj]; simp [q]
  · by_cases q : j = sl
    · simp [q, hv]
    · simp [q, G j hj]
theorem oidx {j : Int32} (h0 : 0 ≤ j.toInt) (h1 : j.toInt < (n : Int)) : ¬ (j < 0) ∧ j.toNatClampNeg < n := by
  refine ⟨fun q => ?_, ?_⟩
  · rw [Int32.lt_iff_toInt_lt] at q; have : (0 : Int32).toInt = 0 := rfl; omega
  · simp only [Int32.toNatClampNeg]; omega
theorem oin {c : Cell} {j : Int32} (S : c.slots.size = n) (h0 : 0 ≤ j.toInt) (h1 : j.toInt < (n : Int)) : ¬ (j < 0 ∨ c.slots.size ≤ j.toNatClampNeg) := by
  obtain ⟨q1, q2⟩ := oidx h0 h1
  rw [S]; exact fun z => z.elim q1 (fun u => Nat.not_le.mpr q2 u)
theorem ostB (X : Stand p l e R s m args below meth c T locs cells slots) (hx : p.tables.exec = Jvm.exec) (hZ : Z.Warmed39 s.vm) (eT : T.heap = h) (F : OAr Z h a .byte n f) {j x : Int32} (h0 : 0 ≤ j.toInt) (h1 : j.toInt < (n : Int)) {g : JFrame} (hg : g.method = m) {rest : List Value} (hs : g.stack = .int x :: .int j :: .ref a :: rest) (hd : decode c.code g.pc = .ok (.bastore, 1)) :
    ∃ T' h', Stand p l e R s m args below meth c T' (locs ++ [⟨a, j.toNatClampNeg⟩]) cells slots ∧ T'.heap = h' ∧ Wr h h' a j.toNatClampNeg (.int x.toInt8.toInt32) ∧ OAr Z h' a .byte n (fun i => if i = j.toNatClampNeg then .int x.toInt8.toInt32 else f i) ∧ ∀ target, Steps p.tables e below (T'.setTop { g with pc := g.pc + 1, stack := rest }) target → Steps p.tables e below (T.setTop g) target := by
  obtain ⟨cl, A, S, H, G⟩ := F
  obtain ⟨T', h', X', e', W, st⟩ := stB X hx hZ eT A (j := j) (x := x) (oin S h0 h1) hg hs hd
  exact ⟨T', h', X', e', W, OAr.set ⟨cl, A, S, H, G⟩ W (fits_nar_byte x), st⟩
theorem ostI (X : Stand p l e R s m args below meth c T locs cells slots) (hx : p.tables.exec = Jvm.exec) (hZ : Z.Warmed39 s.vm) (eT : T.heap = h) (F : OAr Z h a .int n f) {j x : Int32} (h0 : 0 ≤ j.toInt) (h1 : j.toInt < (n : Int)) {g : JFrame} (hg : g.method = m) {rest : List Value} (hs : g.stack = .int x :: .int j :: .ref a :: rest) (hd : decode c.code g.pc = .ok (.iastore, 1)) :
    ∃ T' h', Stand p l e R s m args below meth c T' (locs ++ [⟨a, j.toNatClampNeg⟩]) cells slots ∧ T'.heap = h' ∧ Wr h h' a j.toNatClampNeg (.int x) ∧ OAr Z h' a .int n (fun i => if i = j.toNatClampNeg then .int x else f i) ∧ ∀ target, Steps p.tables e below (T'.setTop { g with pc := g.pc + 1, stack := rest }) target → Steps p.tables e below (T.setTop g) target := by
  obtain ⟨cl, A, S, H, G⟩ := F
  obtain ⟨T', h', X', e', W, st⟩ := stI X hx hZ eT A (j := j) (x := x) (oin S h0 h1) hg hs hd
  exact ⟨T', h', X', e', W, OAr.set ⟨cl, A, S, H, G⟩ W rfl, st⟩
theorem ostJ (X : Stand p l e R s m args below meth c T locs cells slots) (hx : p.tables.exec = Jvm.exec) (hZ : Z.Warmed39 s.vm) (eT : T.heap = h) (F : OAr Z h a .long n f) {j : Int32} {x : Int64} (h0 : 0 ≤ j.toInt) (h1 : j.toInt < (n : Int)) {g : JFrame} (hg : g.method = m) {rest : List Value} (hs : g.stack = .long x :: .int j :: .ref a :: rest) (hd : decode c.code g.pc = .ok (.lastore, 1)) :
    ∃ T' h', Stand p l e R s m args below meth c T' (locs ++ [⟨a, j.toNatClampNeg⟩]) cells slots ∧ T'.heap = h' ∧ Wr h h' a j.toNatClampNeg (.long x) ∧ OAr Z h' a .long n (fun i => if i = j.toNatClampNeg then .long x else f i) ∧ ∀ target, Steps p.tables e below (T'.setTop { g with pc := g.pc + 1, stack := rest }) target → Steps p.tables e below (T.setTop g) target := by
  obtain ⟨cl, A, S, H, G⟩ := F
  obtain ⟨T', h', X', e', W, st⟩ := stJ X hx hZ eT A (j := j) (x := x) (oin S h0 h1) hg hs hd
  exact ⟨T', h', X', e', W, OAr.set ⟨cl, A, S, H, G⟩ W rfl, st⟩
theorem oldB (X : Stand p l e R s m args below meth c T locs cells slots) (hx : p.tables.exec = Jvm.exec) (hZ : Z.Warmed39 s.vm) (eT : T.heap = h) (F : OAr Z h a .byte n f) {j : Int32} (h0 : 0 ≤ j.toInt) (h1 : j.toInt < (n : Int)) {g : JFrame} (hg : g.method = m) {rest : List Value} (hs : g.stack = .int j :: .ref a :: rest) (hd : decode c.code g.pc = .ok (.baload, 1)) :
    ∀ target, Steps p.tables e below (T.setTop { g with pc := g.pc + 1, stack := f j.toNatClampNeg :: rest }) target → Steps p.tables e below (T.setTop g) target := by
  obtain ⟨cl, A, S, H, G⟩ := F
  exact fun t k => X.baloadBytes hx (by rw [eT]; exact A.1) (State.isArrayOf_alike hZ.alike A.2.1) A.2.2 (oin S h0 h1) (H _ (oidx h0 h1).2) hg hs hd t k
theorem oldI (X : Stand p l e R s m args below meth c T locs cells slots) (hx : p.tables.exec = Jvm.exec) (hZ : Z.Warmed39 s.vm) (eT : T.heap = h) (F : OAr Z h a .int n f) {j : Int32} (h0 : 0 ≤ j.toInt) (h1 : j.toInt < (n : Int)) {g : JFrame} (hg : g.method = m) {rest : List Value} (hs : g.stack = .int j :: .ref a :: rest) (hd : decode c.code g.pc = .ok (.iaload, 1)) :
    ∀ target, Steps p.tables e below (T.setTop { g with pc := g.pc + 1, stack := f j.toNatClampNeg :: rest }) target → Steps p.tables e below (T.setTop g) target := by
  obtain ⟨cl, A, S, H, G⟩ := F
  exact fun t k => X.iaload hx (by rw [eT]; exact A.1) (State.isArrayOf_alike hZ.alike A.2.1) A.2.2 (oin S h0 h1) (H _ (oidx h0 h1).2) hg hs hd t k
theorem oldJ (X : Stand p l e R s m args below meth c T locs cells slots) (hx : p.tables.exec = Jvm.exec) (hZ : Z.Warmed39 s.vm) (eT : T.heap = h) (F : OAr Z h a .long n f) {j : Int32} (h0 : 0 ≤ j.toInt) (h1 : j.toInt < (n : Int)) {g : JFrame} (hg : g.method = m) {rest : List Value} (hs : g.stack = .int j :: .ref a :: rest) (hd : decode c.code g.pc = .ok (.laload, 1)) :
    ∀ target, Steps p.tables e below (T.setTop { g with pc := g.pc + 1, stack := f j.toNatClampNeg :: rest }) target → Steps p.tables e below (T.setTop g) target := by
  obtain ⟨cl, A, S, H, G⟩ := F
  exact fun t k => X.laload hx (by rw [eT]; exact A.1) (State.isArrayOf_alike hZ.alike A.2.1) A.2.2 (oin S h0 h1) (H _ (oidx h0 h1).2) hg hs hd t k
theorem oalen (X : Stand p l e R s m args below meth c T locs cells slots) (hx : p.tables.exec = Jvm.exec) (hZ : Z.Warmed39 s.vm) (eT : T.heap = h) (F : OAr Z h a ty n f) {g : JFrame} (hg : g.method = m) {rest : List Value} (hs : g.stack = .ref a :: rest) (hd : decode c.code g.pc = .ok (.arraylength, 1)) :
    ∀ target, Steps p.tables e below (T.setTop { g with pc := g.pc + 1, stack := .int n.toInt32 :: rest }) target → Steps p.tables e below (T.setTop g) target := by
  obtain ⟨cl, A, S, H, G⟩ := F
  subst S
  exact fun t k => X.arraylength hx (by rw [eT]; exact A.1) (State.isArrayOf_alike hZ.alike A.2.1) hg hs hd t k
theorem oclone (X : Stand p l e R s m args below meth c T locs cells slots) (hx : p.tables.exec = Jvm.exec) (hZ : Z.Warmed39 s.vm) {own ad : String} {index : Nat} (hown : s.vm.findClass own = some m.cls)
    (w1 : (Jvm.Cond.methodLink own index ⟨ad, "clone", "()Ljava/lang/Object;"⟩).before a0 Z = true) (w2 : (Jvm.Cond.sameMethod ad "java/lang/Object" "clone" "()Ljava/lang/Object;").before a0 Z = true) (w3 : (Jvm.Cond.native ⟨"java/lang/Object", "clone", "()Ljava/lang/Object;"⟩).before a0 Z = true)
    (w4 : (Jvm.Cond.instanceMethod ⟨"java/lang/Object", "clone", "()Ljava/lang/Object;"⟩).before a0 Z = true) (w5 : (Jvm.Cond.selects ad ⟨ad, "clone", "()Ljava/lang/Object;"⟩ ⟨"java/lang/Object", "clone", "()Ljava/lang/Object;"⟩).before a0 Z = true) (w6 : (Jvm.Cond.castable ad "java/lang/Cloneable").before a0 Z = true)
    (eT : T.heap = h) (F : OAr Z h a ty n f) (E : Exa Z h a ad) {g : JFrame} (hg : g.method = m) (hsize : g.locals.size = c.maxLocals) {rest : List Value} (hs : g.stack = .ref a :: rest) (hd : decode c.code g.pc = .ok (.invokevirtual index, 3))
    (hf : 1 ≤ R.frames) (W : Nat) (hW : 2 * g.monitorRoom + (rest.map fun v => v.category).sum ≤ W) (hl : W + 14 ≤ R.locals) (hc : cells + 1 ≤ R.cells) (hsl : slots + n ≤ R.slots) :
    ∃ T' h', Stand p l e R s m args below meth c T' locs (cells + 1) (slots + n) ∧ T'.heap = h' ∧ Ext h h' ∧ OAr Z h' h.size ty n f ∧ Exa Z h' h.size ad ∧
      ∀ target, Steps p.tables e below (T'.setTop { g with pc := g.pc + 3, stack := .ref h.size :: rest }) target → Steps p.tables e below (T.setTop g) target := by
  obtain ⟨cl, A, S, H, G⟩ := F
  have FC : FitC Z cl := fitC_of A fun i hi v hv => by rw [H i (S ▸ hi)] at hv; cases hv; exact G i (S ▸ hi)
  obtain ⟨T', h', X', e', ex, A', E', st⟩ := cloneA X hx hZ hown w1 w2 w3 w4 w5 w6 eT A E FC hg hsize hs hd hf hW hl (Nat.le_of_eq S) hc hsl
  exact ⟨T', h', X', e', ex, ⟨cloneOf cl, A', S, H, G⟩, E', st⟩
end OwnGo
end Jvm.OwnKit
namespace Jvm.Pilot.@@N@@
open Jvm Jvm.ClassFile Sem Op Lib Jvm.Free Jvm.Stand Jvm.LawKit Jvm.RoadKit Bundle Jvm.OwnKit Jvm.Pilot.@@N@@.Jvm.D
theorem d1_0 : decode prog_20_method_3_code 0 = .ok (.lload_n 0, 1) := by decide +kernel
theorem d1_1 : decode prog_20_method_3_code 1 = .ok (.lconst 1, 1) := by decide +kernel
theorem d1_2 : decode prog_20_method_3_code 2 = .ok (.lcmp, 1) := by decide +kernel
theorem d1_3 : decode prog_20_method_3_code 3 = .ok (.ifCond .lt 19, 3) := by decide +kernel
theorem d1_6 : decode prog_20_method_3_code 6 = .ok (.lload_n 2, 1) := by decide +kernel
theorem d1_7 : decode prog_20_method_3_code 7 = .ok (.lconst 0, 1) := by decide +kernel
theorem d1_8 : decode prog_20_method_3_code 8 = .ok (.lcmp, 1) := by decide +kernel
theorem d1_9 : decode prog_20_method_3_code 9 = .ok (.ifCond .eq 9, 3) := by decide +kernel
theorem d1_12 : decode prog_20_method_3_code 12 = .ok (.lload_n 2, 1) := by decide +kernel
theorem d1_13 : decode prog_20_method_3_code 13 = .ok (.lload_n 0, 1) := by decide +kernel
theorem d1_14 : decode prog_20_method_3_code 14 = .ok (.lcmp, 1) := by decide +kernel
theorem d1_15 : decode prog_20_method_3_code 15 = .ok (.ifCond .lt 7, 3) := by decide +kernel
theorem d1_18 : decode prog_20_method_3_code 18 = .ok (.iconst 1, 1) := by decide +kernel
theorem d1_19 : decode prog_20_method_3_code 19 = .ok (.goto 4, 3) := by decide +kernel
theorem d1_22 : decode prog_20_method_3_code 22 = .ok (.iconst 0, 1) := by decide +kernel
theorem d1_23 : decode prog_20_method_3_code 23 = .ok (.ireturn, 1) := by decide +kernel
theorem pn_1 : plainName "com/example/tidy_handshake/tidyhandshake/ResendRequest" = true := by first | (simp [plainName, overriddenIn]; done) | decide +kernel
theorem ef_1 (m : MethodId) (x0 : Int64) (x1 : Int64) : entryFrame m #[(.long x0), (.long x1)] 4 = mkF m 0 #[.val (.long x0), .second, .val (.long x1), .second] [] := by first | (simp [entryFrame, mkF, argsToLocals, Value.category]; done) | rfl
def namesF (qa : Int64) (qb : Int64)  : Int32 := (let w_1_10 : Int32 := (if qa < (1 : Int64) then (0 : Int32) else (if qb = (0 : Int64) then (1 : Int32) else (if qb < qa then (0 : Int32) else (1 : Int32)))); w_1_10)
set_option maxRecDepth 65536 in
set_option maxHeartbeats 40000000 in
theorem rm1 (l : Launch) (Z : State) (a0 : Array Value) (hw : ∀ d ∈ tables_1, d.before a0 Z = true) (qa : Int64) (qb : Int64)  (h0 : Heap)  :
    OMet l Z (⟨"com/example/tidy_handshake/tidyhandshake/ResendRequest", "namesMessages", "(JJ)Z"⟩ : MethodName) prog_20_method_3_code 4 (some .boolean) ({ frames := 0, cells := 0, slots := 0, locals := 0 } : Room) #[(.long qa), (.long qb)] h0 (OPure (some (.int (namesF qa qb))) h0) := by
  intro ws
  refine MetFree.of_bodySF (plainFor_of_name pn_1) hisR ?_
  intro p e s m args below meth c s₁ Bd hml0 hP hK
  obtain ⟨rfl, hZ, hh⟩ := hP
  have hx := Bd.exec
  have hby := Bd.bytes
  have hml : c.maxLocals = 4 := hml0
  have hown : s.vm.findClass "com/example/tidy_handshake/tidyhandshake/ResendRequest" = some m.cls := findClass_of_methodNamed Bd.named
  have hnm := (name_of_methodNamed Bd.named Bd.method).1
  have hlk : meth.locks = false := Bd.notSynchronized
  have X0 : Stand p l e ({ frames := 0, cells := 0, slots := 0, locals := 0 } : Room) s m #[(.long qa), (.long qb)] below meth c s₁ [] 0 0 := Stand.of_body Bd
  have e0 : s₁.heap = h0 := by rw [← hh, Bd.state]; rfl
  refine (?_ : OGo p.tables e below (OFin s (OPure (some (.int (namesF qa qb))) h0) 0 0) _)
  refine ogo (fun _ k => castTop (ef_1 m qa qb) k) ?_
  show OGo _ _ _ _ (s₁.setTop (mkF m 0 #[.val (.long qa), .second, .val (.long qb), .second] []))
  refine ogo (fun _ k => XS.lloadN X0.here hx rfl (hb hby d1_0) rfl k) ?_
  show OGo _ _ _ _ (s₁.setTop (mkF m 1 #[.val (.long qa), .second, .val (.long qb), .second] [(.long qa)]))
  refine ogo (fun _ k => XS.lconst X0.here hx rfl (hb hby d1_1) k) ?_
  show OGo _ _ _ _ (s₁.setTop (mkF m 2 #[.val (.long qa), .second, .val (.long qb), .second] [(.long (1 : Int64)), (.long qa)]))
  refine ogo (fun _ k => XS.lcmp X0.here hx rfl (hb hby d1_2) rfl k) ?_
  show OGo _ _ _ _ (s₁.setTop (mkF m 3 #[.val (.long qa), .second, .val (.long qb), .second] [(.int (lcmpW qa (1 : Int64)))]))
  suffices J_1_11 : ∀ (w_1_10 : Int32) (hw_1_10 : w_1_10 = (if qa < (1 : Int64) then (0 : Int32) else (if qb = (0 : Int64) then (1 : Int32) else (if qb < qa then (0 : Int32) else (1 : Int32))))), OGo p.tables e below (OFin s (OPure (some (.int (namesF qa qb))) h0) 0 0) (s₁.setTop (mkF m 23 #[.val (.long qa), .second, .val (.long qb), .second] [(.int w_1_10)])) by
    by_cases hc_1_1 : qa < (1 : Int64)
    · refine ogo (fun _ k => XS.ifYes X0.here hx rfl (pc0 := 3) (pc' := 22) rfl (hb hby d1_3) rfl ((if0 _ _).trans (tlt ((lw_lt _ _).mpr hc_1_1)).1) (by decide) (by decide) k) ?_
      show OGo _ _ _ _ (s₁.setTop (mkF m 22 #[.val (.long qa), .second, .val (.long qb), .second] []))
      refine ogo (fun _ k => XS.iconst X0.here hx rfl (hb hby d1_22) k) ?_
      show OGo _ _ _ _ (s₁.setTop (mkF m 23 #[.val (.long qa), .second, .val (.long qb), .second] [(.int (0 : Int32))]))
      exact J_1_11 _ (if_pos hc_1_1).symm
    · refine ogo (fun _ k => XS.ifNo X0.here hx rfl (hb hby d1_3) rfl ((if0 _ _).trans (flt (fun q => hc_1_1 ((lw_lt _ _).mp q))).1) k) ?_
      show OGo _ _ _ _ (s₁.setTop (mkF m 6 #[.val (.long qa), .second, .val (.long qb), .second] []))
      refine ogo (fun _ k => XS.lloadN X0.here hx rfl (hb hby d1_6) rfl k) ?_
      show OGo _ _ _ _ (s₁.setTop (mkF m 7 #[.val (.long qa), .second, .val (.long qb), .second] [(.long qb)]))
      refine ogo (fun _ k => XS.lconst X0.here hx rfl (hb hby d1_7) k) ?_
      show OGo _ _ _ _ (s₁.setTop (mkF m 8 #[.val (.long qa), .second, .val (.long qb), .second] [(.long (0 : Int64)), (.long qb)]))
      refine ogo (fun _ k => XS.lcmp X0.here hx rfl (hb hby d1_8) rfl k) ?_
      show OGo _ _ _ _ (s₁.setTop (mkF m 9 #[.val (.long qa), .second, .val (.long qb), .second] [(.int (lcmpW qb (0 : Int64)))]))
      suffices J_1_8 : ∀ (w_1_7 : Int32) (hw_1_7 : w_1_7 = (if qb = (0 : Int64) then (1 : Int32) else (if qb < qa then (0 : Int32) else (1 : Int32)))), OGo p.tables e below (OFin s (OPure (some (.int (namesF qa qb))) h0) 0 0) (s₁.setTop (mkF m 23 #[.val (.long qa), .second, .val (.long qb), .second] [(.int w_1_7)])) by
        by_cases hc_1_2 : qb = (0 : Int64)
        · refine ogo (fun _ k => XS.ifYes X0.here hx rfl (pc0 := 9) (pc' := 18) rfl (hb hby d1_9) rfl ((if0 _ _).trans (teq ((lw_eq _ _).mpr hc_1_2)).1) (by decide) (by decide) k) ?_
          show OGo _ _ _ _ (s₁.setTop (mkF m 18 #[.val (.long qa), .second, .val (.long qb), .second] []))
          refine ogo (fun _ k => XS.iconst X0.here hx rfl (hb hby d1_18) k) ?_
          show OGo _ _ _ _ (s₁.setTop (mkF m 19 #[.val (.long qa), .second, .val (.long qb), .second] [(.int (1 : Int32))]))
          refine ogo (fun _ k => XS.goto X0.here hx rfl (pc0 := 19) (pc' := 23) rfl (hb hby d1_19) (by decide) (by decide) k) ?_
          show OGo _ _ _ _ (s₁.setTop (mkF m 23 #[.val (.long qa), .second, .val (.long qb), .second] [(.int (1 : Int32))]))
          exact J_1_8 _ (if_pos hc_1_2).symm
        · refine ogo (fun _ k => XS.ifNo X0.here hx rfl (hb hby d1_9) rfl ((if0 _ _).trans (feq (fun q => hc_1_2 ((lw_eq _ _).mp q))).1) k) ?_
          show OGo _ _ _ _ (s₁.setTop (mkF m 12 #[.val (.long qa), .second, .val (.long qb), .second] []))
          refine ogo (fun _ k => XS.lloadN X0.here hx rfl (hb hby d1_12) rfl k) ?_
          show OGo _ _ _ _ (s₁.setTop (mkF m 13 #[.val (.long qa), .second, .val (.long qb), .second] [(.long qb)]))
          refine ogo (fun _ k => XS.lloadN X0.here hx rfl (hb hby d1_13) rfl k) ?_
          show OGo _ _ _ _ (s₁.setTop (mkF m 14 #[.val (.long qa), .second, .val (.long qb), .second] [(.long qa), (.long qb)]))
          refine ogo (fun _ k => XS.lcmp X0.here hx rfl (hb hby d1_14) rfl k) ?_
          show OGo _ _ _ _ (s₁.setTop (mkF m 15 #[.val (.long qa), .second, .val (.long qb), .second] [(.int (lcmpW qb qa))]))
          suffices J_1_5 : ∀ (w_1_4 : Int32) (hw_1_4 : w_1_4 = (if qb < qa then (0 : Int32) else (1 : Int32))), OGo p.tables e below (OFin s (OPure (some (.int (namesF qa qb))) h0) 0 0) (s₁.setTop (mkF m 23 #[.val (.long qa), .second, .val (.long qb), .second] [(.int w_1_4)])) by
            by_cases hc_1_3 : qb < qa
            · refine ogo (fun _ k => XS.ifYes X0.here hx rfl (pc0 := 15) (pc' := 22) rfl (hb hby d1_15) rfl ((if0 _ _).trans (tlt ((lw_lt _ _).mpr hc_1_3)).1) (by decide) (by decide) k) ?_
              show OGo _ _ _ _ (s₁.setTop (mkF m 22 #[.val (.long qa), .second, .val (.long qb), .second] []))
              refine ogo (fun _ k => XS.iconst X0.here hx rfl (hb hby d1_22) k) ?_
              show OGo _ _ _ _ (s₁.setTop (mkF m 23 #[.val (.long qa), .second, .val (.long qb), .second] [(.int (0 : Int32))]))
              exact J_1_5 _ (if_pos hc_1_3).symm
            · refine ogo (fun _ k => XS.ifNo X0.here hx rfl (hb hby d1_15) rfl ((if0 _ _).trans (flt (fun q => hc_1_3 ((lw_lt _ _).mp q))).1) k) ?_
              show OGo _ _ _ _ (s₁.setTop (mkF m 18 #[.val (.long qa), .second, .val (.long qb), .second] []))
              refine ogo (fun _ k => XS.iconst X0.here hx rfl (hb hby d1_18) k) ?_
              show OGo _ _ _ _ (s₁.setTop (mkF m 19 #[.val (.long qa), .second, .val (.long qb), .second] [(.int (1 : Int32))]))
              refine ogo (fun _ k => XS.goto X0.here hx rfl (pc0 := 19) (pc' := 23) rfl (hb hby d1_19) (by decide) (by decide) k) ?_
              show OGo _ _ _ _ (s₁.setTop (mkF m 23 #[.val (.long qa), .second, .val (.long qb), .second] [(.int (1 : Int32))]))
              exact J_1_5 _ (if_neg hc_1_3).symm
          intro w_1_4 hw_1_4
          subst hw_1_4
          exact J_1_8 _ (if_neg hc_1_2).symm
      intro w_1_7 hw_1_7
      subst hw_1_7
      exact J_1_11 _ (if_neg hc_1_1).symm
  intro w_1_10 hw_1_10
  exact oret X0 hx hlk Bd.returns (onb (by subst hw_1_10; repeat' first | decide | apply oif01)) (Or.inl ⟨rfl, Or.inr (Or.inl rfl), _, rfl⟩) (hb hby d1_23) (by decide) (by decide) ⟨by subst hw_1_10; rfl, rfl, e0⟩
theorem d2_0 : decode method_2_code 0 = .ok (.lload_n 0, 1) := by decide +kernel
theorem d2_1 : decode method_2_code 1 = .ok (.lconst 0, 1) := by decide +kernel
theorem d2_2 : decode method_2_code 2 = .ok (.lcmp, 1) := by decide +kernel
theorem d2_3 : decode method_2_code 3 = .ok (.ifCond .le 5, 3) := by decide +kernel
theorem d2_6 : decode method_2_code 6 = .ok (.lload_n 0, 1) := by decide +kernel
theorem d2_7 : decode method_2_code 7 = .ok (.lreturn, 1) := by decide +kernel
theorem d2_8 : decode method_2_code 8 = .ok (.lload_n 0, 1) := by decide +kernel
theorem d2_9 : decode method_2_code 9 = .ok (.lconst 0, 1) := by decide +kernel
theorem d2_10 : decode method_2_code 10 = .ok (.lcmp, 1) := by decide +kernel
theorem d2_11 : decode method_2_code 11 = .ok (.ifCond .ge 14, 3) := by decide +kernel
theorem d2_14 : decode method_2_code 14 = .ok (.lload_n 0, 1) := by decide +kernel
theorem d2_15 : decode method_2_code 15 = .ok (.ldc2_w 9, 3) := by decide +kernel
theorem d2_18 : decode method_2_code 18 = .ok (.lcmp, 1) := by decide +kernel
theorem d2_19 : decode method_2_code 19 = .ok (.ifCond .eq 6, 3) := by decide +kernel
theorem d2_22 : decode method_2_code 22 = .ok (.lload_n 0, 1) := by decide +kernel
theorem d2_23 : decode method_2_code 23 = .ok (.lneg, 1) := by decide +kernel
theorem d2_24 : decode method_2_code 24 = .ok (.lreturn, 1) := by decide +kernel
theorem d2_25 : decode method_2_code 25 = .ok (.lconst 1, 1) := by decide +kernel
theorem d2_26 : decode method_2_code 26 = .ok (.lreturn, 1) := by decide +kernel
theorem pn_2 : plainName "com/example/tidy_handshake/tidyhandshake/ResendRequestNamesMessagesPinLaw" = true := by first | (simp [plainName, overriddenIn]; done) | decide +kernel
theorem ef_2 (m : MethodId) (x0 : Int64) : entryFrame m #[(.long x0)] 2 = mkF m 0 #[.val (.long x0), .second] [] := by first | (simp [entryFrame, mkF, argsToLocals, Value.category]; done) | rfl
def posF (qa : Int64)  : Int64 := (if (0 : Int64) < qa then qa else (if qa < (0 : Int64) then (if qa = (-9223372036854775808 : Int64) then (1 : Int64) else (-qa)) else (1 : Int64)))
set_option maxRecDepth 65536 in
set_option maxHeartbeats 40000000 in
theorem rm2 (l : Launch) (Z : State) (a0 : Array Value) (hw : ∀ d ∈ tables_1, d.before a0 Z = true) (qa : Int64)  (h0 : Heap)  :
    OMet l Z (⟨"com/example/tidy_handshake/tidyhandshake/ResendRequestNamesMessagesPinLaw", "positive", "(J)J"⟩ : MethodName) method_2_code 2 (some .long) ({ frames := 0, cells := 0, slots := 0, locals := 0 } : Room) #[(.long qa)] h0 (OPure (some (.long (posF qa))) h0) := by
  intro ws
  refine MetFree.of_bodySF (plainFor_of_name pn_2) hisR ?_
  intro p e s m args below meth c s₁ Bd hml0 hP hK
  obtain ⟨rfl, hZ, hh⟩ := hP
  have hx := Bd.exec
  have hby := Bd.bytes
  have hml : c.maxLocals = 2 := hml0
  have hown : s.vm.findClass "com/example/tidy_handshake/tidyhandshake/ResendRequestNamesMessagesPinLaw" = some m.cls := findClass_of_methodNamed Bd.named
  have hnm := (name_of_methodNamed Bd.named Bd.method).1
  have hlk : meth.locks = false := Bd.notSynchronized
  have X0 : Stand p l e ({ frames := 0, cells := 0, slots := 0, locals := 0 } : Room) s m #[(.long qa)] below meth c s₁ [] 0 0 := Stand.of_body Bd
  have e0 : s₁.heap = h0 := by rw [← hh, Bd.state]; rfl
  refine (?_ : OGo p.tables e below (OFin s (OPure (some (.long (posF qa))) h0) 0 0) _)
  refine ogo (fun _ k => castTop (ef_2 m qa) k) ?_
  show OGo _ _ _ _ (s₁.setTop (mkF m 0 #[.val (.long qa), .second] []))
  refine ogo (fun _ k => XS.lloadN X0.here hx rfl (hb hby d2_0) rfl k) ?_
  show OGo _ _ _ _ (s₁.setTop (mkF m 1 #[.val (.long qa), .second] [(.long qa)]))
  refine ogo (fun _ k => XS.lconst X0.here hx rfl (hb hby d2_1) k) ?_
  show OGo _ _ _ _ (s₁.setTop (mkF m 2 #[.val (.long qa), .second] [(.long (0 : Int64)), (.long qa)]))
  refine ogo (fun _ k => XS.lcmp X0.here hx rfl (hb hby d2_2) rfl k) ?_
  show OGo _ _ _ _ (s₁.setTop (mkF m 3 #[.val (.long qa), .second] [(.int (lcmpW qa (0 : Int64)))]))
  by_cases hc_2_1 : (0 : Int64) < qa
  · refine ogo (fun _ k => XS.ifNo X0.here hx rfl (hb hby d2_3) rfl ((if0 _ _).trans (tlt ((lw_gt _ _).mpr hc_2_1)).2.2.2) k) ?_
    show OGo _ _ _ _ (s₁.setTop (mkF m 6 #[.val (.long qa), .second] []))
    refine ogo (fun _ k => XS.lloadN X0.here hx rfl (hb hby d2_6) rfl k) ?_
    show OGo _ _ _ _ (s₁.setTop (mkF m 7 #[.val (.long qa), .second] [(.long qa)]))
    exact oret X0 hx hlk Bd.returns rfl (Or.inr (Or.inl ⟨rfl, rfl, _, rfl⟩)) (hb hby d2_7) (by decide) (by decide) ⟨by simp only [posF, if_pos hc_2_1], rfl, e0⟩
  · refine ogo (fun _ k => XS.ifYes X0.here hx rfl (pc0 := 3) (pc' := 8) rfl (hb hby d2_3) rfl ((if0 _ _).trans (flt (fun q => hc_2_1 ((lw_gt _ _).mp q))).2.2.2) (by decide) (by decide) k) ?_
    show OGo _ _ _ _ (s₁.setTop (mkF m 8 #[.val (.long qa), .second] []))
    refine ogo (fun _ k => XS.lloadN X0.here hx rfl (hb hby d2_8) rfl k) ?_
    show OGo _ _ _ _ (s₁.setTop (mkF m 9 #[.val (.long qa), .second] [(.long qa)]))
    refine ogo (fun _ k => XS.lconst X0.here hx rfl (hb hby d2_9) k) ?_
    show OGo _ _ _ _ (s₁.setTop (mkF m 10 #[.val (.long qa), .second] [(.long (0 : Int64)), (.long qa)]))
    refine ogo (fun _ k => XS.lcmp X0.here hx rfl (hb hby d2_10) rfl k) ?_
    show OGo _ _ _ _ (s₁.setTop (mkF m 11 #[.val (.long qa), .second] [(.int (lcmpW qa (0 : Int64)))]))
    by_cases hc_2_2 : qa < (0 : Int64)
    · refine ogo (fun _ k => XS.ifNo X0.here hx rfl (hb hby d2_11) rfl ((if0 _ _).trans (tlt ((lw_lt _ _).mpr hc_2_2)).2.1) k) ?_
      show OGo _ _ _ _ (s₁.setTop (mkF m 14 #[.val (.long qa), .second] []))
      refine ogo (fun _ k => XS.lloadN X0.here hx rfl (hb hby d2_14) rfl k) ?_
      show OGo _ _ _ _ (s₁.setTop (mkF m 15 #[.val (.long qa), .second] [(.long qa)]))
      refine ogo (fun _ k => X0.ldc2J hx hown (mvT hZ (hw _ (List.mem_of_getElem? (i := 12) rfl))) rfl (hb hby d2_15) k) ?_
      show OGo _ _ _ _ (s₁.setTop (mkF m 18 #[.val (.long qa), .second] [(.long (-9223372036854775808 : Int64)), (.long qa)]))
      refine ogo (fun _ k => XS.lcmp X0.here hx rfl (hb hby d2_18) rfl k) ?_
      show OGo _ _ _ _ (s₁.setTop (mkF m 19 #[.val (.long qa), .second] [(.int (lcmpW qa (-9223372036854775808 : Int64)))]))
      by_cases hc_2_3 : qa = (-9223372036854775808 : Int64)
      · refine ogo (fun _ k => XS.ifYes X0.here hx rfl (pc0 := 19) (pc' := 25) rfl (hb hby d2_19) rfl ((if0 _ _).trans (teq ((lw_eq _ _).mpr hc_2_3)).1) (by decide) (by decide) k) ?_
        show OGo _ _ _ _ (s₁.setTop (mkF m 25 #[.val (.long qa), .second] []))
        refine ogo (fun _ k => XS.lconst X0.here hx rfl (hb hby d2_25) k) ?_
        show OGo _ _ _ _ (s₁.setTop (mkF m 26 #[.val (.long qa), .second] [(.long (1 : Int64))]))
        exact oret X0 hx hlk Bd.returns rfl (Or.inr (Or.inl ⟨rfl, rfl, _, rfl⟩)) (hb hby d2_26) (by decide) (by decide) ⟨by simp only [posF, if_neg hc_2_1, if_pos hc_2_2, if_pos hc_2_3], rfl, e0⟩
      · refine ogo (fun _ k => XS.ifNo X0.here hx rfl (hb hby d2_19) rfl ((if0 _ _).trans (feq (fun q => hc_2_3 ((lw_eq _ _).mp q))).1) k) ?_
        show OGo _ _ _ _ (s₁.setTop (mkF m 22 #[.val (.long qa), .second] []))
        refine ogo (fun _ k => XS.lloadN X0.here hx rfl (hb hby d2_22) rfl k) ?_
        show OGo _ _ _ _ (s₁.setTop (mkF m 23 #[.val (.long qa), .second] [(.long qa)]))
        refine ogo (fun _ k => XS.lneg X0.here hx rfl (hb hby d2_23) rfl k) ?_
        show OGo _ _ _ _ (s₁.setTop (mkF m 24 #[.val (.long qa), .second] [(.long (-qa))]))
        exact oret X0 hx hlk Bd.returns rfl (Or.inr (Or.inl ⟨rfl, rfl, _, rfl⟩)) (hb hby d2_24) (by decide) (by decide) ⟨by simp only [posF, if_neg hc_2_1, if_pos hc_2_2, if_neg hc_2_3], rfl, e0⟩
    · refine ogo (fun _ k => XS.ifYes X0.here hx rfl (pc0 := 11) (pc' := 25) rfl (hb hby d2_11) rfl ((if0 _ _).trans (flt (fun q => hc_2_2 ((lw_lt _ _).mp q))).2.1) (by decide) (by decide) k) ?_
      show OGo _ _ _ _ (s₁.setTop (mkF m 25 #[.val (.long qa), .second] []))
      refine ogo (fun _ k => XS.lconst X0.here hx rfl (hb hby d2_25) k) ?_
      show OGo _ _ _ _ (s₁.setTop (mkF m 26 #[.val (.long qa), .second] [(.long (1 : Int64))]))
      exact oret X0 hx hlk Bd.returns rfl (Or.inr (Or.inl ⟨rfl, rfl, _, rfl⟩)) (hb hby d2_26) (by decide) (by decide) ⟨by simp only [posF, if_neg hc_2_1, if_neg hc_2_2], rfl, e0⟩
theorem d3_0 : decode jdk_29_method_70_code 0 = .ok (.lload_n 0, 1) := by decide +kernel
theorem d3_1 : decode jdk_29_method_70_code 1 = .ok (.lload_n 2, 1) := by decide +kernel
theorem d3_2 : decode jdk_29_method_70_code 2 = .ok (.lcmp, 1) := by decide +kernel
theorem d3_3 : decode jdk_29_method_70_code 3 = .ok (.ifCond .gt 7, 3) := by decide +kernel
theorem d3_6 : decode jdk_29_method_70_code 6 = .ok (.lload_n 0, 1) := by decide +kernel
theorem d3_7 : decode jdk_29_method_70_code 7 = .ok (.goto 4, 3) := by decide +kernel
theorem d3_10 : decode jdk_29_method_70_code 10 = .ok (.lload_n 2, 1) := by decide +kernel
theorem d3_11 : decode jdk_29_method_70_code 11 = .ok (.lreturn, 1) := by decide +kernel
theorem ef_3 (m : MethodId) (x0 : Int64) (x1 : Int64) : entryFrame m #[(.long x0), (.long x1)] 4 = mkF m 0 #[.val (.long x0), .second, .val (.long x1), .second] [] := by first | (simp [entryFrame, mkF, argsToLocals, Value.category]; done) | rfl
def minF (qa : Int64) (qb : Int64)  : Int64 := (let w_3_2 : Int64 := (if qb < qa then qb else qa); w_3_2)
set_option maxRecDepth 65536 in
set_option maxHeartbeats 40000000 in
theorem rm3 (l : Launch) (Z : State) (a0 : Array Value) (hw : ∀ d ∈ tables_1, d.before a0 Z = true) (qa : Int64) (qb : Int64)  (h0 : Heap)  :
    OMet l Z (⟨"java/lang/Math", "min", "(JJ)J"⟩ : MethodName) jdk_29_method_70_code 4 (some .long) ({ frames := 0, cells := 0, slots := 0, locals := 0 } : Room) #[(.long qa), (.long qb)] h0 (OPure (some (.long (minF qa qb))) h0) := by
  intro ws
  refine MetFree.of_bodySF (Jvm.Free.JP.mathPlain rfl (by decide +kernel)) hisR ?_
  intro p e s m args below meth c s₁ Bd hml0 hP hK
  obtain ⟨rfl, hZ, hh⟩ := hP
  have hx := Bd.exec
  have hby := Bd.bytes
  have hml : c.maxLocals = 4 := hml0
  have hown : s.vm.findClass "java/lang/Math" = some m.cls := findClass_of_methodNamed Bd.named
  have hnm := (name_of_methodNamed Bd.named Bd.method).1
  have hlk : meth.locks = false := Bd.notSynchronized
  have X0 : Stand p l e ({ frames := 0, cells := 0, slots := 0, locals := 0 } : Room) s m #[(.long qa), (.long qb)] below meth c s₁ [] 0 0 := Stand.of_body Bd
  have e0 : s₁.heap = h0 := by rw [← hh, Bd.state]; rfl
  refine (?_ : OGo p.tables e below (OFin s (OPure (some (.long (minF qa qb))) h0) 0 0) _)
  refine ogo (fun _ k => castTop (ef_3 m qa qb) k) ?_
  show OGo _ _ _ _ (s₁.setTop (mkF m 0 #[.val (.long qa), .second, .val (.long qb), .second] []))
  refine ogo (fun _ k => XS.lloadN X0.here hx rfl (hb hby d3_0) rfl k) ?_
  show OGo _ _ _ _ (s₁.setTop (mkF m 1 #[.val (.long qa), .second, .val (.long qb), .second] [(.long qa)]))
  refine ogo (fun _ k => XS.lloadN X0.here hx rfl (hb hby d3_1) rfl k) ?_
  show OGo _ _ _ _ (s₁.setTop (mkF m 2 #[.val (.long qa), .second, .val (.long qb), .second] [(.long qb), (.long qa)]))
  refine ogo (fun _ k => XS.lcmp X0.here hx rfl (hb hby d3_2) rfl k) ?_
  show OGo _ _ _ _ (s₁.setTop (mkF m 3 #[.val (.long qa), .second, .val (.long qb), .second] [(.int (lcmpW qa qb))]))
  suffices J_3_3 : ∀ (w_3_2 : Int64) (hw_3_2 : w_3_2 = (if qb < qa then qb else qa)), OGo p.tables e below (OFin s (OPure (some (.long (minF qa qb))) h0) 0 0) (s₁.setTop (mkF m 11 #[.val (.long qa), .second, .val (.long qb), .second] [(.long w_3_2)])) by
    by_cases hc_3_1 : qb < qa
    · refine ogo (fun _ k => XS.ifYes X0.here hx rfl (pc0 := 3) (pc' := 10) rfl (hb hby d3_3) rfl ((if0 _ _).trans (tlt ((lw_gt _ _).mpr hc_3_1)).2.2.1) (by decide) (by decide) k) ?_
      show OGo _ _ _ _ (s₁.setTop (mkF m 10 #[.val (.long qa), .second, .val (.long qb), .second] []))
      refine ogo (fun _ k => XS.lloadN X0.here hx rfl (hb hby d3_10) rfl k) ?_
      show OGo _ _ _ _ (s₁.setTop (mkF m 11 #[.val (.long qa), .second, .val (.long qb), .second] [(.long qb)]))
      exact J_3_3 _ (if_pos hc_3_1).symm
    · refine ogo (fun _ k => XS.ifNo X0.here hx rfl (hb hby d3_3) rfl ((if0 _ _).trans (flt (fun q => hc_3_1 ((lw_gt _ _).mp q))).2.2.1) k) ?_
      show OGo _ _ _ _ (s₁.setTop (mkF m 6 #[.val (.long qa), .second, .val (.long qb), .second] []))
      refine ogo (fun _ k => XS.lloadN X0.here hx rfl (hb hby d3_6) rfl k) ?_
      show OGo _ _ _ _ (s₁.setTop (mkF m 7 #[.val (.long qa), .second, .val (.long qb), .second] [(.long qa)]))
      refine ogo (fun _ k => XS.goto X0.here hx rfl (pc0 := 7) (pc' := 11) rfl (hb hby d3_7) (by decide) (by decide) k) ?_
      show OGo _ _ _ _ (s₁.setTop (mkF m 11 #[.val (.long qa), .second, .val (.long qb), .second] [(.long qa)]))
      exact J_3_3 _ (if_neg hc_3_1).symm
  intro w_3_2 hw_3_2
  exact oret X0 hx hlk Bd.returns rfl (Or.inr (Or.inl ⟨rfl, rfl, _, rfl⟩)) (hb hby d3_11) (by decide) (by decide) ⟨by subst hw_3_2; rfl, rfl, e0⟩
theorem d4_0 : decode jdk_29_method_66_code 0 = .ok (.lload_n 0, 1) := by decide +kernel
theorem d4_1 : decode jdk_29_method_66_code 1 = .ok (.lload_n 2, 1) := by decide +kernel
theorem d4_2 : decode jdk_29_method_66_code 2 = .ok (.lcmp, 1) := by decide +kernel
theorem d4_3 : decode jdk_29_method_66_code 3 = .ok (.ifCond .lt 7, 3) := by decide +kernel
theorem d4_6 : decode jdk_29_method_66_code 6 = .ok (.lload_n 0, 1) := by decide +kernel
theorem d4_7 : decode jdk_29_method_66_code 7 = .ok (.goto 4, 3) := by decide +kernel
theorem d4_10 : decode jdk_29_method_66_code 10 = .ok (.lload_n 2, 1) := by decide +kernel
theorem d4_11 : decode jdk_29_method_66_code 11 = .ok (.lreturn, 1) := by decide +kernel
theorem ef_4 (m : MethodId) (x0 : Int64) (x1 : Int64) : entryFrame m #[(.long x0), (.long x1)] 4 = mkF m 0 #[.val (.long x0), .second, .val (.long x1), .second] [] := by first | (simp [entryFrame, mkF, argsToLocals, Value.category]; done) | rfl
def maxF (qa : Int64) (qb : Int64)  : Int64 := (let w_4_2 : Int64 := (if qa < qb then qb else qa); w_4_2)
set_option maxRecDepth 65536 in
set_option maxHeartbeats 40000000 in
theorem rm4 (l : Launch) (Z : State) (a0 : Array Value) (hw : ∀ d ∈ tables_1, d.before a0 Z = true) (qa : Int64) (qb : Int64)  (h0 : Heap)  :
    OMet l Z (⟨"java/lang/Math", "max", "(JJ)J"⟩ : MethodName) jdk_29_method_66_code 4 (some .long) ({ frames := 0, cells := 0, slots := 0, locals := 0 } : Room) #[(.long qa), (.long qb)] h0 (OPure (some (.long (maxF qa qb))) h0) := by
  intro ws
  refine MetFree.of_bodySF (Jvm.Free.JP.mathPlain rfl (by decide +kernel)) hisR ?_
  intro p e s m args below meth c s₁ Bd hml0 hP hK
  obtain ⟨rfl, hZ, hh⟩ := hP
  have hx := Bd.exec
  have hby := Bd.bytes
  have hml : c.maxLocals = 4 := hml0
  have hown : s.vm.findClass "java/lang/Math" = some m.cls := findClass_of_methodNamed Bd.named
  have hnm := (name_of_methodNamed Bd.named Bd.method).1
  have hlk : meth.locks = false := Bd.notSynchronized
  have X0 : Stand p l e ({ frames := 0, cells := 0, slots := 0, locals := 0 } : Room) s m #[(.long qa), (.long qb)] below meth c s₁ [] 0 0 := Stand.of_body Bd
  have e0 : s₁.heap = h0 := by rw [← hh, Bd.state]; rfl
  refine (?_ : OGo p.tables e below (OFin s (OPure (some (.long (maxF qa qb))) h0) 0 0) _)
  refine ogo (fun _ k => castTop (ef_4 m qa qb) k) ?_
  show OGo _ _ _ _ (s₁.setTop (mkF m 0 #[.val (.long qa), .second, .val (.long qb), .second] []))
  refine ogo (fun _ k => XS.lloadN X0.here hx rfl (hb hby d4_0) rfl k) ?_
  show OGo _ _ _ _ (s₁.setTop (mkF m 1 #[.val (.long qa), .second, .val (.long qb), .second] [(.long qa)]))
  refine ogo (fun _ k => XS.lloadN X0.here hx rfl (hb hby d4_1) rfl k) ?_
  show OGo _ _ _ _ (s₁.setTop (mkF m 2 #[.val (.long qa), .second, .val (.long qb), .second] [(.long qb), (.long qa)]))
  refine ogo (fun _ k => XS.lcmp X0.here hx rfl (hb hby d4_2) rfl k) ?_
  show OGo _ _ _ _ (s₁.setTop (mkF m 3 #[.val (.long qa), .second, .val (.long qb), .second] [(.int (lcmpW qa qb))]))
  suffices J_4_3 : ∀ (w_4_2 : Int64) (hw_4_2 : w_4_2 = (if qa < qb then qb else qa)), OGo p.tables e below (OFin s (OPure (some (.long (maxF qa qb))) h0) 0 0) (s₁.setTop (mkF m 11 #[.val (.long qa), .second, .val (.long qb), .second] [(.long w_4_2)])) by
    by_cases hc_4_1 : qa < qb
    · refine ogo (fun _ k => XS.ifYes X0.here hx rfl (pc0 := 3) (pc' := 10) rfl (hb hby d4_3) rfl ((if0 _ _).trans (tlt ((lw_lt _ _).mpr hc_4_1)).1) (by decide) (by decide) k) ?_
      show OGo _ _ _ _ (s₁.setTop (mkF m 10 #[.val (.long qa), .second, .val (.long qb), .second] []))
      refine ogo (fun _ k => XS.lloadN X0.here hx rfl (hb hby d4_10) rfl k) ?_
      show OGo _ _ _ _ (s₁.setTop (mkF m 11 #[.val (.long qa), .second, .val (.long qb), .second] [(.long qb)]))
      exact J_4_3 _ (if_pos hc_4_1).symm
    · refine ogo (fun _ k => XS.ifNo X0.here hx rfl (hb hby d4_3) rfl ((if0 _ _).trans (flt (fun q => hc_4_1 ((lw_lt _ _).mp q))).1) k) ?_
      show OGo _ _ _ _ (s₁.setTop (mkF m 6 #[.val (.long qa), .second, .val (.long qb), .second] []))
      refine ogo (fun _ k => XS.lloadN X0.here hx rfl (hb hby d4_6) rfl k) ?_
      show OGo _ _ _ _ (s₁.setTop (mkF m 7 #[.val (.long qa), .second, .val (.long qb), .second] [(.long qa)]))
      refine ogo (fun _ k => XS.goto X0.here hx rfl (pc0 := 7) (pc' := 11) rfl (hb hby d4_7) (by decide) (by decide) k) ?_
      show OGo _ _ _ _ (s₁.setTop (mkF m 11 #[.val (.long qa), .second, .val (.long qb), .second] [(.long qa)]))
      exact J_4_3 _ (if_neg hc_4_1).symm
  intro w_4_2 hw_4_2
  exact oret X0 hx hlk Bd.returns rfl (Or.inr (Or.inl ⟨rfl, rfl, _, rfl⟩)) (hb hby d4_11) (by decide) (by decide) ⟨by subst hw_4_2; rfl, rfl, e0⟩
theorem pn_0 : plainName "com/example/tidy_handshake/tidyhandshake/ResendRequestNamesMessagesPinLaw" = true := by first | (simp [plainName, overriddenIn]; done) | decide +kernel
theorem ef_0 (m : MethodId) (x0 : Int64) (x1 : Int64) (x2 : Int32) : entryFrame m #[(.long x0), (.long x1), (.int x2)] maxLocals = mkF m 0 #[.val (.long x0), .second, .val (.long x1), .second, .val (.int x2), .unset, .unset, .unset, .unset, .unset] [] := by first | (simp [entryFrame, mkF, argsToLocals, Value.category, maxLocals]; done) | rfl
theorem pd__JJ_Z : parseMethodDescriptor "(JJ)Z" = some ⟨[.long, .long], some .boolean⟩ := by decide +kernel
theorem pd__J_J : parseMethodDescriptor "(J)J" = some ⟨[.long], some .long⟩ := by decide +kernel
theorem pd__JJ_J : parseMethodDescriptor "(JJ)J" = some ⟨[.long, .long], some .long⟩ := by decide +kernel
theorem own_n0 {a b : Int64} (h : a < (1 : Int64)) : namesF a b = 0 := by simp only [namesF, if_pos h]
theorem own_n1 {a b : Int64} (h : ¬ a < (1 : Int64)) (h2 : b = 0 ∨ ¬ b < a) : namesF a b = 1 := by
  simp only [namesF, if_neg h]
  by_cases q : b = 0
  · rw [if_pos q]
  · rw [if_neg q, if_neg (h2.resolve_left q)]
theorem own_n2 {a b : Int64} (h : ¬ b = 0) (h2 : b < a) : namesF a b = 0 := by
  simp only [namesF, if_neg h, if_pos h2]
  split <;> rfl
theorem own_z : (0 : Int64).toInt = 0 := rfl
theorem own_o : (1 : Int64).toInt = 1 := rfl
theorem own_m : (-9223372036854775808 : Int64).toInt = -9223372036854775808 := rfl
theorem own_pos (a : Int64) : 1 ≤ (posF a).toInt := by
  unfold posF
  have r := rng64 a
  split
  · rename_i h; rw [Int64.lt_iff_toInt_lt, own_z] at h; omega
  · split
    · rename_i h; rw [Int64.lt_iff_toInt_lt, own_z] at h
      split
      · decide
      · rename_i q
        have q' : ¬ a.toInt = -9223372036854775808 := fun z => q (Int64.toInt_inj.mp (z.trans own_m.symm))
        have c := c_lneg a
        have r2 := rng64 (-a)
        omega
    · decide
theorem own_ge {a : Int64} (h : 1 ≤ a.toInt) : ¬ a < (1 : Int64) := by rw [Int64.lt_iff_toInt_lt, own_o]; omega
theorem plain0 (va : Int64) (vb : Int64) (vc : Int32) (w_0_1 : Int32) (hw_0_1 : w_0_1 = (vc &&& (3 : Int32))) (hc_0_2 : w_0_1 = (0 : Int32)) (w_0_4 : Int64) (hw_0_4 : w_0_4 = (if (0 : Int64) < va then (-va) else va)) (w_0_7 : Int64) (hw_0_7 : w_0_7 = w_0_4) (w_0_10 : Int32) (hw_0_10 : w_0_10 = (if (namesF w_0_7 vb) = (0 : Int32) then (1 : Int32) else (0 : Int32))) : w_0_10 = (1 : Int32) := by
  have hlt : w_0_7 < (1 : Int64) := by
    rw [Int64.lt_iff_toInt_lt, own_o, hw_0_7, hw_0_4]
    have r := rng64 va
    split
    · rename_i h; rw [Int64.lt_iff_toInt_lt, own_z] at h
      have c := c_lneg va
      have r2 := rng64 (-va)
      omega
    · rename_i h; rw [Int64.lt_iff_toInt_lt, own_z] at h; omega
  rw [hw_0_10, own_n0 hlt]; rfl
theorem plain1 (va : Int64) (vb : Int64) (vc : Int32) (w_0_1 : Int32) (hw_0_1 : w_0_1 = (vc &&& (3 : Int32))) (hc_0_2 : ¬ (w_0_1 = (0 : Int32))) (w_0_14 : Int64) (hw_0_14 : w_0_14 = (posF va)) (hc_0_15 : w_0_1 = (1 : Int32)) : (namesF w_0_14 (0 : Int64)) = (1 : Int32) := by
  exact own_n1 (own_ge (by rw [hw_0_14]; exact own_pos va)) (Or.inl rfl)
theorem plain2 (va : Int64) (vb : Int64) (vc : Int32) (w_0_1 : Int32) (hw_0_1 : w_0_1 = (vc &&& (3 : Int32))) (hc_0_2 : ¬ (w_0_1 = (0 : Int32))) (w_0_14 : Int64) (hw_0_14 : w_0_14 = (posF va)) (hc_0_15 : ¬ (w_0_1 = (1 : Int32))) (hc_0_17 : w_0_1 = (2 : Int32)) (w_0_19 : Int64) (hw_0_19 : w_0_19 = (maxF w_0_14 vb)) : (namesF w_0_14 w_0_19) = (1 : Int32) := by
  refine own_n1 (own_ge (by rw [hw_0_14]; exact own_pos va)) (Or.inr ?_)
  rw [hw_0_19, Int64.lt_iff_toInt_lt]
  simp only [maxF]
  split
  · rename_i h; rw [Int64.lt_iff_toInt_lt] at h; omega
  · omega
theorem plain3 (va : Int64) (vb : Int64) (vc : Int32) (w_0_1 : Int32) (hw_0_1 : w_0_1 = (vc &&& (3 : Int32))) (hc_0_2 : ¬ (w_0_1 = (0 : Int32))) (w_0_14 : Int64) (hw_0_14 : w_0_14 = (posF va)) (hc_0_15 : ¬ (w_0_1 = (1 : Int32))) (hc_0_17 : ¬ (w_0_1 = (2 : Int32))) (w_0_22 : Int64) (hw_0_22 : w_0_22 = (minF (w_0_14 - (1 : Int64)) vb)) (w_0_24 : Int64) (hw_0_24 : w_0_24 = (if w_0_22 = (0 : Int64) then (-1 : Int64) else w_0_22)) (w_0_29 : Int32) (hw_0_29 : w_0_29 = (if (namesF w_0_14 w_0_24) = (0 : Int32) then (1 : Int32) else (0 : Int32))) : w_0_29 = (1 : Int32) := by
  have hp : 1 ≤ w_0_14.toInt := by rw [hw_0_14]; exact own_pos va
  have c := c_lsub w_0_14 (1 : Int64)
  rw [own_o] at c
  have r1 := rng64 w_0_14
  have r2 := rng64 (w_0_14 - (1 : Int64))
  have hm : w_0_22 < w_0_14 := by
    rw [hw_0_22, Int64.lt_iff_toInt_lt]
    simp only [minF]
    split
    · rename_i h; rw [Int64.lt_iff_toInt_lt] at h; omega
    · omega
  have h1 : ¬ w_0_24 = 0 := by
    rw [hw_0_24]
    split
    · decide
    · assumption
  have h2 : w_0_24 < w_0_14 := by
    rw [hw_0_24]
    split
    · rw [Int64.lt_iff_toInt_lt, show (-1 : Int64).toInt = -1 from rfl]; omega
    · exact hm
  rw [hw_0_29, own_n2 h1 h2]; rfl
set_option maxRecDepth 65536 in
set_option maxHeartbeats 40000000 in
theorem rm0 (l : Launch) (Z : State) (a0 : Array Value) (hw : ∀ d ∈ tables_1, d.before a0 Z = true) (ws : List Jvm.Cond) (va : Int64) (vb : Int64) (vc : Int32) (h0 : Heap) (n0 : Nat) (Z0 : n0 ≤ h0.size)  :
    MetFree l x (head1 (Jvm.Cond.code x code maxLocals ret :: ws) room_1) (fun a U => a = #[(.long va), (.long vb), (.int vc)] ∧ Z.Warmed39 U.vm ∧ U.heap = h0) (fun _ _ _ _ _ => True) (fun _ U o U' => ∃ v L, o = .returned v ∧ (v = some (.int 1) ∧ Fr n0 L) ∧ FrameEnd U o U' L 0 0) := by
  refine MetFree.of_bodySF (plainFor_of_name pn_0) hisR ?_
  intro p e s m args below meth c s₁ Bd hml0 hP hK
  obtain ⟨rfl, hZ, hh⟩ := hP
  have hx := Bd.exec
  have hby := Bd.bytes
  have hml : c.maxLocals = 10 := hml0
  have hown : s.vm.findClass "com/example/tidy_handshake/tidyhandshake/ResendRequestNamesMessagesPinLaw" = some m.cls := findClass_of_methodNamed Bd.named
  have hnm := (name_of_methodNamed Bd.named Bd.method).1
  have hlk : meth.locks = false := Bd.notSynchronized
  have X0 : Stand p l e room_1 s m #[(.long va), (.long vb), (.int vc)] below meth c s₁ [] 0 0 := Stand.of_body Bd
  have e0 : s₁.heap = h0 := by rw [← hh, Bd.state]; rfl
  have N0 := Fr.nil n0
  refine (?_ : OGo p.tables e below (OFin s (fun v _ L => v = some (.int 1) ∧ Fr n0 L) 0 0) _)
  refine ogo (fun _ k => castTop (ef_0 m va vb vc) k) ?_
  show OGo _ _ _ _ (s₁.setTop (mkF m 0 #[.val (.long va), .second, .val (.long vb), .second, .val (.int vc), .unset, .unset, .unset, .unset, .unset] []))
  refine ogo (fun _ k => XS.iload X0.here hx rfl (hb hby at_0) rfl k) ?_
  show OGo _ _ _ _ (s₁.setTop (mkF m 2 #[.val (.long va), .second, .val (.long vb), .second, .val (.int vc), .unset, .unset, .unset, .unset, .unset] [(.int vc)]))
  refine ogo (fun _ k => XS.iconst X0.here hx rfl (hb hby at_2) k) ?_
  show OGo _ _ _ _ (s₁.setTop (mkF m 3 #[.val (.long va), .second, .val (.long vb), .second, .val (.int vc), .unset, .unset, .unset, .unset, .unset] [(.int (3 : Int32)), (.int vc)]))
  refine ogo (fun _ k => XS.iand X0.here hx rfl (hb hby at_3) rfl k) ?_
  show OGo _ _ _ _ (s₁.setTop (mkF m 4 #[.val (.long va), .second, .val (.long vb), .second, .val (.int vc), .unset, .unset, .unset, .unset, .unset] [(.int (vc &&& (3 : Int32)))]))
  suffices Nw_0_1 : ∀ w_0_1 : Int32, w_0_1 = (vc &&& (3 : Int32)) → OGo p.tables e below (OFin s (fun v _ L => v = some (.int 1) ∧ Fr n0 L) 0 0) (s₁.setTop (mkF m 4 #[.val (.long va), .second, .val (.long vb), .second, .val (.int vc), .unset, .unset, .unset, .unset, .unset] [(.int w_0_1)])) from Nw_0_1 _ rfl
  intro w_0_1 hw_0_1
  refine ogo (fun _ k => XS.istore X0.here hx rfl (hb hby at_4) rfl (l' := #[.val (.long va), .second, .val (.long vb), .second, .val (.int vc), .val (.int w_0_1), .unset, .unset, .unset, .unset]) rfl k) ?_
  show OGo _ _ _ _ (s₁.setTop (mkF m 6 #[.val (.long va), .second, .val (.long vb), .second, .val (.int vc), .val (.int w_0_1), .unset, .unset, .unset, .unset] []))
  refine ogo (fun _ k => XS.iload X0.here hx rfl (hb hby at_6) rfl k) ?_
  show OGo _ _ _ _ (s₁.setTop (mkF m 8 #[.val (.long va), .second, .val (.long vb), .second, .val (.int vc), .val (.int w_0_1), .unset, .unset, .unset, .unset] [(.int w_0_1)]))
  by_cases hc_0_2 : w_0_1 = (0 : Int32)
  · refine ogo (fun _ k => XS.ifNo X0.here hx rfl (hb hby at_8) rfl ((if0 _ _).trans (teq hc_0_2).2) k) ?_
    show OGo _ _ _ _ (s₁.setTop (mkF m 11 #[.val (.long va), .second, .val (.long vb), .second, .val (.int vc), .val (.int w_0_1), .unset, .unset, .unset, .unset] []))
    refine ogo (fun _ k => XS.lloadN X0.here hx rfl (hb hby at_11) rfl k) ?_
    show OGo _ _ _ _ (s₁.setTop (mkF m 12 #[.val (.long va), .second, .val (.long vb), .second, .val (.int vc), .val (.int w_0_1), .unset, .unset, .unset, .unset] [(.long va)]))
    refine ogo (fun _ k => XS.lconst X0.here hx rfl (hb hby at_12) k) ?_
    show OGo _ _ _ _ (s₁.setTop (mkF m 13 #[.val (.long va), .second, .val (.long vb), .second, .val (.int vc), .val (.int w_0_1), .unset, .unset, .unset, .unset] [(.long (0 : Int64)), (.long va)]))
    refine ogo (fun _ k => XS.lcmp X0.here hx rfl (hb hby at_13) rfl k) ?_
    show OGo _ _ _ _ (s₁.setTop (mkF m 14 #[.val (.long va), .second, .val (.long vb), .second, .val (.int vc), .val (.int w_0_1), .unset, .unset, .unset, .unset] [(.int (lcmpW va (0 : Int64)))]))
    suffices J_0_5 : ∀ (w_0_4 : Int64) (hw_0_4 : w_0_4 = (if (0 : Int64) < va then (-va) else va)), OGo p.tables e below (OFin s (fun v _ L => v = some (.int 1) ∧ Fr n0 L) 0 0) (s₁.setTop (mkF m 23 #[.val (.long va), .second, .val (.long vb), .second, .val (.int vc), .val (.int w_0_1), .unset, .unset, .unset, .unset] [(.long w_0_4)])) by
      by_cases hc_0_3 : (0 : Int64) < va
      · refine ogo (fun _ k => XS.ifNo X0.here hx rfl (hb hby at_14) rfl ((if0 _ _).trans (tlt ((lw_gt _ _).mpr hc_0_3)).2.2.2) k) ?_
        show OGo _ _ _ _ (s₁.setTop (mkF m 17 #[.val (.long va), .second, .val (.long vb), .second, .val (.int vc), .val (.int w_0_1), .unset, .unset, .unset, .unset] []))
        refine ogo (fun _ k => XS.lloadN X0.here hx rfl (hb hby at_17) rfl k) ?_
        show OGo _ _ _ _ (s₁.setTop (mkF m 18 #[.val (.long va), .second, .val (.long vb), .second, .val (.int vc), .val (.int w_0_1), .unset, .unset, .unset, .unset] [(.long va)]))
        refine ogo (fun _ k => XS.lneg X0.here hx rfl (hb hby at_18) rfl k) ?_
        show OGo _ _ _ _ (s₁.setTop (mkF m 19 #[.val (.long va), .second, .val (.long vb), .second, .val (.int vc), .val (.int w_0_1), .unset, .unset, .unset, .unset] [(.long (-va))]))
        refine ogo (fun _ k => XS.goto X0.here hx rfl (pc0 := 19) (pc' := 23) rfl (hb hby at_19) (by decide) (by decide) k) ?_
        show OGo _ _ _ _ (s₁.setTop (mkF m 23 #[.val (.long va), .second, .val (.long vb), .second, .val (.int vc), .val (.int w_0_1), .unset, .unset, .unset, .unset] [(.long (-va))]))
        exact J_0_5 _ (if_pos hc_0_3).symm
      · refine ogo (fun _ k => XS.ifYes X0.here hx rfl (pc0 := 14) (pc' := 22) rfl (hb hby at_14) rfl ((if0 _ _).trans (flt (fun q => hc_0_3 ((lw_gt _ _).mp q))).2.2.2) (by decide) (by decide) k) ?_
        show OGo _ _ _ _ (s₁.setTop (mkF m 22 #[.val (.long va), .second, .val (.long vb), .second, .val (.int vc), .val (.int w_0_1), .unset, .unset, .unset, .unset] []))
        refine ogo (fun _ k => XS.lloadN X0.here hx rfl (hb hby at_22) rfl k) ?_
        show OGo _ _ _ _ (s₁.setTop (mkF m 23 #[.val (.long va), .second, .val (.long vb), .second, .val (.int vc), .val (.int w_0_1), .unset, .unset, .unset, .unset] [(.long va)]))
        exact J_0_5 _ (if_neg hc_0_3).symm
    intro w_0_4 hw_0_4
    suffices Nw_0_7 : ∀ w_0_7 : Int64, w_0_7 = w_0_4 → OGo p.tables e below (OFin s (fun v _ L => v = some (.int 1) ∧ Fr n0 L) 0 0) (s₁.setTop (mkF m 23 #[.val (.long va), .second, .val (.long vb), .second, .val (.int vc), .val (.int w_0_1), .unset, .unset, .unset, .unset] [(.long w_0_7)])) from Nw_0_7 _ rfl
    intro w_0_7 hw_0_7
    refine ogo (fun _ k => XS.lstore X0.here hx rfl (hb hby at_23) rfl (l' := #[.val (.long va), .second, .val (.long vb), .second, .val (.int vc), .val (.int w_0_1), .val (.long w_0_7), .second, .unset, .unset]) rfl k) ?_
    show OGo _ _ _ _ (s₁.setTop (mkF m 25 #[.val (.long va), .second, .val (.long vb), .second, .val (.int vc), .val (.int w_0_1), .val (.long w_0_7), .second, .unset, .unset] []))
    refine ogo (fun _ k => XS.lload X0.here hx rfl (hb hby at_25) rfl k) ?_
    show OGo _ _ _ _ (s₁.setTop (mkF m 27 #[.val (.long va), .second, .val (.long vb), .second, .val (.int vc), .val (.int w_0_1), .val (.long w_0_7), .second, .unset, .unset] [(.long w_0_7)]))
    refine ogo (fun _ k => XS.lloadN X0.here hx rfl (hb hby at_27) rfl k) ?_
    show OGo _ _ _ _ (s₁.setTop (mkF m 28 #[.val (.long va), .second, .val (.long vb), .second, .val (.int vc), .val (.int w_0_1), .val (.long w_0_7), .second, .unset, .unset] [(.long vb), (.long w_0_7)]))
    obtain ⟨T_0_8, X_0_8, e_0_8, st_0_8⟩ := ocallP X0 hx hZ e0 (rm1 l Z a0 hw w_0_7 vb  h0 ) hown (hw _ (List.mem_of_getElem? (i := 0) rfl)) (hw _ (List.mem_of_getElem? (i := 1) rfl)) (hw _ (List.mem_of_getElem? (i := 2) rfl)) (hw _ (List.mem_of_getElem? (i := 3) rfl)) (by decide) (g := (mkF m 28 #[.val (.long va), .second, .val (.long vb), .second, .val (.int vc), .val (.int w_0_1), .val (.long w_0_7), .second, .unset, .unset] [(.long vb), (.long w_0_7)])) rfl (by rw [hml]; rfl) [(.long w_0_7), (.long vb)] [] rfl (lenOf pd__JJ_Z rfl) rfl (hb hby at_28) 0 (by show 2 * 0 + _ ≤ _; exact Nat.le_of_eq rfl) (by decide) (by decide) (by decide) (by decide) rfl rfl
    refine ogo (fun _ k => st_0_8 _ k) ?_
    show OGo _ _ _ _ (T_0_8.setTop (mkF m 31 #[.val (.long va), .second, .val (.long vb), .second, .val (.int vc), .val (.int w_0_1), .val (.long w_0_7), .second, .unset, .unset] [(.int (namesF w_0_7 vb))]))
    suffices J_0_11 : ∀ (w_0_10 : Int32) (hw_0_10 : w_0_10 = (if (namesF w_0_7 vb) = (0 : Int32) then (1 : Int32) else (0 : Int32))), OGo p.tables e below (OFin s (fun v _ L => v = some (.int 1) ∧ Fr n0 L) 0 0) (T_0_8.setTop (mkF m 39 #[.val (.long va), .second, .val (.long vb), .second, .val (.int vc), .val (.int w_0_1), .val (.long w_0_7), .second, .unset, .unset] [(.int w_0_10)])) by
      by_cases hc_0_9 : (namesF w_0_7 vb) = (0 : Int32)
      · refine ogo (fun _ k => XS.ifNo X_0_8.here hx rfl (hb hby at_31) rfl ((if0 _ _).trans (teq hc_0_9).2) k) ?_
        show OGo _ _ _ _ (T_0_8.setTop (mkF m 34 #[.val (.long va), .second, .val (.long vb), .second, .val (.int vc), .val (.int w_0_1), .val (.long w_0_7), .second, .unset, .unset] []))
        refine ogo (fun _ k => XS.iconst X_0_8.here hx rfl (hb hby at_34) k) ?_
        show OGo _ _ _ _ (T_0_8.setTop (mkF m 35 #[.val (.long va), .second, .val (.long vb), .second, .val (.int vc), .val (.int w_0_1), .val (.long w_0_7), .second, .unset, .unset] [(.int (1 : Int32))]))
        refine ogo (fun _ k => XS.goto X_0_8.here hx rfl (pc0 := 35) (pc' := 39) rfl (hb hby at_35) (by decide) (by decide) k) ?_
        show OGo _ _ _ _ (T_0_8.setTop (mkF m 39 #[.val (.long va), .second, .val (.long vb), .second, .val (.int vc), .val (.int w_0_1), .val (.long w_0_7), .second, .unset, .unset] [(.int (1 : Int32))]))
        exact J_0_11 _ (if_pos hc_0_9).symm
      · refine ogo (fun _ k => XS.ifYes X_0_8.here hx rfl (pc0 := 31) (pc' := 38) rfl (hb hby at_31) rfl ((if0 _ _).trans (feq hc_0_9).2) (by decide) (by decide) k) ?_
        show OGo _ _ _ _ (T_0_8.setTop (mkF m 38 #[.val (.long va), .second, .val (.long vb), .second, .val (.int vc), .val (.int w_0_1), .val (.long w_0_7), .second, .unset, .unset] []))
        refine ogo (fun _ k => XS.iconst X_0_8.here hx rfl (hb hby at_38) k) ?_
        show OGo _ _ _ _ (T_0_8.setTop (mkF m 39 #[.val (.long va), .second, .val (.long vb), .second, .val (.int vc), .val (.int w_0_1), .val (.long w_0_7), .second, .unset, .unset] [(.int (0 : Int32))]))
        exact J_0_11 _ (if_neg hc_0_9).symm
    intro w_0_10 hw_0_10
    have hz : w_0_10 = (1 : Int32) := plain0 va vb vc w_0_1 hw_0_1 hc_0_2 w_0_4 hw_0_4 w_0_7 hw_0_7 w_0_10 hw_0_10
    rw [hz]
    exact oret X_0_8 hx hlk Bd.returns rfl (Or.inl ⟨rfl, Or.inr (Or.inl rfl), _, rfl⟩) (hb hby at_39) (by decide) (by decide) ⟨rfl, N0⟩
  · refine ogo (fun _ k => XS.ifYes X0.here hx rfl (pc0 := 8) (pc' := 40) rfl (hb hby at_8) rfl ((if0 _ _).trans (feq hc_0_2).2) (by decide) (by decide) k) ?_
    show OGo _ _ _ _ (s₁.setTop (mkF m 40 #[.val (.long va), .second, .val (.long vb), .second, .val (.int vc), .val (.int w_0_1), .unset, .unset, .unset, .unset] []))
    refine ogo (fun _ k => XS.lloadN X0.here hx rfl (hb hby at_40) rfl k) ?_
    show OGo _ _ _ _ (s₁.setTop (mkF m 41 #[.val (.long va), .second, .val (.long vb), .second, .val (.int vc), .val (.int w_0_1), .unset, .unset, .unset, .unset] [(.long va)]))
    obtain ⟨T_0_13, X_0_13, e_0_13, st_0_13⟩ := ocallP X0 hx hZ e0 (rm2 l Z a0 hw va  h0 ) hown (hw _ (List.mem_of_getElem? (i := 4) rfl)) (hw _ (List.mem_of_getElem? (i := 5) rfl)) (hw _ (List.mem_of_getElem? (i := 6) rfl)) (hw _ (List.mem_of_getElem? (i := 7) rfl)) (by decide) (g := (mkF m 41 #[.val (.long va), .second, .val (.long vb), .second, .val (.int vc), .val (.int w_0_1), .unset, .unset, .unset, .unset] [(.long va)])) rfl (by rw [hml]; rfl) [(.long va)] [] rfl (lenOf pd__J_J rfl) rfl (hb hby at_41) 0 (by show 2 * 0 + _ ≤ _; exact Nat.le_of_eq rfl) (by decide) (by decide) (by decide) (by decide) rfl rfl
    refine ogo (fun _ k => st_0_13 _ k) ?_
    show OGo _ _ _ _ (T_0_13.setTop (mkF m 44 #[.val (.long va), .second, .val (.long vb), .second, .val (.int vc), .val (.int w_0_1), .unset, .unset, .unset, .unset] [(.long (posF va))]))
    suffices Nw_0_14 : ∀ w_0_14 : Int64, w_0_14 = (posF va) → OGo p.tables e below (OFin s (fun v _ L => v = some (.int 1) ∧ Fr n0 L) 0 0) (T_0_13.setTop (mkF m 44 #[.val (.long va), .second, .val (.long vb), .second, .val (.int vc), .val (.int w_0_1), .unset, .unset, .unset, .unset] [(.long w_0_14)])) from Nw_0_14 _ rfl
    intro w_0_14 hw_0_14
    refine ogo (fun _ k => XS.lstore X_0_13.here hx rfl (hb hby at_44) rfl (l' := #[.val (.long va), .second, .val (.long vb), .second, .val (.int vc), .val (.int w_0_1), .val (.long w_0_14), .second, .unset, .unset]) rfl k) ?_
    show OGo _ _ _ _ (T_0_13.setTop (mkF m 46 #[.val (.long va), .second, .val (.long vb), .second, .val (.int vc), .val (.int w_0_1), .val (.long w_0_14), .second, .unset, .unset] []))
    refine ogo (fun _ k => XS.iload X_0_13.here hx rfl (hb hby at_46) rfl k) ?_
    show OGo _ _ _ _ (T_0_13.setTop (mkF m 48 #[.val (.long va), .second, .val (.long vb), .second, .val (.int vc), .val (.int w_0_1), .val (.long w_0_14), .second, .unset, .unset] [(.int w_0_1)]))
    refine ogo (fun _ k => XS.iconst X_0_13.here hx rfl (hb hby at_48) k) ?_
    show OGo _ _ _ _ (T_0_13.setTop (mkF m 49 #[.val (.long va), .second, .val (.long vb), .second, .val (.int vc), .val (.int w_0_1), .val (.long w_0_14), .second, .unset, .unset] [(.int (1 : Int32)), (.int w_0_1)]))
    by_cases hc_0_15 : w_0_1 = (1 : Int32)
    · refine ogo (fun _ k => XS.icmpNo X_0_13.here hx rfl (hb hby at_49) rfl (teq hc_0_15).2 k) ?_
      show OGo _ _ _ _ (T_0_13.setTop (mkF m 52 #[.val (.long va), .second, .val (.long vb), .second, .val (.int vc), .val (.int w_0_1), .val (.long w_0_14), .second, .unset, .unset] []))
      refine ogo (fun _ k => XS.lload X_0_13.here hx rfl (hb hby at_52) rfl k) ?_
      show OGo _ _ _ _ (T_0_13.setTop (mkF m 54 #[.val (.long va), .second, .val (.long vb), .second, .val (.int vc), .val (.int w_0_1), .val (.long w_0_14), .second, .unset, .unset] [(.long w_0_14)]))
      refine ogo (fun _ k => XS.lconst X_0_13.here hx rfl (hb hby at_54) k) ?_
      show OGo _ _ _ _ (T_0_13.setTop (mkF m 55 #[.val (.long va), .second, .val (.long vb), .second, .val (.int vc), .val (.int w_0_1), .val (.long w_0_14), .second, .unset, .unset] [(.long (0 : Int64)), (.long w_0_14)]))
      obtain ⟨T_0_16, X_0_16, e_0_16, st_0_16⟩ := ocallP X_0_13 hx hZ e_0_13 (rm1 l Z a0 hw w_0_14 (0 : Int64)  h0 ) hown (hw _ (List.mem_of_getElem? (i := 0) rfl)) (hw _ (List.mem_of_getElem? (i := 1) rfl)) (hw _ (List.mem_of_getElem? (i := 2) rfl)) (hw _ (List.mem_of_getElem? (i := 3) rfl)) (by decide) (g := (mkF m 55 #[.val (.long va), .second, .val (.long vb), .second, .val (.int vc), .val (.int w_0_1), .val (.long w_0_14), .second, .unset, .unset] [(.long (0 : Int64)), (.long w_0_14)])) rfl (by rw [hml]; rfl) [(.long w_0_14), (.long (0 : Int64))] [] rfl (lenOf pd__JJ_Z rfl) rfl (hb hby at_55) 0 (by show 2 * 0 + _ ≤ _; exact Nat.le_of_eq rfl) (by decide) (by decide) (by decide) (by decide) rfl rfl
      refine ogo (fun _ k => st_0_16 _ k) ?_
      show OGo _ _ _ _ (T_0_16.setTop (mkF m 58 #[.val (.long va), .second, .val (.long vb), .second, .val (.int vc), .val (.int w_0_1), .val (.long w_0_14), .second, .unset, .unset] [(.int (namesF w_0_14 (0 : Int64)))]))
      have hz : (namesF w_0_14 (0 : Int64)) = (1 : Int32) := plain1 va vb vc w_0_1 hw_0_1 hc_0_2 w_0_14 hw_0_14 hc_0_15
      rw [hz]
      exact oret X_0_16 hx hlk Bd.returns rfl (Or.inl ⟨rfl, Or.inr (Or.inl rfl), _, rfl⟩) (hb hby at_58) (by decide) (by decide) ⟨rfl, N0⟩
    · refine ogo (fun _ k => XS.icmpYes X_0_13.here hx rfl (pc0 := 49) (pc' := 59) rfl (hb hby at_49) rfl (feq hc_0_15).2 (by decide) (by decide) k) ?_
      show OGo _ _ _ _ (T_0_13.setTop (mkF m 59 #[.val (.long va), .second, .val (.long vb), .second, .val (.int vc), .val (.int w_0_1), .val (.long w_0_14), .second, .unset, .unset] []))
      refine ogo (fun _ k => XS.iload X_0_13.here hx rfl (hb hby at_59) rfl k) ?_
      show OGo _ _ _ _ (T_0_13.setTop (mkF m 61 #[.val (.long va), .second, .val (.long vb), .second, .val (.int vc), .val (.int w_0_1), .val (.long w_0_14), .second, .unset, .unset] [(.int w_0_1)]))
      refine ogo (fun _ k => XS.iconst X_0_13.here hx rfl (hb hby at_61) k) ?_
      show OGo _ _ _ _ (T_0_13.setTop (mkF m 62 #[.val (.long va), .second, .val (.long vb), .second, .val (.int vc), .val (.int w_0_1), .val (.long w_0_14), .second, .unset, .unset] [(.int (2 : Int32)), (.int w_0_1)]))
      by_cases hc_0_17 : w_0_1 = (2 : Int32)
      · refine ogo (fun _ k => XS.icmpNo X_0_13.here hx rfl (hb hby at_62) rfl (teq hc_0_17).2 k) ?_
        show OGo _ _ _ _ (T_0_13.setTop (mkF m 65 #[.val (.long va), .second, .val (.long vb), .second, .val (.int vc), .val (.int w_0_1), .val (.long w_0_14), .second, .unset, .unset] []))
        refine ogo (fun _ k => XS.lload X_0_13.here hx rfl (hb hby at_65) rfl k) ?_
        show OGo _ _ _ _ (T_0_13.setTop (mkF m 67 #[.val (.long va), .second, .val (.long vb), .second, .val (.int vc), .val (.int w_0_1), .val (.long w_0_14), .second, .unset, .unset] [(.long w_0_14)]))
        refine ogo (fun _ k => XS.lloadN X_0_13.here hx rfl (hb hby at_67) rfl k) ?_
        show OGo _ _ _ _ (T_0_13.setTop (mkF m 68 #[.val (.long va), .second, .val (.long vb), .second, .val (.int vc), .val (.int w_0_1), .val (.long w_0_14), .second, .unset, .unset] [(.long vb), (.long w_0_14)]))
        obtain ⟨T_0_18, X_0_18, e_0_18, st_0_18⟩ := ocallP X_0_13 hx hZ e_0_13 (rm4 l Z a0 hw w_0_14 vb  h0 ) hown (hw _ (List.mem_of_getElem? (i := 13) rfl)) (hw _ (List.mem_of_getElem? (i := 14) rfl)) (hw _ (List.mem_of_getElem? (i := 10) rfl)) (hw _ (List.mem_of_getElem? (i := 15) rfl)) (by decide) (g := (mkF m 68 #[.val (.long va), .second, .val (.long vb), .second, .val (.int vc), .val (.int w_0_1), .val (.long w_0_14), .second, .unset, .unset] [(.long vb), (.long w_0_14)])) rfl (by rw [hml]; rfl) [(.long w_0_14), (.long vb)] [] rfl (lenOf pd__JJ_J rfl) rfl (hb hby at_68) 0 (by show 2 * 0 + _ ≤ _; exact Nat.le_of_eq rfl) (by decide) (by decide) (by decide) (by decide) rfl rfl
        refine ogo (fun _ k => st_0_18 _ k) ?_
        show OGo _ _ _ _ (T_0_18.setTop (mkF m 71 #[.val (.long va), .second, .val (.long vb), .second, .val (.int vc), .val (.int w_0_1), .val (.long w_0_14), .second, .unset, .unset] [(.long (maxF w_0_14 vb))]))
        suffices Nw_0_19 : ∀ w_0_19 : Int64, w_0_19 = (maxF w_0_14 vb) → OGo p.tables e below (OFin s (fun v _ L => v = some (.int 1) ∧ Fr n0 L) 0 0) (T_0_18.setTop (mkF m 71 #[.val (.long va), .second, .val (.long vb), .second, .val (.int vc), .val (.int w_0_1), .val (.long w_0_14), .second, .unset, .unset] [(.long w_0_19)])) from Nw_0_19 _ rfl
        intro w_0_19 hw_0_19
        refine ogo (fun _ k => XS.lstore X_0_18.here hx rfl (hb hby at_71) rfl (l' := #[.val (.long va), .second, .val (.long vb), .second, .val (.int vc), .val (.int w_0_1), .val (.long w_0_14), .second, .val (.long w_0_19), .second]) rfl k) ?_
        show OGo _ _ _ _ (T_0_18.setTop (mkF m 73 #[.val (.long va), .second, .val (.long vb), .second, .val (.int vc), .val (.int w_0_1), .val (.long w_0_14), .second, .val (.long w_0_19), .second] []))
        refine ogo (fun _ k => XS.lload X_0_18.here hx rfl (hb hby at_73) rfl k) ?_
        show OGo _ _ _ _ (T_0_18.setTop (mkF m 75 #[.val (.long va), .second, .val (.long vb), .second, .val (.int vc), .val (.int w_0_1), .val (.long w_0_14), .second, .val (.long w_0_19), .second] [(.long w_0_14)]))
        refine ogo (fun _ k => XS.lload X_0_18.here hx rfl (hb hby at_75) rfl k) ?_
        show OGo _ _ _ _ (T_0_18.setTop (mkF m 77 #[.val (.long va), .second, .val (.long vb), .second, .val (.int vc), .val (.int w_0_1), .val (.long w_0_14), .second, .val (.long w_0_19), .second] [(.long w_0_19), (.long w_0_14)]))
        obtain ⟨T_0_20, X_0_20, e_0_20, st_0_20⟩ := ocallP X_0_18 hx hZ e_0_18 (rm1 l Z a0 hw w_0_14 w_0_19  h0 ) hown (hw _ (List.mem_of_getElem? (i := 0) rfl)) (hw _ (List.mem_of_getElem? (i := 1) rfl)) (hw _ (List.mem_of_getElem? (i := 2) rfl)) (hw _ (List.mem_of_getElem? (i := 3) rfl)) (by decide) (g := (mkF m 77 #[.val (.long va), .second, .val (.long vb), .second, .val (.int vc), .val (.int w_0_1), .val (.long w_0_14), .second, .val (.long w_0_19), .second] [(.long w_0_19), (.long w_0_14)])) rfl (by rw [hml]; rfl) [(.long w_0_14), (.long w_0_19)] [] rfl (lenOf pd__JJ_Z rfl) rfl (hb hby at_77) 0 (by show 2 * 0 + _ ≤ _; exact Nat.le_of_eq rfl) (by decide) (by decide) (by decide) (by decide) rfl rfl
        refine ogo (fun _ k => st_0_20 _ k) ?_
        show OGo _ _ _ _ (T_0_20.setTop (mkF m 80 #[.val (.long va), .second, .val (.long vb), .second, .val (.int vc), .val (.int w_0_1), .val (.long w_0_14), .second, .val (.long w_0_19), .second] [(.int (namesF w_0_14 w_0_19))]))
        have hz : (namesF w_0_14 w_0_19) = (1 : Int32) := plain2 va vb vc w_0_1 hw_0_1 hc_0_2 w_0_14 hw_0_14 hc_0_15 hc_0_17 w_0_19 hw_0_19
        rw [hz]
        exact oret X_0_20 hx hlk Bd.returns rfl (Or.inl ⟨rfl, Or.inr (Or.inl rfl), _, rfl⟩) (hb hby at_80) (by decide) (by decide) ⟨rfl, N0⟩
      · refine ogo (fun _ k => XS.icmpYes X_0_13.here hx rfl (pc0 := 62) (pc' := 81) rfl (hb hby at_62) rfl (feq hc_0_17).2 (by decide) (by decide) k) ?_
        show OGo _ _ _ _ (T_0_13.setTop (mkF m 81 #[.val (.long va), .second, .val (.long vb), .second, .val (.int vc), .val (.int w_0_1), .val (.long w_0_14), .second, .unset, .unset] []))
        refine ogo (fun _ k => XS.lload X_0_13.here hx rfl (hb hby at_81) rfl k) ?_
        show OGo _ _ _ _ (T_0_13.setTop (mkF m 83 #[.val (.long va), .second, .val (.long vb), .second, .val (.int vc), .val (.int w_0_1), .val (.long w_0_14), .second, .unset, .unset] [(.long w_0_14)]))
        refine ogo (fun _ k => XS.lconst X_0_13.here hx rfl (hb hby at_83) k) ?_
        show OGo _ _ _ _ (T_0_13.setTop (mkF m 84 #[.val (.long va), .second, .val (.long vb), .second, .val (.int vc), .val (.int w_0_1), .val (.long w_0_14), .second, .unset, .unset] [(.long (1 : Int64)), (.long w_0_14)]))
        refine ogo (fun _ k => XS.lsub X_0_13.here hx rfl (hb hby at_84) rfl k) ?_
        show OGo _ _ _ _ (T_0_13.setTop (mkF m 85 #[.val (.long va), .second, .val (.long vb), .second, .val (.int vc), .val (.int w_0_1), .val (.long w_0_14), .second, .unset, .unset] [(.long (w_0_14 - (1 : Int64)))]))
        refine ogo (fun _ k => XS.lloadN X_0_13.here hx rfl (hb hby at_85) rfl k) ?_
        show OGo _ _ _ _ (T_0_13.setTop (mkF m 86 #[.val (.long va), .second, .val (.long vb), .second, .val (.int vc), .val (.int w_0_1), .val (.long w_0_14), .second, .unset, .unset] [(.long vb), (.long (w_0_14 - (1 : Int64)))]))
        obtain ⟨T_0_21, X_0_21, e_0_21, st_0_21⟩ := ocallP X_0_13 hx hZ e_0_13 (rm3 l Z a0 hw (w_0_14 - (1 : Int64)) vb  h0 ) hown (hw _ (List.mem_of_getElem? (i := 8) rfl)) (hw _ (List.mem_of_getElem? (i := 9) rfl)) (hw _ (List.mem_of_getElem? (i := 10) rfl)) (hw _ (List.mem_of_getElem? (i := 11) rfl)) (by decide) (g := (mkF m 86 #[.val (.long va), .second, .val (.long vb), .second, .val (.int vc), .val (.int w_0_1), .val (.long w_0_14), .second, .unset, .unset] [(.long vb), (.long (w_0_14 - (1 : Int64)))])) rfl (by rw [hml]; rfl) [(.long (w_0_14 - (1 : Int64))), (.long vb)] [] rfl (lenOf pd__JJ_J rfl) rfl (hb hby at_86) 0 (by show 2 * 0 + _ ≤ _; exact Nat.le_of_eq rfl) (by decide) (by decide) (by decide) (by decide) rfl rfl
        refine ogo (fun _ k => st_0_21 _ k) ?_
        show OGo _ _ _ _ (T_0_21.setTop (mkF m 89 #[.val (.long va), .second, .val (.long vb), .second, .val (.int vc), .val (.int w_0_1), .val (.long w_0_14), .second, .unset, .unset] [(.long (minF (w_0_14 - (1 : Int64)) vb))]))
        suffices Nw_0_22 : ∀ w_0_22 : Int64, w_0_22 = (minF (w_0_14 - (1 : Int64)) vb) → OGo p.tables e below (OFin s (fun v _ L => v = some (.int 1) ∧ Fr n0 L) 0 0) (T_0_21.setTop (mkF m 89 #[.val (.long va), .second, .val (.long vb), .second, .val (.int vc), .val (.int w_0_1), .val (.long w_0_14), .second, .unset, .unset] [(.long w_0_22)])) from Nw_0_22 _ rfl
        intro w_0_22 hw_0_22
        refine ogo (fun _ k => XS.lstore X_0_21.here hx rfl (hb hby at_89) rfl (l' := #[.val (.long va), .second, .val (.long vb), .second, .val (.int vc), .val (.int w_0_1), .val (.long w_0_14), .second, .val (.long w_0_22), .second]) rfl k) ?_
        show OGo _ _ _ _ (T_0_21.setTop (mkF m 91 #[.val (.long va), .second, .val (.long vb), .second, .val (.int vc), .val (.int w_0_1), .val (.long w_0_14), .second, .val (.long w_0_22), .second] []))
        refine ogo (fun _ k => XS.lload X_0_21.here hx rfl (hb hby at_91) rfl k) ?_
        show OGo _ _ _ _ (T_0_21.setTop (mkF m 93 #[.val (.long va), .second, .val (.long vb), .second, .val (.int vc), .val (.int w_0_1), .val (.long w_0_14), .second, .val (.long w_0_22), .second] [(.long w_0_22)]))
        refine ogo (fun _ k => XS.lconst X_0_21.here hx rfl (hb hby at_93) k) ?_
        show OGo _ _ _ _ (T_0_21.setTop (mkF m 94 #[.val (.long va), .second, .val (.long vb), .second, .val (.int vc), .val (.int w_0_1), .val (.long w_0_14), .second, .val (.long w_0_22), .second] [(.long (0 : Int64)), (.long w_0_22)]))
        refine ogo (fun _ k => XS.lcmp X_0_21.here hx rfl (hb hby at_94) rfl k) ?_
        show OGo _ _ _ _ (T_0_21.setTop (mkF m 95 #[.val (.long va), .second, .val (.long vb), .second, .val (.int vc), .val (.int w_0_1), .val (.long w_0_14), .second, .val (.long w_0_22), .second] [(.int (lcmpW w_0_22 (0 : Int64)))]))
        suffices J_0_25 : ∀ (w_0_24 : Int64) (hw_0_24 : w_0_24 = (if w_0_22 = (0 : Int64) then (-1 : Int64) else w_0_22)), OGo p.tables e below (OFin s (fun v _ L => v = some (.int 1) ∧ Fr n0 L) 0 0) (T_0_21.setTop (mkF m 103 #[.val (.long va), .second, .val (.long vb), .second, .val (.int vc), .val (.int w_0_1), .val (.long w_0_14), .second, .val (.long w_0_24), .second] [])) by
          by_cases hc_0_23 : w_0_22 = (0 : Int64)
          · refine ogo (fun _ k => XS.ifNo X_0_21.here hx rfl (hb hby at_95) rfl ((if0 _ _).trans (teq ((lw_eq _ _).mpr hc_0_23)).2) k) ?_
            show OGo _ _ _ _ (T_0_21.setTop (mkF m 98 #[.val (.long va), .second, .val (.long vb), .second, .val (.int vc), .val (.int w_0_1), .val (.long w_0_14), .second, .val (.long w_0_22), .second] []))
            refine ogo (fun _ k => X_0_21.ldc2J hx hown (mvT hZ (hw _ (List.mem_of_getElem? (i := 16) rfl))) rfl (hb hby at_98) k) ?_
            show OGo _ _ _ _ (T_0_21.setTop (mkF m 101 #[.val (.long va), .second, .val (.long vb), .second, .val (.int vc), .val (.int w_0_1), .val (.long w_0_14), .second, .val (.long w_0_22), .second] [(.long (-1 : Int64))]))
            refine ogo (fun _ k => XS.lstore X_0_21.here hx rfl (hb hby at_101) rfl (l' := #[.val (.long va), .second, .val (.long vb), .second, .val (.int vc), .val (.int w_0_1), .val (.long w_0_14), .second, .val (.long (-1 : Int64)), .second]) rfl k) ?_
            show OGo _ _ _ _ (T_0_21.setTop (mkF m 103 #[.val (.long va), .second, .val (.long vb), .second, .val (.int vc), .val (.int w_0_1), .val (.long w_0_14), .second, .val (.long (-1 : Int64)), .second] []))
            exact J_0_25 _ (if_pos hc_0_23).symm
          · refine ogo (fun _ k => XS.ifYes X_0_21.here hx rfl (pc0 := 95) (pc' := 103) rfl (hb hby at_95) rfl ((if0 _ _).trans (feq (fun q => hc_0_23 ((lw_eq _ _).mp q))).2) (by decide) (by decide) k) ?_
            show OGo _ _ _ _ (T_0_21.setTop (mkF m 103 #[.val (.long va), .second, .val (.long vb), .second, .val (.int vc), .val (.int w_0_1), .val (.long w_0_14), .second, .val (.long w_0_22), .second] []))
            exact J_0_25 _ (if_neg hc_0_23).symm
        intro w_0_24 hw_0_24
        refine ogo (fun _ k => XS.lload X_0_21.here hx rfl (hb hby at_103) rfl k) ?_
        show OGo _ _ _ _ (T_0_21.setTop (mkF m 105 #[.val (.long va), .second, .val (.long vb), .second, .val (.int vc), .val (.int w_0_1), .val (.long w_0_14), .second, .val (.long w_0_24), .second] [(.long w_0_14)]))
        refine ogo (fun _ k => XS.lload X_0_21.here hx rfl (hb hby at_105) rfl k) ?_
        show OGo _ _ _ _ (T_0_21.setTop (mkF m 107 #[.val (.long va), .second, .val (.long vb), .second, .val (.int vc), .val (.int w_0_1), .val (.long w_0_14), .second, .val (.long w_0_24), .second] [(.long w_0_24), (.long w_0_14)]))
        obtain ⟨T_0_27, X_0_27, e_0_27, st_0_27⟩ := ocallP X_0_21 hx hZ e_0_21 (rm1 l Z a0 hw w_0_14 w_0_24  h0 ) hown (hw _ (List.mem_of_getElem? (i := 0) rfl)) (hw _ (List.mem_of_getElem? (i := 1) rfl)) (hw _ (List.mem_of_getElem? (i := 2) rfl)) (hw _ (List.mem_of_getElem? (i := 3) rfl)) (by decide) (g := (mkF m 107 #[.val (.long va), .second, .val (.long vb), .second, .val (.int vc), .val (.int w_0_1), .val (.long w_0_14), .second, .val (.long w_0_24), .second] [(.long w_0_24), (.long w_0_14)])) rfl (by rw [hml]; rfl) [(.long w_0_14), (.long w_0_24)] [] rfl (lenOf pd__JJ_Z rfl) rfl (hb hby at_107) 0 (by show 2 * 0 + _ ≤ _; exact Nat.le_of_eq rfl) (by decide) (by decide) (by decide) (by decide) rfl rfl
        refine ogo (fun _ k => st_0_27 _ k) ?_
        show OGo _ _ _ _ (T_0_27.setTop (mkF m 110 #[.val (.long va), .second, .val (.long vb), .second, .val (.int vc), .val (.int w_0_1), .val (.long w_0_14), .second, .val (.long w_0_24), .second] [(.int (namesF w_0_14 w_0_24))]))
        suffices J_0_30 : ∀ (w_0_29 : Int32) (hw_0_29 : w_0_29 = (if (namesF w_0_14 w_0_24) = (0 : Int32) then (1 : Int32) else (0 : Int32))), OGo p.tables e below (OFin s (fun v _ L => v = some (.int 1) ∧ Fr n0 L) 0 0) (T_0_27.setTop (mkF m 118 #[.val (.long va), .second, .val (.long vb), .second, .val (.int vc), .val (.int w_0_1), .val (.long w_0_14), .second, .val (.long w_0_24), .second] [(.int w_0_29)])) by
          by_cases hc_0_28 : (namesF w_0_14 w_0_24) = (0 : Int32)
          · refine ogo (fun _ k => XS.ifNo X_0_27.here hx rfl (hb hby at_110) rfl ((if0 _ _).trans (teq hc_0_28).2) k) ?_
            show OGo _ _ _ _ (T_0_27.setTop (mkF m 113 #[.val (.long va), .second, .val (.long vb), .second, .val (.int vc), .val (.int w_0_1), .val (.long w_0_14), .second, .val (.long w_0_24), .second] []))
            refine ogo (fun _ k => XS.iconst X_0_27.here hx rfl (hb hby at_113) k) ?_
            show OGo _ _ _ _ (T_0_27.setTop (mkF m 114 #[.val (.long va), .second, .val (.long vb), .second, .val (.int vc), .val (.int w_0_1), .val (.long w_0_14), .second, .val (.long w_0_24), .second] [(.int (1 : Int32))]))
            refine ogo (fun _ k => XS.goto X_0_27.here hx rfl (pc0 := 114) (pc' := 118) rfl (hb hby at_114) (by decide) (by decide) k) ?_
            show OGo _ _ _ _ (T_0_27.setTop (mkF m 118 #[.val (.long va), .second, .val (.long vb), .second, .val (.int vc), .val (.int w_0_1), .val (.long w_0_14), .second, .val (.long w_0_24), .second] [(.int (1 : Int32))]))
            exact J_0_30 _ (if_pos hc_0_28).symm
          · refine ogo (fun _ k => XS.ifYes X_0_27.here hx rfl (pc0 := 110) (pc' := 117) rfl (hb hby at_110) rfl ((if0 _ _).trans (feq hc_0_28).2) (by decide) (by decide) k) ?_
            show OGo _ _ _ _ (T_0_27.setTop (mkF m 117 #[.val (.long va), .second, .val (.long vb), .second, .val (.int vc), .val (.int w_0_1), .val (.long w_0_14), .second, .val (.long w_0_24), .second] []))
            refine ogo (fun _ k => XS.iconst X_0_27.here hx rfl (hb hby at_117) k) ?_
            show OGo _ _ _ _ (T_0_27.setTop (mkF m 118 #[.val (.long va), .second, .val (.long vb), .second, .val (.int vc), .val (.int w_0_1), .val (.long w_0_14), .second, .val (.long w_0_24), .second] [(.int (0 : Int32))]))
            exact J_0_30 _ (if_neg hc_0_28).symm
        intro w_0_29 hw_0_29
        have hz : w_0_29 = (1 : Int32) := plain3 va vb vc w_0_1 hw_0_1 hc_0_2 w_0_14 hw_0_14 hc_0_15 hc_0_17 w_0_22 hw_0_22 w_0_24 hw_0_24 w_0_29 hw_0_29
        rw [hz]
        exact oret X_0_27 hx hlk Bd.returns rfl (Or.inl ⟨rfl, Or.inr (Or.inl rfl), _, rfl⟩) (hb hby at_118) (by decide) (by decide) ⟨rfl, N0⟩
set_option maxRecDepth 65536 in
set_option maxHeartbeats 40000000 in
theorem comes_1 {Post : Tables → Env → Array Value → State → Outcome → State → Prop} (hpost : ∀ tb e args s v u, (limb_1_1.after args s (.returned v) u = true ∧ limb_1_2.after args s (.returned v) u = true) → FrameEnd s (.returned v) u (Jvm.fieldLocs frame_1_writes args s ++ Jvm.arrayLocs frame_1_arrays args s ++ Jvm.staticLocs frame_1_statics s) 0 0 → Post tb e args s (.returned v) u) :
    ArmFor flags0 classFile x code maxLocals ret World_1 tables_1 room_1 Calls_1 rest_1 Pre_1 Post := by
  intro l hfl _ _ p e ha hc hk s m args below hf hA hF happ hP
  obtain ⟨hcalls, hrest, hpre⟩ := hP
  obtain ⟨-, -, -, hnamed, -, -, -, hat⟩ := (Spec.applies_iff hf).mp happ
  obtain ⟨hg, hn⟩ := and_e (Cond.before_iff.mp (show (Jvm.Cond.and given_1 narrow_1).before args s = true from hpre))
  obtain ⟨gc, g0⟩ := and_e hg
  obtain ⟨ga0, g1⟩ := and_e g0
  obtain ⟨ga1, g2⟩ := and_e g1
  obtain ⟨w0, w1, w2, rfl⟩ : ∃ w0 w1 w2 : Value, args = #[w0, w1, w2] := by
    have hs : args.size = 3 := by simpa [Cond.value, given_1] using gc
    obtain ⟨L⟩ := args
    match L, hs with
    | [w0, w1, w2], _ => exact ⟨w0, w1, w2, rfl⟩
  have hw := fun d (hd : d ∈ tables_1) => atoms_spec (ws := Jvm.Cond.code x code maxLocals ret :: tables_1) hat d (List.mem_cons_of_mem _ hd)
  obtain ⟨i0, ei0⟩ := isL_v ga0
  obtain rfl : w0 = (.long i0) := Option.some.inj ei0
  obtain ⟨i1, ei1⟩ := isL_v ga1
  obtain rfl : w1 = (.long i1) := Option.some.inj ei1
  obtain ⟨i2, ei2⟩ := is_v g2
  obtain rfl : w2 = (.int i2) := Option.some.inj ei2
  obtain ⟨n, o, h1, h2, h3, _, L, rfl, ⟨rfl, N⟩, hq⟩ := rm0 l s _ hw tables_1 i0 i1 i2 s.heap s.heap.size (Nat.le_refl _)  p e ha hc hk s m _ below hf ((Spec.applies_iff_loose hf).mp happ).1 ⟨rfl, State.Warmed39.refl s, rfl⟩ trivial
  exact ⟨n, _, h1, h2, h3, hpost _ _ _ _ _ _ ⟨Cond.after_iff.mpr rfl, Cond.after_iff.mpr (eq_i res_at (Term.int_eval (1)) rfl)⟩ ⟨hq.1, hq.2.1, (hq.2.2.sift fun y hy => Or.inr (N y hy)).mono (by decide) (by decide)⟩⟩
theorem main_1_1 : Claimed_1_1 := comes_1 fun _ _ _ _ _ _ h hF => ⟨h.1, hF⟩
theorem main_1_2 : Claimed_1_2 := comes_1 fun _ _ _ _ _ _ h hF => ⟨h.2, hF⟩
end Jvm.Pilot.@@N@@
namespace Jvm.Pilot.@@N@@
open Jvm Jvm.ClassFile Sem Op Lib Jvm.Free Jvm.Stand Jvm.Pilot.@@N@@.Jvm.D
/-! MADE BY PROGRAM (witnessworld.py) out of the Statement's table words and the real class files: 10 classes; the members and pool entries that the words name. The judged class is class 1, her method 2. -/
namespace start1
open Jvm.ClassFile
def u (s : String) : CpInfo := .utf8 (stringToUtf16 s)
/-- a pool by its gaps: so many unusable entries, then the entry; so many at the end -/
def gap : Nat → List CpInfo → List CpInfo
  | 0, r => r
  | n + 1, r => .unusable :: gap n r
def poolList (es : List (Nat × CpInfo)) (last : Nat) : List CpInfo := es.foldr (fun e r => gap e.1 (e.2 :: r)) (gap last [])
def pool (es : List (Nat × CpInfo)) (last : Nat) : Array CpInfo := ⟨poolList es last⟩
def fileOf (pool : Array CpInfo) (this : Nat) (attrs : Array Attribute := #[]) (ms : Array MethodInfo := #[]) (fl : Nat := 33) (sup : Nat := 0) (ifs : Array Nat := #[]) (fds : Array FieldInfo := #[]) : ClassFile where
  minorVersion := 0
  majorVersion := 65
  constantPool := pool
  accessFlags := fl
  thisClass := this
  superClass := sup
  interfaces := ifs
  fields := fds
  methods := ms
  attributes := attrs
def plain (name : String) (sup : Option ClassId) : Class where
  name := name
  kind := .ordinary
  loader := none
  accessFlags := 33
  super := sup
  interfaces := #[]
  cf := none
  fields := #[]
  methods := #[]
  instanceTypes := #[]
  staticTypes := #[]
  resolved := #[]
  callSites := []
  init := .initialized
  statics := none
  mirror := none

def pool0 : Array CpInfo := pool [(5, u "<init>"), (0, u "()V"), (1, .class_ 10), (1, u "java/lang/Object")] 113

def k0m0 : Method := { name := "<init>", desc := "()V", sig := { parameters := [], returnType := none }, accessFlags := 1, code := none }
/-- java/lang/Object -/
def k0 : Class := { plain "java/lang/Object" none with
  accessFlags := 33
  interfaces := #[]
  cf := some (fileOf pool0 8 #[] #[{ accessFlags := 1, nameIndex := 5, descriptorIndex := 6, attributes := #[] }] 33 0 #[] #[])
  fields := #[]
  methods := #[k0m0]
  instanceTypes := #[]
  staticTypes := #[]
  resolved := Array.replicate 124 none
  statics := none }

def pool1 : Array CpInfo := pool [(2, .class_ 4), (1, u "java/lang/Object"), (0, u "<init>"), (0, u "()V"), (2, .long 9223372036854775808), (1, .methodref 12 13), (0, .class_ 14), (0, .nameAndType 15 16), (0, u "com/example/tidy_handshake/tidyhandshake/ResendRequest"), (0, u "namesMessages"), (0, u "(JJ)Z"), (0, .methodref 18 19), (0, .class_ 20), (0, .nameAndType 21 22), (0, u "com/example/tidy_handshake/tidyhandshake/ResendRequestNamesMessagesPinLaw"), (0, u "positive"), (0, u "(J)J"), (0, .methodref 24 25), (0, .class_ 26), (0, .nameAndType 27 28), (0, u "java/lang/Math"), (0, u "max"), (0, u "(JJ)J"), (0, .methodref 24 30), (0, .nameAndType 31 28), (0, u "min"), (0, .long 18446744073709551615), (4, u "law"), (0, u "(JJI)Z")] 2

def k1m0 : Method := { name := "<init>", desc := "()V", sig := { parameters := [], returnType := none }, accessFlags := 2, code := none }
def k1c1 : Code := { maxStack := 4, maxLocals := 2, code := method_2_code, exceptionTable := #[], attributes := #[] }
def k1m1 : Method := { name := "positive", desc := "(J)J", sig := { parameters := [.long], returnType := some .long }, accessFlags := 10, code := some k1c1 }
def k1c2 : Code := { maxStack := 4, maxLocals := 10, code := code, exceptionTable := #[], attributes := #[] }
def k1m2 : Method := { name := "law", desc := "(JJI)Z", sig := { parameters := [.long, .long, .int], returnType := some .boolean }, accessFlags := 9, code := some k1c2 }
/-- com/example/tidy_handshake/tidyhandshake/ResendRequestNamesMessagesPinLaw -/
def k1 : Class := { plain "com/example/tidy_handshake/tidyhandshake/ResendRequestNamesMessagesPinLaw" (some 0) with
  accessFlags := 49
  interfaces := #[]
  cf := some (fileOf pool1 18 #[] #[{ accessFlags := 2, nameIndex := 5, descriptorIndex := 6, attributes := #[] }, { accessFlags := 10, nameIndex := 21, descriptorIndex := 22, attributes := #[] }, { accessFlags := 9, nameIndex := 37, descriptorIndex := 38, attributes := #[] }] 49 2 #[] #[])
  fields := #[]
  methods := #[k1m0, k1m1, k1m2]
  instanceTypes := #[]
  staticTypes := #[]
  resolved := Array.replicate 41 none
  statics := none }

def pool2 : Array CpInfo := pool [(2, .class_ 4), (1, u "java/lang/Object"), (0, u "<init>"), (0, u "()V"), (1, .class_ 10), (1, u "com/example/tidy_handshake/tidyhandshake/ResendRequest"), (0, u "namesMessages"), (0, u "(JJ)Z"), (32, u "MSG_TYPE"), (0, u "Ljava/lang/String;"), (1, u "TO_THE_END"), (0, u "J")] 24

def k2m0 : Method := { name := "<init>", desc := "()V", sig := { parameters := [], returnType := none }, accessFlags := 2, code := none }
def k2c1 : Code := { maxStack := 4, maxLocals := 4, code := prog_20_method_3_code, exceptionTable := #[], attributes := #[] }
def k2m1 : Method := { name := "namesMessages", desc := "(JJ)Z", sig := { parameters := [.long, .long], returnType := some .boolean }, accessFlags := 8, code := some k2c1 }
/-- com/example/tidy_handshake/tidyhandshake/ResendRequest -/
def k2 : Class := { plain "com/example/tidy_handshake/tidyhandshake/ResendRequest" (some 0) with
  accessFlags := 33
  interfaces := #[]
  cf := some (fileOf pool2 8 #[] #[{ accessFlags := 2, nameIndex := 5, descriptorIndex := 6, attributes := #[] }, { accessFlags := 8, nameIndex := 11, descriptorIndex := 12, attributes := #[] }] 33 2 #[] #[{ accessFlags := 24, nameIndex := 45, descriptorIndex := 46, attributes := #[] }, { accessFlags := 25, nameIndex := 48, descriptorIndex := 49, attributes := #[] }])
  fields := #[{ name := "MSG_TYPE", type := (.object "java/lang/String"), accessFlags := 24, slot := 0, constantValue := 0 }, { name := "TO_THE_END", type := .long, accessFlags := 25, slot := 1, constantValue := 0 }]
  methods := #[k2m0, k2m1]
  instanceTypes := #[]
  staticTypes := #[(.object "java/lang/String"), .long]
  resolved := Array.replicate 74 none
  statics := none }

def pool3 : Array CpInfo := pool [(1, .class_ 2), (0, u "java/lang/Math"), (1, .class_ 6), (1, u "java/lang/Object"), (0, u "<init>"), (0, u "()V"), (89, .class_ 100), (1, u "java/lang/Math$RandomNumberGeneratorHolder"), (20, u "(JJ)J"), (50, u "negativeZeroFloatBits"), (0, u "J"), (2, u "negativeZeroDoubleBits"), (21, u "max"), (2, u "min"), (43, u "$assertionsDisabled"), (0, u "Z"), (91, u "twoToTheDoubleScaleDown"), (0, u "D"), (4, u "twoToTheDoubleScaleUp"), (9, u "E"), (3, u "PI"), (2, u "TAU"), (2, u "DEGREES_TO_RADIANS"), (0, u "RADIANS_TO_DEGREES")] 94

def k3m0 : Method := { name := "<init>", desc := "()V", sig := { parameters := [], returnType := none }, accessFlags := 2, code := none }
def k3c1 : Code := { maxStack := 4, maxLocals := 4, code := jdk_29_method_66_code, exceptionTable := #[], attributes := #[] }
def k3m1 : Method := { name := "max", desc := "(JJ)J", sig := { parameters := [.long, .long], returnType := some .long }, accessFlags := 9, code := some k3c1 }
def k3c2 : Code := { maxStack := 4, maxLocals := 4, code := jdk_29_method_70_code, exceptionTable := #[], attributes := #[] }
def k3m2 : Method := { name := "min", desc := "(JJ)J", sig := { parameters := [.long, .long], returnType := some .long }, accessFlags := 9, code := some k3c2 }
/-- java/lang/Math -/
def k3 : Class := { plain "java/lang/Math" (some 0) with
  accessFlags := 49
  interfaces := #[]
  cf := some (fileOf pool3 1 #[.nestMembers #[98]] #[{ accessFlags := 2, nameIndex := 7, descriptorIndex := 8, attributes := #[] }, { accessFlags := 9, nameIndex := 198, descriptorIndex := 121, attributes := #[] }, { accessFlags := 9, nameIndex := 201, descriptorIndex := 121, attributes := #[] }] 49 4 #[] #[{ accessFlags := 25, nameIndex := 354, descriptorIndex := 339, attributes := #[] }, { accessFlags := 25, nameIndex := 358, descriptorIndex := 339, attributes := #[] }, { accessFlags := 25, nameIndex := 361, descriptorIndex := 339, attributes := #[] }, { accessFlags := 26, nameIndex := 364, descriptorIndex := 339, attributes := #[] }, { accessFlags := 26, nameIndex := 365, descriptorIndex := 339, attributes := #[] }, { accessFlags := 26, nameIndex := 172, descriptorIndex := 173, attributes := #[] }, { accessFlags := 26, nameIndex := 176, descriptorIndex := 173, attributes := #[] }, { accessFlags := 8, nameIndex := 344, descriptorIndex := 339, attributes := #[] }, { accessFlags := 8, nameIndex := 338, descriptorIndex := 339, attributes := #[] }, { accessFlags := 4120, nameIndex := 245, descriptorIndex := 246, attributes := #[] }])
  fields := #[{ name := "E", type := .double, accessFlags := 25, slot := 0, constantValue := 0 }, { name := "PI", type := .double, accessFlags := 25, slot := 1, constantValue := 0 }, { name := "TAU", type := .double, accessFlags := 25, slot := 2, constantValue := 0 }, { name := "DEGREES_TO_RADIANS", type := .double, accessFlags := 26, slot := 3, constantValue := 0 }, { name := "RADIANS_TO_DEGREES", type := .double, accessFlags := 26, slot := 4, constantValue := 0 }, { name := "negativeZeroFloatBits", type := .long, accessFlags := 26, slot := 5, constantValue := 0 }, { name := "negativeZeroDoubleBits", type := .long, accessFlags := 26, slot := 6, constantValue := 0 }, { name := "twoToTheDoubleScaleUp", type := .double, accessFlags := 8, slot := 7, constantValue := 0 }, { name := "twoToTheDoubleScaleDown", type := .double, accessFlags := 8, slot := 8, constantValue := 0 }, { name := "$assertionsDisabled", type := .boolean, accessFlags := 4120, slot := 9, constantValue := 0 }]
  methods := #[k3m0, k3m1, k3m2]
  instanceTypes := #[]
  staticTypes := #[.double, .double, .double, .double, .double, .long, .long, .double, .double, .boolean]
  resolved := Array.replicate 460 none
  statics := none }

def pool4 : Array CpInfo := pool [(1, u "java/lang/Cloneable"), (0, .class_ 1), (0, u "java/lang/Object"), (0, .class_ 3)] 3

/-- java/lang/Cloneable -/
def k4 : Class := { plain "java/lang/Cloneable" (some 0) with
  accessFlags := 1537
  interfaces := #[]
  cf := some (fileOf pool4 2 #[] #[] 1537 4 #[] #[])
  fields := #[]
  methods := #[]
  instanceTypes := #[]
  staticTypes := #[]
  resolved := Array.replicate 8 none
  statics := none }

def pool5 : Array CpInfo := pool [(1, u "java/io/Serializable"), (0, .class_ 1), (0, u "java/lang/Object"), (0, .class_ 3)] 3

/-- java/io/Serializable -/
def k5 : Class := { plain "java/io/Serializable" (some 0) with
  accessFlags := 1537
  interfaces := #[]
  cf := some (fileOf pool5 2 #[] #[] 1537 4 #[] #[])
  fields := #[]
  methods := #[]
  instanceTypes := #[]
  staticTypes := #[]
  resolved := Array.replicate 8 none
  statics := none }

/-- the primitive byte -/
def k6 : Class := { plain "byte" none with kind := .primitive 'B', accessFlags := 0x411 }
/-- [B -/
def k7 : Class := { plain "[B" (some 0) with kind := .array 6 .byte, interfaces := #[4, 5], accessFlags := 1041 }

/-- the primitive int -/
def k8 : Class := { plain "int" none with kind := .primitive 'I', accessFlags := 0x411 }
/-- [I -/
def k9 : Class := { plain "[I" (some 0) with kind := .array 8 .int, interfaces := #[4, 5], accessFlags := 1041 }

def heap : Heap := #[]
def classes : Array Class := #[k0, k1, k2, k3, k4, k5, k6, k7, k8, k9]
def interned : List (Array UInt16 × Addr) := []
def slotsUsed : Nat := 0
def theMethod : MethodId := ⟨1, 2⟩
def args0 : Array Value := #[.long 5, .long 9, .int 2]
def aboutOver (below : List Frame) : State where
  vm := { classes := classes, interned := interned.toArray }
  heap := heap
  slotsUsed := slotsUsed
  threads := #[{ frames := .invoking theMethod args0 :: below }]
def below0 : List Frame := [.native { method := ⟨0, 0⟩, args := #[] }]
def about1 : State := aboutOver below0
def p0 : Program := .bare "" "" ""
def e0 : Env := launch0.env 0 0 0
theorem w_frames : about1.frames = Frame.invoking theMethod args0 :: below0 := rfl
set_option maxRecDepth 65536 in
theorem w_args : argsFit about1.vm theMethod args0 = true := by decide +kernel
set_option maxRecDepth 65536 in
theorem w_heap : heapFits about1 = true := by decide +kernel
set_option maxRecDepth 65536 in
theorem w_runnable : about1.curStatus? = some .runnable := by decide +kernel
set_option maxRecDepth 65536 in
theorem w_alone : about1.alone = true := by decide +kernel
set_option maxRecDepth 65536 in
theorem w_named : about1.methodNamed? x = some theMethod := by decide +kernel
set_option maxRecDepth 65536 in
theorem w_hears : about1.hears theMethod below0 = true := by decide +kernel
set_option maxRecDepth 65536 in
theorem w_ripe : about1.ripe theMethod args0 below0 = true := by decide +kernel
theorem w_running : about1.status = .running := rfl
set_option maxRecDepth 65536 in
theorem w_room : about1.hasRoom e0.platform room_1 = true :=
  launch0.hasRoom_least _ room_1 (by decide +kernel) (by decide +kernel) (by decide +kernel) (by decide +kernel) (by decide +kernel) (by decide +kernel)
theorem allAtoms_all (ts : List Jvm.Cond) (a : Array Jvm.Value) (st : Jvm.State) : (allAtoms ts).before a st = ts.all (fun c => c.before a st) := by
  induction ts with
  | nil => rfl
  | cons c t ih =>
    show (Jvm.Cond.and c (allAtoms t)).before a st = _
    rw [Jvm.Cond.before_and, ih, List.all_cons]
def words1 : List Jvm.Cond := Jvm.Cond.code x code maxLocals ret :: tables_1
/-- a 'code' word, met by the world's own term for the bytes: nothing is compared byte by byte -/
theorem code_word {y : MethodName} {bytes : ByteArray} {mx : Nat} {rt : Option FieldType} {a : Array Value} {s : State} {m : MethodId} {meth : Method} {c : Code} (h1 : s.methodNamed? y = some m) (h2 : s.vm.method? m = some meth) (h3 : meth.code = some c) (h4 : c.code = bytes)
    (h5 : (c.maxLocals == mx && c.exceptionTable.isEmpty && decide (c.maxStack ≤ mostOperands) && decide (meth.sig.returnType = rt) && !meth.locks && decide (parseMethodDescriptor y.desc = some meth.sig)) = true) : (Jvm.Cond.code y bytes mx rt).before a s = true := by
  simp only [Bool.and_eq_true, beq_iff_eq, Bool.not_eq_true', decide_eq_true_eq] at h5
  obtain ⟨⟨⟨⟨⟨g1, g2⟩, g3⟩, g4⟩, g5⟩, g6⟩ := h5
  simp [Cond.before, Cond.holds, Cond.value, h1, h2, h3, h4, g1, g2, g3, g4, g5, g6]
def isCode : Jvm.Cond → Bool
  | .code _ _ _ _ => true
  | _ => false
theorem all_split {L : List Jvm.Cond} {P : Jvm.Cond → Bool} (h1 : L.all (fun c => isCode c || P c) = true) (h2 : ∀ c ∈ L.filter isCode, P c = true) : L.all P = true := by
  refine List.all_eq_true.mpr fun c hc => ?_
  have h := List.all_eq_true.mp h1 c hc
  rcases Bool.eq_false_or_eq_true (isCode c) with hi | hi
  · exact h2 c (List.mem_filter.mpr ⟨hc, hi⟩)
  · simpa [hi] using h
set_option maxRecDepth 65536 in
theorem w_c0 : (Jvm.Cond.code x code maxLocals ret).before args0 about1 = true := code_word (m := ⟨1, 2⟩) (meth := k1m2) (c := k1c2) (by decide +kernel) rfl rfl rfl (by decide +kernel)
set_option maxRecDepth 65536 in
theorem w_c1 : (Jvm.Cond.code ({ cls := "com/example/tidy_handshake/tidyhandshake/ResendRequest", name := "namesMessages", desc := "(JJ)Z" } : Jvm.MethodName) prog_20_method_3_code (4 : Nat) (Option.some Jvm.ClassFile.FieldType.boolean)).before args0 about1 = true := code_word (m := ⟨2, 1⟩) (meth := k2m1) (c := k2c1) (by decide +kernel) rfl rfl rfl (by decide +kernel)
set_option maxRecDepth 65536 in
theorem w_c2 : (Jvm.Cond.code ({ cls := "com/example/tidy_handshake/tidyhandshake/ResendRequestNamesMessagesPinLaw", name := "positive", desc := "(J)J" } : Jvm.MethodName) method_2_code (2 : Nat) (Option.some Jvm.ClassFile.FieldType.long)).before args0 about1 = true := code_word (m := ⟨1, 1⟩) (meth := k1m1) (c := k1c1) (by decide +kernel) rfl rfl rfl (by decide +kernel)
set_option maxRecDepth 65536 in
theorem w_c3 : (Jvm.Cond.code ({ cls := "java/lang/Math", name := "min", desc := "(JJ)J" } : Jvm.MethodName) jdk_29_method_70_code (4 : Nat) (Option.some Jvm.ClassFile.FieldType.long)).before args0 about1 = true := code_word (m := ⟨3, 2⟩) (meth := k3m2) (c := k3c2) (by decide +kernel) rfl rfl rfl (by decide +kernel)
set_option maxRecDepth 65536 in
theorem w_c4 : (Jvm.Cond.code ({ cls := "java/lang/Math", name := "max", desc := "(JJ)J" } : Jvm.MethodName) jdk_29_method_66_code (4 : Nat) (Option.some Jvm.ClassFile.FieldType.long)).before args0 about1 = true := code_word (m := ⟨3, 1⟩) (meth := k3m1) (c := k3c1) (by decide +kernel) rfl rfl rfl (by decide +kernel)
def codes1 : List Jvm.Cond := [Jvm.Cond.code x code maxLocals ret, Jvm.Cond.code ({ cls := "com/example/tidy_handshake/tidyhandshake/ResendRequest", name := "namesMessages", desc := "(JJ)Z" } : Jvm.MethodName) prog_20_method_3_code (4 : Nat) (Option.some Jvm.ClassFile.FieldType.boolean), Jvm.Cond.code ({ cls := "com/example/tidy_handshake/tidyhandshake/ResendRequestNamesMessagesPinLaw", name := "positive", desc := "(J)J" } : Jvm.MethodName) method_2_code (2 : Nat) (Option.some Jvm.ClassFile.FieldType.long), Jvm.Cond.code ({ cls := "java/lang/Math", name := "min", desc := "(JJ)J" } : Jvm.MethodName) jdk_29_method_70_code (4 : Nat) (Option.some Jvm.ClassFile.FieldType.long), Jvm.Cond.code ({ cls := "java/lang/Math", name := "max", desc := "(JJ)J" } : Jvm.MethodName) jdk_29_method_66_code (4 : Nat) (Option.some Jvm.ClassFile.FieldType.long)]
set_option maxRecDepth 65536 in
theorem codes_eq : words1.filter isCode = codes1 := rfl
theorem w_codes : ∀ c ∈ words1.filter isCode, c.before args0 about1 = true := by
  rw [codes_eq]
  intro c hc
  simp only [codes1, List.mem_cons, List.not_mem_nil, or_false] at hc
  rcases hc with rfl | rfl | rfl | rfl | rfl
  · exact w_c0
  · exact w_c1
  · exact w_c2
  · exact w_c3
  · exact w_c4
set_option maxRecDepth 65536 in
theorem w_t1 : words1.all (fun c => isCode c || c.before args0 about1) = true := by decide +kernel
theorem w_tables : (allAtoms (Jvm.Cond.code x code maxLocals ret :: tables_1)).before args0 about1 = true := by
  rw [allAtoms_all]
  show words1.all (fun c => c.before args0 about1) = true
  refine all_split ?_ w_codes
  rw [w_t1]
set_option maxRecDepth 65536 in
theorem w_case : (Jvm.Cond.and given_1 narrow_1).before args0 about1 = true := by decide +kernel
theorem w_applies : (headSpec (Jvm.Cond.code x code maxLocals ret :: tables_1) room_1).applies x e0.platform about1 = true :=
  (Spec.applies_iff w_frames).mpr ⟨w_running, w_runnable, w_alone, w_named, w_hears, w_ripe, w_room, w_tables⟩
theorem atStart : AtStart classFile x code maxLocals ret World_1 tables_1 room_1 Calls_1 rest_1 Pre_1 launch0 p0 e0 about1 theMethod args0 below0 :=
  ⟨lists_1, trivial, launch0.admits_env _ _ _, launch0.least_env, fairChoices_fair.cas, fairChoices_fair.clock, w_frames, w_args, w_heap, w_applies, trivial, trivial, w_case⟩
end start1
theorem witness_1 : WitnessClaimed_1 := ⟨start1.p0, start1.e0, start1.about1, start1.theMethod, start1.args0, start1.below0, start1.atStart⟩
end Jvm.Pilot.@@N@@
