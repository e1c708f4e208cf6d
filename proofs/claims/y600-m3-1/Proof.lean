import JvmDerived
import JvmDerived.Pilot.@@N@@Statement
import JvmDerived.Pilot.@@N@@Code
set_option linter.unusedVariables false
set_option linter.unusedSimpArgs false
namespace Jvm.OwnKit
open Sem ClassFile Op Lib Jvm.Stand Jvm.Free Jvm.LawKit Jvm.RoadKit
section OwnGo
variable {p : Program} {l : Launch} {e : Env} {R : Room} {s : State} {m : MethodId} {args : Array Value} {below : List Frame} {meth : Method} {c : Code} {T : State} {locs : List Loc} {cells slots : Nat} {Z : State} {a0 : Array Value} {h : Heap}
/-- from the state t the run comes to an end of which P holds -/
def OGo (tb : Tables) (e : Env) (below : List Frame) (P : Outcome → State → Prop) (t : State) : Prop :=
  ∃ s₂ o, Steps tb e below t s₂ ∧ s₂.status = .running ∧ Ended s₂ below o ∧ P o s₂
theorem ogo {tb : Tables} {P : Outcome → State → Prop} {t t' : State} (k : ∀ u, Steps tb e below t' u → Steps tb e below t u) (g : OGo tb e below P t') : OGo tb e below P t := by
  obtain ⟨s₂, o, h1, h2⟩ := g
  exact ⟨s₂, o, k _ h1, h2⟩
theorem ogoT {tb : Tables} {P : Outcome → State → Prop} {t t' : State} (k : Steps tb e below t t') (g : OGo tb e below P t') : OGo tb e below P t := ogo (fun _ q => k.trans q) g
/-- the end of a body: returned, the heap as Q says, the frame kept -/
abbrev OFin (s : State) (Q : Option Value → Heap → List Loc → Prop) (K N : Nat) : Outcome → State → Prop :=
  fun o U => ∃ v L, o = .returned v ∧ Q v U.heap L ∧ FrameEnd s o U L K N
/-- a body's contract -/
def OMet (l : Launch) (Z : State) (y : MethodName) (bytes : ByteArray) (maxL : Nat) (ret : Option FieldType) (rm : Room) (as : Array Value) (h : Heap) (Q : Option Value → Heap → List Loc → Prop) : Prop :=
  ∀ ws : List Jvm.Cond, MetFree l y (head1 (Jvm.Cond.code y bytes maxL ret :: ws) rm) (fun a U => a = as ∧ Z.Warmed39 U.vm ∧ U.heap = h) (fun _ _ _ _ _ => True) (fun _ U o U' => ∃ v L, o = .returned v ∧ Q v U'.heap L ∧ FrameEnd U o U' L rm.cells rm.slots)
/-- a body that returns w and writes nothing -/
abbrev OPure (w : Option Value) (h : Heap) : Option Value → Heap → List Loc → Prop := fun v h' L => v = w ∧ L = [] ∧ h' = h
theorem oret (X : Stand p l e R s m args below meth c T locs cells slots) (hx : p.tables.exec = Jvm.exec) (hlk : meth.locks = false) {pc : Nat} {Ls : Array Slot} {w : Value} {t : FieldType} {i : Instr} {rest : List Value} (hret : meth.sig.returnType = some t) (hn : narrow t w = w)
    (hi : (i = .ireturn ∧ (t = .int ∨ t = .boolean ∨ t = .byte ∨ t = .char ∨ t = .short) ∧ ∃ z, w = .int z) ∨ (i = .lreturn ∧ t = .long ∧ ∃ z, w = .long z) ∨ (i = .dreturn ∧ t = .double ∧ ∃ z, w = .double z) ∨ (i = .freturn ∧ t = .float ∧ ∃ z, w = .float z) ∨ (i = .areturn ∧ t.isReference = true ∧ w.isRef = true))
    (hd : decode c.code pc = .ok (i, 1)) {K N : Nat} (hk : cells ≤ K) (hs : slots ≤ N) {Q : Option Value → Heap → List Loc → Prop} (hQ : Q (some w) T.heap locs) :
    OGo p.tables e below (OFin s Q K N) (T.setTop (mkF m pc Ls (w :: rest))) := by
  obtain ⟨fs, hr, hrun, hended, hW, hsame⟩ := X.leave (v := some w) (fun h => by rw [hret] at h; cases h) hlk
  exact ⟨_, _, retOut X hx hret hn hi hd hr, hrun, hended, _, _, rfl, hQ, ⟨_, rfl⟩, hW, hsame.mono hk hs⟩
theorem oretV (X : Stand p l e R s m args below meth c T locs cells slots) (hx : p.tables.exec = Jvm.exec) (hlk : meth.locks = false) {pc : Nat} {Ls : Array Slot} (hret : meth.sig.returnType = none)
    (hd : decode c.code pc = .ok (.return_, 1)) {K N : Nat} (hk : cells ≤ K) (hs : slots ≤ N) {Q : Option Value → Heap → List Loc → Prop} (hQ : Q none T.heap locs) :
    OGo p.tables e below (OFin s Q K N) (T.setTop (mkF m pc Ls [])) := by
  obtain ⟨fs, hr, hrun, hended, hW, hsame⟩ := X.leave (v := none) (fun _ => rfl) hlk
  exact ⟨_, _, X.returnOut hx hret hd hr, hrun, hended, _, _, rfl, hQ, ⟨_, rfl⟩, hW, hsame.mono hk hs⟩
abbrev OPlain (y : MethodName) : Prop := y.cls ≠ "java/lang/invoke/MethodHandle" ∧ y.cls ≠ "java/lang/invoke/VarHandle"
/-- a static call by its contract -/
theorem ocallQ (X : Stand p l e R s m args below meth c T locs cells slots) (hx : p.tables.exec = Jvm.exec) (hZ : Z.Warmed39 s.vm) (eT : T.heap = h) {own : String} {index : Nat} {y : MethodName} {bytes : ByteArray} {maxL : Nat} {ret : Option FieldType} {rm : Room} {as : Array Value} {Q : Option Value → Heap → List Loc → Prop} (hM : OMet l Z y bytes maxL ret rm as h Q)
    (hown : s.vm.findClass own = some m.cls) (w1 : (Jvm.Cond.methodLink own index y).before a0 Z = true) (w2 : (Jvm.Cond.static y).before a0 Z = true) (w3 : (Jvm.Cond.initialized y.cls).before a0 Z = true) (w4 : (Jvm.Cond.code y bytes maxL ret).before a0 Z = true) (hy : OPlain y)
    {g : JFrame} (hg : g.method = m) (hsize : g.locals.size = c.maxLocals) (argsL rest : List Value) (has : argsL.toArray = as) (hlen : ∀ sig, parseMethodDescriptor y.desc = some sig → argsL.length = sig.parameters.length) (hstack : g.stack = argsL.reverse ++ rest) (hdg : decode c.code g.pc = .ok (.invokestatic index, 3))
    (W : Nat) (hW : 2 * g.monitorRoom + (rest.map fun v => v.category).sum ≤ W) (hf : rm.frames + 1 ≤ R.frames) (hl : W + (maxL + 11) + rm.locals ≤ R.locals) (hc : cells + rm.cells ≤ R.cells) (hs : slots + rm.slots ≤ R.slots) :
    ∃ (v : Option Value) (T' : State) (h' : Heap) (L : List Loc), T'.heap = h' ∧ Q v h' L ∧ Stand p l e R s m args below meth c T' (locs ++ L) (cells + rm.cells) (slots + rm.slots) ∧
      ∀ target, Steps p.tables e below (T'.setTop { g with pc := g.pc + 3, stack := v.toList ++ rest }) target → Steps p.tables e below (T.setTop g) target := by
  obtain ⟨v, vm₁, ⟨T', L', k', n'⟩, -, X', ⟨L, hQ, l1, l2, l3⟩, st⟩ := Jvm.LawKit.callS X hx (y := y) hown (mvT hZ w1) (mvT hZ w2) (mvT hZ w3) (mvT hZ w4) hy (backOf (W := W) (hM []) hZ w4 w3 hf hl) (g := g) hg hsize (argsL := argsL) (rest := rest) hlen hstack hW hdg (fun _ _ => ⟨has, eT, hc, hs⟩)
  dsimp only [Pt.U, Pt.locs, Pt.cells, Pt.slots] at X' l1 l2 l3 st hQ
  subst l1 l2 l3
  exact ⟨v, T', _, L, rfl, hQ, X', st⟩
/-- a static call of a body that writes nothing -/
theorem ocallP (X : Stand p l e R s m args below meth c T locs cells slots) (hx : p.tables.exec = Jvm.exec) (hZ : Z.Warmed39 s.vm) (eT : T.heap = h) {own : String} {index : Nat} {y : MethodName} {bytes : ByteArray} {maxL : Nat} {ret : Option FieldType} {rm : Room} {as : Array Value} {w : Option Value} (hM : OMet l Z y bytes maxL ret rm as h (OPure w h))
    (hown : s.vm.findClass own = some m.cls) (w1 : (Jvm.Cond.methodLink own index y).before a0 Z = true) (w2 : (Jvm.Cond.static y).before a0 Z = true) (w3 : (Jvm.Cond.initialized y.cls).before a0 Z = true) (w4 : (Jvm.Cond.code y bytes maxL ret).before a0 Z = true) (hy : OPlain y)
    {g : JFrame} (hg : g.method = m) (hsize : g.locals.size = c.maxLocals) (argsL rest : List Value) (has : argsL.toArray = as) (hlen : ∀ sig, parseMethodDescriptor y.desc = some sig → argsL.length = sig.parameters.length) (hstack : g.stack = argsL.reverse ++ rest) (hdg : decode c.code g.pc = .ok (.invokestatic index, 3))
    (W : Nat) (hW : 2 * g.monitorRoom + (rest.map fun v => v.category).sum ≤ W) (hf : rm.frames + 1 ≤ R.frames) (hl : W + (maxL + 11) + rm.locals ≤ R.locals) (hc : cells + rm.cells ≤ R.cells) (hs : slots + rm.slots ≤ R.slots) (z1 : rm.cells = 0) (z2 : rm.slots = 0) :
    ∃ T' : State, Stand p l e R s m args below meth c T' locs cells slots ∧ T'.heap = h ∧
      ∀ target, Steps p.tables e below (T'.setTop { g with pc := g.pc + 3, stack := w.toList ++ rest }) target → Steps p.tables e below (T.setTop g) target := by
  obtain ⟨v, T', h', L, e2, ⟨rfl, rfl, e'⟩, X', st⟩ := ocallQ X hx hZ eT hM hown w1 w2 w3 w4 hy hg hsize argsL rest has hlen hstack hdg W hW hf hl hc hs
  rw [z1, z2, List.append_nil] at X'
  exact ⟨T', X', e2.trans e', st⟩
/-- an instance call by its contract -/
theorem ovirtQ (X : Stand p l e R s m args below meth c T locs cells slots) (hx : p.tables.exec = Jvm.exec) (hZ : Z.Warmed39 s.vm) (eT : T.heap = h) {own C : String} {index : Nat} {y : MethodName} {bytes : ByteArray} {maxL : Nat} {ret : Option FieldType} {rm : Room} {as : Array Value} {Q : Option Value → Heap → List Loc → Prop} (hM : OMet l Z y bytes maxL ret rm as h Q)
    (hown : s.vm.findClass own = some m.cls) (w1 : (Jvm.Cond.methodLink own index y).before a0 Z = true) (w2 : (Jvm.Cond.declares y).before a0 Z = true) (w3 : (Jvm.Cond.selects C y y).before a0 Z = true) (w4 : (Jvm.Cond.instanceMethod y).before a0 Z = true) (w5 : (Jvm.Cond.initialized y.cls).before a0 Z = true) (w6 : (Jvm.Cond.code y bytes maxL ret).before a0 Z = true) (hy : OPlain y) {b : Addr} (E : Exa Z h b C)
    {g : JFrame} (hg : g.method = m) (hsize : g.locals.size = c.maxLocals) (argsL rest : List Value) (has : (.ref b :: argsL).toArray = as) (hlen : ∀ sig, parseMethodDescriptor y.desc = some sig → argsL.length = sig.parameters.length) (hstack : g.stack = argsL.reverse ++ .ref b :: rest) (hdg : decode c.code g.pc = .ok (.invokevirtual index, 3))
    (W : Nat) (hW : 2 * g.monitorRoom + (rest.map fun v => v.category).sum ≤ W) (hf : rm.frames + 1 ≤ R.frames) (hl : W + (maxL + 11) + rm.locals ≤ R.locals) (hc : cells + rm.cells ≤ R.cells) (hs : slots + rm.slots ≤ R.slots) :
    ∃ (v : Option Value) (T' : State) (h' : Heap) (L : List Loc), T'.heap = h' ∧ Q v h' L ∧ Stand p l e R s m args below meth c T' (locs ++ L) (cells + rm.cells) (slots + rm.slots) ∧
      ∀ target, Steps p.tables e below (T'.setTop { g with pc := g.pc + 3, stack := v.toList ++ rest }) target → Steps p.tables e below (T.setTop g) target := by
  obtain ⟨cq, kq, qa, -, qc⟩ := isOf (T := T) hZ eT E
  have w3' : (Jvm.Cond.selects C y y).before args s = true := mvT hZ w3
  obtain ⟨v, vm₁, ⟨T', L', k', n'⟩, -, X', ⟨L, hQ, l1, l2, l3⟩, st⟩ := X.virtualBack hx (y := y) (z := y) hown (mvT hZ w1) (mvT hZ w2) (notFace_of_selects w3') w3' (mvT hZ w4) hy (backOf (W := W) (hM []) hZ w6 w5 hf hl) qa qc (g := g) hg hsize (Steps.refl _) (argsL := argsL) (rest := rest) hlen hstack hW hdg (fun _ _ => ⟨has, eT, hc, hs⟩)
  dsimp only [Pt.U, Pt.locs, Pt.cells, Pt.slots] at X' l1 l2 l3 st hQ
  subst l1 l2 l3
  exact ⟨v, T', _, L, rfl, hQ, X', fun _ k => st.trans k⟩
theorem ovirtP (X : Stand p l e R s m args below meth c T locs cells slots) (hx : p.tables.exec = Jvm.exec) (hZ : Z.Warmed39 s.vm) (eT : T.heap = h) {own C : String} {index : Nat} {y : MethodName} {bytes : ByteArray} {maxL : Nat} {ret : Option FieldType} {rm : Room} {as : Array Value} {w : Option Value} (hM : OMet l Z y bytes maxL ret rm as h (OPure w h))
    (hown : s.vm.findClass own = some m.cls) (w1 : (Jvm.Cond.methodLink own index y).before a0 Z = true) (w2 : (Jvm.Cond.declares y).before a0 Z = true) (w3 : (Jvm.Cond.selects C y y).before a0 Z = true) (w4 : (Jvm.Cond.instanceMethod y).before a0 Z = true) (w5 : (Jvm.Cond.initialized y.cls).before a0 Z = true) (w6 : (Jvm.Cond.code y bytes maxL ret).before a0 Z = true) (hy : OPlain y) {b : Addr} (E : Exa Z h b C)
    {g : JFrame} (hg : g.method = m) (hsize : g.locals.size = c.maxLocals) (argsL rest : List Value) (has : (.ref b :: argsL).toArray = as) (hlen : ∀ sig, parseMethodDescriptor y.desc = some sig → argsL.length = sig.parameters.length) (hstack : g.stack = argsL.reverse ++ .ref b :: rest) (hdg : decode c.code g.pc = .ok (.invokevirtual index, 3))
    (W : Nat) (hW : 2 * g.monitorRoom + (rest.map fun v => v.category).sum ≤ W) (hf : rm.frames + 1 ≤ R.frames) (hl : W + (maxL + 11) + rm.locals ≤ R.locals) (hc : cells + rm.cells ≤ R.cells) (hs : slots + rm.slots ≤ R.slots) (z1 : rm.cells = 0) (z2 : rm.slots = 0) :
    ∃ T' : State, Stand p l e R s m args below meth c T' locs cells slots ∧ T'.heap = h ∧
      ∀ target, Steps p.tables e below (T'.setTop { g with pc := g.pc + 3, stack := w.toList ++ rest }) target → Steps p.tables e below (T.setTop g) target := by
  obtain ⟨v, T', h', L, e2, ⟨rfl, rfl, e'⟩, X', st⟩ := ovirtQ X hx hZ eT hM hown w1 w2 w3 w4 w5 w6 hy E hg hsize argsL rest has hlen hstack hdg W hW hf hl hc hs
  rw [z1, z2, List.append_nil] at X'
  exact ⟨T', X', e2.trans e', st⟩
/-- a constructor by its contract -/
theorem ospecQ (X : Stand p l e R s m args below meth c T locs cells slots) (hx : p.tables.exec = Jvm.exec) (hZ : Z.Warmed39 s.vm) (eT : T.heap = h) {own : String} {index : Nat} {y : MethodName} {bytes : ByteArray} {maxL : Nat} {rm : Room} {as : Array Value} {Q : Option Value → Heap → List Loc → Prop} (hM : OMet l Z y bytes maxL none rm as h Q)
    (hyi : y.name = "<init>") (hown : s.vm.findClass own = some m.cls) (w1 : (Jvm.Cond.methodLink own index y).before a0 Z = true) (w4 : (Jvm.Cond.instanceMethod y).before a0 Z = true) (w5 : (Jvm.Cond.initialized y.cls).before a0 Z = true) (w6 : (Jvm.Cond.code y bytes maxL none).before a0 Z = true) (hy : OPlain y) {b : Addr}
    {g : JFrame} (hg : g.method = m) (hsize : g.locals.size = c.maxLocals) (argsL rest : List Value) (has : (.ref b :: argsL).toArray = as) (hlen : ∀ sig, parseMethodDescriptor y.desc = some sig → argsL.length = sig.parameters.length) (hstack : g.stack = argsL.reverse ++ .ref b :: rest) (hdg : decode c.code g.pc = .ok (.invokespecial index, 3))
    (W : Nat) (hW : 2 * g.monitorRoom + (rest.map fun v => v.category).sum ≤ W) (hf : rm.frames + 1 ≤ R.frames) (hl : W + (maxL + 11) + rm.locals ≤ R.locals) (hc : cells + rm.cells ≤ R.cells) (hs : slots + rm.slots ≤ R.slots) :
    ∃ (v : Option Value) (T' : State) (h' : Heap) (L : List Loc), T'.heap = h' ∧ Q v h' L ∧ Stand p l e R s m args below meth c T' (locs ++ L) (cells + rm.cells) (slots + rm.slots) ∧
      ∀ target, Steps p.tables e below (T'.setTop { g with pc := g.pc + 3, stack := v.toList ++ rest }) target → Steps p.tables e below (T.setTop g) target := by
  obtain ⟨v, vm₁, ⟨T', L', k', n'⟩, -, X', ⟨L, hQ, l1, l2, l3⟩, st⟩ := X.specialBack hx (y := y) hyi hown (mvT hZ w1) (mvT hZ w4) (mvT hZ w6) hy (backOf (W := W) (hM []) hZ w6 w5 hf hl) (g := g) hg hsize (Steps.refl _) (a := b) (argsL := argsL) (rest := rest) hlen hstack hW hdg (fun _ _ => ⟨has, eT, hc, hs⟩)
  dsimp only [Pt.U, Pt.locs, Pt.cells, Pt.slots] at X' l1 l2 l3 st hQ
  subst l1 l2 l3
  exact ⟨v, T', _, L, rfl, hQ, X', fun _ k => st.trans k⟩
theorem onb {z : Int32} (q : z = 0 ∨ z = 1) : narrow .boolean (.int z) = .int z := by rcases q with rfl | rfl <;> rfl
theorem ofb {z : Int32} (q : z = 0 ∨ z = 1) : fits .boolean (.int z) = true := by rcases q with rfl | rfl <;> rfl
theorem oif01 {c : Prop} [Decidable c] {a b : Int32} (qa : a = 0 ∨ a = 1) (qb : b = 0 ∨ b = 1) : (if c then a else b) = 0 ∨ (if c then a else b) = 1 := by split <;> assumption
/-! arrays by a function of the place -/
variable {ty : FieldType} {a b : Addr} {n : Nat} {f f' : Nat → Value} {h' : Heap} {ws : List Addr} {sl : Nat} {v : Value}
def OAr (Z : State) (h : Heap) (a : Addr) (ty : FieldType) (n : Nat) (f : Nat → Value) : Prop :=
  ∃ c : Cell, Arr Z h a c ty ∧ c.slots.size = n ∧ (∀ j, j < n → c.slots[j]? = some (f j)) ∧ ∀ j, j < n → fits ty (f j) = true
theorem OAr.lt (F : OAr Z h a ty n f) : a < h.size := by obtain ⟨c, A, -⟩ := F; exact A.lt
theorem OAr.ext (F : OAr Z h a ty n f) (E : Ext h h') : OAr Z h' a ty n f := by obtain ⟨c, A, r⟩ := F; exact ⟨c, A.ext E, r⟩
theorem OAr.other (F : OAr Z h b ty n f) (W : Wr h h' a sl v) (q : b ≠ a) : OAr Z h' b ty n f := by obtain ⟨c, A, r⟩ := F; exact ⟨c, A.other W q, r⟩
theorem OAr.keep (F : OAr Z h a ty n f) (K : Keep h h' ws) (q : a ∉ ws) : OAr Z h' a ty n f := by obtain ⟨c, A, r⟩ := F; exact ⟨c, ⟨K.2.1 a c A.1 q, A.2⟩, r⟩
theorem OAr.conv (F : OAr Z h a ty n f) (q : ∀ j, j < n → f j = f' j) : OAr Z h a ty n f' := by
  obtain ⟨c, A, S, H, G⟩ := F
  exact ⟨c, A, S, fun j hj => by rw [← q j hj]; exact H j hj, fun j hj => by rw [← q j hj]; exact G j hj⟩
theorem OAr.new {k : ClassId} {z : Int32} (A : Arr Z h a (newA k ty z) ty) (q : z.toNatClampNeg = n) : OAr Z h a ty n (fun _ => defaultValue ty) :=
  ⟨_, A, (sz_new _ _ _).trans q, fun j hj => by simp [newA, q, hj], fun j _ => by cases ty <;> rfl⟩
theorem OAr.set (F : OAr Z h a ty n f) (W : Wr h h' a sl v) (hv : fits ty v = true) : OAr Z h' a ty n (fun j => if j = sl then v else f j) := by
  obtain ⟨c, A, S, H, G⟩ := F
  refine ⟨_, A.same W, by rw [sz_set]; exact S, fun j hj => ?_, fun j hj => ?_⟩
  · show (c.slots.setIfInBounds sl v)[j]? = _
    rw [Array.getElem?_setIfInBounds]
    by_cases q : j = sl
    · subst q; simp [S, hj]
    · rw [if_neg (fun z => q z.symm), H j hj]; simp [q]
  · by_cases q : j = sl
    · simp [q, hv]
    · simp [q, G j hj]
theorem oidx {j : Int32} (h0 : 0 ≤ j.toInt) (h1 : j.toInt < (n : Int)) : ¬ (j < 0) ∧ j.toNatClampNeg < n := by
  refine ⟨fun q => ?_, ?_⟩
  · rw [Int32.lt_iff_toInt_lt] at q; have : (0 : Int32).toInt = 0 := rfl; omega
  · simp only [Int32.toNatClampNeg]; omega
theorem oin {c : Cell} {j : Int32} (S : c.slots.size = n) (h0 : 0 ≤ j.toInt) (h1 : j.toInt < (n : Int)) : ¬ (j < 0 ∨ c.slots.size ≤ j.toNatClampNeg) := by
  obtain ⟨q1, q2⟩ := oidx h0 h1
  rw [S]; exact fun z => z.elim q1 (fun u => Nat.not_le.mpr q2 u)
theorem ostB (X : Stand p l e R s m args below meth c T locs cells slots) (hx : p.tables.exec = Jvm.exec) (hZ : Z.Warmed39 s.vm) (eT : T.heap = h) (F : OAr Z h a .byte n f) {j x : Int32} (h0 : 0 ≤ j.toInt) (h1 : j.toInt < (n : Int)) {g : JFrame} (hg : g.method = m) {rest : List Value} (hs : g.stack = .int x :: .int j :: .ref a :: rest) (hd : decode c.code g.pc = .ok (.bastore, 1)) :
    ∃ T' h', Stand p l e R s m args below meth c T' (locs ++ [⟨a, j.toNatClampNeg⟩]) cells slots ∧ T'.heap = h' ∧ Wr h h' a j.toNatClampNeg (.int x.toInt8.toInt32) ∧ OAr Z h' a .byte n (fun i => if i = j.toNatClampNeg then .int x.toInt8.toInt32 else f i) ∧ ∀ target, Steps p.tables e below (T'.setTop { g with pc := g.pc + 1, stack := rest }) target → Steps p.tables e below (T.setTop g) target := by
  obtain ⟨cl, A, S, H, G⟩ := F
  obtain ⟨T', h', X', e', W, st⟩ := stB X hx hZ eT A (j := j) (x := x) (oin S h0 h1) hg hs hd
  exact ⟨T', h', X', e', W, OAr.set ⟨cl, A, S, H, G⟩ W (fits_nar_byte x), st⟩
theorem ostI (X : Stand p l e R s m args below meth c T locs cells slots) (hx : p.tables.exec = Jvm.exec) (hZ : Z.Warmed39 s.vm) (eT : T.heap = h) (F : OAr Z h a .int n f) {j x : Int32} (h0 : 0 ≤ j.toInt) (h1 : j.toInt < (n : Int)) {g : JFrame} (hg : g.method = m) {rest : List Value} (hs : g.stack = .int x :: .int j :: .ref a :: rest) (hd : decode c.code g.pc = .ok (.iastore, 1)) :
    ∃ T' h', Stand p l e R s m args below meth c T' (locs ++ [⟨a, j.toNatClampNeg⟩]) cells slots ∧ T'.heap = h' ∧ Wr h h' a j.toNatClampNeg (.int x) ∧ OAr Z h' a .int n (fun i => if i = j.toNatClampNeg then .int x else f i) ∧ ∀ target, Steps p.tables e below (T'.setTop { g with pc := g.pc + 1, stack := rest }) target → Steps p.tables e below (T.setTop g) target := by
  obtain ⟨cl, A, S, H, G⟩ := F
  obtain ⟨T', h', X', e', W, st⟩ := stI X hx hZ eT A (j := j) (x := x) (oin S h0 h1) hg hs hd
  exact ⟨T', h', X', e', W, OAr.set ⟨cl, A, S, H, G⟩ W rfl, st⟩
theorem ostJ (X : Stand p l e R s m args below meth c T locs cells slots) (hx : p.tables.exec = Jvm.exec) (hZ : Z.Warmed39 s.vm) (eT : T.heap = h) (F : OAr Z h a .long n f) {j : Int32} {x : Int64} (h0 : 0 ≤ j.toInt) (h1 : j.toInt < (n : Int)) {g : JFrame} (hg : g.method = m) {rest : List Value} (hs : g.stack = .long x :: .int j :: .ref a :: rest) (hd : decode c.code g.pc = .ok (.lastore, 1)) :
    ∃ T' h', Stand p l e R s m args below meth c T' (locs ++ [⟨a, j.toNatClampNeg⟩]) cells slots ∧ T'.heap = h' ∧ Wr h h' a j.toNatClampNeg (.long x) ∧ OAr Z h' a .long n (fun i => if i = j.toNatClampNeg then .long x else f i) ∧ ∀ target, Steps p.tables e below (T'.setTop { g with pc := g.pc + 1, stack := rest }) target → Steps p.tables e below (T.setTop g) target := by
  obtain ⟨cl, A, S, H, G⟩ := F
  obtain ⟨T', h', X', e', W, st⟩ := stJ X hx hZ eT A (j := j) (x := x) (oin S h0 h1) hg hs hd
  exact ⟨T', h', X', e', W, OAr.set ⟨cl, A, S, H, G⟩ W rfl, st⟩
theorem oldB (X : Stand p l e R s m args below meth c T locs cells slots) (hx : p.tables.exec = Jvm.exec) (hZ : Z.Warmed39 s.vm) (eT : T.heap = h) (F : OAr Z h a .byte n f) {j : Int32} (h0 : 0 ≤ j.toInt) (h1 : j.toInt < (n : Int)) {g : JFrame} (hg : g.method = m) {rest : List Value} (hs : g.stack = .int j :: .ref a :: rest) (hd : decode c.code g.pc = .ok (.baload, 1)) :
    ∀ target, Steps p.tables e below (T.setTop { g with pc := g.pc + 1, stack := f j.toNatClampNeg :: rest }) target → Steps p.tables e below (T.setTop g) target := by
  obtain ⟨cl, A, S, H, G⟩ := F
  exact fun t k => X.baloadBytes hx (by rw [eT]; exact A.1) (State.isArrayOf_alike hZ.alike A.2.1) A.2.2 (oin S h0 h1) (H _ (oidx h0 h1).2) hg hs hd t k
theorem oldI (X : Stand p l e R s m args below meth c T locs cells slots) (hx : p.tables.exec = Jvm.exec) (hZ : Z.Warmed39 s.vm) (eT : T.heap = h) (F : OAr Z h a .int n f) {j : Int32} (h0 : 0 ≤ j.toInt) (h1 : j.toInt < (n : Int)) {g : JFrame} (hg : g.method = m) {rest : List Value} (hs : g.stack = .int j :: .ref a :: rest) (hd : decode c.code g.pc = .ok (.iaload, 1)) :
    ∀ target, Steps p.tables e below (T.setTop { g with pc := g.pc + 1, stack := f j.toNatClampNeg :: rest }) target → Steps p.tables e below (T.setTop g) target := by
  obtain ⟨cl, A, S, H, G⟩ := F
  exact fun t k => X.iaload hx (by rw [eT]; exact A.1) (State.isArrayOf_alike hZ.alike A.2.1) A.2.2 (oin S h0 h1) (H _ (oidx h0 h1).2) hg hs hd t k
theorem oldJ (X : Stand p l e R s m args below meth c T locs cells slots) (hx : p.tables.exec = Jvm.exec) (hZ : Z.Warmed39 s.vm) (eT : T.heap = h) (F : OAr Z h a .long n f) {j : Int32} (h0 : 0 ≤ j.toInt) (h1 : j.toInt < (n : Int)) {g : JFrame} (hg : g.method = m) {rest : List Value} (hs : g.stack = .int j :: .ref a :: rest) (hd : decode c.code g.pc = .ok (.laload, 1)) :
    ∀ target, Steps p.tables e below (T.setTop { g with pc := g.pc + 1, stack := f j.toNatClampNeg :: rest }) target → Steps p.tables e below (T.setTop g) target := by
  obtain ⟨cl, A, S, H, G⟩ := F
  exact fun t k => X.laload hx (by rw [eT]; exact A.1) (State.isArrayOf_alike hZ.alike A.2.1) A.2.2 (oin S h0 h1) (H _ (oidx h0 h1).2) hg hs hd t k
theorem oalen (X : Stand p l e R s m args below meth c T locs cells slots) (hx : p.tables.exec = Jvm.exec) (hZ : Z.Warmed39 s.vm) (eT : T.heap = h) (F : OAr Z h a ty n f) {g : JFrame} (hg : g.method = m) {rest : List Value} (hs : g.stack = .ref a :: rest) (hd : decode c.code g.pc = .ok (.arraylength, 1)) :
    ∀ target, Steps p.tables e below (T.setTop { g with pc := g.pc + 1, stack := .int n.toInt32 :: rest }) target → Steps p.tables e below (T.setTop g) target := by
  obtain ⟨cl, A, S, H, G⟩ := F
  subst S
  exact fun t k => X.arraylength hx (by rw [eT]; exact A.1) (State.isArrayOf_alike hZ.alike A.2.1) hg hs hd t k
theorem oclone (X : Stand p l e R s m args below meth c T locs cells slots) (hx : p.tables.exec = Jvm.exec) (hZ : Z.Warmed39 s.vm) {own ad : String} {index : Nat} (hown : s.vm.findClass own = some m.cls)
    (w1 : (Jvm.Cond.methodLink own index ⟨ad, "clone", "()Ljava/lang/Object;"⟩).before a0 Z = true) (w2 : (Jvm.Cond.sameMethod ad "java/lang/Object" "clone" "()Ljava/lang/Object;").before a0 Z = true) (w3 : (Jvm.Cond.native ⟨"java/lang/Object", "clone", "()Ljava/lang/Object;"⟩).before a0 Z = true)
    (w4 : (Jvm.Cond.instanceMethod ⟨"java/lang/Object", "clone", "()Ljava/lang/Object;"⟩).before a0 Z = true) (w5 : (Jvm.Cond.selects ad ⟨ad, "clone", "()Ljava/lang/Object;"⟩ ⟨"java/lang/Object", "clone", "()Ljava/lang/Object;"⟩).before a0 Z = true) (w6 : (Jvm.Cond.castable ad "java/lang/Cloneable").before a0 Z = true)
    (eT : T.heap = h) (F : OAr Z h a ty n f) (E : Exa Z h a ad) {g : JFrame} (hg : g.method = m) (hsize : g.locals.size = c.maxLocals) {rest : List Value} (hs : g.stack = .ref a :: rest) (hd : decode c.code g.pc = .ok (.invokevirtual index, 3))
    (hf : 1 ≤ R.frames) (W : Nat) (hW : 2 * g.monitorRoom + (rest.map fun v => v.category).sum ≤ W) (hl : W + 14 ≤ R.locals) (hc : cells + 1 ≤ R.cells) (hsl : slots + n ≤ R.slots) :
    ∃ T' h', Stand p l e R s m args below meth c T' locs (cells + 1) (slots + n) ∧ T'.heap = h' ∧ Ext h h' ∧ OAr Z h' h.size ty n f ∧ Exa Z h' h.size ad ∧
      ∀ target, Steps p.tables e below (T'.setTop { g with pc := g.pc + 3, stack := .ref h.size :: rest }) target → Steps p.tables e below (T.setTop g) target := by
  obtain ⟨cl, A, S, H, G⟩ := F
  have FC : FitC Z cl := fitC_of A fun i hi v hv => by rw [H i (S ▸ hi)] at hv; cases hv; exact G i (S ▸ hi)
  obtain ⟨T', h', X', e', ex, A', E', st⟩ := cloneA X hx hZ hown w1 w2 w3 w4 w5 w6 eT A E FC hg hsize hs hd hf hW hl (Nat.le_of_eq S) hc hsl
  exact ⟨T', h', X', e', ex, ⟨cloneOf cl, A', S, H, G⟩, E', st⟩
end OwnGo
end Jvm.OwnKit
namespace Jvm.Pilot.@@N@@
open Jvm Jvm.ClassFile Sem Op Lib Jvm.Free Jvm.Stand Jvm.LawKit Jvm.RoadKit Bundle Jvm.OwnKit Jvm.Pilot.@@N@@.Jvm.D
def tagF (i : Nat) : Int32 := if i = 90 then 91 else if i = 93 then 89 else if i = 95 then 96 else if i = 212 then 213 else if 348 ≤ i ∧ i ≤ 364 ∧ i % 2 = 0 then Int32.ofNat (i + 1) else if i = 445 then 446 else if i = 618 then 619 else if i = 621 then 622 else (-1 : Int32)
def own_T : Jvm.Term := (Jvm.Term.static "com/example/tidy_handshake/tidyhandshake/DataField" "DATA_TAG_OF" "[I")
theorem own_q : ∀ r : Fin 623, (r.val.toInt32).toInt = r.val ∧ (r.val.toInt32).toNatClampNeg = r.val := by decide +kernel
theorem own_el {args : Array Value} {s : State} {a : Addr} {c : Cell} (et : ∀ idx, own_T.eval args s none idx s = some (.ref a)) (A : Arr s s.heap a c .int) {j y : Int32} (hj : ¬ j < 0) (h : (Jvm.Cond.eq (Jvm.Term.elem own_T (Jvm.Term.int j)) (Jvm.Term.int y)).value args s none s [] = some true) : c.slots[j.toNatClampNeg]? = some (.int y) :=
  (elem_f (et []) rfl (A.fin (Vm.Alike.refl _)) hj).symm.trans (eqv_i rfl h)
theorem own_ix {args : Array Value} {s : State} {a : Addr} {c : Cell} (et : ∀ idx, own_T.eval args s none idx s = some (.ref a)) (A : Arr s s.heap a c .int) {j : Nat} (hj : j < 623) (h : (Jvm.Cond.eq (Jvm.Term.elem own_T (Jvm.Term.index 0)) (Jvm.Term.int (-1 : Int32))).value args s none s [j] = some true) : c.slots[j]? = some (.int (-1 : Int32)) := by
  have q := own_q ⟨j, hj⟩
  dsimp only at q
  have hn : ¬ j.toInt32 < 0 := by rw [Int32.lt_iff_toInt_lt, q.1]; have : (0 : Int32).toInt = 0 := rfl; omega
  have u := (elem_f (et [j]) (Term.index_eval j) (A.fin (Vm.Alike.refl _)) hn).symm.trans (eqv_i rfl h)
  rw [q.2] at u
  exact u
theorem own_up {args : Array Value} {s : State} {a : Addr} {c : Cell} (et : ∀ idx, own_T.eval args s none idx s = some (.ref a)) (A : Arr s s.heap a c .int) (S : c.slots.size = 623) {y : Int32} (h : (Jvm.Cond.all own_T (Jvm.Cond.or (Jvm.Cond.le (Jvm.Term.int y) (Jvm.Term.index 0)) (Jvm.Cond.eq (Jvm.Term.elem own_T (Jvm.Term.index 0)) (Jvm.Term.int (-1 : Int32))))).value args s none s [] = some true) {j : Nat} (hj : j < 623) (hy : (j : Int) < y.toInt) : c.slots[j]? = some (.int (-1 : Int32)) := by
  have u := Cond.all_elim (et []) (A.fin (Vm.Alike.refl _)) h j (by rw [S]; exact hj)
  have q := own_q ⟨j, hj⟩
  dsimp only at q
  have v : (Jvm.Cond.le (Jvm.Term.int y) (Jvm.Term.index 0)).value args s none s [j] = some (decide (y ≤ j.toInt32)) := Cond.le_ints rfl (Term.index_eval j)
  rw [Cond.or_of_right (nay v (by rw [Int32.le_iff_toInt_le, q.1]; omega))] at u
  exact own_ix et A hj u
theorem own_in {args : Array Value} {s : State} {a : Addr} {c : Cell} (et : ∀ idx, own_T.eval args s none idx s = some (.ref a)) (A : Arr s s.heap a c .int) (S : c.slots.size = 623) {x1 y : Int32} (h : (Jvm.Cond.all own_T (Jvm.Cond.or (Jvm.Cond.lt (Jvm.Term.index 0) (Jvm.Term.int x1)) (Jvm.Cond.or (Jvm.Cond.le (Jvm.Term.int y) (Jvm.Term.index 0)) (Jvm.Cond.eq (Jvm.Term.elem own_T (Jvm.Term.index 0)) (Jvm.Term.int (-1 : Int32)))))).value args s none s [] = some true) {j : Nat} (hj : j < 623) (hx1 : x1.toInt ≤ (j : Int)) (hy : (j : Int) < y.toInt) : c.slots[j]? = some (.int (-1 : Int32)) := by
  have u := Cond.all_elim (et []) (A.fin (Vm.Alike.refl _)) h j (by rw [S]; exact hj)
  have q := own_q ⟨j, hj⟩
  dsimp only at q
  have v1 : (Jvm.Cond.lt (Jvm.Term.index 0) (Jvm.Term.int x1)).value args s none s [j] = some (decide (j.toInt32 < x1)) := Cond.lt_ints (Term.index_eval j) rfl
  have v : (Jvm.Cond.le (Jvm.Term.int y) (Jvm.Term.index 0)).value args s none s [j] = some (decide (y ≤ j.toInt32)) := Cond.le_ints rfl (Term.index_eval j)
  rw [Cond.or_of_right (nay v1 (by rw [Int32.lt_iff_toInt_lt, q.1]; omega)), Cond.or_of_right (nay v (by rw [Int32.le_iff_toInt_le, q.1]; omega))] at u
  exact own_ix et A hj u
theorem own_m1 : ∀ r : Fin 623, (r.val < 90 → tagF r.val = (-1 : Int32)) ∧ ((96 ≤ r.val ∧ r.val < 212 ∨ 213 ≤ r.val ∧ r.val < 348 ∨ 365 ≤ r.val ∧ r.val < 445 ∨ 446 ≤ r.val ∧ r.val < 618) → tagF r.val = (-1 : Int32)) := by decide +kernel
theorem own_size {args : Array Value} {s : State} {b : Addr} {cell : Cell} (hl : (Jvm.Term.length own_T).eval args s none [] s = some (.int (623 : Int32))) (e1 : own_T.eval args s none [] s = some (.ref b)) (e2 : s.arrayAt? b = some cell) : cell.slots.size = 623 := by
  have hlt : cell.slots.size < 2 ^ 31 := by
    refine Decidable.byContradiction fun q => ?_
    simp [Term.eval, e1, e2, q] at hl
  rw [len_f e1 e2 hlt] at hl
  have h3 : cell.slots.size.toInt32 = (623 : Int32) := Value.int.inj (Option.some.inj hl)
  have h4 := len_toInt hlt
  rw [h3] at h4
  have : (623 : Int32).toInt = 623 := rfl
  omega
theorem own_tab {args : Array Value} {s : State} (hn : narrow_1.value args s none s [] = some true) : ∃ (ta : Addr), own_T.eval args s none [] s = some (.ref ta) ∧ OAr s s.heap ta .int 623 (fun i => .int (tagF i)) := by
  obtain ⟨z0, m0⟩ := and_e hn
  obtain ⟨z1, m1⟩ := and_e m0
  obtain ⟨z2, m2⟩ := and_e m1
  obtain ⟨z3, m3⟩ := and_e m2
  obtain ⟨z4, m4⟩ := and_e m3
  obtain ⟨z5, m5⟩ := and_e m4
  obtain ⟨z6, m6⟩ := and_e m5
  obtain ⟨z7, m7⟩ := and_e m6
  obtain ⟨z8, m8⟩ := and_e m7
  obtain ⟨z9, m9⟩ := and_e m8
  obtain ⟨z10, m10⟩ := and_e m9
  obtain ⟨z11, m11⟩ := and_e m10
  obtain ⟨z12, m12⟩ := and_e m11
  obtain ⟨z13, m13⟩ := and_e m12
  obtain ⟨z14, m14⟩ := and_e m13
  obtain ⟨z15, m15⟩ := and_e m14
  obtain ⟨z16, m16⟩ := and_e m15
  obtain ⟨z17, m17⟩ := and_e m16
  obtain ⟨z18, m18⟩ := and_e m17
  obtain ⟨z19, m19⟩ := and_e m18
  obtain ⟨z20, m20⟩ := and_e m19
  obtain ⟨z21, m21⟩ := and_e m20
  obtain ⟨z22, m22⟩ := and_e m21
  obtain ⟨z23, m23⟩ := and_e m22
  obtain ⟨z24, m24⟩ := and_e m23
  obtain ⟨z25, m25⟩ := and_e m24
  obtain ⟨z26, m26⟩ := and_e m25
  obtain ⟨z27, m27⟩ := and_e m26
  obtain ⟨z28, m28⟩ := and_e m27
  obtain ⟨z29, m29⟩ := and_e m28
  obtain ⟨z30, m30⟩ := and_e m29
  obtain ⟨z31, m31⟩ := and_e m30
  obtain ⟨z32, m32⟩ := and_e m31
  obtain ⟨z33, m33⟩ := and_e m32
  obtain ⟨z34, m34⟩ := and_e m33
  obtain ⟨z35, m35⟩ := and_e m34
  have z36 := m35
  obtain ⟨ta, et0⟩ := arr_v (t := own_T) z0
  have et : ∀ idx, own_T.eval args s none idx s = some (.ref ta) := fun idx => et0
  obtain ⟨c, A⟩ := Arr.start (t := own_T) et0 z0
  have hl : (Jvm.Term.length own_T).eval args s none [] s = some (.int (623 : Int32)) := eqv_i rfl z1
  obtain ⟨b, cell, e1, e2, e3⟩ := Term.length_spec hl
  have eb : b = ta := by have := e1.symm.trans et0; cases this; rfl
  subst eb
  have ec : cell = c := by have := e2.symm.trans (A.fin (Vm.Alike.refl _)); cases this; rfl
  subst ec
  have S : cell.slots.size = 623 := own_size hl e1 e2
  have key : ∀ j, j < 623 → cell.slots[j]? = some (.int (tagF j)) := by
    intro j hj
    have cs : j < 90 ∨ j = 90 ∨ j = 91 ∨ j = 92 ∨ j = 93 ∨ j = 94 ∨ j = 95 ∨ (96 ≤ j ∧ j < 212) ∨ j = 212 ∨ (213 ≤ j ∧ j < 348) ∨ j = 348 ∨ j = 349 ∨ j = 350 ∨ j = 351 ∨ j = 352 ∨ j = 353 ∨ j = 354 ∨ j = 355 ∨ j = 356 ∨ j = 357 ∨ j = 358 ∨ j = 359 ∨ j = 360 ∨ j = 361 ∨ j = 362 ∨ j = 363 ∨ j = 364 ∨ (365 ≤ j ∧ j < 445) ∨ j = 445 ∨ (446 ≤ j ∧ j < 618) ∨ j = 618 ∨ j = 619 ∨ j = 620 ∨ j = 621 ∨ j = 622 := by omega
    rcases cs with r | rfl | rfl | rfl | rfl | rfl | rfl | r | rfl | r | rfl | rfl | rfl | rfl | rfl | rfl | rfl | rfl | rfl | rfl | rfl | rfl | rfl | rfl | rfl | rfl | rfl | r | rfl | r | rfl | rfl | rfl | rfl | rfl
    · rw [(own_m1 ⟨j, hj⟩).1 r]; exact own_up et A S z2 hj (by show (j : Int) < 90; omega)
    · exact own_el et A (j := (90 : Int32)) (y := (91 : Int32)) (by decide) z3
    · exact own_el et A (j := (91 : Int32)) (y := (-1 : Int32)) (by decide) z4
    · exact own_el et A (j := (92 : Int32)) (y := (-1 : Int32)) (by decide) z5
    · exact own_el et A (j := (93 : Int32)) (y := (89 : Int32)) (by decide) z6
    · exact own_el et A (j := (94 : Int32)) (y := (-1 : Int32)) (by decide) z7
    · exact own_el et A (j := (95 : Int32)) (y := (96 : Int32)) (by decide) z8
    · rw [(own_m1 ⟨j, hj⟩).2 (by show (96 ≤ j ∧ j < 212 ∨ 213 ≤ j ∧ j < 348 ∨ 365 ≤ j ∧ j < 445 ∨ 446 ≤ j ∧ j < 618); omega)]; exact own_in et A S z9 hj (by show (96 : Int) ≤ j; omega) (by show (j : Int) < 212; omega)
    · exact own_el et A (j := (212 : Int32)) (y := (213 : Int32)) (by decide) z10
    · rw [(own_m1 ⟨j, hj⟩).2 (by show (96 ≤ j ∧ j < 212 ∨ 213 ≤ j ∧ j < 348 ∨ 365 ≤ j ∧ j < 445 ∨ 446 ≤ j ∧ j < 618); omega)]; exact own_in et A S z11 hj (by show (213 : Int) ≤ j; omega) (by show (j : Int) < 348; omega)
    · exact own_el et A (j := (348 : Int32)) (y := (349 : Int32)) (by decide) z12
    · exact own_el et A (j := (349 : Int32)) (y := (-1 : Int32)) (by decide) z13
    · exact own_el et A (j := (350 : Int32)) (y := (351 : Int32)) (by decide) z14
    · exact own_el et A (j := (351 : Int32)) (y := (-1 : Int32)) (by decide) z15
    · exact own_el et A (j := (352 : Int32)) (y := (353 : Int32)) (by decide) z16
    · exact own_el et A (j := (353 : Int32)) (y := (-1 : Int32)) (by decide) z17
    · exact own_el et A (j := (354 : Int32)) (y := (355 : Int32)) (by decide) z18
    · exact own_el et A (j := (355 : Int32)) (y := (-1 : Int32)) (by decide) z19
    · exact own_el et A (j := (356 : Int32)) (y := (357 : Int32)) (by decide) z20
    · exact own_el et A (j := (357 : Int32)) (y := (-1 : Int32)) (by decide) z21
    · exact own_el et A (j := (358 : Int32)) (y := (359 : Int32)) (by decide) z22
    · exact own_el et A (j := (359 : Int32)) (y := (-1 : Int32)) (by decide) z23
    · exact own_el et A (j := (360 : Int32)) (y := (361 : Int32)) (by decide) z24
    · exact own_el et A (j := (361 : Int32)) (y := (-1 : Int32)) (by decide) z25
    · exact own_el et A (j := (362 : Int32)) (y := (363 : Int32)) (by decide) z26
    · exact own_el et A (j := (363 : Int32)) (y := (-1 : Int32)) (by decide) z27
    · exact own_el et A (j := (364 : Int32)) (y := (365 : Int32)) (by decide) z28
    · rw [(own_m1 ⟨j, hj⟩).2 (by show (96 ≤ j ∧ j < 212 ∨ 213 ≤ j ∧ j < 348 ∨ 365 ≤ j ∧ j < 445 ∨ 446 ≤ j ∧ j < 618); omega)]; exact own_in et A S z29 hj (by show (365 : Int) ≤ j; omega) (by show (j : Int) < 445; omega)
    · exact own_el et A (j := (445 : Int32)) (y := (446 : Int32)) (by decide) z30
    · rw [(own_m1 ⟨j, hj⟩).2 (by show (96 ≤ j ∧ j < 212 ∨ 213 ≤ j ∧ j < 348 ∨ 365 ≤ j ∧ j < 445 ∨ 446 ≤ j ∧ j < 618); omega)]; exact own_in et A S z31 hj (by show (446 : Int) ≤ j; omega) (by show (j : Int) < 618; omega)
    · exact own_el et A (j := (618 : Int32)) (y := (619 : Int32)) (by decide) z32
    · exact own_el et A (j := (619 : Int32)) (y := (-1 : Int32)) (by decide) z33
    · exact own_el et A (j := (620 : Int32)) (y := (-1 : Int32)) (by decide) z34
    · exact own_el et A (j := (621 : Int32)) (y := (622 : Int32)) (by decide) z35
    · exact own_el et A (j := (622 : Int32)) (y := (-1 : Int32)) (by decide) z36
  exact ⟨b, et0, cell, A, S, key, fun _ _ => rfl⟩
theorem own_b {j : Int32} (h0 : (0 : Int32) < j) (h1 : j < (623 : Int32)) : 0 ≤ j.toInt ∧ j.toInt < ((623 : Nat) : Int) := by
  rw [Int32.lt_iff_toInt_lt] at h0 h1
  have o0 : (0 : Int32).toInt = 0 := rfl
  have o8 : (623 : Int32).toInt = 623 := rfl
  omega
theorem d1_0 : decode prog_3_method_4_code 0 = .ok (.iload_n 0, 1) := by decide +kernel
theorem d1_1 : decode prog_3_method_4_code 1 = .ok (.ifCond .le 18, 3) := by decide +kernel
theorem d1_4 : decode prog_3_method_4_code 4 = .ok (.iload_n 0, 1) := by decide +kernel
theorem d1_5 : decode prog_3_method_4_code 5 = .ok (.sipush 623, 3) := by decide +kernel
theorem d1_8 : decode prog_3_method_4_code 8 = .ok (.if_icmp .ge 11, 3) := by decide +kernel
theorem d1_11 : decode prog_3_method_4_code 11 = .ok (.getstatic 22, 3) := by decide +kernel
theorem d1_14 : decode prog_3_method_4_code 14 = .ok (.iload_n 0, 1) := by decide +kernel
theorem d1_15 : decode prog_3_method_4_code 15 = .ok (.iaload, 1) := by decide +kernel
theorem d1_16 : decode prog_3_method_4_code 16 = .ok (.goto 4, 3) := by decide +kernel
theorem d1_19 : decode prog_3_method_4_code 19 = .ok (.iconst (-1), 1) := by decide +kernel
theorem d1_20 : decode prog_3_method_4_code 20 = .ok (.ireturn, 1) := by decide +kernel
theorem pn_1 : plainName "com/example/tidy_handshake/tidyhandshake/DataField" = true := by first | (simp [plainName, overriddenIn]; done) | decide +kernel
theorem ef_1 (m : MethodId) (x0 : Int32) : entryFrame m #[(.int x0)] 1 = mkF m 0 #[.val (.int x0)] [] := by first | (simp [entryFrame, mkF, argsToLocals, Value.category]; done) | rfl
def dtF (qa : Int32)  (fa : Nat → Int32) : Int32 := (let w_1_7 : Int32 := (if (0 : Int32) < qa then (if qa < (623 : Int32) then (fa (qa).toNatClampNeg) else (-1 : Int32)) else (-1 : Int32)); w_1_7)
set_option maxRecDepth 65536 in
set_option maxHeartbeats 40000000 in
theorem rm1 (l : Launch) (Z : State) (a0 : Array Value) (hw : ∀ d ∈ tables_1, d.before a0 Z = true) (qa : Int32) (ta : Addr) (fa : Nat → Int32) (h0 : Heap) (P0 : Sta Z h0 "com/example/tidy_handshake/tidyhandshake/DataField" "DATA_TAG_OF" "[I" (.ref ta)) (P1 : OAr Z h0 ta .int 623 (fun i => .int (fa i))) :
    OMet l Z (⟨"com/example/tidy_handshake/tidyhandshake/DataField", "dataTagOf", "(I)I"⟩ : MethodName) prog_3_method_4_code 1 (some .int) ({ frames := 0, cells := 0, slots := 0, locals := 0 } : Room) #[(.int qa)] h0 (OPure (some (.int (dtF qa fa))) h0) := by
  intro ws
  refine MetFree.of_bodySF (plainFor_of_name pn_1) hisR ?_
  intro p e s m args below meth c s₁ Bd hml0 hP hK
  obtain ⟨rfl, hZ, hh⟩ := hP
  have hx := Bd.exec
  have hby := Bd.bytes
  have hml : c.maxLocals = 1 := hml0
  have hown : s.vm.findClass "com/example/tidy_handshake/tidyhandshake/DataField" = some m.cls := findClass_of_methodNamed Bd.named
  have hnm := (name_of_methodNamed Bd.named Bd.method).1
  have hlk : meth.locks = false := Bd.notSynchronized
  have X0 : Stand p l e ({ frames := 0, cells := 0, slots := 0, locals := 0 } : Room) s m #[(.int qa)] below meth c s₁ [] 0 0 := Stand.of_body Bd
  have e0 : s₁.heap = h0 := by rw [← hh, Bd.state]; rfl
  refine (?_ : OGo p.tables e below (OFin s (OPure (some (.int (dtF qa fa))) h0) 0 0) _)
  refine ogo (fun _ k => castTop (ef_1 m qa) k) ?_
  show OGo _ _ _ _ (s₁.setTop (mkF m 0 #[.val (.int qa)] []))
  refine ogo (fun _ k => XS.iloadN X0.here hx rfl (hb hby d1_0) rfl k) ?_
  show OGo _ _ _ _ (s₁.setTop (mkF m 1 #[.val (.int qa)] [(.int qa)]))
  suffices J_1_8 : ∀ (w_1_7 : Int32) (hw_1_7 : w_1_7 = (if (0 : Int32) < qa then (if qa < (623 : Int32) then (fa (qa).toNatClampNeg) else (-1 : Int32)) else (-1 : Int32))) (T_1_9 : State) (X_1_9 : Stand p l e ({ frames := 0, cells := 0, slots := 0, locals := 0 } : Room) s m #[(.int qa)] below meth c T_1_9 [] 0 0) (e_1_9 : T_1_9.heap = h0), OGo p.tables e below (OFin s (OPure (some (.int (dtF qa fa))) h0) 0 0) (T_1_9.setTop (mkF m 20 #[.val (.int qa)] [(.int w_1_7)])) by
    by_cases hc_1_1 : (0 : Int32) < qa
    · refine ogo (fun _ k => XS.ifNo X0.here hx rfl (hb hby d1_1) rfl ((if0 _ _).trans (tlt hc_1_1).2.2.2) k) ?_
      show OGo _ _ _ _ (s₁.setTop (mkF m 4 #[.val (.int qa)] []))
      refine ogo (fun _ k => XS.iloadN X0.here hx rfl (hb hby d1_4) rfl k) ?_
      show OGo _ _ _ _ (s₁.setTop (mkF m 5 #[.val (.int qa)] [(.int qa)]))
      refine ogo (fun _ k => XS.sipush X0.here hx rfl (hb hby d1_5) k) ?_
      show OGo _ _ _ _ (s₁.setTop (mkF m 8 #[.val (.int qa)] [(.int (623 : Int32)), (.int qa)]))
      suffices J_1_5 : ∀ (w_1_4 : Int32) (hw_1_4 : w_1_4 = (if qa < (623 : Int32) then (fa (qa).toNatClampNeg) else (-1 : Int32))) (T_1_6 : State) (X_1_6 : Stand p l e ({ frames := 0, cells := 0, slots := 0, locals := 0 } : Room) s m #[(.int qa)] below meth c T_1_6 [] 0 0) (e_1_6 : T_1_6.heap = h0), OGo p.tables e below (OFin s (OPure (some (.int (dtF qa fa))) h0) 0 0) (T_1_6.setTop (mkF m 20 #[.val (.int qa)] [(.int w_1_4)])) by
        by_cases hc_1_2 : qa < (623 : Int32)
        · refine ogo (fun _ k => XS.icmpNo X0.here hx rfl (hb hby d1_8) rfl (tlt hc_1_2).2.1 k) ?_
          show OGo _ _ _ _ (s₁.setTop (mkF m 11 #[.val (.int qa)] []))
          obtain ⟨T_1_3, X_1_3, e_1_3, st_1_3⟩ := getS2 X0 hx hZ hown (host := "") (Or.inl (hw _ (List.mem_of_getElem? (i := 8) rfl))) Via.refl e0 P0 (g := (mkF m 11 #[.val (.int qa)] [])) rfl (hb hby d1_11)
          refine ogo (fun _ k => st_1_3 _ k) ?_
          show OGo _ _ _ _ (T_1_3.setTop (mkF m 14 #[.val (.int qa)] [(.ref ta)]))
          refine ogo (fun _ k => XS.iloadN X_1_3.here hx rfl (hb hby d1_14) rfl k) ?_
          show OGo _ _ _ _ (T_1_3.setTop (mkF m 15 #[.val (.int qa)] [(.int qa), (.ref ta)]))
          refine ogo (fun _ k => oldI X_1_3 hx hZ e_1_3 P1 (own_b hc_1_1 hc_1_2).1 (own_b hc_1_1 hc_1_2).2 (g := (mkF m 15 #[.val (.int qa)] [(.int qa), (.ref ta)])) rfl rfl (hb hby d1_15) _ k) ?_
          show OGo _ _ _ _ (T_1_3.setTop (mkF m 16 #[.val (.int qa)] [(.int (fa (qa).toNatClampNeg))]))
          refine ogo (fun _ k => XS.goto X_1_3.here hx rfl (pc0 := 16) (pc' := 20) rfl (hb hby d1_16) (by decide) (by decide) k) ?_
          show OGo _ _ _ _ (T_1_3.setTop (mkF m 20 #[.val (.int qa)] [(.int (fa (qa).toNatClampNeg))]))
          exact J_1_5 _ (if_pos hc_1_2).symm _ X_1_3 e_1_3
        · refine ogo (fun _ k => XS.icmpYes X0.here hx rfl (pc0 := 8) (pc' := 19) rfl (hb hby d1_8) rfl (flt hc_1_2).2.1 (by decide) (by decide) k) ?_
          show OGo _ _ _ _ (s₁.setTop (mkF m 19 #[.val (.int qa)] []))
          refine ogo (fun _ k => XS.iconst X0.here hx rfl (hb hby d1_19) k) ?_
          show OGo _ _ _ _ (s₁.setTop (mkF m 20 #[.val (.int qa)] [(.int (-1 : Int32))]))
          exact J_1_5 _ (if_neg hc_1_2).symm _ X0 e0
      intro w_1_4 hw_1_4 T_1_6 X_1_6 e_1_6
      subst hw_1_4
      exact J_1_8 _ (if_pos hc_1_1).symm _ X_1_6 e_1_6
    · refine ogo (fun _ k => XS.ifYes X0.here hx rfl (pc0 := 1) (pc' := 19) rfl (hb hby d1_1) rfl ((if0 _ _).trans (flt hc_1_1).2.2.2) (by decide) (by decide) k) ?_
      show OGo _ _ _ _ (s₁.setTop (mkF m 19 #[.val (.int qa)] []))
      refine ogo (fun _ k => XS.iconst X0.here hx rfl (hb hby d1_19) k) ?_
      show OGo _ _ _ _ (s₁.setTop (mkF m 20 #[.val (.int qa)] [(.int (-1 : Int32))]))
      exact J_1_8 _ (if_neg hc_1_1).symm _ X0 e0
  intro w_1_7 hw_1_7 T_1_9 X_1_9 e_1_9
  exact oret X_1_9 hx hlk Bd.returns rfl (Or.inl ⟨rfl, Or.inl rfl, _, rfl⟩) (hb hby d1_20) (by decide) (by decide) ⟨by subst hw_1_7; rfl, rfl, e_1_9⟩
theorem d2_0 : decode method_2_code 0 = .ok (.iload_n 0, 1) := by decide +kernel
theorem d2_1 : decode method_2_code 1 = .ok (.bipush 90, 2) := by decide +kernel
theorem d2_3 : decode method_2_code 3 = .ok (.if_icmp .ne 6, 3) := by decide +kernel
theorem d2_6 : decode method_2_code 6 = .ok (.bipush 91, 2) := by decide +kernel
theorem d2_8 : decode method_2_code 8 = .ok (.ireturn, 1) := by decide +kernel
theorem d2_9 : decode method_2_code 9 = .ok (.iload_n 0, 1) := by decide +kernel
theorem d2_10 : decode method_2_code 10 = .ok (.sipush 212, 3) := by decide +kernel
theorem d2_13 : decode method_2_code 13 = .ok (.if_icmp .ne 7, 3) := by decide +kernel
theorem d2_16 : decode method_2_code 16 = .ok (.sipush 213, 3) := by decide +kernel
theorem d2_19 : decode method_2_code 19 = .ok (.ireturn, 1) := by decide +kernel
theorem d2_20 : decode method_2_code 20 = .ok (.iload_n 0, 1) := by decide +kernel
theorem d2_21 : decode method_2_code 21 = .ok (.bipush 93, 2) := by decide +kernel
theorem d2_23 : decode method_2_code 23 = .ok (.if_icmp .ne 6, 3) := by decide +kernel
theorem d2_26 : decode method_2_code 26 = .ok (.bipush 89, 2) := by decide +kernel
theorem d2_28 : decode method_2_code 28 = .ok (.ireturn, 1) := by decide +kernel
theorem d2_29 : decode method_2_code 29 = .ok (.iload_n 0, 1) := by decide +kernel
theorem d2_30 : decode method_2_code 30 = .ok (.bipush 95, 2) := by decide +kernel
theorem d2_32 : decode method_2_code 32 = .ok (.if_icmp .ne 6, 3) := by decide +kernel
theorem d2_35 : decode method_2_code 35 = .ok (.bipush 96, 2) := by decide +kernel
theorem d2_37 : decode method_2_code 37 = .ok (.ireturn, 1) := by decide +kernel
theorem d2_38 : decode method_2_code 38 = .ok (.iload_n 0, 1) := by decide +kernel
theorem d2_39 : decode method_2_code 39 = .ok (.sipush 348, 3) := by decide +kernel
theorem d2_42 : decode method_2_code 42 = .ok (.if_icmp .lt 20, 3) := by decide +kernel
theorem d2_45 : decode method_2_code 45 = .ok (.iload_n 0, 1) := by decide +kernel
theorem d2_46 : decode method_2_code 46 = .ok (.sipush 364, 3) := by decide +kernel
theorem d2_49 : decode method_2_code 49 = .ok (.if_icmp .gt 13, 3) := by decide +kernel
theorem d2_52 : decode method_2_code 52 = .ok (.iload_n 0, 1) := by decide +kernel
theorem d2_53 : decode method_2_code 53 = .ok (.iconst 1, 1) := by decide +kernel
theorem d2_54 : decode method_2_code 54 = .ok (.iand, 1) := by decide +kernel
theorem d2_55 : decode method_2_code 55 = .ok (.ifCond .ne 7, 3) := by decide +kernel
theorem d2_58 : decode method_2_code 58 = .ok (.iload_n 0, 1) := by decide +kernel
theorem d2_59 : decode method_2_code 59 = .ok (.iconst 1, 1) := by decide +kernel
theorem d2_60 : decode method_2_code 60 = .ok (.iadd, 1) := by decide +kernel
theorem d2_61 : decode method_2_code 61 = .ok (.ireturn, 1) := by decide +kernel
theorem d2_62 : decode method_2_code 62 = .ok (.iload_n 0, 1) := by decide +kernel
theorem d2_63 : decode method_2_code 63 = .ok (.sipush 445, 3) := by decide +kernel
theorem d2_66 : decode method_2_code 66 = .ok (.if_icmp .ne 7, 3) := by decide +kernel
theorem d2_69 : decode method_2_code 69 = .ok (.sipush 446, 3) := by decide +kernel
theorem d2_72 : decode method_2_code 72 = .ok (.ireturn, 1) := by decide +kernel
theorem d2_73 : decode method_2_code 73 = .ok (.iload_n 0, 1) := by decide +kernel
theorem d2_74 : decode method_2_code 74 = .ok (.sipush 618, 3) := by decide +kernel
theorem d2_77 : decode method_2_code 77 = .ok (.if_icmp .ne 7, 3) := by decide +kernel
theorem d2_80 : decode method_2_code 80 = .ok (.sipush 619, 3) := by decide +kernel
theorem d2_83 : decode method_2_code 83 = .ok (.ireturn, 1) := by decide +kernel
theorem d2_84 : decode method_2_code 84 = .ok (.iload_n 0, 1) := by decide +kernel
theorem d2_85 : decode method_2_code 85 = .ok (.sipush 621, 3) := by decide +kernel
theorem d2_88 : decode method_2_code 88 = .ok (.if_icmp .ne 7, 3) := by decide +kernel
theorem d2_91 : decode method_2_code 91 = .ok (.sipush 622, 3) := by decide +kernel
theorem d2_94 : decode method_2_code 94 = .ok (.ireturn, 1) := by decide +kernel
theorem d2_95 : decode method_2_code 95 = .ok (.iconst (-1), 1) := by decide +kernel
theorem d2_96 : decode method_2_code 96 = .ok (.ireturn, 1) := by decide +kernel
theorem pn_2 : plainName "com/example/tidy_handshake/tidyhandshake/DataFieldDataTagOfPinLaw" = true := by first | (simp [plainName, overriddenIn]; done) | decide +kernel
theorem ef_2 (m : MethodId) (x0 : Int32) : entryFrame m #[(.int x0)] 1 = mkF m 0 #[.val (.int x0)] [] := by first | (simp [entryFrame, mkF, argsToLocals, Value.category]; done) | rfl
def expF (qa : Int32)  : Int32 := (if qa = (90 : Int32) then (91 : Int32) else (if qa = (212 : Int32) then (213 : Int32) else (if qa = (93 : Int32) then (89 : Int32) else (if qa = (95 : Int32) then (96 : Int32) else (if qa < (348 : Int32) then (if qa = (445 : Int32) then (446 : Int32) else (if qa = (618 : Int32) then (619 : Int32) else (if qa = (621 : Int32) then (622 : Int32) else (-1 : Int32)))) else (if (364 : Int32) < qa then (if qa = (445 : Int32) then (446 : Int32) else (if qa = (618 : Int32) then (619 : Int32) else (if qa = (621 : Int32) then (622 : Int32) else (-1 : Int32)))) else (if (qa &&& (1 : Int32)) = (0 : Int32) then (qa + (1 : Int32)) else (if qa = (445 : Int32) then (446 : Int32) else (if qa = (618 : Int32) then (619 : Int32) else (if qa = (621 : Int32) then (622 : Int32) else (-1 : Int32)))))))))))
set_option maxRecDepth 65536 in
set_option maxHeartbeats 40000000 in
theorem rm2 (l : Launch) (Z : State) (a0 : Array Value) (hw : ∀ d ∈ tables_1, d.before a0 Z = true) (qa : Int32)  (h0 : Heap)  :
    OMet l Z (⟨"com/example/tidy_handshake/tidyhandshake/DataFieldDataTagOfPinLaw", "expected", "(I)I"⟩ : MethodName) method_2_code 1 (some .int) ({ frames := 0, cells := 0, slots := 0, locals := 0 } : Room) #[(.int qa)] h0 (OPure (some (.int (expF qa))) h0) := by
  intro ws
  refine MetFree.of_bodySF (plainFor_of_name pn_2) hisR ?_
  intro p e s m args below meth c s₁ Bd hml0 hP hK
  obtain ⟨rfl, hZ, hh⟩ := hP
  have hx := Bd.exec
  have hby := Bd.bytes
  have hml : c.maxLocals = 1 := hml0
  have hown : s.vm.findClass "com/example/tidy_handshake/tidyhandshake/DataFieldDataTagOfPinLaw" = some m.cls := findClass_of_methodNamed Bd.named
  have hnm := (name_of_methodNamed Bd.named Bd.method).1
  have hlk : meth.locks = false := Bd.notSynchronized
  have X0 : Stand p l e ({ frames := 0, cells := 0, slots := 0, locals := 0 } : Room) s m #[(.int qa)] below meth c s₁ [] 0 0 := Stand.of_body Bd
  have e0 : s₁.heap = h0 := by rw [← hh, Bd.state]; rfl
  refine (?_ : OGo p.tables e below (OFin s (OPure (some (.int (expF qa))) h0) 0 0) _)
  refine ogo (fun _ k => castTop (ef_2 m qa) k) ?_
  show OGo _ _ _ _ (s₁.setTop (mkF m 0 #[.val (.int qa)] []))
  refine ogo (fun _ k => XS.iloadN X0.here hx rfl (hb hby d2_0) rfl k) ?_
  show OGo _ _ _ _ (s₁.setTop (mkF m 1 #[.val (.int qa)] [(.int qa)]))
  refine ogo (fun _ k => XS.bipush X0.here hx rfl (hb hby d2_1) k) ?_
  show OGo _ _ _ _ (s₁.setTop (mkF m 3 #[.val (.int qa)] [(.int (90 : Int32)), (.int qa)]))
  by_cases hc_2_1 : qa = (90 : Int32)
  · refine ogo (fun _ k => XS.icmpNo X0.here hx rfl (hb hby d2_3) rfl (teq hc_2_1).2 k) ?_
    show OGo _ _ _ _ (s₁.setTop (mkF m 6 #[.val (.int qa)] []))
    refine ogo (fun _ k => XS.bipush X0.here hx rfl (hb hby d2_6) k) ?_
    show OGo _ _ _ _ (s₁.setTop (mkF m 8 #[.val (.int qa)] [(.int (91 : Int32))]))
    exact oret X0 hx hlk Bd.returns rfl (Or.inl ⟨rfl, Or.inl rfl, _, rfl⟩) (hb hby d2_8) (by decide) (by decide) ⟨by simp only [expF, if_pos hc_2_1], rfl, e0⟩
  · refine ogo (fun _ k => XS.icmpYes X0.here hx rfl (pc0 := 3) (pc' := 9) rfl (hb hby d2_3) rfl (feq hc_2_1).2 (by decide) (by decide) k) ?_
    show OGo _ _ _ _ (s₁.setTop (mkF m 9 #[.val (.int qa)] []))
    refine ogo (fun _ k => XS.iloadN X0.here hx rfl (hb hby d2_9) rfl k) ?_
    show OGo _ _ _ _ (s₁.setTop (mkF m 10 #[.val (.int qa)] [(.int qa)]))
    refine ogo (fun _ k => XS.sipush X0.here hx rfl (hb hby d2_10) k) ?_
    show OGo _ _ _ _ (s₁.setTop (mkF m 13 #[.val (.int qa)] [(.int (212 : Int32)), (.int qa)]))
    by_cases hc_2_2 : qa = (212 : Int32)
    · refine ogo (fun _ k => XS.icmpNo X0.here hx rfl (hb hby d2_13) rfl (teq hc_2_2).2 k) ?_
      show OGo _ _ _ _ (s₁.setTop (mkF m 16 #[.val (.int qa)] []))
      refine ogo (fun _ k => XS.sipush X0.here hx rfl (hb hby d2_16) k) ?_
      show OGo _ _ _ _ (s₁.setTop (mkF m 19 #[.val (.int qa)] [(.int (213 : Int32))]))
      exact oret X0 hx hlk Bd.returns rfl (Or.inl ⟨rfl, Or.inl rfl, _, rfl⟩) (hb hby d2_19) (by decide) (by decide) ⟨by simp only [expF, if_neg hc_2_1, if_pos hc_2_2], rfl, e0⟩
    · refine ogo (fun _ k => XS.icmpYes X0.here hx rfl (pc0 := 13) (pc' := 20) rfl (hb hby d2_13) rfl (feq hc_2_2).2 (by decide) (by decide) k) ?_
      show OGo _ _ _ _ (s₁.setTop (mkF m 20 #[.val (.int qa)] []))
      refine ogo (fun _ k => XS.iloadN X0.here hx rfl (hb hby d2_20) rfl k) ?_
      show OGo _ _ _ _ (s₁.setTop (mkF m 21 #[.val (.int qa)] [(.int qa)]))
      refine ogo (fun _ k => XS.bipush X0.here hx rfl (hb hby d2_21) k) ?_
      show OGo _ _ _ _ (s₁.setTop (mkF m 23 #[.val (.int qa)] [(.int (93 : Int32)), (.int qa)]))
      by_cases hc_2_3 : qa = (93 : Int32)
      · refine ogo (fun _ k => XS.icmpNo X0.here hx rfl (hb hby d2_23) rfl (teq hc_2_3).2 k) ?_
        show OGo _ _ _ _ (s₁.setTop (mkF m 26 #[.val (.int qa)] []))
        refine ogo (fun _ k => XS.bipush X0.here hx rfl (hb hby d2_26) k) ?_
        show OGo _ _ _ _ (s₁.setTop (mkF m 28 #[.val (.int qa)] [(.int (89 : Int32))]))
        exact oret X0 hx hlk Bd.returns rfl (Or.inl ⟨rfl, Or.inl rfl, _, rfl⟩) (hb hby d2_28) (by decide) (by decide) ⟨by simp only [expF, if_neg hc_2_1, if_neg hc_2_2, if_pos hc_2_3], rfl, e0⟩
      · refine ogo (fun _ k => XS.icmpYes X0.here hx rfl (pc0 := 23) (pc' := 29) rfl (hb hby d2_23) rfl (feq hc_2_3).2 (by decide) (by decide) k) ?_
        show OGo _ _ _ _ (s₁.setTop (mkF m 29 #[.val (.int qa)] []))
        refine ogo (fun _ k => XS.iloadN X0.here hx rfl (hb hby d2_29) rfl k) ?_
        show OGo _ _ _ _ (s₁.setTop (mkF m 30 #[.val (.int qa)] [(.int qa)]))
        refine ogo (fun _ k => XS.bipush X0.here hx rfl (hb hby d2_30) k) ?_
        show OGo _ _ _ _ (s₁.setTop (mkF m 32 #[.val (.int qa)] [(.int (95 : Int32)), (.int qa)]))
        by_cases hc_2_4 : qa = (95 : Int32)
        · refine ogo (fun _ k => XS.icmpNo X0.here hx rfl (hb hby d2_32) rfl (teq hc_2_4).2 k) ?_
          show OGo _ _ _ _ (s₁.setTop (mkF m 35 #[.val (.int qa)] []))
          refine ogo (fun _ k => XS.bipush X0.here hx rfl (hb hby d2_35) k) ?_
          show OGo _ _ _ _ (s₁.setTop (mkF m 37 #[.val (.int qa)] [(.int (96 : Int32))]))
          exact oret X0 hx hlk Bd.returns rfl (Or.inl ⟨rfl, Or.inl rfl, _, rfl⟩) (hb hby d2_37) (by decide) (by decide) ⟨by simp only [expF, if_neg hc_2_1, if_neg hc_2_2, if_neg hc_2_3, if_pos hc_2_4], rfl, e0⟩
        · refine ogo (fun _ k => XS.icmpYes X0.here hx rfl (pc0 := 32) (pc' := 38) rfl (hb hby d2_32) rfl (feq hc_2_4).2 (by decide) (by decide) k) ?_
          show OGo _ _ _ _ (s₁.setTop (mkF m 38 #[.val (.int qa)] []))
          refine ogo (fun _ k => XS.iloadN X0.here hx rfl (hb hby d2_38) rfl k) ?_
          show OGo _ _ _ _ (s₁.setTop (mkF m 39 #[.val (.int qa)] [(.int qa)]))
          refine ogo (fun _ k => XS.sipush X0.here hx rfl (hb hby d2_39) k) ?_
          show OGo _ _ _ _ (s₁.setTop (mkF m 42 #[.val (.int qa)] [(.int (348 : Int32)), (.int qa)]))
          by_cases hc_2_5 : qa < (348 : Int32)
          · refine ogo (fun _ k => XS.icmpYes X0.here hx rfl (pc0 := 42) (pc' := 62) rfl (hb hby d2_42) rfl (tlt hc_2_5).1 (by decide) (by decide) k) ?_
            show OGo _ _ _ _ (s₁.setTop (mkF m 62 #[.val (.int qa)] []))
            refine ogo (fun _ k => XS.iloadN X0.here hx rfl (hb hby d2_62) rfl k) ?_
            show OGo _ _ _ _ (s₁.setTop (mkF m 63 #[.val (.int qa)] [(.int qa)]))
            refine ogo (fun _ k => XS.sipush X0.here hx rfl (hb hby d2_63) k) ?_
            show OGo _ _ _ _ (s₁.setTop (mkF m 66 #[.val (.int qa)] [(.int (445 : Int32)), (.int qa)]))
            by_cases hc_2_6 : qa = (445 : Int32)
            · refine ogo (fun _ k => XS.icmpNo X0.here hx rfl (hb hby d2_66) rfl (teq hc_2_6).2 k) ?_
              show OGo _ _ _ _ (s₁.setTop (mkF m 69 #[.val (.int qa)] []))
              refine ogo (fun _ k => XS.sipush X0.here hx rfl (hb hby d2_69) k) ?_
              show OGo _ _ _ _ (s₁.setTop (mkF m 72 #[.val (.int qa)] [(.int (446 : Int32))]))
              exact oret X0 hx hlk Bd.returns rfl (Or.inl ⟨rfl, Or.inl rfl, _, rfl⟩) (hb hby d2_72) (by decide) (by decide) ⟨by simp only [expF, if_neg hc_2_1, if_neg hc_2_2, if_neg hc_2_3, if_neg hc_2_4, if_pos hc_2_5, if_pos hc_2_6], rfl, e0⟩
            · refine ogo (fun _ k => XS.icmpYes X0.here hx rfl (pc0 := 66) (pc' := 73) rfl (hb hby d2_66) rfl (feq hc_2_6).2 (by decide) (by decide) k) ?_
              show OGo _ _ _ _ (s₁.setTop (mkF m 73 #[.val (.int qa)] []))
              refine ogo (fun _ k => XS.iloadN X0.here hx rfl (hb hby d2_73) rfl k) ?_
              show OGo _ _ _ _ (s₁.setTop (mkF m 74 #[.val (.int qa)] [(.int qa)]))
              refine ogo (fun _ k => XS.sipush X0.here hx rfl (hb hby d2_74) k) ?_
              show OGo _ _ _ _ (s₁.setTop (mkF m 77 #[.val (.int qa)] [(.int (618 : Int32)), (.int qa)]))
              by_cases hc_2_7 : qa = (618 : Int32)
              · refine ogo (fun _ k => XS.icmpNo X0.here hx rfl (hb hby d2_77) rfl (teq hc_2_7).2 k) ?_
                show OGo _ _ _ _ (s₁.setTop (mkF m 80 #[.val (.int qa)] []))
                refine ogo (fun _ k => XS.sipush X0.here hx rfl (hb hby d2_80) k) ?_
                show OGo _ _ _ _ (s₁.setTop (mkF m 83 #[.val (.int qa)] [(.int (619 : Int32))]))
                exact oret X0 hx hlk Bd.returns rfl (Or.inl ⟨rfl, Or.inl rfl, _, rfl⟩) (hb hby d2_83) (by decide) (by decide) ⟨by simp only [expF, if_neg hc_2_1, if_neg hc_2_2, if_neg hc_2_3, if_neg hc_2_4, if_pos hc_2_5, if_neg hc_2_6, if_pos hc_2_7], rfl, e0⟩
              · refine ogo (fun _ k => XS.icmpYes X0.here hx rfl (pc0 := 77) (pc' := 84) rfl (hb hby d2_77) rfl (feq hc_2_7).2 (by decide) (by decide) k) ?_
                show OGo _ _ _ _ (s₁.setTop (mkF m 84 #[.val (.int qa)] []))
                refine ogo (fun _ k => XS.iloadN X0.here hx rfl (hb hby d2_84) rfl k) ?_
                show OGo _ _ _ _ (s₁.setTop (mkF m 85 #[.val (.int qa)] [(.int qa)]))
                refine ogo (fun _ k => XS.sipush X0.here hx rfl (hb hby d2_85) k) ?_
                show OGo _ _ _ _ (s₁.setTop (mkF m 88 #[.val (.int qa)] [(.int (621 : Int32)), (.int qa)]))
                by_cases hc_2_8 : qa = (621 : Int32)
                · refine ogo (fun _ k => XS.icmpNo X0.here hx rfl (hb hby d2_88) rfl (teq hc_2_8).2 k) ?_
                  show OGo _ _ _ _ (s₁.setTop (mkF m 91 #[.val (.int qa)] []))
                  refine ogo (fun _ k => XS.sipush X0.here hx rfl (hb hby d2_91) k) ?_
                  show OGo _ _ _ _ (s₁.setTop (mkF m 94 #[.val (.int qa)] [(.int (622 : Int32))]))
                  exact oret X0 hx hlk Bd.returns rfl (Or.inl ⟨rfl, Or.inl rfl, _, rfl⟩) (hb hby d2_94) (by decide) (by decide) ⟨by simp only [expF, if_neg hc_2_1, if_neg hc_2_2, if_neg hc_2_3, if_neg hc_2_4, if_pos hc_2_5, if_neg hc_2_6, if_neg hc_2_7, if_pos hc_2_8], rfl, e0⟩
                · refine ogo (fun _ k => XS.icmpYes X0.here hx rfl (pc0 := 88) (pc' := 95) rfl (hb hby d2_88) rfl (feq hc_2_8).2 (by decide) (by decide) k) ?_
                  show OGo _ _ _ _ (s₁.setTop (mkF m 95 #[.val (.int qa)] []))
                  refine ogo (fun _ k => XS.iconst X0.here hx rfl (hb hby d2_95) k) ?_
                  show OGo _ _ _ _ (s₁.setTop (mkF m 96 #[.val (.int qa)] [(.int (-1 : Int32))]))
                  exact oret X0 hx hlk Bd.returns rfl (Or.inl ⟨rfl, Or.inl rfl, _, rfl⟩) (hb hby d2_96) (by decide) (by decide) ⟨by simp only [expF, if_neg hc_2_1, if_neg hc_2_2, if_neg hc_2_3, if_neg hc_2_4, if_pos hc_2_5, if_neg hc_2_6, if_neg hc_2_7, if_neg hc_2_8], rfl, e0⟩
          · refine ogo (fun _ k => XS.icmpNo X0.here hx rfl (hb hby d2_42) rfl (flt hc_2_5).1 k) ?_
            show OGo _ _ _ _ (s₁.setTop (mkF m 45 #[.val (.int qa)] []))
            refine ogo (fun _ k => XS.iloadN X0.here hx rfl (hb hby d2_45) rfl k) ?_
            show OGo _ _ _ _ (s₁.setTop (mkF m 46 #[.val (.int qa)] [(.int qa)]))
            refine ogo (fun _ k => XS.sipush X0.here hx rfl (hb hby d2_46) k) ?_
            show OGo _ _ _ _ (s₁.setTop (mkF m 49 #[.val (.int qa)] [(.int (364 : Int32)), (.int qa)]))
            by_cases hc_2_9 : (364 : Int32) < qa
            · refine ogo (fun _ k => XS.icmpYes X0.here hx rfl (pc0 := 49) (pc' := 62) rfl (hb hby d2_49) rfl (tlt hc_2_9).2.2.1 (by decide) (by decide) k) ?_
              show OGo _ _ _ _ (s₁.setTop (mkF m 62 #[.val (.int qa)] []))
              refine ogo (fun _ k => XS.iloadN X0.here hx rfl (hb hby d2_62) rfl k) ?_
              show OGo _ _ _ _ (s₁.setTop (mkF m 63 #[.val (.int qa)] [(.int qa)]))
              refine ogo (fun _ k => XS.sipush X0.here hx rfl (hb hby d2_63) k) ?_
              show OGo _ _ _ _ (s₁.setTop (mkF m 66 #[.val (.int qa)] [(.int (445 : Int32)), (.int qa)]))
              by_cases hc_2_10 : qa = (445 : Int32)
              · refine ogo (fun _ k => XS.icmpNo X0.here hx rfl (hb hby d2_66) rfl (teq hc_2_10).2 k) ?_
                show OGo _ _ _ _ (s₁.setTop (mkF m 69 #[.val (.int qa)] []))
                refine ogo (fun _ k => XS.sipush X0.here hx rfl (hb hby d2_69) k) ?_
                show OGo _ _ _ _ (s₁.setTop (mkF m 72 #[.val (.int qa)] [(.int (446 : Int32))]))
                exact oret X0 hx hlk Bd.returns rfl (Or.inl ⟨rfl, Or.inl rfl, _, rfl⟩) (hb hby d2_72) (by decide) (by decide) ⟨by simp only [expF, if_neg hc_2_1, if_neg hc_2_2, if_neg hc_2_3, if_neg hc_2_4, if_neg hc_2_5, if_pos hc_2_9, if_pos hc_2_10], rfl, e0⟩
              · refine ogo (fun _ k => XS.icmpYes X0.here hx rfl (pc0 := 66) (pc' := 73) rfl (hb hby d2_66) rfl (feq hc_2_10).2 (by decide) (by decide) k) ?_
                show OGo _ _ _ _ (s₁.setTop (mkF m 73 #[.val (.int qa)] []))
                refine ogo (fun _ k => XS.iloadN X0.here hx rfl (hb hby d2_73) rfl k) ?_
                show OGo _ _ _ _ (s₁.setTop (mkF m 74 #[.val (.int qa)] [(.int qa)]))
                refine ogo (fun _ k => XS.sipush X0.here hx rfl (hb hby d2_74) k) ?_
                show OGo _ _ _ _ (s₁.setTop (mkF m 77 #[.val (.int qa)] [(.int (618 : Int32)), (.int qa)]))
                by_cases hc_2_11 : qa = (618 : Int32)
                · refine ogo (fun _ k => XS.icmpNo X0.here hx rfl (hb hby d2_77) rfl (teq hc_2_11).2 k) ?_
                  show OGo _ _ _ _ (s₁.setTop (mkF m 80 #[.val (.int qa)] []))
                  refine ogo (fun _ k => XS.sipush X0.here hx rfl (hb hby d2_80) k) ?_
                  show OGo _ _ _ _ (s₁.setTop (mkF m 83 #[.val (.int qa)] [(.int (619 : Int32))]))
                  exact oret X0 hx hlk Bd.returns rfl (Or.inl ⟨rfl, Or.inl rfl, _, rfl⟩) (hb hby d2_83) (by decide) (by decide) ⟨by simp only [expF, if_neg hc_2_1, if_neg hc_2_2, if_neg hc_2_3, if_neg hc_2_4, if_neg hc_2_5, if_pos hc_2_9, if_neg hc_2_10, if_pos hc_2_11], rfl, e0⟩
                · refine ogo (fun _ k => XS.icmpYes X0.here hx rfl (pc0 := 77) (pc' := 84) rfl (hb hby d2_77) rfl (feq hc_2_11).2 (by decide) (by decide) k) ?_
                  show OGo _ _ _ _ (s₁.setTop (mkF m 84 #[.val (.int qa)] []))
                  refine ogo (fun _ k => XS.iloadN X0.here hx rfl (hb hby d2_84) rfl k) ?_
                  show OGo _ _ _ _ (s₁.setTop (mkF m 85 #[.val (.int qa)] [(.int qa)]))
                  refine ogo (fun _ k => XS.sipush X0.here hx rfl (hb hby d2_85) k) ?_
                  show OGo _ _ _ _ (s₁.setTop (mkF m 88 #[.val (.int qa)] [(.int (621 : Int32)), (.int qa)]))
                  by_cases hc_2_12 : qa = (621 : Int32)
                  · refine ogo (fun _ k => XS.icmpNo X0.here hx rfl (hb hby d2_88) rfl (teq hc_2_12).2 k) ?_
                    show OGo _ _ _ _ (s₁.setTop (mkF m 91 #[.val (.int qa)] []))
                    refine ogo (fun _ k => XS.sipush X0.here hx rfl (hb hby d2_91) k) ?_
                    show OGo _ _ _ _ (s₁.setTop (mkF m 94 #[.val (.int qa)] [(.int (622 : Int32))]))
                    exact oret X0 hx hlk Bd.returns rfl (Or.inl ⟨rfl, Or.inl rfl, _, rfl⟩) (hb hby d2_94) (by decide) (by decide) ⟨by simp only [expF, if_neg hc_2_1, if_neg hc_2_2, if_neg hc_2_3, if_neg hc_2_4, if_neg hc_2_5, if_pos hc_2_9, if_neg hc_2_10, if_neg hc_2_11, if_pos hc_2_12], rfl, e0⟩
                  · refine ogo (fun _ k => XS.icmpYes X0.here hx rfl (pc0 := 88) (pc' := 95) rfl (hb hby d2_88) rfl (feq hc_2_12).2 (by decide) (by decide) k) ?_
                    show OGo _ _ _ _ (s₁.setTop (mkF m 95 #[.val (.int qa)] []))
                    refine ogo (fun _ k => XS.iconst X0.here hx rfl (hb hby d2_95) k) ?_
                    show OGo _ _ _ _ (s₁.setTop (mkF m 96 #[.val (.int qa)] [(.int (-1 : Int32))]))
                    exact oret X0 hx hlk Bd.returns rfl (Or.inl ⟨rfl, Or.inl rfl, _, rfl⟩) (hb hby d2_96) (by decide) (by decide) ⟨by simp only [expF, if_neg hc_2_1, if_neg hc_2_2, if_neg hc_2_3, if_neg hc_2_4, if_neg hc_2_5, if_pos hc_2_9, if_neg hc_2_10, if_neg hc_2_11, if_neg hc_2_12], rfl, e0⟩
            · refine ogo (fun _ k => XS.icmpNo X0.here hx rfl (hb hby d2_49) rfl (flt hc_2_9).2.2.1 k) ?_
              show OGo _ _ _ _ (s₁.setTop (mkF m 52 #[.val (.int qa)] []))
              refine ogo (fun _ k => XS.iloadN X0.here hx rfl (hb hby d2_52) rfl k) ?_
              show OGo _ _ _ _ (s₁.setTop (mkF m 53 #[.val (.int qa)] [(.int qa)]))
              refine ogo (fun _ k => XS.iconst X0.here hx rfl (hb hby d2_53) k) ?_
              show OGo _ _ _ _ (s₁.setTop (mkF m 54 #[.val (.int qa)] [(.int (1 : Int32)), (.int qa)]))
              refine ogo (fun _ k => XS.iand X0.here hx rfl (hb hby d2_54) rfl k) ?_
              show OGo _ _ _ _ (s₁.setTop (mkF m 55 #[.val (.int qa)] [(.int (qa &&& (1 : Int32)))]))
              by_cases hc_2_13 : (qa &&& (1 : Int32)) = (0 : Int32)
              · refine ogo (fun _ k => XS.ifNo X0.here hx rfl (hb hby d2_55) rfl ((if0 _ _).trans (teq hc_2_13).2) k) ?_
                show OGo _ _ _ _ (s₁.setTop (mkF m 58 #[.val (.int qa)] []))
                refine ogo (fun _ k => XS.iloadN X0.here hx rfl (hb hby d2_58) rfl k) ?_
                show OGo _ _ _ _ (s₁.setTop (mkF m 59 #[.val (.int qa)] [(.int qa)]))
                refine ogo (fun _ k => XS.iconst X0.here hx rfl (hb hby d2_59) k) ?_
                show OGo _ _ _ _ (s₁.setTop (mkF m 60 #[.val (.int qa)] [(.int (1 : Int32)), (.int qa)]))
                refine ogo (fun _ k => XS.iadd X0.here hx rfl (hb hby d2_60) rfl k) ?_
                show OGo _ _ _ _ (s₁.setTop (mkF m 61 #[.val (.int qa)] [(.int (qa + (1 : Int32)))]))
                exact oret X0 hx hlk Bd.returns rfl (Or.inl ⟨rfl, Or.inl rfl, _, rfl⟩) (hb hby d2_61) (by decide) (by decide) ⟨by simp only [expF, if_neg hc_2_1, if_neg hc_2_2, if_neg hc_2_3, if_neg hc_2_4, if_neg hc_2_5, if_neg hc_2_9, if_pos hc_2_13], rfl, e0⟩
              · refine ogo (fun _ k => XS.ifYes X0.here hx rfl (pc0 := 55) (pc' := 62) rfl (hb hby d2_55) rfl ((if0 _ _).trans (feq hc_2_13).2) (by decide) (by decide) k) ?_
                show OGo _ _ _ _ (s₁.setTop (mkF m 62 #[.val (.int qa)] []))
                refine ogo (fun _ k => XS.iloadN X0.here hx rfl (hb hby d2_62) rfl k) ?_
                show OGo _ _ _ _ (s₁.setTop (mkF m 63 #[.val (.int qa)] [(.int qa)]))
                refine ogo (fun _ k => XS.sipush X0.here hx rfl (hb hby d2_63) k) ?_
                show OGo _ _ _ _ (s₁.setTop (mkF m 66 #[.val (.int qa)] [(.int (445 : Int32)), (.int qa)]))
                by_cases hc_2_14 : qa = (445 : Int32)
                · refine ogo (fun _ k => XS.icmpNo X0.here hx rfl (hb hby d2_66) rfl (teq hc_2_14).2 k) ?_
                  show OGo _ _ _ _ (s₁.setTop (mkF m 69 #[.val (.int qa)] []))
                  refine ogo (fun _ k => XS.sipush X0.here hx rfl (hb hby d2_69) k) ?_
                  show OGo _ _ _ _ (s₁.setTop (mkF m 72 #[.val (.int qa)] [(.int (446 : Int32))]))
                  exact oret X0 hx hlk Bd.returns rfl (Or.inl ⟨rfl, Or.inl rfl, _, rfl⟩) (hb hby d2_72) (by decide) (by decide) ⟨by simp only [expF, if_neg hc_2_1, if_neg hc_2_2, if_neg hc_2_3, if_neg hc_2_4, if_neg hc_2_5, if_neg hc_2_9, if_neg hc_2_13, if_pos hc_2_14], rfl, e0⟩
                · refine ogo (fun _ k => XS.icmpYes X0.here hx rfl (pc0 := 66) (pc' := 73) rfl (hb hby d2_66) rfl (feq hc_2_14).2 (by decide) (by decide) k) ?_
                  show OGo _ _ _ _ (s₁.setTop (mkF m 73 #[.val (.int qa)] []))
                  refine ogo (fun _ k => XS.iloadN X0.here hx rfl (hb hby d2_73) rfl k) ?_
                  show OGo _ _ _ _ (s₁.setTop (mkF m 74 #[.val (.int qa)] [(.int qa)]))
                  refine ogo (fun _ k => XS.sipush X0.here hx rfl (hb hby d2_74) k) ?_
                  show OGo _ _ _ _ (s₁.setTop (mkF m 77 #[.val (.int qa)] [(.int (618 : Int32)), (.int qa)]))
                  by_cases hc_2_15 : qa = (618 : Int32)
                  · refine ogo (fun _ k => XS.icmpNo X0.here hx rfl (hb hby d2_77) rfl (teq hc_2_15).2 k) ?_
                    show OGo _ _ _ _ (s₁.setTop (mkF m 80 #[.val (.int qa)] []))
                    refine ogo (fun _ k => XS.sipush X0.here hx rfl (hb hby d2_80) k) ?_
                    show OGo _ _ _ _ (s₁.setTop (mkF m 83 #[.val (.int qa)] [(.int (619 : Int32))]))
                    exact oret X0 hx hlk Bd.returns rfl (Or.inl ⟨rfl, Or.inl rfl, _, rfl⟩) (hb hby d2_83) (by decide) (by decide) ⟨by simp only [expF, if_neg hc_2_1, if_neg hc_2_2, if_neg hc_2_3, if_neg hc_2_4, if_neg hc_2_5, if_neg hc_2_9, if_neg hc_2_13, if_neg hc_2_14, if_pos hc_2_15], rfl, e0⟩
                  · refine ogo (fun _ k => XS.icmpYes X0.here hx rfl (pc0 := 77) (pc' := 84) rfl (hb hby d2_77) rfl (feq hc_2_15).2 (by decide) (by decide) k) ?_
                    show OGo _ _ _ _ (s₁.setTop (mkF m 84 #[.val (.int qa)] []))
                    refine ogo (fun _ k => XS.iloadN X0.here hx rfl (hb hby d2_84) rfl k) ?_
                    show OGo _ _ _ _ (s₁.setTop (mkF m 85 #[.val (.int qa)] [(.int qa)]))
                    refine ogo (fun _ k => XS.sipush X0.here hx rfl (hb hby d2_85) k) ?_
                    show OGo _ _ _ _ (s₁.setTop (mkF m 88 #[.val (.int qa)] [(.int (621 : Int32)), (.int qa)]))
                    by_cases hc_2_16 : qa = (621 : Int32)
                    · refine ogo (fun _ k => XS.icmpNo X0.here hx rfl (hb hby d2_88) rfl (teq hc_2_16).2 k) ?_
                      show OGo _ _ _ _ (s₁.setTop (mkF m 91 #[.val (.int qa)] []))
                      refine ogo (fun _ k => XS.sipush X0.here hx rfl (hb hby d2_91) k) ?_
                      show OGo _ _ _ _ (s₁.setTop (mkF m 94 #[.val (.int qa)] [(.int (622 : Int32))]))
                      exact oret X0 hx hlk Bd.returns rfl (Or.inl ⟨rfl, Or.inl rfl, _, rfl⟩) (hb hby d2_94) (by decide) (by decide) ⟨by simp only [expF, if_neg hc_2_1, if_neg hc_2_2, if_neg hc_2_3, if_neg hc_2_4, if_neg hc_2_5, if_neg hc_2_9, if_neg hc_2_13, if_neg hc_2_14, if_neg hc_2_15, if_pos hc_2_16], rfl, e0⟩
                    · refine ogo (fun _ k => XS.icmpYes X0.here hx rfl (pc0 := 88) (pc' := 95) rfl (hb hby d2_88) rfl (feq hc_2_16).2 (by decide) (by decide) k) ?_
                      show OGo _ _ _ _ (s₁.setTop (mkF m 95 #[.val (.int qa)] []))
                      refine ogo (fun _ k => XS.iconst X0.here hx rfl (hb hby d2_95) k) ?_
                      show OGo _ _ _ _ (s₁.setTop (mkF m 96 #[.val (.int qa)] [(.int (-1 : Int32))]))
                      exact oret X0 hx hlk Bd.returns rfl (Or.inl ⟨rfl, Or.inl rfl, _, rfl⟩) (hb hby d2_96) (by decide) (by decide) ⟨by simp only [expF, if_neg hc_2_1, if_neg hc_2_2, if_neg hc_2_3, if_neg hc_2_4, if_neg hc_2_5, if_neg hc_2_9, if_neg hc_2_13, if_neg hc_2_14, if_neg hc_2_15, if_neg hc_2_16], rfl, e0⟩
theorem pn_0 : plainName "com/example/tidy_handshake/tidyhandshake/DataFieldDataTagOfPinLaw" = true := by first | (simp [plainName, overriddenIn]; done) | decide +kernel
theorem ef_0 (m : MethodId) (x0 : Int32) (x1 : Int32) : entryFrame m #[(.int x0), (.int x1)] maxLocals = mkF m 0 #[.val (.int x0), .val (.int x1), .unset, .unset] [] := by first | (simp [entryFrame, mkF, argsToLocals, Value.category, maxLocals]; done) | rfl
theorem pd__I_I : parseMethodDescriptor "(I)I" = some ⟨[.int], some .int⟩ := by decide +kernel
theorem own_all : ∀ r : Fin 623, dtF (Int32.ofNat r.val) tagF = expF (Int32.ofNat r.val) := by decide +kernel
theorem own_q2 : ∀ r : Fin 623, (Int32.ofNat r.val).toInt = r.val := by decide +kernel
theorem own_out (v : Int32) (h : ¬ ((0 : Int32) < v ∧ v < (623 : Int32))) : expF v = (-1 : Int32) := by
  have n : ∀ c : Int32, ((0 : Int32) < c ∧ c < (623 : Int32)) → ¬ v = c := fun c hc z => h (by rw [z]; exact hc)
  have o0 : (0 : Int32).toInt = 0 := rfl
  have o1 : (348 : Int32).toInt = 348 := rfl
  have o2 : (364 : Int32).toInt = 364 := rfl
  have o3 : (623 : Int32).toInt = 623 := rfl
  simp only [Int32.lt_iff_toInt_lt, o0, o3] at h
  simp only [expF, if_neg (n 90 (by decide)), if_neg (n 212 (by decide)), if_neg (n 93 (by decide)), if_neg (n 95 (by decide)), if_neg (n 445 (by decide)), if_neg (n 618 (by decide)), if_neg (n 621 (by decide))]
  by_cases a : v < (348 : Int32)
  · rw [if_pos a]
  · by_cases b : (364 : Int32) < v
    · rw [if_neg a, if_pos b]
    · exfalso
      rw [Int32.lt_iff_toInt_lt] at a b
      omega
theorem own_eq (v : Int32) : dtF v tagF = expF v := by
  by_cases h : (0 : Int32) < v ∧ v < (623 : Int32)
  · have h' := h
    have o0 : (0 : Int32).toInt = 0 := rfl
    have o3 : (623 : Int32).toInt = 623 := rfl
    simp only [Int32.lt_iff_toInt_lt, o0, o3] at h'
    have e : v = Int32.ofNat v.toInt.toNat := by
      apply Int32.toInt_inj.mp
      have q := own_q2 ⟨v.toInt.toNat, by omega⟩
      dsimp only at q
      rw [q]; omega
    have q := own_all ⟨v.toInt.toNat, by omega⟩
    dsimp only at q
    rw [← e] at q
    exact q
  · rw [own_out v h]
    simp only [dtF]
    by_cases a : (0 : Int32) < v
    · rw [if_pos a, if_neg (fun b => h ⟨a, b⟩)]
    · rw [if_neg a]
theorem plain0 (va : Int32) (vb : Int32) (w_0_2 : Int32) (hw_0_2 : w_0_2 = (if (vb &&& (1 : Int32)) = (0 : Int32) then (0 : Int32) else (1 : Int32))) (w_0_6 : Int32) (hw_0_6 : w_0_6 = (if w_0_2 = (0 : Int32) then (((va &&& (2147483647 : Int32)) % (700 : Int32)) - (30 : Int32)) else va)) (w_0_9 : Int32) (hw_0_9 : w_0_9 = w_0_6) (w_0_13 : Int32) (hw_0_13 : w_0_13 = (if (dtF w_0_9 tagF) = (expF w_0_9) then (1 : Int32) else (0 : Int32))) : w_0_13 = (1 : Int32) := by
  rw [hw_0_13, if_pos (own_eq w_0_9)]
set_option maxRecDepth 65536 in
set_option maxHeartbeats 40000000 in
theorem rm0 (l : Launch) (Z : State) (a0 : Array Value) (hw : ∀ d ∈ tables_1, d.before a0 Z = true) (ws : List Jvm.Cond) (va : Int32) (vb : Int32) (h0 : Heap) (n0 : Nat) (Z0 : n0 ≤ h0.size) (ta : Addr) (S0 : Sta Z h0 "com/example/tidy_handshake/tidyhandshake/DataField" "DATA_TAG_OF" "[I" (.ref ta)) (A0 : OAr Z h0 ta .int 623 (fun i => .int (tagF i))) :
    MetFree l x (head1 (Jvm.Cond.code x code maxLocals ret :: ws) room_1) (fun a U => a = #[(.int va), (.int vb)] ∧ Z.Warmed39 U.vm ∧ U.heap = h0) (fun _ _ _ _ _ => True) (fun _ U o U' => ∃ v L, o = .returned v ∧ (v = some (.int 1) ∧ Fr n0 L) ∧ FrameEnd U o U' L 0 0) := by
  refine MetFree.of_bodySF (plainFor_of_name pn_0) hisR ?_
  intro p e s m args below meth c s₁ Bd hml0 hP hK
  obtain ⟨rfl, hZ, hh⟩ := hP
  have hx := Bd.exec
  have hby := Bd.bytes
  have hml : c.maxLocals = 4 := hml0
  have hown : s.vm.findClass "com/example/tidy_handshake/tidyhandshake/DataFieldDataTagOfPinLaw" = some m.cls := findClass_of_methodNamed Bd.named
  have hnm := (name_of_methodNamed Bd.named Bd.method).1
  have hlk : meth.locks = false := Bd.notSynchronized
  have X0 : Stand p l e room_1 s m #[(.int va), (.int vb)] below meth c s₁ [] 0 0 := Stand.of_body Bd
  have e0 : s₁.heap = h0 := by rw [← hh, Bd.state]; rfl
  have N0 := Fr.nil n0
  refine (?_ : OGo p.tables e below (OFin s (fun v _ L => v = some (.int 1) ∧ Fr n0 L) 0 0) _)
  refine ogo (fun _ k => castTop (ef_0 m va vb) k) ?_
  show OGo _ _ _ _ (s₁.setTop (mkF m 0 #[.val (.int va), .val (.int vb), .unset, .unset] []))
  refine ogo (fun _ k => XS.iloadN X0.here hx rfl (hb hby at_0) rfl k) ?_
  show OGo _ _ _ _ (s₁.setTop (mkF m 1 #[.val (.int va), .val (.int vb), .unset, .unset] [(.int vb)]))
  refine ogo (fun _ k => XS.iconst X0.here hx rfl (hb hby at_1) k) ?_
  show OGo _ _ _ _ (s₁.setTop (mkF m 2 #[.val (.int va), .val (.int vb), .unset, .unset] [(.int (1 : Int32)), (.int vb)]))
  refine ogo (fun _ k => XS.iand X0.here hx rfl (hb hby at_2) rfl k) ?_
  show OGo _ _ _ _ (s₁.setTop (mkF m 3 #[.val (.int va), .val (.int vb), .unset, .unset] [(.int (vb &&& (1 : Int32)))]))
  suffices J_0_3 : ∀ (w_0_2 : Int32) (hw_0_2 : w_0_2 = (if (vb &&& (1 : Int32)) = (0 : Int32) then (0 : Int32) else (1 : Int32))), OGo p.tables e below (OFin s (fun v _ L => v = some (.int 1) ∧ Fr n0 L) 0 0) (s₁.setTop (mkF m 11 #[.val (.int va), .val (.int vb), .unset, .unset] [(.int w_0_2)])) by
    by_cases hc_0_1 : (vb &&& (1 : Int32)) = (0 : Int32)
    · refine ogo (fun _ k => XS.ifYes X0.here hx rfl (pc0 := 3) (pc' := 10) rfl (hb hby at_3) rfl ((if0 _ _).trans (teq hc_0_1).1) (by decide) (by decide) k) ?_
      show OGo _ _ _ _ (s₁.setTop (mkF m 10 #[.val (.int va), .val (.int vb), .unset, .unset] []))
      refine ogo (fun _ k => XS.iconst X0.here hx rfl (hb hby at_10) k) ?_
      show OGo _ _ _ _ (s₁.setTop (mkF m 11 #[.val (.int va), .val (.int vb), .unset, .unset] [(.int (0 : Int32))]))
      exact J_0_3 _ (if_pos hc_0_1).symm
    · refine ogo (fun _ k => XS.ifNo X0.here hx rfl (hb hby at_3) rfl ((if0 _ _).trans (feq hc_0_1).1) k) ?_
      show OGo _ _ _ _ (s₁.setTop (mkF m 6 #[.val (.int va), .val (.int vb), .unset, .unset] []))
      refine ogo (fun _ k => XS.iconst X0.here hx rfl (hb hby at_6) k) ?_
      show OGo _ _ _ _ (s₁.setTop (mkF m 7 #[.val (.int va), .val (.int vb), .unset, .unset] [(.int (1 : Int32))]))
      refine ogo (fun _ k => XS.goto X0.here hx rfl (pc0 := 7) (pc' := 11) rfl (hb hby at_7) (by decide) (by decide) k) ?_
      show OGo _ _ _ _ (s₁.setTop (mkF m 11 #[.val (.int va), .val (.int vb), .unset, .unset] [(.int (1 : Int32))]))
      exact J_0_3 _ (if_neg hc_0_1).symm
  intro w_0_2 hw_0_2
  refine ogo (fun _ k => XS.istoreN X0.here hx rfl (hb hby at_11) rfl (l' := #[.val (.int va), .val (.int vb), .val (.int w_0_2), .unset]) rfl k) ?_
  show OGo _ _ _ _ (s₁.setTop (mkF m 12 #[.val (.int va), .val (.int vb), .val (.int w_0_2), .unset] []))
  refine ogo (fun _ k => XS.iloadN X0.here hx rfl (hb hby at_12) rfl k) ?_
  show OGo _ _ _ _ (s₁.setTop (mkF m 13 #[.val (.int va), .val (.int vb), .val (.int w_0_2), .unset] [(.int w_0_2)]))
  suffices J_0_7 : ∀ (w_0_6 : Int32) (hw_0_6 : w_0_6 = (if w_0_2 = (0 : Int32) then (((va &&& (2147483647 : Int32)) % (700 : Int32)) - (30 : Int32)) else va)), OGo p.tables e below (OFin s (fun v _ L => v = some (.int 1) ∧ Fr n0 L) 0 0) (s₁.setTop (mkF m 31 #[.val (.int va), .val (.int vb), .val (.int w_0_2), .unset] [(.int w_0_6)])) by
    by_cases hc_0_5 : w_0_2 = (0 : Int32)
    · refine ogo (fun _ k => XS.ifYes X0.here hx rfl (pc0 := 13) (pc' := 20) rfl (hb hby at_13) rfl ((if0 _ _).trans (teq hc_0_5).1) (by decide) (by decide) k) ?_
      show OGo _ _ _ _ (s₁.setTop (mkF m 20 #[.val (.int va), .val (.int vb), .val (.int w_0_2), .unset] []))
      refine ogo (fun _ k => XS.iloadN X0.here hx rfl (hb hby at_20) rfl k) ?_
      show OGo _ _ _ _ (s₁.setTop (mkF m 21 #[.val (.int va), .val (.int vb), .val (.int w_0_2), .unset] [(.int va)]))
      refine ogo (fun _ k => X0.ldcI hx hown (mvT hZ (hw _ (List.mem_of_getElem? (i := 10) rfl))) rfl (hb hby at_21) k) ?_
      show OGo _ _ _ _ (s₁.setTop (mkF m 23 #[.val (.int va), .val (.int vb), .val (.int w_0_2), .unset] [(.int (2147483647 : Int32)), (.int va)]))
      refine ogo (fun _ k => XS.iand X0.here hx rfl (hb hby at_23) rfl k) ?_
      show OGo _ _ _ _ (s₁.setTop (mkF m 24 #[.val (.int va), .val (.int vb), .val (.int w_0_2), .unset] [(.int (va &&& (2147483647 : Int32)))]))
      refine ogo (fun _ k => XS.sipush X0.here hx rfl (hb hby at_24) k) ?_
      show OGo _ _ _ _ (s₁.setTop (mkF m 27 #[.val (.int va), .val (.int vb), .val (.int w_0_2), .unset] [(.int (700 : Int32)), (.int (va &&& (2147483647 : Int32)))]))
      refine ogo (fun _ k => iremM X0 hx rfl (hb hby at_27) rfl (by decide) k) ?_
      show OGo _ _ _ _ (s₁.setTop (mkF m 28 #[.val (.int va), .val (.int vb), .val (.int w_0_2), .unset] [(.int ((va &&& (2147483647 : Int32)) % (700 : Int32)))]))
      refine ogo (fun _ k => XS.bipush X0.here hx rfl (hb hby at_28) k) ?_
      show OGo _ _ _ _ (s₁.setTop (mkF m 30 #[.val (.int va), .val (.int vb), .val (.int w_0_2), .unset] [(.int (30 : Int32)), (.int ((va &&& (2147483647 : Int32)) % (700 : Int32)))]))
      refine ogo (fun _ k => XS.isub X0.here hx rfl (hb hby at_30) rfl k) ?_
      show OGo _ _ _ _ (s₁.setTop (mkF m 31 #[.val (.int va), .val (.int vb), .val (.int w_0_2), .unset] [(.int (((va &&& (2147483647 : Int32)) % (700 : Int32)) - (30 : Int32)))]))
      exact J_0_7 _ (if_pos hc_0_5).symm
    · refine ogo (fun _ k => XS.ifNo X0.here hx rfl (hb hby at_13) rfl ((if0 _ _).trans (feq hc_0_5).1) k) ?_
      show OGo _ _ _ _ (s₁.setTop (mkF m 16 #[.val (.int va), .val (.int vb), .val (.int w_0_2), .unset] []))
      refine ogo (fun _ k => XS.iloadN X0.here hx rfl (hb hby at_16) rfl k) ?_
      show OGo _ _ _ _ (s₁.setTop (mkF m 17 #[.val (.int va), .val (.int vb), .val (.int w_0_2), .unset] [(.int va)]))
      refine ogo (fun _ k => XS.goto X0.here hx rfl (pc0 := 17) (pc' := 31) rfl (hb hby at_17) (by decide) (by decide) k) ?_
      show OGo _ _ _ _ (s₁.setTop (mkF m 31 #[.val (.int va), .val (.int vb), .val (.int w_0_2), .unset] [(.int va)]))
      exact J_0_7 _ (if_neg hc_0_5).symm
  intro w_0_6 hw_0_6
  suffices Nw_0_9 : ∀ w_0_9 : Int32, w_0_9 = w_0_6 → OGo p.tables e below (OFin s (fun v _ L => v = some (.int 1) ∧ Fr n0 L) 0 0) (s₁.setTop (mkF m 31 #[.val (.int va), .val (.int vb), .val (.int w_0_2), .unset] [(.int w_0_9)])) from Nw_0_9 _ rfl
  intro w_0_9 hw_0_9
  refine ogo (fun _ k => XS.istoreN X0.here hx rfl (hb hby at_31) rfl (l' := #[.val (.int va), .val (.int vb), .val (.int w_0_2), .val (.int w_0_9)]) rfl k) ?_
  show OGo _ _ _ _ (s₁.setTop (mkF m 32 #[.val (.int va), .val (.int vb), .val (.int w_0_2), .val (.int w_0_9)] []))
  refine ogo (fun _ k => XS.iloadN X0.here hx rfl (hb hby at_32) rfl k) ?_
  show OGo _ _ _ _ (s₁.setTop (mkF m 33 #[.val (.int va), .val (.int vb), .val (.int w_0_2), .val (.int w_0_9)] [(.int w_0_9)]))
  obtain ⟨T_0_10, X_0_10, e_0_10, st_0_10⟩ := ocallP X0 hx hZ e0 (rm1 l Z a0 hw w_0_9 ta tagF h0 S0 A0) hown (hw _ (List.mem_of_getElem? (i := 0) rfl)) (hw _ (List.mem_of_getElem? (i := 1) rfl)) (hw _ (List.mem_of_getElem? (i := 2) rfl)) (hw _ (List.mem_of_getElem? (i := 3) rfl)) (by decide) (g := (mkF m 33 #[.val (.int va), .val (.int vb), .val (.int w_0_2), .val (.int w_0_9)] [(.int w_0_9)])) rfl (by rw [hml]; rfl) [(.int w_0_9)] [] rfl (lenOf pd__I_I rfl) rfl (hb hby at_33) 0 (by show 2 * 0 + _ ≤ _; exact Nat.le_of_eq rfl) (by decide) (by decide) (by decide) (by decide) rfl rfl
  refine ogo (fun _ k => st_0_10 _ k) ?_
  show OGo _ _ _ _ (T_0_10.setTop (mkF m 36 #[.val (.int va), .val (.int vb), .val (.int w_0_2), .val (.int w_0_9)] [(.int (dtF w_0_9 tagF))]))
  refine ogo (fun _ k => XS.iloadN X_0_10.here hx rfl (hb hby at_36) rfl k) ?_
  show OGo _ _ _ _ (T_0_10.setTop (mkF m 37 #[.val (.int va), .val (.int vb), .val (.int w_0_2), .val (.int w_0_9)] [(.int w_0_9), (.int (dtF w_0_9 tagF))]))
  obtain ⟨T_0_11, X_0_11, e_0_11, st_0_11⟩ := ocallP X_0_10 hx hZ e_0_10 (rm2 l Z a0 hw w_0_9  h0 ) hown (hw _ (List.mem_of_getElem? (i := 4) rfl)) (hw _ (List.mem_of_getElem? (i := 5) rfl)) (hw _ (List.mem_of_getElem? (i := 6) rfl)) (hw _ (List.mem_of_getElem? (i := 7) rfl)) (by decide) (g := (mkF m 37 #[.val (.int va), .val (.int vb), .val (.int w_0_2), .val (.int w_0_9)] [(.int w_0_9), (.int (dtF w_0_9 tagF))])) rfl (by rw [hml]; rfl) [(.int w_0_9)] [(.int (dtF w_0_9 tagF))] rfl (lenOf pd__I_I rfl) rfl (hb hby at_37) 1 (by show 2 * 0 + _ ≤ _; exact Nat.le_of_eq rfl) (by decide) (by decide) (by decide) (by decide) rfl rfl
  refine ogo (fun _ k => st_0_11 _ k) ?_
  show OGo _ _ _ _ (T_0_11.setTop (mkF m 40 #[.val (.int va), .val (.int vb), .val (.int w_0_2), .val (.int w_0_9)] [(.int (expF w_0_9)), (.int (dtF w_0_9 tagF))]))
  suffices J_0_14 : ∀ (w_0_13 : Int32) (hw_0_13 : w_0_13 = (if (dtF w_0_9 tagF) = (expF w_0_9) then (1 : Int32) else (0 : Int32))), OGo p.tables e below (OFin s (fun v _ L => v = some (.int 1) ∧ Fr n0 L) 0 0) (T_0_11.setTop (mkF m 48 #[.val (.int va), .val (.int vb), .val (.int w_0_2), .val (.int w_0_9)] [(.int w_0_13)])) by
    by_cases hc_0_12 : (dtF w_0_9 tagF) = (expF w_0_9)
    · refine ogo (fun _ k => XS.icmpNo X_0_11.here hx rfl (hb hby at_40) rfl (teq hc_0_12).2 k) ?_
      show OGo _ _ _ _ (T_0_11.setTop (mkF m 43 #[.val (.int va), .val (.int vb), .val (.int w_0_2), .val (.int w_0_9)] []))
      refine ogo (fun _ k => XS.iconst X_0_11.here hx rfl (hb hby at_43) k) ?_
      show OGo _ _ _ _ (T_0_11.setTop (mkF m 44 #[.val (.int va), .val (.int vb), .val (.int w_0_2), .val (.int w_0_9)] [(.int (1 : Int32))]))
      refine ogo (fun _ k => XS.goto X_0_11.here hx rfl (pc0 := 44) (pc' := 48) rfl (hb hby at_44) (by decide) (by decide) k) ?_
      show OGo _ _ _ _ (T_0_11.setTop (mkF m 48 #[.val (.int va), .val (.int vb), .val (.int w_0_2), .val (.int w_0_9)] [(.int (1 : Int32))]))
      exact J_0_14 _ (if_pos hc_0_12).symm
    · refine ogo (fun _ k => XS.icmpYes X_0_11.here hx rfl (pc0 := 40) (pc' := 47) rfl (hb hby at_40) rfl (feq hc_0_12).2 (by decide) (by decide) k) ?_
      show OGo _ _ _ _ (T_0_11.setTop (mkF m 47 #[.val (.int va), .val (.int vb), .val (.int w_0_2), .val (.int w_0_9)] []))
      refine ogo (fun _ k => XS.iconst X_0_11.here hx rfl (hb hby at_47) k) ?_
      show OGo _ _ _ _ (T_0_11.setTop (mkF m 48 #[.val (.int va), .val (.int vb), .val (.int w_0_2), .val (.int w_0_9)] [(.int (0 : Int32))]))
      exact J_0_14 _ (if_neg hc_0_12).symm
  intro w_0_13 hw_0_13
  have hz : w_0_13 = (1 : Int32) := plain0 va vb w_0_2 hw_0_2 w_0_6 hw_0_6 w_0_9 hw_0_9 w_0_13 hw_0_13
  rw [hz]
  exact oret X_0_11 hx hlk Bd.returns rfl (Or.inl ⟨rfl, Or.inr (Or.inl rfl), _, rfl⟩) (hb hby at_48) (by decide) (by decide) ⟨rfl, N0⟩
set_option maxRecDepth 65536 in
set_option maxHeartbeats 40000000 in
theorem comes_1 {Post : Tables → Env → Array Value → State → Outcome → State → Prop} (hpost : ∀ tb e args s v u, (limb_1_1.after args s (.returned v) u = true ∧ limb_1_2.after args s (.returned v) u = true) → FrameEnd s (.returned v) u (Jvm.fieldLocs frame_1_writes args s ++ Jvm.arrayLocs frame_1_arrays args s ++ Jvm.staticLocs frame_1_statics s) 0 0 → Post tb e args s (.returned v) u) :
    ArmFor flags0 classFile x code maxLocals ret World_1 tables_1 room_1 Calls_1 rest_1 Pre_1 Post := by
  intro l hfl _ _ p e ha hc hk s m args below hf hA hF happ hP
  obtain ⟨hcalls, hrest, hpre⟩ := hP
  obtain ⟨-, -, -, hnamed, -, -, -, hat⟩ := (Spec.applies_iff hf).mp happ
  obtain ⟨hg, hn⟩ := and_e (Cond.before_iff.mp (show (Jvm.Cond.and given_1 narrow_1).before args s = true from hpre))
  obtain ⟨gc, g0⟩ := and_e hg
  obtain ⟨ga0, g1⟩ := and_e g0
  obtain ⟨w0, w1, rfl⟩ : ∃ w0 w1 : Value, args = #[w0, w1] := by
    have hs : args.size = 2 := by simpa [Cond.value, given_1] using gc
    obtain ⟨L⟩ := args
    match L, hs with
    | [w0, w1], _ => exact ⟨w0, w1, rfl⟩
  have hw := fun d (hd : d ∈ tables_1) => atoms_spec (ws := Jvm.Cond.code x code maxLocals ret :: tables_1) hat d (List.mem_cons_of_mem _ hd)
  have hfit : Fit s := fun {y c} hc i hi => by
    obtain ⟨ha, rfl⟩ := Array.getElem?_eq_some_iff.mp hc
    have q := List.all_eq_true.mp ((Array.all_eq_true_iff_forall_mem.mp hF) _ (Array.getElem_mem ha)) i (List.mem_range.mpr hi)
    simpa [Array.getElem?_eq_getElem hi] using q
  obtain ⟨i0, ei0⟩ := is_v ga0
  obtain rfl : w0 = (.int i0) := Option.some.inj ei0
  obtain ⟨i1, ei1⟩ := is_v g1
  obtain rfl : w1 = (.int i1) := Option.some.inj ei1
  obtain ⟨ta, et, A0⟩ := own_tab hn
  have S0 := Sta.start (C := "com/example/tidy_handshake/tidyhandshake/DataField") (n := "DATA_TAG_OF") (d := "[I") et (Or.inr ⟨(hw _ (List.mem_of_getElem? (i := 2) rfl)), (hw _ (List.mem_of_getElem? (i := 9) rfl))⟩)
  obtain ⟨n, o, h1, h2, h3, _, L, rfl, ⟨rfl, N⟩, hq⟩ := rm0 l s _ hw tables_1 i0 i1 s.heap s.heap.size (Nat.le_refl _) ta S0 A0 p e ha hc hk s m _ below hf ((Spec.applies_iff_loose hf).mp happ).1 ⟨rfl, State.Warmed39.refl s, rfl⟩ trivial
  exact ⟨n, _, h1, h2, h3, hpost _ _ _ _ _ _ ⟨Cond.after_iff.mpr rfl, Cond.after_iff.mpr (eq_i res_at (Term.int_eval (1)) rfl)⟩ ⟨hq.1, hq.2.1, (hq.2.2.sift fun y hy => Or.inr (N y hy)).mono (by decide) (by decide)⟩⟩
theorem main_1_1 : Claimed_1_1 := comes_1 fun _ _ _ _ _ _ h hF => ⟨h.1, hF⟩
theorem main_1_2 : Claimed_1_2 := comes_1 fun _ _ _ _ _ _ h hF => ⟨h.2, hF⟩
end Jvm.Pilot.@@N@@
namespace Jvm.Pilot.@@N@@
open Jvm Jvm.ClassFile Sem Op Lib Jvm.Free Jvm.Stand Jvm.Pilot.@@N@@.Jvm.D
/-! MADE BY PROGRAM (witnessworld.py) out of the Statement's table words and the real class files: 9 classes; the members and pool entries that the words name. The judged class is class 1, her method 2. -/
namespace start1
open Jvm.ClassFile
def u (s : String) : CpInfo := .utf8 (stringToUtf16 s)
/-- a pool by its gaps: so many unusable entries, then the entry; so many at the end -/
def gap : Nat → List CpInfo → List CpInfo
  | 0, r => r
  | n + 1, r => .unusable :: gap n r
def poolList (es : List (Nat × CpInfo)) (last : Nat) : List CpInfo := es.foldr (fun e r => gap e.1 (e.2 :: r)) (gap last [])
def pool (es : List (Nat × CpInfo)) (last : Nat) : Array CpInfo := ⟨poolList es last⟩
def fileOf (pool : Array CpInfo) (this : Nat) (attrs : Array Attribute := #[]) (ms : Array MethodInfo := #[]) (fl : Nat := 33) (sup : Nat := 0) (ifs : Array Nat := #[]) (fds : Array FieldInfo := #[]) : ClassFile where
  minorVersion := 0
  majorVersion := 65
  constantPool := pool
  accessFlags := fl
  thisClass := this
  superClass := sup
  interfaces := ifs
  fields := fds
  methods := ms
  attributes := attrs
def plain (name : String) (sup : Option ClassId) : Class where
  name := name
  kind := .ordinary
  loader := none
  accessFlags := 33
  super := sup
  interfaces := #[]
  cf := none
  fields := #[]
  methods := #[]
  instanceTypes := #[]
  staticTypes := #[]
  resolved := #[]
  callSites := []
  init := .initialized
  statics := none
  mirror := none

def pool0 : Array CpInfo := pool [(5, u "<init>"), (0, u "()V"), (1, .class_ 10), (1, u "java/lang/Object")] 113

def k0m0 : Method := { name := "<init>", desc := "()V", sig := { parameters := [], returnType := none }, accessFlags := 1, code := none }
/-- java/lang/Object -/
def k0 : Class := { plain "java/lang/Object" none with
  accessFlags := 33
  interfaces := #[]
  cf := some (fileOf pool0 8 #[] #[{ accessFlags := 1, nameIndex := 5, descriptorIndex := 6, attributes := #[] }] 33 0 #[] #[])
  fields := #[]
  methods := #[k0m0]
  instanceTypes := #[]
  staticTypes := #[]
  resolved := Array.replicate 124 none
  statics := none }

def pool1 : Array CpInfo := pool [(2, .class_ 4), (1, u "java/lang/Object"), (0, u "<init>"), (0, u "()V"), (0, .integer 2147483647), (0, .methodref 9 10), (0, .class_ 11), (0, .nameAndType 12 13), (0, u "com/example/tidy_handshake/tidyhandshake/DataField"), (0, u "dataTagOf"), (0, u "(I)I"), (0, .methodref 15 16), (0, .class_ 17), (0, .nameAndType 18 13), (0, u "com/example/tidy_handshake/tidyhandshake/DataFieldDataTagOfPinLaw"), (0, u "expected"), (3, u "law"), (0, u "(II)Z")] 2

def k1m0 : Method := { name := "<init>", desc := "()V", sig := { parameters := [], returnType := none }, accessFlags := 2, code := none }
def k1c1 : Code := { maxStack := 2, maxLocals := 1, code := method_2_code, exceptionTable := #[], attributes := #[] }
def k1m1 : Method := { name := "expected", desc := "(I)I", sig := { parameters := [.int], returnType := some .int }, accessFlags := 10, code := some k1c1 }
def k1c2 : Code := { maxStack := 2, maxLocals := 4, code := code, exceptionTable := #[], attributes := #[] }
def k1m2 : Method := { name := "law", desc := "(II)Z", sig := { parameters := [.int, .int], returnType := some .boolean }, accessFlags := 9, code := some k1c2 }
/-- com/example/tidy_handshake/tidyhandshake/DataFieldDataTagOfPinLaw -/
def k1 : Class := { plain "com/example/tidy_handshake/tidyhandshake/DataFieldDataTagOfPinLaw" (some 0) with
  accessFlags := 49
  interfaces := #[]
  cf := some (fileOf pool1 15 #[] #[{ accessFlags := 2, nameIndex := 5, descriptorIndex := 6, attributes := #[] }, { accessFlags := 10, nameIndex := 18, descriptorIndex := 13, attributes := #[] }, { accessFlags := 9, nameIndex := 22, descriptorIndex := 23, attributes := #[] }] 49 2 #[] #[])
  fields := #[]
  methods := #[k1m0, k1m1, k1m2]
  instanceTypes := #[]
  staticTypes := #[]
  resolved := Array.replicate 26 none
  statics := none }

def pool2 : Array CpInfo := pool [(2, .class_ 4), (1, u "java/lang/Object"), (0, u "<init>"), (0, u "()V"), (0, .class_ 8), (0, u "com/example/tidy_handshake/tidyhandshake/DataField"), (8, u "LENGTH_THEN_DATA"), (0, u "[I"), (2, u "LENGTH_TAG_OF"), (0, .fieldref 7 23), (0, .nameAndType 24 18), (0, u "DATA_TAG_OF"), (4, u "LISTED_TAGS"), (0, u "I"), (7, u "(I)I"), (0, u "dataTagOf")] 3

def k2m0 : Method := { name := "<init>", desc := "()V", sig := { parameters := [], returnType := none }, accessFlags := 2, code := none }
def k2c1 : Code := { maxStack := 2, maxLocals := 1, code := prog_3_method_4_code, exceptionTable := #[], attributes := #[] }
def k2m1 : Method := { name := "dataTagOf", desc := "(I)I", sig := { parameters := [.int], returnType := some .int }, accessFlags := 8, code := some k2c1 }
/-- com/example/tidy_handshake/tidyhandshake/DataField -/
def k2 : Class := { plain "com/example/tidy_handshake/tidyhandshake/DataField" (some 0) with
  accessFlags := 32
  interfaces := #[]
  cf := some (fileOf pool2 7 #[] #[{ accessFlags := 2, nameIndex := 5, descriptorIndex := 6, attributes := #[] }, { accessFlags := 8, nameIndex := 39, descriptorIndex := 38, attributes := #[] }] 32 2 #[] #[{ accessFlags := 26, nameIndex := 17, descriptorIndex := 18, attributes := #[] }, { accessFlags := 26, nameIndex := 29, descriptorIndex := 30, attributes := #[] }, { accessFlags := 26, nameIndex := 21, descriptorIndex := 18, attributes := #[] }, { accessFlags := 26, nameIndex := 24, descriptorIndex := 18, attributes := #[] }])
  fields := #[{ name := "LENGTH_THEN_DATA", type := (.array .int), accessFlags := 26, slot := 0, constantValue := 0 }, { name := "LISTED_TAGS", type := .int, accessFlags := 26, slot := 1, constantValue := 0 }, { name := "LENGTH_TAG_OF", type := (.array .int), accessFlags := 26, slot := 2, constantValue := 0 }, { name := "DATA_TAG_OF", type := (.array .int), accessFlags := 26, slot := 3, constantValue := 0 }]
  methods := #[k2m0, k2m1]
  instanceTypes := #[]
  staticTypes := #[(.array .int), .int, (.array .int), (.array .int)]
  resolved := Array.replicate 43 none
  statics := some 0 }

def pool3 : Array CpInfo := pool [(1, u "java/lang/Cloneable"), (0, .class_ 1), (0, u "java/lang/Object"), (0, .class_ 3)] 3

/-- java/lang/Cloneable -/
def k3 : Class := { plain "java/lang/Cloneable" (some 0) with
  accessFlags := 1537
  interfaces := #[]
  cf := some (fileOf pool3 2 #[] #[] 1537 4 #[] #[])
  fields := #[]
  methods := #[]
  instanceTypes := #[]
  staticTypes := #[]
  resolved := Array.replicate 8 none
  statics := none }

def pool4 : Array CpInfo := pool [(1, u "java/io/Serializable"), (0, .class_ 1), (0, u "java/lang/Object"), (0, .class_ 3)] 3

/-- java/io/Serializable -/
def k4 : Class := { plain "java/io/Serializable" (some 0) with
  accessFlags := 1537
  interfaces := #[]
  cf := some (fileOf pool4 2 #[] #[] 1537 4 #[] #[])
  fields := #[]
  methods := #[]
  instanceTypes := #[]
  staticTypes := #[]
  resolved := Array.replicate 8 none
  statics := none }

/-- the primitive byte -/
def k5 : Class := { plain "byte" none with kind := .primitive 'B', accessFlags := 0x411 }
/-- [B -/
def k6 : Class := { plain "[B" (some 0) with kind := .array 5 .byte, interfaces := #[3, 4], accessFlags := 1041 }

/-- the primitive int -/
def k7 : Class := { plain "int" none with kind := .primitive 'I', accessFlags := 0x411 }
/-- [I -/
def k8 : Class := { plain "[I" (some 0) with kind := .array 7 .int, interfaces := #[3, 4], accessFlags := 1041 }

def heap : Heap := #[{ cls := 2, slots := #[.null, .int 0, .null, .ref 1], vm := .statics 2 },
  { cls := 8, slots := #[.int (-1), .int (-1), .int (-1), .int (-1), .int (-1), .int (-1), .int (-1), .int (-1), .int (-1), .int (-1), .int (-1), .int (-1), .int (-1), .int (-1), .int (-1), .int (-1), .int (-1), .int (-1), .int (-1), .int (-1), .int (-1), .int (-1), .int (-1), .int (-1), .int (-1), .int (-1), .int (-1), .int (-1), .int (-1), .int (-1), .int (-1), .int (-1), .int (-1), .int (-1), .int (-1), .int (-1), .int (-1), .int (-1), .int (-1), .int (-1), .int (-1), .int (-1), .int (-1), .int (-1), .int (-1), .int (-1), .int (-1), .int (-1), .int (-1), .int (-1), .int (-1), .int (-1), .int (-1), .int (-1), .int (-1), .int (-1), .int (-1), .int (-1), .int (-1), .int (-1), .int (-1), .int (-1), .int (-1), .int (-1), .int (-1), .int (-1), .int (-1), .int (-1), .int (-1), .int (-1), .int (-1), .int (-1), .int (-1), .int (-1), .int (-1), .int (-1), .int (-1), .int (-1), .int (-1), .int (-1), .int (-1), .int (-1), .int (-1), .int (-1), .int (-1), .int (-1), .int (-1), .int (-1), .int (-1), .int (-1), .int 91, .int (-1), .int (-1), .int 89, .int (-1), .int 96, .int (-1), .int (-1), .int (-1), .int (-1), .int (-1), .int (-1), .int (-1), .int (-1), .int (-1), .int (-1), .int (-1), .int (-1), .int (-1), .int (-1), .int (-1), .int (-1), .int (-1), .int (-1), .int (-1), .int (-1), .int (-1), .int (-1), .int (-1), .int (-1), .int (-1), .int (-1), .int (-1), .int (-1), .int (-1), .int (-1), .int (-1), .int (-1), .int (-1), .int (-1), .int (-1), .int (-1), .int (-1), .int (-1), .int (-1), .int (-1), .int (-1), .int (-1), .int (-1), .int (-1), .int (-1), .int (-1), .int (-1), .int (-1), .int (-1), .int (-1), .int (-1), .int (-1), .int (-1), .int (-1), .int (-1), .int (-1), .int (-1), .int (-1), .int (-1), .int (-1), .int (-1), .int (-1), .int (-1), .int (-1), .int (-1), .int (-1), .int (-1), .int (-1), .int (-1), .int (-1), .int (-1), .int (-1), .int (-1), .int (-1), .int (-1), .int (-1), .int (-1), .int (-1), .int (-1), .int (-1), .int (-1), .int (-1), .int (-1), .int (-1), .int (-1), .int (-1), .int (-1), .int (-1), .int (-1), .int (-1), .int (-1), .int (-1), .int (-1), .int (-1), .int (-1), .int (-1), .int (-1), .int (-1), .int (-1), .int (-1), .int (-1), .int (-1), .int (-1), .int (-1), .int (-1), .int (-1), .int (-1), .int (-1), .int (-1), .int (-1), .int (-1), .int (-1), .int (-1), .int (-1), .int (-1), .int (-1), .int 213, .int (-1), .int (-1), .int (-1), .int (-1), .int (-1), .int (-1), .int (-1), .int (-1), .int (-1), .int (-1), .int (-1), .int (-1), .int (-1), .int (-1), .int (-1), .int (-1), .int (-1), .int (-1), .int (-1), .int (-1), .int (-1), .int (-1), .int (-1), .int (-1), .int (-1), .int (-1), .int (-1), .int (-1), .int (-1), .int (-1), .int (-1), .int (-1), .int (-1), .int (-1), .int (-1), .int (-1), .int (-1), .int (-1), .int (-1), .int (-1), .int (-1), .int (-1), .int (-1), .int (-1), .int (-1), .int (-1), .int (-1), .int (-1), .int (-1), .int (-1), .int (-1), .int (-1), .int (-1), .int (-1), .int (-1), .int (-1), .int (-1), .int (-1), .int (-1), .int (-1), .int (-1), .int (-1), .int (-1), .int (-1), .int (-1), .int (-1), .int (-1), .int (-1), .int (-1), .int (-1), .int (-1), .int (-1), .int (-1), .int (-1), .int (-1), .int (-1), .int (-1), .int (-1), .int (-1), .int (-1), .int (-1), .int (-1), .int (-1), .int (-1), .int (-1), .int (-1), .int (-1), .int (-1), .int (-1), .int (-1), .int (-1), .int (-1), .int (-1), .int (-1), .int (-1), .int (-1), .int (-1), .int (-1), .int (-1), .int (-1), .int (-1), .int (-1), .int (-1), .int (-1), .int (-1), .int (-1), .int (-1), .int (-1), .int (-1), .int (-1), .int (-1), .int (-1), .int (-1), .int (-1), .int (-1), .int (-1), .int (-1), .int (-1), .int (-1), .int (-1), .int (-1), .int (-1), .int (-1), .int (-1), .int (-1), .int (-1), .int (-1), .int (-1), .int (-1), .int (-1), .int (-1), .int (-1), .int (-1), .int (-1), .int (-1), .int 349, .int (-1), .int 351, .int (-1), .int 353, .int (-1), .int 355, .int (-1), .int 357, .int (-1), .int 359, .int (-1), .int 361, .int (-1), .int 363, .int (-1), .int 365, .int (-1), .int (-1), .int (-1), .int (-1), .int (-1), .int (-1), .int (-1), .int (-1), .int (-1), .int (-1), .int (-1), .int (-1), .int (-1), .int (-1), .int (-1), .int (-1), .int (-1), .int (-1), .int (-1), .int (-1), .int (-1), .int (-1), .int (-1), .int (-1), .int (-1), .int (-1), .int (-1), .int (-1), .int (-1), .int (-1), .int (-1), .int (-1), .int (-1), .int (-1), .int (-1), .int (-1), .int (-1), .int (-1), .int (-1), .int (-1), .int (-1), .int (-1), .int (-1), .int (-1), .int (-1), .int (-1), .int (-1), .int (-1), .int (-1), .int (-1), .int (-1), .int (-1), .int (-1), .int (-1), .int (-1), .int (-1), .int (-1), .int (-1), .int (-1), .int (-1), .int (-1), .int (-1), .int (-1), .int (-1), .int (-1), .int (-1), .int (-1), .int (-1), .int (-1), .int (-1), .int (-1), .int (-1), .int (-1), .int (-1), .int (-1), .int (-1), .int (-1), .int (-1), .int (-1), .int (-1), .int 446, .int (-1), .int (-1), .int (-1), .int (-1), .int (-1), .int (-1), .int (-1), .int (-1), .int (-1), .int (-1), .int (-1), .int (-1), .int (-1), .int (-1), .int (-1), .int (-1), .int (-1), .int (-1), .int (-1), .int (-1), .int (-1), .int (-1), .int (-1), .int (-1), .int (-1), .int (-1), .int (-1), .int (-1), .int (-1), .int (-1), .int (-1), .int (-1), .int (-1), .int (-1), .int (-1), .int (-1), .int (-1), .int (-1), .int (-1), .int (-1), .int (-1), .int (-1), .int (-1), .int (-1), .int (-1), .int (-1), .int (-1), .int (-1), .int (-1), .int (-1), .int (-1), .int (-1), .int (-1), .int (-1), .int (-1), .int (-1), .int (-1), .int (-1), .int (-1), .int (-1), .int (-1), .int (-1), .int (-1), .int (-1), .int (-1), .int (-1), .int (-1), .int (-1), .int (-1), .int (-1), .int (-1), .int (-1), .int (-1), .int (-1), .int (-1), .int (-1), .int (-1), .int (-1), .int (-1), .int (-1), .int (-1), .int (-1), .int (-1), .int (-1), .int (-1), .int (-1), .int (-1), .int (-1), .int (-1), .int (-1), .int (-1), .int (-1), .int (-1), .int (-1), .int (-1), .int (-1), .int (-1), .int (-1), .int (-1), .int (-1), .int (-1), .int (-1), .int (-1), .int (-1), .int (-1), .int (-1), .int (-1), .int (-1), .int (-1), .int (-1), .int (-1), .int (-1), .int (-1), .int (-1), .int (-1), .int (-1), .int (-1), .int (-1), .int (-1), .int (-1), .int (-1), .int (-1), .int (-1), .int (-1), .int (-1), .int (-1), .int (-1), .int (-1), .int (-1), .int (-1), .int (-1), .int (-1), .int (-1), .int (-1), .int (-1), .int (-1), .int (-1), .int (-1), .int (-1), .int (-1), .int (-1), .int (-1), .int (-1), .int (-1), .int (-1), .int (-1), .int (-1), .int (-1), .int (-1), .int (-1), .int (-1), .int (-1), .int (-1), .int (-1), .int (-1), .int (-1), .int (-1), .int (-1), .int (-1), .int (-1), .int (-1), .int (-1), .int (-1), .int (-1), .int (-1), .int (-1), .int (-1), .int (-1), .int (-1), .int (-1), .int (-1), .int (-1), .int 619, .int (-1), .int (-1), .int 622, .int (-1)], vm := .none }]
def classes : Array Class := #[k0, k1, k2, k3, k4, k5, k6, k7, k8]
def interned : List (Array UInt16 × Addr) := []
def slotsUsed : Nat := 627
def theMethod : MethodId := ⟨1, 2⟩
def args0 : Array Value := #[.int 90, .int 1]
def aboutOver (below : List Frame) : State where
  vm := { classes := classes, interned := interned.toArray }
  heap := heap
  slotsUsed := slotsUsed
  threads := #[{ frames := .invoking theMethod args0 :: below }]
def below0 : List Frame := [.native { method := ⟨0, 0⟩, args := #[] }]
def about1 : State := aboutOver below0
def p0 : Program := .bare "" "" ""
def e0 : Env := launch0.env 0 0 0
theorem w_frames : about1.frames = Frame.invoking theMethod args0 :: below0 := rfl
set_option maxRecDepth 65536 in
theorem w_args : argsFit about1.vm theMethod args0 = true := by decide +kernel
set_option maxRecDepth 65536 in
theorem w_heap : heapFits about1 = true := by decide +kernel
set_option maxRecDepth 65536 in
theorem w_runnable : about1.curStatus? = some .runnable := by decide +kernel
set_option maxRecDepth 65536 in
theorem w_alone : about1.alone = true := by decide +kernel
set_option maxRecDepth 65536 in
theorem w_named : about1.methodNamed? x = some theMethod := by decide +kernel
set_option maxRecDepth 65536 in
theorem w_hears : about1.hears theMethod below0 = true := by decide +kernel
set_option maxRecDepth 65536 in
theorem w_ripe : about1.ripe theMethod args0 below0 = true := by decide +kernel
theorem w_running : about1.status = .running := rfl
set_option maxRecDepth 65536 in
theorem w_room : about1.hasRoom e0.platform room_1 = true :=
  launch0.hasRoom_least _ room_1 (by decide +kernel) (by decide +kernel) (by decide +kernel) (by decide +kernel) (by decide +kernel) (by decide +kernel)
theorem allAtoms_all (ts : List Jvm.Cond) (a : Array Jvm.Value) (st : Jvm.State) : (allAtoms ts).before a st = ts.all (fun c => c.before a st) := by
  induction ts with
  | nil => rfl
  | cons c t ih =>
    show (Jvm.Cond.and c (allAtoms t)).before a st = _
    rw [Jvm.Cond.before_and, ih, List.all_cons]
def words1 : List Jvm.Cond := Jvm.Cond.code x code maxLocals ret :: tables_1
/-- a 'code' word, met by the world's own term for the bytes: nothing is compared byte by byte -/
theorem code_word {y : MethodName} {bytes : ByteArray} {mx : Nat} {rt : Option FieldType} {a : Array Value} {s : State} {m : MethodId} {meth : Method} {c : Code} (h1 : s.methodNamed? y = some m) (h2 : s.vm.method? m = some meth) (h3 : meth.code = some c) (h4 : c.code = bytes)
    (h5 : (c.maxLocals == mx && c.exceptionTable.isEmpty && decide (c.maxStack ≤ mostOperands) && decide (meth.sig.returnType = rt) && !meth.locks && decide (parseMethodDescriptor y.desc = some meth.sig)) = true) : (Jvm.Cond.code y bytes mx rt).before a s = true := by
  simp only [Bool.and_eq_true, beq_iff_eq, Bool.not_eq_true', decide_eq_true_eq] at h5
  obtain ⟨⟨⟨⟨⟨g1, g2⟩, g3⟩, g4⟩, g5⟩, g6⟩ := h5
  simp [Cond.before, Cond.holds, Cond.value, h1, h2, h3, h4, g1, g2, g3, g4, g5, g6]
def isCode : Jvm.Cond → Bool
  | .code _ _ _ _ => true
  | _ => false
theorem all_split {L : List Jvm.Cond} {P : Jvm.Cond → Bool} (h1 : L.all (fun c => isCode c || P c) = true) (h2 : ∀ c ∈ L.filter isCode, P c = true) : L.all P = true := by
  refine List.all_eq_true.mpr fun c hc => ?_
  have h := List.all_eq_true.mp h1 c hc
  rcases Bool.eq_false_or_eq_true (isCode c) with hi | hi
  · exact h2 c (List.mem_filter.mpr ⟨hc, hi⟩)
  · simpa [hi] using h
set_option maxRecDepth 65536 in
theorem w_c0 : (Jvm.Cond.code x code maxLocals ret).before args0 about1 = true := code_word (m := ⟨1, 2⟩) (meth := k1m2) (c := k1c2) (by decide +kernel) rfl rfl rfl (by decide +kernel)
set_option maxRecDepth 65536 in
theorem w_c1 : (Jvm.Cond.code ({ cls := "com/example/tidy_handshake/tidyhandshake/DataField", name := "dataTagOf", desc := "(I)I" } : Jvm.MethodName) prog_3_method_4_code (1 : Nat) (Option.some Jvm.ClassFile.FieldType.int)).before args0 about1 = true := code_word (m := ⟨2, 1⟩) (meth := k2m1) (c := k2c1) (by decide +kernel) rfl rfl rfl (by decide +kernel)
set_option maxRecDepth 65536 in
theorem w_c2 : (Jvm.Cond.code ({ cls := "com/example/tidy_handshake/tidyhandshake/DataFieldDataTagOfPinLaw", name := "expected", desc := "(I)I" } : Jvm.MethodName) method_2_code (1 : Nat) (Option.some Jvm.ClassFile.FieldType.int)).before args0 about1 = true := code_word (m := ⟨1, 1⟩) (meth := k1m1) (c := k1c1) (by decide +kernel) rfl rfl rfl (by decide +kernel)
def codes1 : List Jvm.Cond := [Jvm.Cond.code x code maxLocals ret, Jvm.Cond.code ({ cls := "com/example/tidy_handshake/tidyhandshake/DataField", name := "dataTagOf", desc := "(I)I" } : Jvm.MethodName) prog_3_method_4_code (1 : Nat) (Option.some Jvm.ClassFile.FieldType.int), Jvm.Cond.code ({ cls := "com/example/tidy_handshake/tidyhandshake/DataFieldDataTagOfPinLaw", name := "expected", desc := "(I)I" } : Jvm.MethodName) method_2_code (1 : Nat) (Option.some Jvm.ClassFile.FieldType.int)]
set_option maxRecDepth 65536 in
theorem codes_eq : words1.filter isCode = codes1 := rfl
theorem w_codes : ∀ c ∈ words1.filter isCode, c.before args0 about1 = true := by
  rw [codes_eq]
  intro c hc
  simp only [codes1, List.mem_cons, List.not_mem_nil, or_false] at hc
  rcases hc with rfl | rfl | rfl
  · exact w_c0
  · exact w_c1
  · exact w_c2
set_option maxRecDepth 65536 in
theorem w_t1 : words1.all (fun c => isCode c || c.before args0 about1) = true := by decide +kernel
theorem w_tables : (allAtoms (Jvm.Cond.code x code maxLocals ret :: tables_1)).before args0 about1 = true := by
  rw [allAtoms_all]
  show words1.all (fun c => c.before args0 about1) = true
  refine all_split ?_ w_codes
  rw [w_t1]
set_option maxRecDepth 65536 in
theorem w_case : (Jvm.Cond.and given_1 narrow_1).before args0 about1 = true := by decide +kernel
theorem w_applies : (headSpec (Jvm.Cond.code x code maxLocals ret :: tables_1) room_1).applies x e0.platform about1 = true :=
  (Spec.applies_iff w_frames).mpr ⟨w_running, w_runnable, w_alone, w_named, w_hears, w_ripe, w_room, w_tables⟩
theorem atStart : AtStart classFile x code maxLocals ret World_1 tables_1 room_1 Calls_1 rest_1 Pre_1 launch0 p0 e0 about1 theMethod args0 below0 :=
  ⟨lists_1, trivial, launch0.admits_env _ _ _, launch0.least_env, fairChoices_fair.cas, fairChoices_fair.clock, w_frames, w_args, w_heap, w_applies, trivial, trivial, w_case⟩
end start1
theorem witness_1 : WitnessClaimed_1 := ⟨start1.p0, start1.e0, start1.about1, start1.theMethod, start1.args0, start1.below0, start1.atStart⟩
end Jvm.Pilot.@@N@@
