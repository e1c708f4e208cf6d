import JvmDerived
import JvmDerived.Pilot.@@N@@Statement
import JvmDerived.Pilot.@@N@@Code
set_option linter.unusedVariables false
set_option linter.unusedSimpArgs false
namespace Jvm.OwnKit
open Sem ClassFile Op Lib Jvm.Stand Jvm.Free Jvm.LawKit Jvm.RoadKit
section OwnGo
variable {p : Program} {l : Launch} {e : Env} {R : Room} {s : State} {m : MethodId} {args : Array Value} {below : List Frame} {meth : Method} {c : Code} {T : State} {locs : List Loc} {cells slots : Nat} {Z : State} {a0 : Array Value} {h : Heap}
/-- from the state t the run comes to an end of which P holds -/
def OGo (tb : Tables) (e : Env) (below : List Frame) (P : Outcome → State → Prop) (t : State) : Prop :=
  ∃ s₂ o, Steps tb e below t s₂ ∧ s₂.status = .running ∧ Ended s₂ below o ∧ P o s₂
theorem ogo {tb : Tables} {P : Outcome → State → Prop} {t t' : State} (k : ∀ u, Steps tb e below t' u → Steps tb e below t u) (g : OGo tb e below P t') : OGo tb e below P t := by
  obtain ⟨s₂, o, h1, h2⟩ := g
  exact ⟨s₂, o, k _ h1, h2⟩
theorem ogoT {tb : Tables} {P : Outcome → State → Prop} {t t' : State} (k : Steps tb e below t t') (g : OGo tb e below P t') : OGo tb e below P t := ogo (fun _ q => k.trans q) g
/-- the end of a body: returned, the heap as Q says, the frame kept -/
abbrev OFin (s : State) (Q : Option Value → Heap → List Loc → Prop) (K N : Nat) : Outcome → State → Prop :=
  fun o U => ∃ v L, o = .returned v ∧ Q v U.heap L ∧ FrameEnd s o U L K N
/-- a body's contract -/
def OMet (l : Launch) (Z : State) (y : MethodName) (bytes : ByteArray) (maxL : Nat) (ret : Option FieldType) (rm : Room) (as : Array Value) (h : Heap) (Q : Option Value → Heap → List Loc → Prop) : Prop :=
  ∀ ws : List Jvm.Cond, MetFree l y (head1 (Jvm.Cond.code y bytes maxL ret :: ws) rm) (fun a U => a = as ∧ Z.Warmed39 U.vm ∧ U.heap = h) (fun _ _ _ _ _ => True) (fun _ U o U' => ∃ v L, o = .returned v ∧ Q v U'.heap L ∧ FrameEnd U o U' L rm.cells rm.slots)
/-- a body that returns w and writes nothing -/
abbrev OPure (w : Option Value) (h : Heap) : Option Value → Heap → List Loc → Prop := fun v h' L => v = w ∧ L = [] ∧ h' = h
theorem oret (X : Stand p l e R s m args below meth c T locs cells slots) (hx : p.tables.exec = Jvm.exec) (hlk : meth.locks = false) {pc : Nat} {Ls : Array Slot} {w : Value} {t : FieldType} {i : Instr} {rest : List Value} (hret : meth.sig.returnType = some t) (hn : narrow t w = w)
    (hi : (i = .ireturn ∧ (t = .int ∨ t = .boolean ∨ t = .byte ∨ t = .char ∨ t = .short) ∧ ∃ z, w = .int z) ∨ (i = .lreturn ∧ t = .long ∧ ∃ z, w = .long z) ∨ (i = .dreturn ∧ t = .double ∧ ∃ z, w = .double z) ∨ (i = .freturn ∧ t = .float ∧ ∃ z, w = .float z) ∨ (i = .areturn ∧ t.isReference = true ∧ w.isRef = true))
    (hd : decode c.code pc = .ok (i, 1)) {K N : Nat} (hk : cells ≤ K) (hs : slots ≤ N) {Q : Option Value → Heap → List Loc → Prop} (hQ : Q (some w) T.heap locs) :
    OGo p.tables e below (OFin s Q K N) (T.setTop (mkF m pc Ls (w :: rest))) := by
  obtain ⟨fs, hr, hrun, hended, hW, hsame⟩ := X.leave (v := some w) (fun h => by rw [hret] at h; cases h) hlk
  exact ⟨_, _, retOut X hx hret hn hi hd hr, hrun, hended, _, _, rfl, hQ, ⟨_, rfl⟩, hW, hsame.mono hk hs⟩
theorem oretV (X : Stand p l e R s m args below meth c T locs cells slots) (hx : p.tables.exec = Jvm.exec) (hlk : meth.locks = false) {pc : Nat} {Ls : Array Slot} (hret : meth.sig.returnType = none)
    (hd : decode c.code pc = .ok (.return_, 1)) {K N : Nat} (hk : cells ≤ K) (hs : slots ≤ N) {Q : Option Value → Heap → List Loc → Prop} (hQ : Q none T.heap locs) :
    OGo p.tables e below (OFin s Q K N) (T.setTop (mkF m pc Ls [])) := by
  obtain ⟨fs, hr, hrun, hended, hW, hsame⟩ := X.leave (v := none) (fun _ => rfl) hlk
  exact ⟨_, _, X.returnOut hx hret hd hr, hrun, hended, _, _, rfl, hQ, ⟨_, rfl⟩, hW, hsame.mono hk hs⟩
abbrev OPlain (y : MethodName) : Prop := y.cls ≠ "java/lang/invoke/MethodHandle" ∧ y.cls ≠ "java/lang/invoke/VarHandle"
/-- a static call by its contract -/
theorem ocallQ (X : Stand p l e R s m args below meth c T locs cells slots) (hx : p.tables.exec = Jvm.exec) (hZ : Z.Warmed39 s.vm) (eT : T.heap = h) {own : String} {index : Nat} {y : MethodName} {bytes : ByteArray} {maxL : Nat} {ret : Option FieldType} {rm : Room} {as : Array Value} {Q : Option Value → Heap → List Loc → Prop} (hM : OMet l Z y bytes maxL ret rm as h Q)
    (hown : s.vm.findClass own = some m.cls) (w1 : (Jvm.Cond.methodLink own index y).before a0 Z = true) (w2 : (Jvm.Cond.static y).before a0 Z = true) (w3 : (Jvm.Cond.initialized y.cls).before a0 Z = true) (w4 : (Jvm.Cond.code y bytes maxL ret).before a0 Z = true) (hy : OPlain y)
    {g : JFrame} (hg : g.method = m) (hsize : g.locals.size = c.maxLocals) (argsL rest : List Value) (has : argsL.toArray = as) (hlen : ∀ sig, parseMethodDescriptor y.desc = some sig → argsL.length = sig.parameters.length) (hstack : g.stack = argsL.reverse ++ rest) (hdg : decode c.code g.pc = .ok (.invokestatic index, 3))
    (W : Nat) (hW : 2 * g.monitorRoom + (rest.map fun v => v.category).sum ≤ W) (hf : rm.frames + 1 ≤ R.frames) (hl : W + (maxL + 11) + rm.locals ≤ R.locals) (hc : cells + rm.cells ≤ R.cells) (hs : slots + rm.slots ≤ R.slots) :
    ∃ (v : Option Value) (T' : State) (h' : Heap) (L : List Loc), T'.heap = h' ∧ Q v h' L ∧ Stand p l e R s m args below meth c T' (locs ++ L) (cells + rm.cells) (slots + rm.slots) ∧
      ∀ target, Steps p.tables e below (T'.setTop { g with pc := g.pc + 3, stack := v.toList ++ rest }) target → Steps p.tables e below (T.setTop g) target := by
  obtain ⟨v, vm₁, ⟨T', L', k', n'⟩, -, X', ⟨L, hQ, l1, l2, l3⟩, st⟩ := Jvm.LawKit.callS X hx (y := y) hown (mvT hZ w1) (mvT hZ w2) (mvT hZ w3) (mvT hZ w4) hy (backOf (W := W) (hM []) hZ w4 w3 hf hl) (g := g) hg hsize (argsL := argsL) (rest := rest) hlen hstack hW hdg (fun _ _ => ⟨has, eT, hc, hs⟩)
  dsimp only [Pt.U, Pt.locs, Pt.cells, Pt.slots] at X' l1 l2 l3 st hQ
  subst l1 l2 l3
  exact ⟨v, T', _, L, rfl, hQ, X', st⟩
/-- a static call of a body that writes nothing -/
theorem ocallP (X : Stand p l e R s m args below meth c T locs cells slots) (hx : p.tables.exec = Jvm.exec) (hZ : Z.Warmed39 s.vm) (eT : T.heap = h) {own : String} {index : Nat} {y : MethodName} {bytes : ByteArray} {maxL : Nat} {ret : Option FieldType} {rm : Room} {as : Array Value} {w : Option Value} (hM : OMet l Z y bytes maxL ret rm as h (OPure w h))
    (hown : s.vm.findClass own = some m.cls) (w1 : (Jvm.Cond.methodLink own index y).before a0 Z = true) (w2 : (Jvm.Cond.static y).before a0 Z = true) (w3 : (Jvm.Cond.initialized y.cls).before a0 Z = true) (w4 : (Jvm.Cond.code y bytes maxL ret).before a0 Z = true) (hy : OPlain y)
    {g : JFrame} (hg : g.method = m) (hsize : g.locals.size = c.maxLocals) (argsL rest : List Value) (has : argsL.toArray = as) (hlen : ∀ sig, parseMethodDescriptor y.desc = some sig → argsL.length = sig.parameters.length) (hstack : g.stack = argsL.reverse ++ rest) (hdg : decode c.code g.pc = .ok (.invokestatic index, 3))
    (W : Nat) (hW : 2 * g.monitorRoom + (rest.map fun v => v.category).sum ≤ W) (hf : rm.frames + 1 ≤ R.frames) (hl : W + (maxL + 11) + rm.locals ≤ R.locals) (hc : cells + rm.cells ≤ R.cells) (hs : slots + rm.slots ≤ R.slots) (z1 : rm.cells = 0) (z2 : rm.slots = 0) :
    ∃ T' : State, Stand p l e R s m args below meth c T' locs cells slots ∧ T'.heap = h ∧
      ∀ target, Steps p.tables e below (T'.setTop { g with pc := g.pc + 3, stack := w.toList ++ rest }) target → Steps p.tables e below (T.setTop g) target := by
  obtain ⟨v, T', h', L, e2, ⟨rfl, rfl, e'⟩, X', st⟩ := ocallQ X hx hZ eT hM hown w1 w2 w3 w4 hy hg hsize argsL rest has hlen hstack hdg W hW hf hl hc hs
  rw [z1, z2, List.append_nil] at X'
  exact ⟨T', X', e2.trans e', st⟩
/-- an instance call by its contract -/
theorem ovirtQ (X : Stand p l e R s m args below meth c T locs cells slots) (hx : p.tables.exec = Jvm.exec) (hZ : Z.Warmed39 s.vm) (eT : T.heap = h) {own C : String} {index : Nat} {y : MethodName} {bytes : ByteArray} {maxL : Nat} {ret : Option FieldType} {rm : Room} {as : Array Value} {Q : Option Value → Heap → List Loc → Prop} (hM : OMet l Z y bytes maxL ret rm as h Q)
    (hown : s.vm.findClass own = some m.cls) (w1 : (Jvm.Cond.methodLink own index y).before a0 Z = true) (w2 : (Jvm.Cond.declares y).before a0 Z = true) (w3 : (Jvm.Cond.selects C y y).before a0 Z = true) (w4 : (Jvm.Cond.instanceMethod y).before a0 Z = true) (w5 : (Jvm.Cond.initialized y.cls).before a0 Z = true) (w6 : (Jvm.Cond.code y bytes maxL ret).before a0 Z = true) (hy : OPlain y) {b : Addr} (E : Exa Z h b C)
    {g : JFrame} (hg : g.method = m) (hsize : g.locals.size = c.maxLocals) (argsL rest : List Value) (has : (.ref b :: argsL).toArray = as) (hlen : ∀ sig, parseMethodDescriptor y.desc = some sig → argsL.length = sig.parameters.length) (hstack : g.stack = argsL.reverse ++ .ref b :: rest) (hdg : decode c.code g.pc = .ok (.invokevirtual index, 3))
    (W : Nat) (hW : 2 * g.monitorRoom + (rest.map fun v => v.category).sum ≤ W) (hf : rm.frames + 1 ≤ R.frames) (hl : W + (maxL + 11) + rm.locals ≤ R.locals) (hc : cells + rm.cells ≤ R.cells) (hs : slots + rm.slots ≤ R.slots) :
    ∃ (v : Option Value) (T' : State) (h' : Heap) (L : List Loc), T'.heap = h' ∧ Q v h' L ∧ Stand p l e R s m args below meth c T' (locs ++ L) (cells + rm.cells) (slots + rm.slots) ∧
      ∀ target, Steps p.tables e below (T'.setTop { g with pc := g.pc + 3, stack := v.toList ++ rest }) target → Steps p.tables e below (T.setTop g) target := by
  obtain ⟨cq, kq, qa, -, qc⟩ := isOf (T := T) hZ eT E
  have w3' : (Jvm.Cond.selects C y y).before args s = true := mvT hZ w3
  obtain ⟨v, vm₁, ⟨T', L', k', n'⟩, -, X', ⟨L, hQ, l1, l2, l3⟩, st⟩ := X.virtualBack hx (y := y) (z := y) hown (mvT hZ w1) (mvT hZ w2) (notFace_of_selects w3') w3' (mvT hZ w4) hy (backOf (W := W) (hM []) hZ w6 w5 hf hl) qa qc (g := g) hg hsize (Steps.refl _) (argsL := argsL) (rest := rest) hlen hstack hW hdg (fun _ _ => ⟨has, eT, hc, hs⟩)
  dsimp only [Pt.U, Pt.locs, Pt.cells, Pt.slots] at X' l1 l2 l3 st hQ
  subst l1 l2 l3
  exact ⟨v, T', _, L, rfl, hQ, X', fun _ k => st.trans k⟩
theorem ovirtP (X : Stand p l e R s m args below meth c T locs cells slots) (hx : p.tables.exec = Jvm.exec) (hZ : Z.Warmed39 s.vm) (eT : T.heap = h) {own C : String} {index : Nat} {y : MethodName} {bytes : ByteArray} {maxL : Nat} {ret : Option FieldType} {rm : Room} {as : Array Value} {w : Option Value} (hM : OMet l Z y bytes maxL ret rm as h (OPure w h))
    (hown : s.vm.findClass own = some m.cls) (w1 : (Jvm.Cond.methodLink own index y).before a0 Z = true) (w2 : (Jvm.Cond.declares y).before a0 Z = true) (w3 : (Jvm.Cond.selects C y y).before a0 Z = true) (w4 : (Jvm.Cond.instanceMethod y).before a0 Z = true) (w5 : (Jvm.Cond.initialized y.cls).before a0 Z = true) (w6 : (Jvm.Cond.code y bytes maxL ret).before a0 Z = true) (hy : OPlain y) {b : Addr} (E : Exa Z h b C)
    {g : JFrame} (hg : g.method = m) (hsize : g.locals.size = c.maxLocals) (argsL rest : List Value) (has : (.ref b :: argsL).toArray = as) (hlen : ∀ sig, parseMethodDescriptor y.desc = some sig → argsL.length = sig.parameters.length) (hstack : g.stack = argsL.reverse ++ .ref b :: rest) (hdg : decode c.code g.pc = .ok (.invokevirtual index, 3))
    (W : Nat) (hW : 2 * g.monitorRoom + (rest.map fun v => v.category).sum ≤ W) (hf : rm.frames + 1 ≤ R.frames) (hl : W + (maxL + 11) + rm.locals ≤ R.locals) (hc : cells + rm.cells ≤ R.cells) (hs : slots + rm.slots ≤ R.slots) (z1 : rm.cells = 0) (z2 : rm.slots = 0) :
    ∃ T' : State, Stand p l e R s m args below meth c T' locs cells slots ∧ T'.heap = h ∧
      ∀ target, Steps p.tables e below (T'.setTop { g with pc := g.pc + 3, stack := w.toList ++ rest }) target → Steps p.tables e below (T.setTop g) target := by
  obtain ⟨v, T', h', L, e2, ⟨rfl, rfl, e'⟩, X', st⟩ := ovirtQ X hx hZ eT hM hown w1 w2 w3 w4 w5 w6 hy E hg hsize argsL rest has hlen hstack hdg W hW hf hl hc hs
  rw [z1, z2, List.append_nil] at X'
  exact ⟨T', X', e2.trans e', st⟩
/-- a constructor by its contract -/
theorem ospecQ (X : Stand p l e R s m args below meth c T locs cells slots) (hx : p.tables.exec = Jvm.exec) (hZ : Z.Warmed39 s.vm) (eT : T.heap = h) {own : String} {index : Nat} {y : MethodName} {bytes : ByteArray} {maxL : Nat} {rm : Room} {as : Array Value} {Q : Option Value → Heap → List Loc → Prop} (hM : OMet l Z y bytes maxL none rm as h Q)
    (hyi : y.name = "<init>") (hown : s.vm.findClass own = some m.cls) (w1 : (Jvm.Cond.methodLink own index y).before a0 Z = true) (w4 : (Jvm.Cond.instanceMethod y).before a0 Z = true) (w5 : (Jvm.Cond.initialized y.cls).before a0 Z = true) (w6 : (Jvm.Cond.code y bytes maxL none).before a0 Z = true) (hy : OPlain y) {b : Addr}
    {g : JFrame} (hg : g.method = m) (hsize : g.locals.size = c.maxLocals) (argsL rest : List Value) (has : (.ref b :: argsL).toArray = as) (hlen : ∀ sig, parseMethodDescriptor y.desc = some sig → argsL.length = sig.parameters.length) (hstack : g.stack = argsL.reverse ++ .ref b :: rest) (hdg : decode c.code g.pc = .ok (.invokespecial index, 3))
    (W : Nat) (hW : 2 * g.monitorRoom + (rest.map fun v => v.category).sum ≤ W) (hf : rm.frames + 1 ≤ R.frames) (hl : W + (maxL + 11) + rm.locals ≤ R.locals) (hc : cells + rm.cells ≤ R.cells) (hs : slots + rm.slots ≤ R.slots) :
    ∃ (v : Option Value) (T' : State) (h' : Heap) (L : List Loc), T'.heap = h' ∧ Q v h' L ∧ Stand p l e R s m args below meth c T' (locs ++ L) (cells + rm.cells) (slots + rm.slots) ∧
      ∀ target, Steps p.tables e below (T'.setTop { g with pc := g.pc + 3, stack := v.toList ++ rest }) target → Steps p.tables e below (T.setTop g) target := by
  obtain ⟨v, vm₁, ⟨T', L', k', n'⟩, -, X', ⟨L, hQ, l1, l2, l3⟩, st⟩ := X.specialBack hx (y := y) hyi hown (mvT hZ w1) (mvT hZ w4) (mvT hZ w6) hy (backOf (W := W) (hM []) hZ w6 w5 hf hl) (g := g) hg hsize (Steps.refl _) (a := b) (argsL := argsL) (rest := rest) hlen hstack hW hdg (fun _ _ => ⟨has, eT, hc, hs⟩)
  dsimp only [Pt.U, Pt.locs, Pt.cells, Pt.slots] at X' l1 l2 l3 st hQ
  subst l1 l2 l3
  exact ⟨v, T', _, L, rfl, hQ, X', fun _ k => st.trans k⟩
theorem onb {z : Int32} (q : z = 0 ∨ z = 1) : narrow .boolean (.int z) = .int z := by rcases q with rfl | rfl <;> rfl
theorem ofb {z : Int32} (q : z = 0 ∨ z = 1) : fits .boolean (.int z) = true := by rcases q with rfl | rfl <;> rfl
theorem oif01 {c : Prop} [Decidable c] {a b : Int32} (qa : a = 0 ∨ a = 1) (qb : b = 0 ∨ b = 1) : (if c then a else b) = 0 ∨ (if c then a else b) = 1 := by split <;> assumption
/-! arrays by a function of the place -/
variable {ty : FieldType} {a b : Addr} {n : Nat} {f f' : Nat → Value} {h' : Heap} {ws : List Addr} {sl : Nat} {v : Value}
def OAr (Z : State) (h : Heap) (a : Addr) (ty : FieldType) (n : Nat) (f : Nat → Value) : Prop :=
  ∃ c : Cell, Arr Z h a c ty ∧ c.slots.size = n ∧ (∀ j, j < n → c.slots[j]? = some (f j)) ∧ ∀ j, j < n → fits ty (f j) = true
theorem OAr.lt (F : OAr Z h a ty n f) : a < h.size := by obtain ⟨c, A, -⟩ := F; exact A.lt
theorem OAr.ext (F : OAr Z h a ty n f) (E : Ext h h') : OAr Z h' a ty n f := by obtain ⟨c, A, r⟩ := F; exact ⟨c, A.ext E, r⟩
theorem OAr.other (F : OAr Z h b ty n f) (W : Wr h h' a sl v) (q : b ≠ a) : OAr Z h' b ty n f := by obtain ⟨c, A, r⟩ := F; exact ⟨c, A.other W q, r⟩
theorem OAr.keep (F : OAr Z h a ty n f) (K : Keep h h' ws) (q : a ∉ ws) : OAr Z h' a ty n f := by obtain ⟨c, A, r⟩ := F; exact ⟨c, ⟨K.2.1 a c A.1 q, A.2⟩, r⟩
theorem OAr.conv (F : OAr Z h a ty n f) (q : ∀ j, j < n → f j = f' j) : OAr Z h a ty n f' := by
  obtain ⟨c, A, S, H, G⟩ := F
  exact ⟨c, A, S, fun j hj => by rw [← q j hj]; exact H j hj, fun j hj => by rw [← q j hj]; exact G j hj⟩
theorem OAr.new {k : ClassId} {z : Int32} (A : Arr Z h a (newA k ty z) ty) (q : z.toNatClampNeg = n) : OAr Z h a ty n (fun _ => defaultValue ty) :=
  ⟨_, A, (sz_new _ _ _).trans q, fun j hj => by simp [newA, q, hj], fun j _ => by cases ty <;> rfl⟩
theorem OAr.set (F : OAr Z h a ty n f) (W : Wr h h' a sl v) (hv : fits ty v = true) : OAr Z h' a ty n (fun j => if j = sl then v else f j) := by
  obtain ⟨c, A, S, H, G⟩ := F
  refine ⟨_, A.same W, by rw [sz_set]; exact S, fun j hj => ?_, fun j hj => ?_⟩
  · show (c.slots.setIfInBounds sl v)[j]? = _
    rw [Array.getElem?_setIfInBounds]
    by_cases q : j = sl
    · subst q; simp [S, hj]
    · rw [if_neg (fun z => q z.symm), H j hj]; simp [q]
  · by_cases q : j = sl
    · simp [q, hv]
    · simp [q, G j hj]
theorem oidx {j : Int32} (h0 : 0 ≤ j.toInt) (h1 : j.toInt < (n : Int)) : ¬ (j < 0) ∧ j.toNatClampNeg < n := by
  refine ⟨fun q => ?_, ?_⟩
  · rw [Int32.lt_iff_toInt_lt] at q; have : (0 : Int32).toInt = 0 := rfl; omega
  · simp only [Int32.toNatClampNeg]; omega
theorem oin {c : Cell} {j : Int32} (S : c.slots.size = n) (h0 : 0 ≤ j.toInt) (h1 : j.toInt < (n : Int)) : ¬ (j < 0 ∨ c.slots.size ≤ j.toNatClampNeg) := by
  obtain ⟨q1, q2⟩ := oidx h0 h1
  rw [S]; exact fun z => z.elim q1 (fun u => Nat.not_le.mpr q2 u)
theorem ostB (X : Stand p l e R s m args below meth c T locs cells slots) (hx : p.tables.exec = Jvm.exec) (hZ : Z.Warmed39 s.vm) (eT : T.heap = h) (F : OAr Z h a .byte n f) {j x : Int32} (h0 : 0 ≤ j.toInt) (h1 : j.toInt < (n : Int)) {g : JFrame} (hg : g.method = m) {rest : List Value} (hs : g.stack = .int x :: .int j :: .ref a :: rest) (hd : decode c.code g.pc = .ok (.bastore, 1)) :
    ∃ T' h', Stand p l e R s m args below meth c T' (locs ++ [⟨a, j.toNatClampNeg⟩]) cells slots ∧ T'.heap = h' ∧ Wr h h' a j.toNatClampNeg (.int x.toInt8.toInt32) ∧ OAr Z h' a .byte n (fun i => if i = j.toNatClampNeg then .int x.toInt8.toInt32 else f i) ∧ ∀ target, Steps p.tables e below (T'.setTop { g with pc := g.pc + 1, stack := rest }) target → Steps p.tables e below (T.setTop g) target := by
  obtain ⟨cl, A, S, H, G⟩ := F
  obtain ⟨T', h', X', e', W, st⟩ := stB X hx hZ eT A (j := j) (x := x) (oin S h0 h1) hg hs hd
  exact ⟨T', h', X', e', W, OAr.set ⟨cl, A, S, H, G⟩ W (fits_nar_byte x), st⟩
theorem ostI (X : Stand p l e R s m args below meth c T locs cells slots) (hx : p.tables.exec = Jvm.exec) (hZ : Z.Warmed39 s.vm) (eT : T.heap = h) (F : OAr Z h a .int n f) {j x : Int32} (h0 : 0 ≤ j.toInt) (h1 : j.toInt < (n : Int)) {g : JFrame} (hg : g.method = m) {rest : List Value} (hs : g.stack = .int x :: .int j :: .ref a :: rest) (hd : decode c.code g.pc = .ok (.iastore, 1)) :
    ∃ T' h', Stand p l e R s m args below meth c T' (locs ++ [⟨a, j.toNatClampNeg⟩]) cells slots ∧ T'.heap = h' ∧ Wr h h' a j.toNatClampNeg (.int x) ∧ OAr Z h' a .int n (fun i => if i = j.toNatClampNeg then .int x else f i) ∧ ∀ target, Steps p.tables e below (T'.setTop { g with pc := g.pc + 1, stack := rest }) target → Steps p.tables e below (T.setTop g) target := by
  obtain ⟨cl, A, S, H, G⟩ := F
  obtain ⟨T', h', X', e', W, st⟩ := stI X hx hZ eT A (j := j) (x := x) (oin S h0 h1) hg hs hd
  exact ⟨T', h', X', e', W, OAr.set ⟨cl, A, S, H, G⟩ W rfl, st⟩
theorem ostJ (X : Stand p l e R s m args below meth c T locs cells slots) (hx : p.tables.exec = Jvm.exec) (hZ : Z.Warmed39 s.vm) (eT : T.heap = h) (F : OAr Z h a .long n f) {j : Int32} {x : Int64} (h0 : 0 ≤ j.toInt) (h1 : j.toInt < (n : Int)) {g : JFrame} (hg : g.method = m) {rest : List Value} (hs : g.stack = .long x :: .int j :: .ref a :: rest) (hd : decode c.code g.pc = .ok (.lastore, 1)) :
    ∃ T' h', Stand p l e R s m args below meth c T' (locs ++ [⟨a, j.toNatClampNeg⟩]) cells slots ∧ T'.heap = h' ∧ Wr h h' a j.toNatClampNeg (.long x) ∧ OAr Z h' a .long n (fun i => if i = j.toNatClampNeg then .long x else f i) ∧ ∀ target, Steps p.tables e below (T'.setTop { g with pc := g.pc + 1, stack := rest }) target → Steps p.tables e below (T.setTop g) target := by
  obtain ⟨cl, A, S, H, G⟩ := F
  obtain ⟨T', h', X', e', W, st⟩ := stJ X hx hZ eT A (j := j) (x := x) (oin S h0 h1) hg hs hd
  exact ⟨T', h', X', e', W, OAr.set ⟨cl, A, S, H, G⟩ W rfl, st⟩
theorem oldB (X : Stand p l e R s m args below meth c T locs cells slots) (hx : p.tables.exec = Jvm.exec) (hZ : Z.Warmed39 s.vm) (eT : T.heap = h) (F : OAr Z h a .byte n f) {j : Int32} (h0 : 0 ≤ j.toInt) (h1 : j.toInt < (n : Int)) {g : JFrame} (hg : g.method = m) {rest : List Value} (hs : g.stack = .int j :: .ref a :: rest) (hd : decode c.code g.pc = .ok (.baload, 1)) :
    ∀ target, Steps p.tables e below (T.setTop { g with pc := g.pc + 1, stack := f j.toNatClampNeg :: rest }) target → Steps p.tables e below (T.setTop g) target := by
  obtain ⟨cl, A, S, H, G⟩ := F
  exact fun t k => X.baloadBytes hx (by rw [eT]; exact A.1) (State.isArrayOf_alike hZ.alike A.2.1) A.2.2 (oin S h0 h1) (H _ (oidx h0 h1).2) hg hs hd t k
theorem oldI (X : Stand p l e R s m args below meth c T locs cells slots) (hx : p.tables.exec = Jvm.exec) (hZ : Z.Warmed39 s.vm) (eT : T.heap = h) (F : OAr Z h a .int n f) {j : Int32} (h0 : 0 ≤ j.toInt) (h1 : j.toInt < (n : Int)) {g : JFrame} (hg : g.method = m) {rest : List Value} (hs : g.stack = .int j :: .ref a :: rest) (hd : decode c.code g.pc = .ok (.iaload, 1)) :
    ∀ target, Steps p.tables e below (T.setTop { g with pc := g.pc + 1, stack := f j.toNatClampNeg :: rest }) target → Steps p.tables e below (T.setTop g) target := by
  obtain ⟨cl, A, S, H, G⟩ := F
  exact fun t k => X.iaload hx (by rw [eT]; exact A.1) (State.isArrayOf_alike hZ.alike A.2.1) A.2.2 (oin S h0 h1) (H _ (oidx h0 h1).2) hg hs hd t k
theorem oldJ (X : Stand p l e R s m args below meth c T locs cells slots) (hx : p.tables.exec = Jvm.exec) (hZ : Z.Warmed39 s.vm) (eT : T.heap = h) (F : OAr Z h a .long n f) {j : Int32} (h0 : 0 ≤ j.toInt) (h1 : j.toInt < (n : Int)) {g : JFrame} (hg : g.method = m) {rest : List Value} (hs : g.stack = .int j :: .ref a :: rest) (hd : decode c.code g.pc = .ok (.laload, 1)) :
    ∀ target, Steps p.tables e below (T.setTop { g with pc := g.pc + 1, stack := f j.toNatClampNeg :: rest }) target → Steps p.tables e below (T.setTop g) target := by
  obtain ⟨cl, A, S, H, G⟩ := F
  exact fun t k => X.laload hx (by rw [eT]; exact A.1) (State.isArrayOf_alike hZ.alike A.2.1) A.2.2 (oin S h0 h1) (H _ (oidx h0 h1).2) hg hs hd t k
theorem oalen (X : Stand p l e R s m args below meth c T locs cells slots) (hx : p.tables.exec = Jvm.exec) (hZ : Z.Warmed39 s.vm) (eT : T.heap = h) (F : OAr Z h a ty n f) {g : JFrame} (hg : g.method = m) {rest : List Value} (hs : g.stack = .ref a :: rest) (hd : decode c.code g.pc = .ok (.arraylength, 1)) :
    ∀ target, Steps p.tables e below (T.setTop { g with pc := g.pc + 1, stack := .int n.toInt32 :: rest }) target → Steps p.tables e below (T.setTop g) target := by
  obtain ⟨cl, A, S, H, G⟩ := F
  subst S
  exact fun t k => X.arraylength hx (by rw [eT]; exact A.1) (State.isArrayOf_alike hZ.alike A.2.1) hg hs hd t k
theorem oclone (X : Stand p l e R s m args below meth c T locs cells slots) (hx : p.tables.exec = Jvm.exec) (hZ : Z.Warmed39 s.vm) {own ad : String} {index : Nat} (hown : s.vm.findClass own = some m.cls)
    (w1 : (Jvm.Cond.methodLink own index ⟨ad, "clone", "()Ljava/lang/Object;"⟩).before a0 Z = true) (w2 : (Jvm.Cond.sameMethod ad "java/lang/Object" "clone" "()Ljava/lang/Object;").before a0 Z = true) (w3 : (Jvm.Cond.native ⟨"java/lang/Object", "clone", "()Ljava/lang/Object;"⟩).before a0 Z = true)
    (w4 : (Jvm.Cond.instanceMethod ⟨"java/lang/Object", "clone", "()Ljava/lang/Object;"⟩).before a0 Z = true) (w5 : (Jvm.Cond.selects ad ⟨ad, "clone", "()Ljava/lang/Object;"⟩ ⟨"java/lang/Object", "clone", "()Ljava/lang/Object;"⟩).before a0 Z = true) (w6 : (Jvm.Cond.castable ad "java/lang/Cloneable").before a0 Z = true)
    (eT : T.heap = h) (F : OAr Z h a ty n f) (E : Exa Z h a ad) {g : JFrame} (hg : g.method = m) (hsize : g.locals.size = c.maxLocals) {rest : List Value} (hs : g.stack = .ref a :: rest) (hd : decode c.code g.pc = .ok (.invokevirtual index, 3))
    (hf : 1 ≤ R.frames) (W : Nat) (hW : 2 * g.monitorRoom + (rest.map fun v => v.category).sum ≤ W) (hl : W + 14 ≤ R.locals) (hc : cells + 1 ≤ R.cells) (hsl : slots + n ≤ R.slots) :
    ∃ T' h', Stand p l e R s m args below meth c T' locs (cells + 1) (slots + n) ∧ T'.heap = h' ∧ Ext h h' ∧ OAr Z h' h.size ty n f ∧ Exa Z h' h.size ad ∧
      ∀ target, Steps p.tables e below (T'.setTop { g with pc := g.pc + 3, stack := .ref h.size :: rest }) target → Steps p.tables e below (T.setTop g) target := by
  obtain ⟨cl, A, S, H, G⟩ := F
  have FC : FitC Z cl := fitC_of A fun i hi v hv => by rw [H i (S ▸ hi)] at hv; cases hv; exact G i (S ▸ hi)
  obtain ⟨T', h', X', e', ex, A', E', st⟩ := cloneA X hx hZ hown w1 w2 w3 w4 w5 w6 eT A E FC hg hsize hs hd hf hW hl (Nat.le_of_eq S) hc hsl
  exact ⟨T', h', X', e', ex, ⟨cloneOf cl, A', S, H, G⟩, E', st⟩
end OwnGo
end Jvm.OwnKit
namespace Jvm.Pilot.@@N@@
open Jvm Jvm.ClassFile Sem Op Lib Jvm.Free Jvm.Stand Jvm.LawKit Jvm.RoadKit Bundle Jvm.OwnKit Jvm.Pilot.@@N@@.Jvm.D
theorem own_j {w x : Int32} (h : w = x &&& (63 : Int32)) : 0 ≤ w.toInt ∧ w.toInt < ((64 : Nat) : Int) := by
  have q := c_mask x (63 : Int32) 6 (by decide) (by decide)
  rw [h]
  omega
theorem own_inc {i : Int32} {j : Nat} (hi : i.toInt = (j : Int)) (hj : j < 1000) : (i + (1 : Int32)).toInt = ((j + 1 : Nat) : Int) := by
  have c := c_iadd i (1 : Int32)
  have r := rng32 (i + (1 : Int32))
  have o : (1 : Int32).toInt = 1 := rfl
  omega
theorem d1_0 : decode prog_6_method_1_code 0 = .ok (.aload_n 0, 1) := by decide +kernel
theorem d1_1 : decode prog_6_method_1_code 1 = .ok (.invokespecial 1, 3) := by decide +kernel
theorem d1_4 : decode prog_6_method_1_code 4 = .ok (.aload_n 1, 1) := by decide +kernel
theorem d1_5 : decode prog_6_method_1_code 5 = .ok (.arraylength, 1) := by decide +kernel
theorem d1_6 : decode prog_6_method_1_code 6 = .ok (.bipush 64, 2) := by decide +kernel
theorem d1_8 : decode prog_6_method_1_code 8 = .ok (.if_icmp .eq 36, 3) := by decide +kernel
theorem d1_44 : decode prog_6_method_1_code 44 = .ok (.aload_n 0, 1) := by decide +kernel
theorem d1_45 : decode prog_6_method_1_code 45 = .ok (.aload_n 1, 1) := by decide +kernel
theorem d1_46 : decode prog_6_method_1_code 46 = .ok (.invokevirtual 28, 3) := by decide +kernel
theorem d1_49 : decode prog_6_method_1_code 49 = .ok (.checkcast 29, 3) := by decide +kernel
theorem d1_52 : decode prog_6_method_1_code 52 = .ok (.putfield 34, 3) := by decide +kernel
theorem d1_55 : decode prog_6_method_1_code 55 = .ok (.return_, 1) := by decide +kernel
theorem pn_1 : plainName "com/example/gol_gumbaz/golgumbaz/envelope/BloomFilter" = true := by first | (simp [plainName, overriddenIn]; done) | decide +kernel
theorem ef_1 (m : MethodId) (x0 : Addr) (x1 : Addr) : entryFrame m #[(.ref x0), (.ref x1)] 2 = mkF m 0 #[.val (.ref x0), .val (.ref x1)] [] := by first | (simp [entryFrame, mkF, argsToLocals, Value.category]; done) | rfl
set_option maxRecDepth 65536 in
set_option maxHeartbeats 40000000 in
theorem rm1 (l : Launch) (Z : State) (a0 : Array Value) (hw : ∀ d ∈ tables_1, d.before a0 Z = true) (ob : Addr) (ar : Addr) (fa : Nat → Int32) (h0 : Heap) (n0 : Nat) (Z0 : n0 ≤ h0.size) (P0 : Exa Z h0 ob "com/example/gol_gumbaz/golgumbaz/envelope/BloomFilter") (P1 : Fld Z h0 ob "com/example/gol_gumbaz/golgumbaz/envelope/BloomFilter" "bytes" "[B" .null) (P2 : Exa Z h0 ar "[B") (P3 : OAr Z h0 ar .byte 64 (fun i => .int (fa i))) (g_ob : n0 ≤ ob) (ne_ob_ar : ob ≠ ar) :
    OMet l Z (⟨"com/example/gol_gumbaz/golgumbaz/envelope/BloomFilter", "<init>", "([B)V"⟩ : MethodName) prog_6_method_1_code 2 none ({ frames := 1, cells := 1, slots := 64, locals := 15 } : Room) #[(.ref ob), (.ref ar)] h0 (fun v h L => ∃ cb, v = none ∧ Fr n0 L ∧ Keep h0 h [ob] ∧ Fld Z h ob "com/example/gol_gumbaz/golgumbaz/envelope/BloomFilter" "bytes" "[B" (.ref cb) ∧ OAr Z h cb .byte 64 (fun i => .int (fa i)) ∧ n0 ≤ cb ∧ ob ≠ cb ∧ h0.size ≤ cb) := by
  intro ws
  refine MetFree.of_bodySF (plainFor_of_name pn_1) hisR ?_
  intro p e s m args below meth c s₁ Bd hml0 hP hK
  obtain ⟨rfl, hZ, hh⟩ := hP
  have hx := Bd.exec
  have hby := Bd.bytes
  have hml : c.maxLocals = 2 := hml0
  have hown : s.vm.findClass "com/example/gol_gumbaz/golgumbaz/envelope/BloomFilter" = some m.cls := findClass_of_methodNamed Bd.named
  have hnm := (name_of_methodNamed Bd.named Bd.method).1
  have hlk : meth.locks = false := Bd.notSynchronized
  have X0 : Stand p l e ({ frames := 1, cells := 1, slots := 64, locals := 15 } : Room) s m #[(.ref ob), (.ref ar)] below meth c s₁ [] 0 0 := Stand.of_body Bd
  have e0 : s₁.heap = h0 := by rw [← hh, Bd.state]; rfl
  have N0 := Fr.nil n0
  have K0 := Keep.refl h0 [ob]
  refine (?_ : OGo p.tables e below (OFin s (fun v h L => ∃ cb, v = none ∧ Fr n0 L ∧ Keep h0 h [ob] ∧ Fld Z h ob "com/example/gol_gumbaz/golgumbaz/envelope/BloomFilter" "bytes" "[B" (.ref cb) ∧ OAr Z h cb .byte 64 (fun i => .int (fa i)) ∧ n0 ≤ cb ∧ ob ≠ cb ∧ h0.size ≤ cb) 1 64) _)
  refine ogo (fun _ k => castTop (ef_1 m ob ar) k) ?_
  show OGo _ _ _ _ (s₁.setTop (mkF m 0 #[.val (.ref ob), .val (.ref ar)] []))
  refine ogo (fun _ k => XS.aloadN X0.here hx rfl (hb hby d1_0) rfl rfl k) ?_
  show OGo _ _ _ _ (s₁.setTop (mkF m 1 #[.val (.ref ob), .val (.ref ar)] [(.ref ob)]))
  obtain ⟨T_1_1, X_1_1, e_1_1, st_1_1⟩ := initO X0 hx hZ hown (hw _ (List.mem_of_getElem? (i := 7) rfl)) (hw _ (List.mem_of_getElem? (i := 8) rfl)) (hw _ (List.mem_of_getElem? (i := 9) rfl)) e0 (g := (mkF m 1 #[.val (.ref ob), .val (.ref ar)] [(.ref ob)])) rfl (by rw [hml]; rfl) rfl (hb hby d1_1) (by decide) (W := 0) (by show 2 * 0 + _ ≤ _; exact Nat.le_of_eq rfl) (by decide)
  refine ogo (fun _ k => st_1_1 _ k) ?_
  show OGo _ _ _ _ (T_1_1.setTop (mkF m 4 #[.val (.ref ob), .val (.ref ar)] []))
  refine ogo (fun _ k => XS.aloadN X_1_1.here hx rfl (hb hby d1_4) rfl rfl k) ?_
  show OGo _ _ _ _ (T_1_1.setTop (mkF m 5 #[.val (.ref ob), .val (.ref ar)] [(.ref ar)]))
  refine ogo (fun _ k => oalen X_1_1 hx hZ e_1_1 P3 (g := (mkF m 5 #[.val (.ref ob), .val (.ref ar)] [(.ref ar)])) rfl rfl (hb hby d1_5) _ k) ?_
  show OGo _ _ _ _ (T_1_1.setTop (mkF m 6 #[.val (.ref ob), .val (.ref ar)] [(.int (64 : Int32))]))
  refine ogo (fun _ k => XS.bipush X_1_1.here hx rfl (hb hby d1_6) k) ?_
  show OGo _ _ _ _ (T_1_1.setTop (mkF m 8 #[.val (.ref ob), .val (.ref ar)] [(.int (64 : Int32)), (.int (64 : Int32))]))
  refine ogo (fun _ k => XS.icmpYes X_1_1.here hx rfl (pc0 := 8) (pc' := 44) rfl (hb hby d1_8) rfl (teq (by decide : (64 : Int32) = (64 : Int32))).1 (by decide) (by decide) k) ?_
  show OGo _ _ _ _ (T_1_1.setTop (mkF m 44 #[.val (.ref ob), .val (.ref ar)] []))
  refine ogo (fun _ k => XS.aloadN X_1_1.here hx rfl (hb hby d1_44) rfl rfl k) ?_
  show OGo _ _ _ _ (T_1_1.setTop (mkF m 45 #[.val (.ref ob), .val (.ref ar)] [(.ref ob)]))
  refine ogo (fun _ k => XS.aloadN X_1_1.here hx rfl (hb hby d1_45) rfl rfl k) ?_
  show OGo _ _ _ _ (T_1_1.setTop (mkF m 46 #[.val (.ref ob), .val (.ref ar)] [(.ref ar), (.ref ob)]))
  obtain ⟨T_1_2, h_1_2, X_1_2, e_1_2, E_1_2, V_1_2, Ex_1_2, st_1_2⟩ := oclone X_1_1 hx hZ hown (hw _ (List.mem_of_getElem? (i := 10) rfl)) (hw _ (List.mem_of_getElem? (i := 11) rfl)) (hw _ (List.mem_of_getElem? (i := 15) rfl)) (hw _ (List.mem_of_getElem? (i := 13) rfl)) (hw _ (List.mem_of_getElem? (i := 14) rfl)) (hw _ (List.mem_of_getElem? (i := 16) rfl)) e_1_1 P3 P2 (g := (mkF m 46 #[.val (.ref ob), .val (.ref ar)] [(.ref ar), (.ref ob)])) rfl (by rw [hml]; rfl) rfl (hb hby d1_46) (by decide) 1 (by show 2 * 0 + _ ≤ _; exact Nat.le_of_eq rfl) (by decide) (by decide) (by decide)
  obtain ⟨b_1_2, g_1_2⟩ : ∃ z, z = h0.size := ⟨_, rfl⟩
  rw [← g_1_2] at V_1_2 Ex_1_2 st_1_2
  have g_b_1_2 : n0 ≤ b_1_2 := Nat.le_trans Z0 (Nat.le_of_eq g_1_2.symm)
  have ne_ob_b_1_2 : ob ≠ b_1_2 := Nat.ne_of_lt (Nat.lt_of_lt_of_le P1.lt (Nat.le_of_eq g_1_2.symm))
  have ne_ar_b_1_2 : ar ≠ b_1_2 := Nat.ne_of_lt (Nat.lt_of_lt_of_le P3.lt (Nat.le_of_eq g_1_2.symm))
  have sz_b_1_2 : h0.size ≤ b_1_2 := Nat.le_trans K0.1 (Nat.le_of_eq g_1_2.symm)
  have K_1_2 := K0.ext E_1_2
  have f_1_3 := P0.ext E_1_2
  have f_1_4 := P1.ext E_1_2
  have f_1_5 := P2.ext E_1_2
  have f_1_6 := P3.ext E_1_2
  have Z_1_2 : n0 ≤ h_1_2.size := Nat.le_trans Z0 E_1_2.1
  obtain ⟨lc_1_2, N_1_2, X_1_2⟩ : ∃ L, Fr n0 L ∧ Stand p l e ({ frames := 1, cells := 1, slots := 64, locals := 15 } : Room) s m #[(.ref ob), (.ref ar)] below meth c T_1_2 L 1 64 := ⟨_, N0, X_1_2⟩
  refine ogo (fun _ k => st_1_2 _ k) ?_
  show OGo _ _ _ _ (T_1_2.setTop (mkF m 49 #[.val (.ref ob), .val (.ref ar)] [(.ref b_1_2), (.ref ob)]))
  obtain ⟨T_1_7, X_1_7, e_1_7, st_1_7⟩ := castY X_1_2 hx hZ hown (hw _ (List.mem_of_getElem? (i := 17) rfl)) e_1_2 (Ins.self Ex_1_2) (g := (mkF m 49 #[.val (.ref ob), .val (.ref ar)] [(.ref b_1_2), (.ref ob)])) rfl rfl (hb hby d1_49)
  refine ogo (fun _ k => st_1_7 _ k) ?_
  show OGo _ _ _ _ (T_1_7.setTop (mkF m 52 #[.val (.ref ob), .val (.ref ar)] [(.ref b_1_2), (.ref ob)]))
  obtain ⟨T_1_8, h_1_8, X_1_8, e_1_8, W_1_8, st_1_8⟩ := putF X_1_7 hx hZ hown (host := "") (Or.inl (hw _ (List.mem_of_getElem? (i := 19) rfl))) Via.refl e_1_7 f_1_4 f_1_3 (Or.inr ⟨(hw _ (List.mem_of_getElem? (i := 20) rfl)), rfl, hnm⟩) (hw _ (List.mem_of_getElem? (i := 2) rfl)) (ty := (.array .byte)) (by decide) rfl rfl (g := (mkF m 52 #[.val (.ref ob), .val (.ref ar)] [(.ref b_1_2), (.ref ob)])) rfl rfl (hb hby d1_52)
  have K_1_8 := K_1_2.wr W_1_8 (Or.inl (List.mem_of_getElem? (i := 0) rfl))
  have f_1_9 := f_1_3.wr W_1_8
  have f_1_10 := f_1_4.same W_1_8
  have f_1_11 := f_1_5.wr W_1_8
  have f_1_12 := f_1_6.other W_1_8 (Ne.symm ne_ob_ar)
  have f_1_13 := Ex_1_2.wr W_1_8
  have f_1_14 := V_1_2.other W_1_8 (Ne.symm ne_ob_b_1_2)
  have Z_1_8 : n0 ≤ h_1_8.size := Nat.le_trans Z_1_2 (Keep.of_wr W_1_8).1
  obtain ⟨lc_1_8, N_1_8, X_1_8⟩ : ∃ L, Fr n0 L ∧ Stand p l e ({ frames := 1, cells := 1, slots := 64, locals := 15 } : Room) s m #[(.ref ob), (.ref ar)] below meth c T_1_8 L 1 64 := ⟨_, Fr.snoc X_1_8 N_1_2 g_ob, X_1_8⟩
  refine ogo (fun _ k => st_1_8 _ k) ?_
  show OGo _ _ _ _ (T_1_8.setTop (mkF m 55 #[.val (.ref ob), .val (.ref ar)] []))
  exact oretV X_1_8 hx hlk Bd.returns (hb hby d1_55) (by decide) (by decide) (by rw [e_1_8]; exact ⟨b_1_2, rfl, N_1_8, K_1_8, f_1_10, f_1_14, g_b_1_2, ne_ob_b_1_2, sz_b_1_2⟩)
def own_bad (fa fb : Nat → Int32) (q : Nat) : Int32 := fb q &&& (fa q ^^^ (-1 : Int32))
def hasAllF (fa fb : Nat → Int32) : Int32 := if (List.range 64).all (fun q => own_bad fa fb q == (0 : Int32)) = true then (1 : Int32) else (0 : Int32)
theorem own_iff {fa fb : Nat → Int32} : (List.range 64).all (fun q => own_bad fa fb q == (0 : Int32)) = true ↔ ∀ q, q < 64 → own_bad fa fb q = (0 : Int32) := by simp [List.all_eq_true]
theorem own_hp {fa fb : Nat → Int32} (h : ∀ q, q < 64 → own_bad fa fb q = (0 : Int32)) : hasAllF fa fb = (1 : Int32) := by rw [hasAllF, if_pos (own_iff.mpr h)]
theorem own_hn {fa fb : Nat → Int32} (h : ¬ ∀ q, q < 64 → own_bad fa fb q = (0 : Int32)) : hasAllF fa fb = (0 : Int32) := by rw [hasAllF, if_neg (fun z => h (own_iff.mp z))]
theorem d5_0 : decode prog_6_method_8_code 0 = .ok (.iconst 0, 1) := by decide +kernel
theorem d5_1 : decode prog_6_method_8_code 1 = .ok (.istore_n 2, 1) := by decide +kernel
theorem d5_2 : decode prog_6_method_8_code 2 = .ok (.iload_n 2, 1) := by decide +kernel
theorem d5_3 : decode prog_6_method_8_code 3 = .ok (.aload_n 0, 1) := by decide +kernel
theorem d5_4 : decode prog_6_method_8_code 4 = .ok (.getfield 34, 3) := by decide +kernel
theorem d5_7 : decode prog_6_method_8_code 7 = .ok (.arraylength, 1) := by decide +kernel
theorem d5_8 : decode prog_6_method_8_code 8 = .ok (.if_icmp .ge 29, 3) := by decide +kernel
theorem d5_11 : decode prog_6_method_8_code 11 = .ok (.aload_n 1, 1) := by decide +kernel
theorem d5_12 : decode prog_6_method_8_code 12 = .ok (.getfield 34, 3) := by decide +kernel
theorem d5_15 : decode prog_6_method_8_code 15 = .ok (.iload_n 2, 1) := by decide +kernel
theorem d5_16 : decode prog_6_method_8_code 16 = .ok (.baload, 1) := by decide +kernel
theorem d5_17 : decode prog_6_method_8_code 17 = .ok (.aload_n 0, 1) := by decide +kernel
theorem d5_18 : decode prog_6_method_8_code 18 = .ok (.getfield 34, 3) := by decide +kernel
theorem d5_21 : decode prog_6_method_8_code 21 = .ok (.iload_n 2, 1) := by decide +kernel
theorem d5_22 : decode prog_6_method_8_code 22 = .ok (.baload, 1) := by decide +kernel
theorem d5_23 : decode prog_6_method_8_code 23 = .ok (.iconst (-1), 1) := by decide +kernel
theorem d5_24 : decode prog_6_method_8_code 24 = .ok (.ixor, 1) := by decide +kernel
theorem d5_25 : decode prog_6_method_8_code 25 = .ok (.iand, 1) := by decide +kernel
theorem d5_26 : decode prog_6_method_8_code 26 = .ok (.ifCond .eq 5, 3) := by decide +kernel
theorem d5_29 : decode prog_6_method_8_code 29 = .ok (.iconst 0, 1) := by decide +kernel
theorem d5_30 : decode prog_6_method_8_code 30 = .ok (.ireturn, 1) := by decide +kernel
theorem d5_31 : decode prog_6_method_8_code 31 = .ok (.iinc 2 1, 3) := by decide +kernel
theorem d5_34 : decode prog_6_method_8_code 34 = .ok (.goto (-32), 3) := by decide +kernel
theorem d5_37 : decode prog_6_method_8_code 37 = .ok (.iconst 1, 1) := by decide +kernel
theorem d5_38 : decode prog_6_method_8_code 38 = .ok (.ireturn, 1) := by decide +kernel
theorem pn_5 : plainName "com/example/gol_gumbaz/golgumbaz/envelope/BloomFilter" = true := by first | (simp [plainName, overriddenIn]; done) | decide +kernel
theorem ef_5 (m : MethodId) (x0 : Addr) (x1 : Addr) : entryFrame m #[(.ref x0), (.ref x1)] 3 = mkF m 0 #[.val (.ref x0), .val (.ref x1), .unset] [] := by first | (simp [entryFrame, mkF, argsToLocals, Value.category]; done) | rfl
set_option maxRecDepth 65536 in
set_option maxHeartbeats 40000000 in
theorem rm5 (l : Launch) (Z : State) (a0 : Array Value) (hw : ∀ d ∈ tables_1, d.before a0 Z = true) (ob : Addr) (oc : Addr) (ca : Addr) (cb : Addr) (fa : Nat → Int32) (fb : Nat → Int32) (h0 : Heap) (P0 : Fld Z h0 ob "com/example/gol_gumbaz/golgumbaz/envelope/BloomFilter" "bytes" "[B" (.ref ca)) (P1 : Fld Z h0 oc "com/example/gol_gumbaz/golgumbaz/envelope/BloomFilter" "bytes" "[B" (.ref cb)) (P2 : OAr Z h0 ca .byte 64 (fun i => .int (fa i))) (P3 : OAr Z h0 cb .byte 64 (fun i => .int (fb i))) :
    OMet l Z (⟨"com/example/gol_gumbaz/golgumbaz/envelope/BloomFilter", "hasAll", "(Lcom/example/gol_gumbaz/golgumbaz/envelope/BloomFilter;)Z"⟩ : MethodName) prog_6_method_8_code 3 (some .boolean) ({ frames := 0, cells := 0, slots := 0, locals := 0 } : Room) #[(.ref ob), (.ref oc)] h0 (OPure (some (.int (hasAllF fa fb))) h0) := by
  intro ws
  refine MetFree.of_bodySF (plainFor_of_name pn_5) hisR ?_
  intro p e s m args below meth c s₁ Bd hml0 hP hK
  obtain ⟨rfl, hZ, hh⟩ := hP
  have hx := Bd.exec
  have hby := Bd.bytes
  have hml : c.maxLocals = 3 := hml0
  have hown : s.vm.findClass "com/example/gol_gumbaz/golgumbaz/envelope/BloomFilter" = some m.cls := findClass_of_methodNamed Bd.named
  have hnm := (name_of_methodNamed Bd.named Bd.method).1
  have hlk : meth.locks = false := Bd.notSynchronized
  have X0 : Stand p l e ({ frames := 0, cells := 0, slots := 0, locals := 0 } : Room) s m #[(.ref ob), (.ref oc)] below meth c s₁ [] 0 0 := Stand.of_body Bd
  have e0 : s₁.heap = h0 := by rw [← hh, Bd.state]; rfl
  refine (?_ : OGo p.tables e below (OFin s (OPure (some (.int (hasAllF fa fb))) h0) 0 0) _)
  refine ogo (fun _ k => castTop (ef_5 m ob oc) k) ?_
  show OGo _ _ _ _ (s₁.setTop (mkF m 0 #[.val (.ref ob), .val (.ref oc), .unset] []))
  refine ogo (fun _ k => XS.iconst X0.here hx rfl (hb hby d5_0) k) ?_
  show OGo _ _ _ _ (s₁.setTop (mkF m 1 #[.val (.ref ob), .val (.ref oc), .unset] [(.int (0 : Int32))]))
  refine ogo (fun _ k => XS.istoreN X0.here hx rfl (hb hby d5_1) rfl (l' := #[.val (.ref ob), .val (.ref oc), .val (.int (0 : Int32))]) rfl k) ?_
  show OGo _ _ _ _ (s₁.setTop (mkF m 2 #[.val (.ref ob), .val (.ref oc), .val (.int (0 : Int32))] []))
  suffices LP : ∀ (kk j : Nat) (i : Int32) (hi : i.toInt = (j : Int)) (hj : j + kk = 64) (hok : ∀ q, q < j → own_bad fa fb q = (0 : Int32)) (T : State) (X : Stand p l e ({ frames := 0, cells := 0, slots := 0, locals := 0 } : Room) s m #[(.ref ob), (.ref oc)] below meth c T [] 0 0) (e1 : T.heap = h0), OGo p.tables e below (OFin s (OPure (some (.int (hasAllF fa fb))) h0) 0 0) (T.setTop (mkF m 2 #[.val (.ref ob), .val (.ref oc), .val (.int i)] [])) from LP 64 0 (0 : Int32) rfl rfl (fun q hq => absurd hq (Nat.not_lt_zero q)) _ X0 e0
  intro kk
  induction kk with
  | zero =>
    intro j i hi hj hok T X e1
    have i64 : (64 : Int32).toInt = 64 := rfl
    have hn : i.toNatClampNeg = j := by simp only [Int32.toNatClampNeg, hi]; omega
    have hlt : ¬ i < (64 : Int32) := by rw [Int32.lt_iff_toInt_lt, i64]; omega
    show OGo _ _ _ _ (T.setTop (mkF m 2 #[.val (.ref ob), .val (.ref oc), .val (.int i)] []))
    refine ogo (fun _ k => XS.iloadN X.here hx rfl (hb hby d5_2) rfl k) ?_
    show OGo _ _ _ _ (T.setTop (mkF m 3 #[.val (.ref ob), .val (.ref oc), .val (.int i)] [(.int i)]))
    refine ogo (fun _ k => XS.aloadN X.here hx rfl (hb hby d5_3) rfl rfl k) ?_
    show OGo _ _ _ _ (T.setTop (mkF m 4 #[.val (.ref ob), .val (.ref oc), .val (.int i)] [(.ref ob), (.int i)]))
    obtain ⟨T_5_1, X_5_1, e_5_1, st_5_1⟩ := getF X hx hZ hown (host := "") (Or.inl (hw _ (List.mem_of_getElem? (i := 19) rfl))) Via.refl e1 P0 (g := (mkF m 4 #[.val (.ref ob), .val (.ref oc), .val (.int i)] [(.ref ob), (.int i)])) rfl rfl (hb hby d5_4)
    refine ogo (fun _ k => st_5_1 _ k) ?_
    show OGo _ _ _ _ (T_5_1.setTop (mkF m 7 #[.val (.ref ob), .val (.ref oc), .val (.int i)] [(.ref ca), (.int i)]))
    refine ogo (fun _ k => oalen X_5_1 hx hZ e_5_1 P2 (g := (mkF m 7 #[.val (.ref ob), .val (.ref oc), .val (.int i)] [(.ref ca), (.int i)])) rfl rfl (hb hby d5_7) _ k) ?_
    show OGo _ _ _ _ (T_5_1.setTop (mkF m 8 #[.val (.ref ob), .val (.ref oc), .val (.int i)] [(.int (64 : Int32)), (.int i)]))
    refine ogo (fun _ k => XS.icmpYes X_5_1.here hx rfl (pc0 := 8) (pc' := 37) rfl (hb hby d5_8) rfl (flt hlt).2.1 (by decide) (by decide) k) ?_
    show OGo _ _ _ _ (T_5_1.setTop (mkF m 37 #[.val (.ref ob), .val (.ref oc), .val (.int i)] []))
    refine ogo (fun _ k => XS.iconst X_5_1.here hx rfl (hb hby d5_37) k) ?_
    show OGo _ _ _ _ (T_5_1.setTop (mkF m 38 #[.val (.ref ob), .val (.ref oc), .val (.int i)] [(.int (1 : Int32))]))
    exact oret X_5_1 hx hlk Bd.returns rfl (Or.inl ⟨rfl, Or.inr (Or.inl rfl), _, rfl⟩) (hb hby d5_38) (by decide) (by decide) ⟨by rw [own_hp (fun q hq => hok q (by omega))], rfl, e_5_1⟩
  | succ kk ih =>
    intro j i hi hj hok T X e1
    have i64 : (64 : Int32).toInt = 64 := rfl
    have hn : i.toNatClampNeg = j := by simp only [Int32.toNatClampNeg, hi]; omega
    have hlt : i < (64 : Int32) := by rw [Int32.lt_iff_toInt_lt, i64]; omega
    show OGo _ _ _ _ (T.setTop (mkF m 2 #[.val (.ref ob), .val (.ref oc), .val (.int i)] []))
    refine ogo (fun _ k => XS.iloadN X.here hx rfl (hb hby d5_2) rfl k) ?_
    show OGo _ _ _ _ (T.setTop (mkF m 3 #[.val (.ref ob), .val (.ref oc), .val (.int i)] [(.int i)]))
    refine ogo (fun _ k => XS.aloadN X.here hx rfl (hb hby d5_3) rfl rfl k) ?_
    show OGo _ _ _ _ (T.setTop (mkF m 4 #[.val (.ref ob), .val (.ref oc), .val (.int i)] [(.ref ob), (.int i)]))
    obtain ⟨T_5_2, X_5_2, e_5_2, st_5_2⟩ := getF X hx hZ hown (host := "") (Or.inl (hw _ (List.mem_of_getElem? (i := 19) rfl))) Via.refl e1 P0 (g := (mkF m 4 #[.val (.ref ob), .val (.ref oc), .val (.int i)] [(.ref ob), (.int i)])) rfl rfl (hb hby d5_4)
    refine ogo (fun _ k => st_5_2 _ k) ?_
    show OGo _ _ _ _ (T_5_2.setTop (mkF m 7 #[.val (.ref ob), .val (.ref oc), .val (.int i)] [(.ref ca), (.int i)]))
    refine ogo (fun _ k => oalen X_5_2 hx hZ e_5_2 P2 (g := (mkF m 7 #[.val (.ref ob), .val (.ref oc), .val (.int i)] [(.ref ca), (.int i)])) rfl rfl (hb hby d5_7) _ k) ?_
    show OGo _ _ _ _ (T_5_2.setTop (mkF m 8 #[.val (.ref ob), .val (.ref oc), .val (.int i)] [(.int (64 : Int32)), (.int i)]))
    refine ogo (fun _ k => XS.icmpNo X_5_2.here hx rfl (hb hby d5_8) rfl (tlt hlt).2.1 k) ?_
    show OGo _ _ _ _ (T_5_2.setTop (mkF m 11 #[.val (.ref ob), .val (.ref oc), .val (.int i)] []))
    refine ogo (fun _ k => XS.aloadN X_5_2.here hx rfl (hb hby d5_11) rfl rfl k) ?_
    show OGo _ _ _ _ (T_5_2.setTop (mkF m 12 #[.val (.ref ob), .val (.ref oc), .val (.int i)] [(.ref oc)]))
    obtain ⟨T_5_3, X_5_3, e_5_3, st_5_3⟩ := getF X_5_2 hx hZ hown (host := "") (Or.inl (hw _ (List.mem_of_getElem? (i := 19) rfl))) Via.refl e_5_2 P1 (g := (mkF m 12 #[.val (.ref ob), .val (.ref oc), .val (.int i)] [(.ref oc)])) rfl rfl (hb hby d5_12)
    refine ogo (fun _ k => st_5_3 _ k) ?_
    show OGo _ _ _ _ (T_5_3.setTop (mkF m 15 #[.val (.ref ob), .val (.ref oc), .val (.int i)] [(.ref cb)]))
    refine ogo (fun _ k => XS.iloadN X_5_3.here hx rfl (hb hby d5_15) rfl k) ?_
    show OGo _ _ _ _ (T_5_3.setTop (mkF m 16 #[.val (.ref ob), .val (.ref oc), .val (.int i)] [(.int i), (.ref cb)]))
    refine ogo (fun _ k => oldB X_5_3 hx hZ e_5_3 P3 (by omega) (by omega) (g := (mkF m 16 #[.val (.ref ob), .val (.ref oc), .val (.int i)] [(.int i), (.ref cb)])) rfl rfl (hb hby d5_16) _ k) ?_
    show OGo _ _ _ _ (T_5_3.setTop (mkF m 17 #[.val (.ref ob), .val (.ref oc), .val (.int i)] [(.int (fb (i).toNatClampNeg))]))
    refine ogo (fun _ k => XS.aloadN X_5_3.here hx rfl (hb hby d5_17) rfl rfl k) ?_
    show OGo _ _ _ _ (T_5_3.setTop (mkF m 18 #[.val (.ref ob), .val (.ref oc), .val (.int i)] [(.ref ob), (.int (fb (i).toNatClampNeg))]))
    obtain ⟨T_5_4, X_5_4, e_5_4, st_5_4⟩ := getF X_5_3 hx hZ hown (host := "") (Or.inl (hw _ (List.mem_of_getElem? (i := 19) rfl))) Via.refl e_5_3 P0 (g := (mkF m 18 #[.val (.ref ob), .val (.ref oc), .val (.int i)] [(.ref ob), (.int (fb (i).toNatClampNeg))])) rfl rfl (hb hby d5_18)
    refine ogo (fun _ k => st_5_4 _ k) ?_
    show OGo _ _ _ _ (T_5_4.setTop (mkF m 21 #[.val (.ref ob), .val (.ref oc), .val (.int i)] [(.ref ca), (.int (fb (i).toNatClampNeg))]))
    refine ogo (fun _ k => XS.iloadN X_5_4.here hx rfl (hb hby d5_21) rfl k) ?_
    show OGo _ _ _ _ (T_5_4.setTop (mkF m 22 #[.val (.ref ob), .val (.ref oc), .val (.int i)] [(.int i), (.ref ca), (.int (fb (i).toNatClampNeg))]))
    refine ogo (fun _ k => oldB X_5_4 hx hZ e_5_4 P2 (by omega) (by omega) (g := (mkF m 22 #[.val (.ref ob), .val (.ref oc), .val (.int i)] [(.int i), (.ref ca), (.int (fb (i).toNatClampNeg))])) rfl rfl (hb hby d5_22) _ k) ?_
    show OGo _ _ _ _ (T_5_4.setTop (mkF m 23 #[.val (.ref ob), .val (.ref oc), .val (.int i)] [(.int (fa (i).toNatClampNeg)), (.int (fb (i).toNatClampNeg))]))
    refine ogo (fun _ k => XS.iconst X_5_4.here hx rfl (hb hby d5_23) k) ?_
    show OGo _ _ _ _ (T_5_4.setTop (mkF m 24 #[.val (.ref ob), .val (.ref oc), .val (.int i)] [(.int (-1 : Int32)), (.int (fa (i).toNatClampNeg)), (.int (fb (i).toNatClampNeg))]))
    refine ogo (fun _ k => XS.ixor X_5_4.here hx rfl (hb hby d5_24) rfl k) ?_
    show OGo _ _ _ _ (T_5_4.setTop (mkF m 25 #[.val (.ref ob), .val (.ref oc), .val (.int i)] [(.int ((fa (i).toNatClampNeg) ^^^ (-1 : Int32))), (.int (fb (i).toNatClampNeg))]))
    refine ogo (fun _ k => XS.iand X_5_4.here hx rfl (hb hby d5_25) rfl k) ?_
    show OGo _ _ _ _ (T_5_4.setTop (mkF m 26 #[.val (.ref ob), .val (.ref oc), .val (.int i)] [(.int ((fb (i).toNatClampNeg) &&& ((fa (i).toNatClampNeg) ^^^ (-1 : Int32))))]))
    by_cases hc_5_5 : ((fb (i).toNatClampNeg) &&& ((fa (i).toNatClampNeg) ^^^ (-1 : Int32))) = (0 : Int32)
    · refine ogo (fun _ k => XS.ifYes X_5_4.here hx rfl (pc0 := 26) (pc' := 31) rfl (hb hby d5_26) rfl ((if0 _ _).trans (teq hc_5_5).1) (by decide) (by decide) k) ?_
      show OGo _ _ _ _ (T_5_4.setTop (mkF m 31 #[.val (.ref ob), .val (.ref oc), .val (.int i)] []))
      refine ogo (fun _ k => XS.iinc X_5_4.here hx rfl (hb hby d5_31) rfl (l' := #[.val (.ref ob), .val (.ref oc), .val (.int (i + (1 : Int32)))]) rfl k) ?_
      show OGo _ _ _ _ (T_5_4.setTop (mkF m 34 #[.val (.ref ob), .val (.ref oc), .val (.int (i + (1 : Int32)))] []))
      refine ogo (fun _ k => XS.goto X_5_4.here hx rfl (pc0 := 34) (pc' := 2) rfl (hb hby d5_34) (by decide) (by decide) k) ?_
      show OGo _ _ _ _ (T_5_4.setTop (mkF m 2 #[.val (.ref ob), .val (.ref oc), .val (.int (i + (1 : Int32)))] []))
      exact ih (j + 1) _ (own_inc hi (by omega)) (by omega) (fun q hq => (Nat.lt_succ_iff_lt_or_eq.mp hq).elim (hok q) (fun u => by subst u; rw [← hn]; exact hc_5_5)) _ X_5_4 e_5_4
    · refine ogo (fun _ k => XS.ifNo X_5_4.here hx rfl (hb hby d5_26) rfl ((if0 _ _).trans (feq hc_5_5).1) k) ?_
      show OGo _ _ _ _ (T_5_4.setTop (mkF m 29 #[.val (.ref ob), .val (.ref oc), .val (.int i)] []))
      refine ogo (fun _ k => XS.iconst X_5_4.here hx rfl (hb hby d5_29) k) ?_
      show OGo _ _ _ _ (T_5_4.setTop (mkF m 30 #[.val (.ref ob), .val (.ref oc), .val (.int i)] [(.int (0 : Int32))]))
      exact oret X_5_4 hx hlk Bd.returns rfl (Or.inl ⟨rfl, Or.inr (Or.inl rfl), _, rfl⟩) (hb hby d5_30) (by decide) (by decide) ⟨by rw [own_hn (fun z => hc_5_5 (by have u := z j (by omega); rw [← hn] at u; exact u))], rfl, e_5_4⟩
theorem d3_0 : decode method_3_code 0 = .ok (.iload 4, 2) := by decide +kernel
theorem d3_2 : decode method_3_code 2 = .ok (.iload_n 1, 1) := by decide +kernel
theorem d3_3 : decode method_3_code 3 = .ok (.if_icmp .ne 9, 3) := by decide +kernel
theorem d3_6 : decode method_3_code 6 = .ok (.iload_n 3, 1) := by decide +kernel
theorem d3_7 : decode method_3_code 7 = .ok (.sipush 255, 3) := by decide +kernel
theorem d3_10 : decode method_3_code 10 = .ok (.iand, 1) := by decide +kernel
theorem d3_11 : decode method_3_code 11 = .ok (.ireturn, 1) := by decide +kernel
theorem d3_12 : decode method_3_code 12 = .ok (.iload 4, 2) := by decide +kernel
theorem d3_14 : decode method_3_code 14 = .ok (.iload_n 0, 1) := by decide +kernel
theorem d3_15 : decode method_3_code 15 = .ok (.if_icmp .ne 9, 3) := by decide +kernel
theorem d3_18 : decode method_3_code 18 = .ok (.iload_n 2, 1) := by decide +kernel
theorem d3_19 : decode method_3_code 19 = .ok (.sipush 255, 3) := by decide +kernel
theorem d3_22 : decode method_3_code 22 = .ok (.iand, 1) := by decide +kernel
theorem d3_23 : decode method_3_code 23 = .ok (.ireturn, 1) := by decide +kernel
theorem d3_24 : decode method_3_code 24 = .ok (.iconst 0, 1) := by decide +kernel
theorem d3_25 : decode method_3_code 25 = .ok (.ireturn, 1) := by decide +kernel
theorem pn_3 : plainName "com/example/gol_gumbaz/golgumbaz/envelope/BloomFilterHasAllPinLaw" = true := by first | (simp [plainName, overriddenIn]; done) | decide +kernel
theorem ef_3 (m : MethodId) (x0 : Int32) (x1 : Int32) (x2 : Int32) (x3 : Int32) (x4 : Int32) : entryFrame m #[(.int x0), (.int x1), (.int x2), (.int x3), (.int x4)] 5 = mkF m 0 #[.val (.int x0), .val (.int x1), .val (.int x2), .val (.int x3), .val (.int x4)] [] := by first | (simp [entryFrame, mkF, argsToLocals, Value.category]; done) | rfl
def atF (q1 : Int32) (q2 : Int32) (q3 : Int32) (q4 : Int32) (q5 : Int32)  : Int32 := (if q5 = q2 then (q4 &&& (255 : Int32)) else (if q5 = q1 then (q3 &&& (255 : Int32)) else (0 : Int32)))
set_option maxRecDepth 65536 in
set_option maxHeartbeats 40000000 in
theorem rm3 (l : Launch) (Z : State) (a0 : Array Value) (hw : ∀ d ∈ tables_1, d.before a0 Z = true) (q1 : Int32) (q2 : Int32) (q3 : Int32) (q4 : Int32) (q5 : Int32)  (h0 : Heap)  :
    OMet l Z (⟨"com/example/gol_gumbaz/golgumbaz/envelope/BloomFilterHasAllPinLaw", "at", "(IIIII)I"⟩ : MethodName) method_3_code 5 (some .int) ({ frames := 0, cells := 0, slots := 0, locals := 0 } : Room) #[(.int q1), (.int q2), (.int q3), (.int q4), (.int q5)] h0 (OPure (some (.int (atF q1 q2 q3 q4 q5))) h0) := by
  intro ws
  refine MetFree.of_bodySF (plainFor_of_name pn_3) hisR ?_
  intro p e s m args below meth c s₁ Bd hml0 hP hK
  obtain ⟨rfl, hZ, hh⟩ := hP
  have hx := Bd.exec
  have hby := Bd.bytes
  have hml : c.maxLocals = 5 := hml0
  have hown : s.vm.findClass "com/example/gol_gumbaz/golgumbaz/envelope/BloomFilterHasAllPinLaw" = some m.cls := findClass_of_methodNamed Bd.named
  have hnm := (name_of_methodNamed Bd.named Bd.method).1
  have hlk : meth.locks = false := Bd.notSynchronized
  have X0 : Stand p l e ({ frames := 0, cells := 0, slots := 0, locals := 0 } : Room) s m #[(.int q1), (.int q2), (.int q3), (.int q4), (.int q5)] below meth c s₁ [] 0 0 := Stand.of_body Bd
  have e0 : s₁.heap = h0 := by rw [← hh, Bd.state]; rfl
  refine (?_ : OGo p.tables e below (OFin s (OPure (some (.int (atF q1 q2 q3 q4 q5))) h0) 0 0) _)
  refine ogo (fun _ k => castTop (ef_3 m q1 q2 q3 q4 q5) k) ?_
  show OGo _ _ _ _ (s₁.setTop (mkF m 0 #[.val (.int q1), .val (.int q2), .val (.int q3), .val (.int q4), .val (.int q5)] []))
  refine ogo (fun _ k => XS.iload X0.here hx rfl (hb hby d3_0) rfl k) ?_
  show OGo _ _ _ _ (s₁.setTop (mkF m 2 #[.val (.int q1), .val (.int q2), .val (.int q3), .val (.int q4), .val (.int q5)] [(.int q5)]))
  refine ogo (fun _ k => XS.iloadN X0.here hx rfl (hb hby d3_2) rfl k) ?_
  show OGo _ _ _ _ (s₁.setTop (mkF m 3 #[.val (.int q1), .val (.int q2), .val (.int q3), .val (.int q4), .val (.int q5)] [(.int q2), (.int q5)]))
  by_cases hc_3_1 : q5 = q2
  · refine ogo (fun _ k => XS.icmpNo X0.here hx rfl (hb hby d3_3) rfl (teq hc_3_1).2 k) ?_
    show OGo _ _ _ _ (s₁.setTop (mkF m 6 #[.val (.int q1), .val (.int q2), .val (.int q3), .val (.int q4), .val (.int q5)] []))
    refine ogo (fun _ k => XS.iloadN X0.here hx rfl (hb hby d3_6) rfl k) ?_
    show OGo _ _ _ _ (s₁.setTop (mkF m 7 #[.val (.int q1), .val (.int q2), .val (.int q3), .val (.int q4), .val (.int q5)] [(.int q4)]))
    refine ogo (fun _ k => XS.sipush X0.here hx rfl (hb hby d3_7) k) ?_
    show OGo _ _ _ _ (s₁.setTop (mkF m 10 #[.val (.int q1), .val (.int q2), .val (.int q3), .val (.int q4), .val (.int q5)] [(.int (255 : Int32)), (.int q4)]))
    refine ogo (fun _ k => XS.iand X0.here hx rfl (hb hby d3_10) rfl k) ?_
    show OGo _ _ _ _ (s₁.setTop (mkF m 11 #[.val (.int q1), .val (.int q2), .val (.int q3), .val (.int q4), .val (.int q5)] [(.int (q4 &&& (255 : Int32)))]))
    exact oret X0 hx hlk Bd.returns rfl (Or.inl ⟨rfl, Or.inl rfl, _, rfl⟩) (hb hby d3_11) (by decide) (by decide) ⟨by simp only [atF, if_pos hc_3_1], rfl, e0⟩
  · refine ogo (fun _ k => XS.icmpYes X0.here hx rfl (pc0 := 3) (pc' := 12) rfl (hb hby d3_3) rfl (feq hc_3_1).2 (by decide) (by decide) k) ?_
    show OGo _ _ _ _ (s₁.setTop (mkF m 12 #[.val (.int q1), .val (.int q2), .val (.int q3), .val (.int q4), .val (.int q5)] []))
    refine ogo (fun _ k => XS.iload X0.here hx rfl (hb hby d3_12) rfl k) ?_
    show OGo _ _ _ _ (s₁.setTop (mkF m 14 #[.val (.int q1), .val (.int q2), .val (.int q3), .val (.int q4), .val (.int q5)] [(.int q5)]))
    refine ogo (fun _ k => XS.iloadN X0.here hx rfl (hb hby d3_14) rfl k) ?_
    show OGo _ _ _ _ (s₁.setTop (mkF m 15 #[.val (.int q1), .val (.int q2), .val (.int q3), .val (.int q4), .val (.int q5)] [(.int q1), (.int q5)]))
    by_cases hc_3_2 : q5 = q1
    · refine ogo (fun _ k => XS.icmpNo X0.here hx rfl (hb hby d3_15) rfl (teq hc_3_2).2 k) ?_
      show OGo _ _ _ _ (s₁.setTop (mkF m 18 #[.val (.int q1), .val (.int q2), .val (.int q3), .val (.int q4), .val (.int q5)] []))
      refine ogo (fun _ k => XS.iloadN X0.here hx rfl (hb hby d3_18) rfl k) ?_
      show OGo _ _ _ _ (s₁.setTop (mkF m 19 #[.val (.int q1), .val (.int q2), .val (.int q3), .val (.int q4), .val (.int q5)] [(.int q3)]))
      refine ogo (fun _ k => XS.sipush X0.here hx rfl (hb hby d3_19) k) ?_
      show OGo _ _ _ _ (s₁.setTop (mkF m 22 #[.val (.int q1), .val (.int q2), .val (.int q3), .val (.int q4), .val (.int q5)] [(.int (255 : Int32)), (.int q3)]))
      refine ogo (fun _ k => XS.iand X0.here hx rfl (hb hby d3_22) rfl k) ?_
      show OGo _ _ _ _ (s₁.setTop (mkF m 23 #[.val (.int q1), .val (.int q2), .val (.int q3), .val (.int q4), .val (.int q5)] [(.int (q3 &&& (255 : Int32)))]))
      exact oret X0 hx hlk Bd.returns rfl (Or.inl ⟨rfl, Or.inl rfl, _, rfl⟩) (hb hby d3_23) (by decide) (by decide) ⟨by simp only [atF, if_neg hc_3_1, if_pos hc_3_2], rfl, e0⟩
    · refine ogo (fun _ k => XS.icmpYes X0.here hx rfl (pc0 := 15) (pc' := 24) rfl (hb hby d3_15) rfl (feq hc_3_2).2 (by decide) (by decide) k) ?_
      show OGo _ _ _ _ (s₁.setTop (mkF m 24 #[.val (.int q1), .val (.int q2), .val (.int q3), .val (.int q4), .val (.int q5)] []))
      refine ogo (fun _ k => XS.iconst X0.here hx rfl (hb hby d3_24) k) ?_
      show OGo _ _ _ _ (s₁.setTop (mkF m 25 #[.val (.int q1), .val (.int q2), .val (.int q3), .val (.int q4), .val (.int q5)] [(.int (0 : Int32))]))
      exact oret X0 hx hlk Bd.returns rfl (Or.inl ⟨rfl, Or.inl rfl, _, rfl⟩) (hb hby d3_25) (by decide) (by decide) ⟨by simp only [atF, if_neg hc_3_1, if_neg hc_3_2], rfl, e0⟩
theorem d4_0 : decode method_4_code 0 = .ok (.iload_n 1, 1) := by decide +kernel
theorem d4_1 : decode method_4_code 1 = .ok (.iload_n 0, 1) := by decide +kernel
theorem d4_2 : decode method_4_code 2 = .ok (.iconst (-1), 1) := by decide +kernel
theorem d4_3 : decode method_4_code 3 = .ok (.ixor, 1) := by decide +kernel
theorem d4_4 : decode method_4_code 4 = .ok (.iand, 1) := by decide +kernel
theorem d4_5 : decode method_4_code 5 = .ok (.ifCond .ne 7, 3) := by decide +kernel
theorem d4_8 : decode method_4_code 8 = .ok (.iconst 1, 1) := by decide +kernel
theorem d4_9 : decode method_4_code 9 = .ok (.goto 4, 3) := by decide +kernel
theorem d4_12 : decode method_4_code 12 = .ok (.iconst 0, 1) := by decide +kernel
theorem d4_13 : decode method_4_code 13 = .ok (.ireturn, 1) := by decide +kernel
theorem pn_4 : plainName "com/example/gol_gumbaz/golgumbaz/envelope/BloomFilterHasAllPinLaw" = true := by first | (simp [plainName, overriddenIn]; done) | decide +kernel
theorem ef_4 (m : MethodId) (x0 : Int32) (x1 : Int32) : entryFrame m #[(.int x0), (.int x1)] 2 = mkF m 0 #[.val (.int x0), .val (.int x1)] [] := by first | (simp [entryFrame, mkF, argsToLocals, Value.category]; done) | rfl
def covF (q1 : Int32) (q2 : Int32)  : Int32 := (let w_4_2 : Int32 := (if (q2 &&& (q1 ^^^ (-1 : Int32))) = (0 : Int32) then (1 : Int32) else (0 : Int32)); w_4_2)
set_option maxRecDepth 65536 in
set_option maxHeartbeats 40000000 in
theorem rm4 (l : Launch) (Z : State) (a0 : Array Value) (hw : ∀ d ∈ tables_1, d.before a0 Z = true) (q1 : Int32) (q2 : Int32)  (h0 : Heap)  :
    OMet l Z (⟨"com/example/gol_gumbaz/golgumbaz/envelope/BloomFilterHasAllPinLaw", "covered", "(II)Z"⟩ : MethodName) method_4_code 2 (some .boolean) ({ frames := 0, cells := 0, slots := 0, locals := 0 } : Room) #[(.int q1), (.int q2)] h0 (OPure (some (.int (covF q1 q2))) h0) := by
  intro ws
  refine MetFree.of_bodySF (plainFor_of_name pn_4) hisR ?_
  intro p e s m args below meth c s₁ Bd hml0 hP hK
  obtain ⟨rfl, hZ, hh⟩ := hP
  have hx := Bd.exec
  have hby := Bd.bytes
  have hml : c.maxLocals = 2 := hml0
  have hown : s.vm.findClass "com/example/gol_gumbaz/golgumbaz/envelope/BloomFilterHasAllPinLaw" = some m.cls := findClass_of_methodNamed Bd.named
  have hnm := (name_of_methodNamed Bd.named Bd.method).1
  have hlk : meth.locks = false := Bd.notSynchronized
  have X0 : Stand p l e ({ frames := 0, cells := 0, slots := 0, locals := 0 } : Room) s m #[(.int q1), (.int q2)] below meth c s₁ [] 0 0 := Stand.of_body Bd
  have e0 : s₁.heap = h0 := by rw [← hh, Bd.state]; rfl
  refine (?_ : OGo p.tables e below (OFin s (OPure (some (.int (covF q1 q2))) h0) 0 0) _)
  refine ogo (fun _ k => castTop (ef_4 m q1 q2) k) ?_
  show OGo _ _ _ _ (s₁.setTop (mkF m 0 #[.val (.int q1), .val (.int q2)] []))
  refine ogo (fun _ k => XS.iloadN X0.here hx rfl (hb hby d4_0) rfl k) ?_
  show OGo _ _ _ _ (s₁.setTop (mkF m 1 #[.val (.int q1), .val (.int q2)] [(.int q2)]))
  refine ogo (fun _ k => XS.iloadN X0.here hx rfl (hb hby d4_1) rfl k) ?_
  show OGo _ _ _ _ (s₁.setTop (mkF m 2 #[.val (.int q1), .val (.int q2)] [(.int q1), (.int q2)]))
  refine ogo (fun _ k => XS.iconst X0.here hx rfl (hb hby d4_2) k) ?_
  show OGo _ _ _ _ (s₁.setTop (mkF m 3 #[.val (.int q1), .val (.int q2)] [(.int (-1 : Int32)), (.int q1), (.int q2)]))
  refine ogo (fun _ k => XS.ixor X0.here hx rfl (hb hby d4_3) rfl k) ?_
  show OGo _ _ _ _ (s₁.setTop (mkF m 4 #[.val (.int q1), .val (.int q2)] [(.int (q1 ^^^ (-1 : Int32))), (.int q2)]))
  refine ogo (fun _ k => XS.iand X0.here hx rfl (hb hby d4_4) rfl k) ?_
  show OGo _ _ _ _ (s₁.setTop (mkF m 5 #[.val (.int q1), .val (.int q2)] [(.int (q2 &&& (q1 ^^^ (-1 : Int32))))]))
  suffices J_4_3 : ∀ (w_4_2 : Int32) (hw_4_2 : w_4_2 = (if (q2 &&& (q1 ^^^ (-1 : Int32))) = (0 : Int32) then (1 : Int32) else (0 : Int32))), OGo p.tables e below (OFin s (OPure (some (.int (covF q1 q2))) h0) 0 0) (s₁.setTop (mkF m 13 #[.val (.int q1), .val (.int q2)] [(.int w_4_2)])) by
    by_cases hc_4_1 : (q2 &&& (q1 ^^^ (-1 : Int32))) = (0 : Int32)
    · refine ogo (fun _ k => XS.ifNo X0.here hx rfl (hb hby d4_5) rfl ((if0 _ _).trans (teq hc_4_1).2) k) ?_
      show OGo _ _ _ _ (s₁.setTop (mkF m 8 #[.val (.int q1), .val (.int q2)] []))
      refine ogo (fun _ k => XS.iconst X0.here hx rfl (hb hby d4_8) k) ?_
      show OGo _ _ _ _ (s₁.setTop (mkF m 9 #[.val (.int q1), .val (.int q2)] [(.int (1 : Int32))]))
      refine ogo (fun _ k => XS.goto X0.here hx rfl (pc0 := 9) (pc' := 13) rfl (hb hby d4_9) (by decide) (by decide) k) ?_
      show OGo _ _ _ _ (s₁.setTop (mkF m 13 #[.val (.int q1), .val (.int q2)] [(.int (1 : Int32))]))
      exact J_4_3 _ (if_pos hc_4_1).symm
    · refine ogo (fun _ k => XS.ifYes X0.here hx rfl (pc0 := 5) (pc' := 12) rfl (hb hby d4_5) rfl ((if0 _ _).trans (feq hc_4_1).2) (by decide) (by decide) k) ?_
      show OGo _ _ _ _ (s₁.setTop (mkF m 12 #[.val (.int q1), .val (.int q2)] []))
      refine ogo (fun _ k => XS.iconst X0.here hx rfl (hb hby d4_12) k) ?_
      show OGo _ _ _ _ (s₁.setTop (mkF m 13 #[.val (.int q1), .val (.int q2)] [(.int (0 : Int32))]))
      exact J_4_3 _ (if_neg hc_4_1).symm
  intro w_4_2 hw_4_2
  exact oret X0 hx hlk Bd.returns (onb (by subst hw_4_2; repeat' first | decide | apply oif01)) (Or.inl ⟨rfl, Or.inr (Or.inl rfl), _, rfl⟩) (hb hby d4_13) (by decide) (by decide) ⟨by subst hw_4_2; rfl, rfl, e0⟩
theorem pn_0 : plainName "com/example/gol_gumbaz/golgumbaz/envelope/BloomFilterHasAllPinLaw" = true := by first | (simp [plainName, overriddenIn]; done) | decide +kernel
theorem ef_0 (m : MethodId) (x0 : Int32) (x1 : Int32) (x2 : Int32) (x3 : Int32) (x4 : Int32) : entryFrame m #[(.int x0), (.int x1), (.int x2), (.int x3), (.int x4)] maxLocals = mkF m 0 #[.val (.int x0), .val (.int x1), .val (.int x2), .val (.int x3), .val (.int x4), .unset, .unset, .unset, .unset, .unset, .unset, .unset, .unset, .unset, .unset] [] := by first | (simp [entryFrame, mkF, argsToLocals, Value.category, maxLocals]; done) | rfl
theorem pd___B_V : parseMethodDescriptor "([B)V" = some ⟨[(.array .byte)], none⟩ := by decide +kernel
theorem pd__IIIII_I : parseMethodDescriptor "(IIIII)I" = some ⟨[.int, .int, .int, .int, .int], some .int⟩ := by decide +kernel
theorem pd__II_Z : parseMethodDescriptor "(II)Z" = some ⟨[.int, .int], some .boolean⟩ := by decide +kernel
theorem pd__Lcom_example_gol_gumbaz_golgumbaz_envelope_BloomFilter__Z : parseMethodDescriptor "(Lcom/example/gol_gumbaz/golgumbaz/envelope/BloomFilter;)Z" = some ⟨[(.object "com/example/gol_gumbaz/golgumbaz/envelope/BloomFilter")], some .boolean⟩ := by decide +kernel
theorem own_88 (y : Int32) : (y.toInt8.toInt32).toInt8.toInt32 = y.toInt8.toInt32 := by
  apply Int32.toInt_inj.mp
  have h1 := c_i2b y
  have h2 := c_i2b y.toInt8.toInt32
  omega
theorem own_255 (y : Int32) : y &&& (255 : Int32) = y.toInt8.toInt32 &&& (255 : Int32) := by
  apply Int32.toInt_inj.mp
  rw [c_mask y (255 : Int32) 8 (by decide) (by decide), c_mask y.toInt8.toInt32 (255 : Int32) 8 (by decide) (by decide)]
  have h := (c_i2b y).1
  omega
theorem own_i8 (y : Int8) : Int8.ofNat y.toBitVec.toNat = y := by
  apply Int8.toBitVec_inj.mp
  show BitVec.ofNat 8 y.toBitVec.toNat = y.toBitVec
  simp
theorem own_cov8 : ∀ c d : Fin 256, (((Int8.ofNat d.val).toInt32 &&& ((Int8.ofNat c.val).toInt32 ^^^ (-1 : Int32))) = (0 : Int32) ↔ (((Int8.ofNat d.val).toInt32 &&& (255 : Int32)) &&& (((Int8.ofNat c.val).toInt32 &&& (255 : Int32)) ^^^ (-1 : Int32))) = (0 : Int32)) := by decide +kernel
theorem own_cov (x y : Int32) : ((y.toInt8.toInt32 &&& (x.toInt8.toInt32 ^^^ (-1 : Int32))) = (0 : Int32) ↔ ((y &&& (255 : Int32)) &&& ((x &&& (255 : Int32)) ^^^ (-1 : Int32))) = (0 : Int32)) := by
  have h := own_cov8 ⟨x.toInt8.toBitVec.toNat, x.toInt8.toBitVec.isLt⟩ ⟨y.toInt8.toBitVec.toNat, y.toInt8.toBitVec.isLt⟩
  dsimp only at h
  rw [own_i8, own_i8] at h
  rw [own_255 x, own_255 y]
  exact h
theorem own_inj {j k : Int32} (hj : 0 ≤ j.toInt) (hk : 0 ≤ k.toInt) (h : j.toNatClampNeg = k.toNatClampNeg) : j = k := by
  apply Int32.toInt_inj.mp
  simp only [Int32.toNatClampNeg] at h
  omega
theorem own_q64 : ∀ r : Fin 64, (Int32.ofNat r.val).toInt = r.val ∧ (Int32.ofNat r.val).toNatClampNeg = r.val := by decide +kernel
/-- what place k of an array of 64 holds that was written at p1, then at p2 -/
def own_sel (p1 p2 v1 v2 k : Int32) : Int32 := if k = p2 then v2 else if k = p1 then v1 else (0 : Int32)
def own_g (p1 p2 v1 v2 : Int32) : Nat → Int32 := fun i : Nat => if i = (p2).toNatClampNeg then (v2.toInt8.toInt32).toInt8.toInt32 else (fun i : Nat => if i = (p1).toNatClampNeg then (v1.toInt8.toInt32).toInt8.toInt32 else (fun _ : Nat => (0 : Int32)) i) i
theorem own_gat (p1 p2 v1 v2 k : Int32) (h1 : 0 ≤ p1.toInt) (h2 : 0 ≤ p2.toInt) (hk : 0 ≤ k.toInt) : own_g p1 p2 v1 v2 k.toNatClampNeg = (own_sel p1 p2 v1 v2 k).toInt8.toInt32 := by
  simp only [own_g, own_sel]
  by_cases a : k = p2
  · rw [if_pos (by rw [a]), if_pos a, own_88]
  · rw [if_neg (fun z => a (own_inj hk h2 z)), if_neg a]
    by_cases b : k = p1
    · rw [if_pos (by rw [b]), if_pos b, own_88]
    · rw [if_neg (fun z => b (own_inj hk h1 z)), if_neg b]; rfl
theorem own_at (p1 p2 v1 v2 k : Int32) : atF p1 p2 v1 v2 k = own_sel p1 p2 v1 v2 k &&& (255 : Int32) := by
  simp only [atF, own_sel]
  by_cases a : k = p2
  · rw [if_pos a, if_pos a]
  · rw [if_neg a, if_neg a]
    by_cases b : k = p1
    · rw [if_pos b, if_pos b]
    · rw [if_neg b, if_neg b]; rfl
theorem own_c (m t : Int32) : covF m t = if (t &&& (m ^^^ (-1 : Int32))) = (0 : Int32) then (1 : Int32) else (0 : Int32) := rfl
theorem own_badat (i1 i2 x1 x2 j1 j2 y1 y2 k : Int32) (a1 : 0 ≤ i1.toInt) (a2 : 0 ≤ i2.toInt) (b1 : 0 ≤ j1.toInt) (b2 : 0 ≤ j2.toInt) (hk : 0 ≤ k.toInt) :
    own_bad (own_g i1 i2 x1 x2) (own_g j1 j2 y1 y2) k.toNatClampNeg = (0 : Int32) ↔ covF (atF i1 i2 x1 x2 k) (atF j1 j2 y1 y2 k) = (1 : Int32) := by
  rw [own_bad, own_gat _ _ _ _ _ a1 a2 hk, own_gat _ _ _ _ _ b1 b2 hk, own_cov, own_c, own_at, own_at]
  by_cases q : ((own_sel j1 j2 y1 y2 k &&& (255 : Int32)) &&& ((own_sel i1 i2 x1 x2 k &&& (255 : Int32)) ^^^ (-1 : Int32))) = (0 : Int32)
  · rw [if_pos q]; exact ⟨fun _ => rfl, fun _ => q⟩
  · rw [if_neg q]; exact ⟨fun z => absurd z q, fun z => absurd z (by decide)⟩
theorem own_main (i1 i2 x1 x2 j1 j2 y1 y2 : Int32) (a1 : 0 ≤ i1.toInt) (a2 : 0 ≤ i2.toInt) (b1 : 0 ≤ j1.toInt ∧ j1.toInt < ((64 : Nat) : Int)) (b2 : 0 ≤ j2.toInt ∧ j2.toInt < ((64 : Nat) : Int)) :
    hasAllF (own_g i1 i2 x1 x2) (own_g j1 j2 y1 y2) = (if covF (atF i1 i2 x1 x2 j1) (atF j1 j2 y1 y2 j1) = (0 : Int32) then (0 : Int32) else (if covF (atF i1 i2 x1 x2 j2) (atF j1 j2 y1 y2 j2) = (0 : Int32) then (0 : Int32) else (1 : Int32))) := by
  have B := fun k hk => own_badat i1 i2 x1 x2 j1 j2 y1 y2 k a1 a2 b1.1 b2.1 hk
  have c01 : ∀ m t, covF m t = (0 : Int32) ∨ covF m t = (1 : Int32) := fun m t => by rw [own_c]; split <;> simp
  by_cases q1 : covF (atF i1 i2 x1 x2 j1) (atF j1 j2 y1 y2 j1) = (0 : Int32)
  · rw [if_pos q1]
    refine own_hn fun z => ?_
    have u := (B j1 b1.1).mp (z _ (oidx b1.1 b1.2).2)
    rw [q1] at u; exact absurd u (by decide)
  · rw [if_neg q1]
    by_cases q2 : covF (atF i1 i2 x1 x2 j2) (atF j1 j2 y1 y2 j2) = (0 : Int32)
    · rw [if_pos q2]
      refine own_hn fun z => ?_
      have u := (B j2 b2.1).mp (z _ (oidx b2.1 b2.2).2)
      rw [q2] at u; exact absurd u (by decide)
    · rw [if_neg q2]
      refine own_hp fun q hq => ?_
      have hr := own_q64 ⟨q, hq⟩
      dsimp only at hr
      have h0 : 0 ≤ (Int32.ofNat q).toInt := by omega
      rw [← hr.2]
      by_cases e2 : Int32.ofNat q = j2
      · rw [e2]; exact (B j2 b2.1).mpr ((c01 _ _).resolve_left q2)
      · by_cases e1 : Int32.ofNat q = j1
        · rw [e1]; exact (B j1 b1.1).mpr ((c01 _ _).resolve_left q1)
        · rw [own_bad, own_gat j1 j2 y1 y2 _ b1.1 b2.1 h0, own_sel, if_neg e2, if_neg e1]
          exact Int32.zero_and
theorem plain0 (va : Int32) (vb : Int32) (vc : Int32) (vd : Int32) (ve : Int32) (w_0_1 : Int32) (hw_0_1 : w_0_1 = (va &&& (63 : Int32))) (w_0_2 : Int32) (hw_0_2 : w_0_2 = (((va.toUInt32 >>> ((6 : Int32) &&& 31).toUInt32).toInt32) &&& (63 : Int32))) (w_0_3 : Int32) (hw_0_3 : w_0_3 = (((va.toUInt32 >>> ((12 : Int32) &&& 31).toUInt32).toInt32) &&& (63 : Int32))) (w_0_4 : Int32) (hw_0_4 : w_0_4 = (((va.toUInt32 >>> ((18 : Int32) &&& 31).toUInt32).toInt32) &&& (63 : Int32))) (w_0_66 : Int32) (hw_0_66 : w_0_66 = (if (covF (atF w_0_1 w_0_2 vb vc w_0_3) (atF w_0_3 w_0_4 vd ve w_0_3)) = (0 : Int32) then (0 : Int32) else (if (covF (atF w_0_1 w_0_2 vb vc w_0_4) (atF w_0_3 w_0_4 vd ve w_0_4)) = (0 : Int32) then (0 : Int32) else (1 : Int32)))) (w_0_80 : Int32) (hw_0_80 : w_0_80 = (if (covF (atF w_0_3 w_0_4 vd ve w_0_1) (atF w_0_1 w_0_2 vb vc w_0_1)) = (0 : Int32) then (0 : Int32) else (if (covF (atF w_0_3 w_0_4 vd ve w_0_2) (atF w_0_1 w_0_2 vb vc w_0_2)) = (0 : Int32) then (0 : Int32) else (1 : Int32)))) (w_0_90 : Int32) (hw_0_90 : w_0_90 = (if (hasAllF (fun i : Nat => if i = (w_0_2).toNatClampNeg then (vc.toInt8.toInt32).toInt8.toInt32 else (fun i : Nat => if i = (w_0_1).toNatClampNeg then (vb.toInt8.toInt32).toInt8.toInt32 else (fun _ : Nat => (0 : Int32)) i) i) (fun i : Nat => if i = (w_0_4).toNatClampNeg then (ve.toInt8.toInt32).toInt8.toInt32 else (fun i : Nat => if i = (w_0_3).toNatClampNeg then (vd.toInt8.toInt32).toInt8.toInt32 else (fun _ : Nat => (0 : Int32)) i) i)) = w_0_66 then (if (hasAllF (fun i : Nat => if i = (w_0_4).toNatClampNeg then (ve.toInt8.toInt32).toInt8.toInt32 else (fun i : Nat => if i = (w_0_3).toNatClampNeg then (vd.toInt8.toInt32).toInt8.toInt32 else (fun _ : Nat => (0 : Int32)) i) i) (fun i : Nat => if i = (w_0_2).toNatClampNeg then (vc.toInt8.toInt32).toInt8.toInt32 else (fun i : Nat => if i = (w_0_1).toNatClampNeg then (vb.toInt8.toInt32).toInt8.toInt32 else (fun _ : Nat => (0 : Int32)) i) i)) = w_0_80 then (1 : Int32) else (0 : Int32)) else (0 : Int32))) : w_0_90 = (1 : Int32) := by
  have r1 := own_j hw_0_1
  have r2 := own_j hw_0_2
  have r3 := own_j hw_0_3
  have r4 := own_j hw_0_4
  have f1 := own_main w_0_1 w_0_2 vb vc w_0_3 w_0_4 vd ve r1.1 r2.1 r3 r4
  have f2 := own_main w_0_3 w_0_4 vd ve w_0_1 w_0_2 vb vc r3.1 r4.1 r1 r2
  rw [← hw_0_66] at f1
  rw [← hw_0_80] at f2
  rw [hw_0_90]
  exact (if_pos f1).trans (if_pos f2)
set_option maxRecDepth 65536 in
set_option maxHeartbeats 40000000 in
theorem rm0 (l : Launch) (Z : State) (a0 : Array Value) (hw : ∀ d ∈ tables_1, d.before a0 Z = true) (ws : List Jvm.Cond) (va : Int32) (vb : Int32) (vc : Int32) (vd : Int32) (ve : Int32) (h0 : Heap) (n0 : Nat) (Z0 : n0 ≤ h0.size)  :
    MetFree l x (head1 (Jvm.Cond.code x code maxLocals ret :: ws) room_1) (fun a U => a = #[(.int va), (.int vb), (.int vc), (.int vd), (.int ve)] ∧ Z.Warmed39 U.vm ∧ U.heap = h0) (fun _ _ _ _ _ => True) (fun _ U o U' => ∃ v L, o = .returned v ∧ (v = some (.int 1) ∧ Fr n0 L) ∧ FrameEnd U o U' L 24 640) := by
  refine MetFree.of_bodySF (plainFor_of_name pn_0) hisR ?_
  intro p e s m args below meth c s₁ Bd hml0 hP hK
  obtain ⟨rfl, hZ, hh⟩ := hP
  have hx := Bd.exec
  have hby := Bd.bytes
  have hml : c.maxLocals = 15 := hml0
  have hown : s.vm.findClass "com/example/gol_gumbaz/golgumbaz/envelope/BloomFilterHasAllPinLaw" = some m.cls := findClass_of_methodNamed Bd.named
  have hnm := (name_of_methodNamed Bd.named Bd.method).1
  have hlk : meth.locks = false := Bd.notSynchronized
  have X0 : Stand p l e room_1 s m #[(.int va), (.int vb), (.int vc), (.int vd), (.int ve)] below meth c s₁ [] 0 0 := Stand.of_body Bd
  have e0 : s₁.heap = h0 := by rw [← hh, Bd.state]; rfl
  have N0 := Fr.nil n0
  refine (?_ : OGo p.tables e below (OFin s (fun v _ L => v = some (.int 1) ∧ Fr n0 L) 24 640) _)
  refine ogo (fun _ k => castTop (ef_0 m va vb vc vd ve) k) ?_
  show OGo _ _ _ _ (s₁.setTop (mkF m 0 #[.val (.int va), .val (.int vb), .val (.int vc), .val (.int vd), .val (.int ve), .unset, .unset, .unset, .unset, .unset, .unset, .unset, .unset, .unset, .unset] []))
  refine ogo (fun _ k => XS.iloadN X0.here hx rfl (hb hby at_0) rfl k) ?_
  show OGo _ _ _ _ (s₁.setTop (mkF m 1 #[.val (.int va), .val (.int vb), .val (.int vc), .val (.int vd), .val (.int ve), .unset, .unset, .unset, .unset, .unset, .unset, .unset, .unset, .unset, .unset] [(.int va)]))
  refine ogo (fun _ k => XS.bipush X0.here hx rfl (hb hby at_1) k) ?_
  show OGo _ _ _ _ (s₁.setTop (mkF m 3 #[.val (.int va), .val (.int vb), .val (.int vc), .val (.int vd), .val (.int ve), .unset, .unset, .unset, .unset, .unset, .unset, .unset, .unset, .unset, .unset] [(.int (63 : Int32)), (.int va)]))
  refine ogo (fun _ k => XS.iand X0.here hx rfl (hb hby at_3) rfl k) ?_
  show OGo _ _ _ _ (s₁.setTop (mkF m 4 #[.val (.int va), .val (.int vb), .val (.int vc), .val (.int vd), .val (.int ve), .unset, .unset, .unset, .unset, .unset, .unset, .unset, .unset, .unset, .unset] [(.int (va &&& (63 : Int32)))]))
  suffices Nw_0_1 : ∀ w_0_1 : Int32, w_0_1 = (va &&& (63 : Int32)) → OGo p.tables e below (OFin s (fun v _ L => v = some (.int 1) ∧ Fr n0 L) 24 640) (s₁.setTop (mkF m 4 #[.val (.int va), .val (.int vb), .val (.int vc), .val (.int vd), .val (.int ve), .unset, .unset, .unset, .unset, .unset, .unset, .unset, .unset, .unset, .unset] [(.int w_0_1)])) from Nw_0_1 _ rfl
  intro w_0_1 hw_0_1
  refine ogo (fun _ k => XS.istore X0.here hx rfl (hb hby at_4) rfl (l' := #[.val (.int va), .val (.int vb), .val (.int vc), .val (.int vd), .val (.int ve), .val (.int w_0_1), .unset, .unset, .unset, .unset, .unset, .unset, .unset, .unset, .unset]) rfl k) ?_
  show OGo _ _ _ _ (s₁.setTop (mkF m 6 #[.val (.int va), .val (.int vb), .val (.int vc), .val (.int vd), .val (.int ve), .val (.int w_0_1), .unset, .unset, .unset, .unset, .unset, .unset, .unset, .unset, .unset] []))
  refine ogo (fun _ k => XS.iloadN X0.here hx rfl (hb hby at_6) rfl k) ?_
  show OGo _ _ _ _ (s₁.setTop (mkF m 7 #[.val (.int va), .val (.int vb), .val (.int vc), .val (.int vd), .val (.int ve), .val (.int w_0_1), .unset, .unset, .unset, .unset, .unset, .unset, .unset, .unset, .unset] [(.int va)]))
  refine ogo (fun _ k => XS.bipush X0.here hx rfl (hb hby at_7) k) ?_
  show OGo _ _ _ _ (s₁.setTop (mkF m 9 #[.val (.int va), .val (.int vb), .val (.int vc), .val (.int vd), .val (.int ve), .val (.int w_0_1), .unset, .unset, .unset, .unset, .unset, .unset, .unset, .unset, .unset] [(.int (6 : Int32)), (.int va)]))
  refine ogo (fun _ k => XS.iushr X0.here hx rfl (hb hby at_9) rfl k) ?_
  show OGo _ _ _ _ (s₁.setTop (mkF m 10 #[.val (.int va), .val (.int vb), .val (.int vc), .val (.int vd), .val (.int ve), .val (.int w_0_1), .unset, .unset, .unset, .unset, .unset, .unset, .unset, .unset, .unset] [(.int ((va.toUInt32 >>> ((6 : Int32) &&& 31).toUInt32).toInt32))]))
  refine ogo (fun _ k => XS.bipush X0.here hx rfl (hb hby at_10) k) ?_
  show OGo _ _ _ _ (s₁.setTop (mkF m 12 #[.val (.int va), .val (.int vb), .val (.int vc), .val (.int vd), .val (.int ve), .val (.int w_0_1), .unset, .unset, .unset, .unset, .unset, .unset, .unset, .unset, .unset] [(.int (63 : Int32)), (.int ((va.toUInt32 >>> ((6 : Int32) &&& 31).toUInt32).toInt32))]))
  refine ogo (fun _ k => XS.iand X0.here hx rfl (hb hby at_12) rfl k) ?_
  show OGo _ _ _ _ (s₁.setTop (mkF m 13 #[.val (.int va), .val (.int vb), .val (.int vc), .val (.int vd), .val (.int ve), .val (.int w_0_1), .unset, .unset, .unset, .unset, .unset, .unset, .unset, .unset, .unset] [(.int (((va.toUInt32 >>> ((6 : Int32) &&& 31).toUInt32).toInt32) &&& (63 : Int32)))]))
  suffices Nw_0_2 : ∀ w_0_2 : Int32, w_0_2 = (((va.toUInt32 >>> ((6 : Int32) &&& 31).toUInt32).toInt32) &&& (63 : Int32)) → OGo p.tables e below (OFin s (fun v _ L => v = some (.int 1) ∧ Fr n0 L) 24 640) (s₁.setTop (mkF m 13 #[.val (.int va), .val (.int vb), .val (.int vc), .val (.int vd), .val (.int ve), .val (.int w_0_1), .unset, .unset, .unset, .unset, .unset, .unset, .unset, .unset, .unset] [(.int w_0_2)])) from Nw_0_2 _ rfl
  intro w_0_2 hw_0_2
  refine ogo (fun _ k => XS.istore X0.here hx rfl (hb hby at_13) rfl (l' := #[.val (.int va), .val (.int vb), .val (.int vc), .val (.int vd), .val (.int ve), .val (.int w_0_1), .val (.int w_0_2), .unset, .unset, .unset, .unset, .unset, .unset, .unset, .unset]) rfl k) ?_
  show OGo _ _ _ _ (s₁.setTop (mkF m 15 #[.val (.int va), .val (.int vb), .val (.int vc), .val (.int vd), .val (.int ve), .val (.int w_0_1), .val (.int w_0_2), .unset, .unset, .unset, .unset, .unset, .unset, .unset, .unset] []))
  refine ogo (fun _ k => XS.iloadN X0.here hx rfl (hb hby at_15) rfl k) ?_
  show OGo _ _ _ _ (s₁.setTop (mkF m 16 #[.val (.int va), .val (.int vb), .val (.int vc), .val (.int vd), .val (.int ve), .val (.int w_0_1), .val (.int w_0_2), .unset, .unset, .unset, .unset, .unset, .unset, .unset, .unset] [(.int va)]))
  refine ogo (fun _ k => XS.bipush X0.here hx rfl (hb hby at_16) k) ?_
  show OGo _ _ _ _ (s₁.setTop (mkF m 18 #[.val (.int va), .val (.int vb), .val (.int vc), .val (.int vd), .val (.int ve), .val (.int w_0_1), .val (.int w_0_2), .unset, .unset, .unset, .unset, .unset, .unset, .unset, .unset] [(.int (12 : Int32)), (.int va)]))
  refine ogo (fun _ k => XS.iushr X0.here hx rfl (hb hby at_18) rfl k) ?_
  show OGo _ _ _ _ (s₁.setTop (mkF m 19 #[.val (.int va), .val (.int vb), .val (.int vc), .val (.int vd), .val (.int ve), .val (.int w_0_1), .val (.int w_0_2), .unset, .unset, .unset, .unset, .unset, .unset, .unset, .unset] [(.int ((va.toUInt32 >>> ((12 : Int32) &&& 31).toUInt32).toInt32))]))
  refine ogo (fun _ k => XS.bipush X0.here hx rfl (hb hby at_19) k) ?_
  show OGo _ _ _ _ (s₁.setTop (mkF m 21 #[.val (.int va), .val (.int vb), .val (.int vc), .val (.int vd), .val (.int ve), .val (.int w_0_1), .val (.int w_0_2), .unset, .unset, .unset, .unset, .unset, .unset, .unset, .unset] [(.int (63 : Int32)), (.int ((va.toUInt32 >>> ((12 : Int32) &&& 31).toUInt32).toInt32))]))
  refine ogo (fun _ k => XS.iand X0.here hx rfl (hb hby at_21) rfl k) ?_
  show OGo _ _ _ _ (s₁.setTop (mkF m 22 #[.val (.int va), .val (.int vb), .val (.int vc), .val (.int vd), .val (.int ve), .val (.int w_0_1), .val (.int w_0_2), .unset, .unset, .unset, .unset, .unset, .unset, .unset, .unset] [(.int (((va.toUInt32 >>> ((12 : Int32) &&& 31).toUInt32).toInt32) &&& (63 : Int32)))]))
  suffices Nw_0_3 : ∀ w_0_3 : Int32, w_0_3 = (((va.toUInt32 >>> ((12 : Int32) &&& 31).toUInt32).toInt32) &&& (63 : Int32)) → OGo p.tables e below (OFin s (fun v _ L => v = some (.int 1) ∧ Fr n0 L) 24 640) (s₁.setTop (mkF m 22 #[.val (.int va), .val (.int vb), .val (.int vc), .val (.int vd), .val (.int ve), .val (.int w_0_1), .val (.int w_0_2), .unset, .unset, .unset, .unset, .unset, .unset, .unset, .unset] [(.int w_0_3)])) from Nw_0_3 _ rfl
  intro w_0_3 hw_0_3
  refine ogo (fun _ k => XS.istore X0.here hx rfl (hb hby at_22) rfl (l' := #[.val (.int va), .val (.int vb), .val (.int vc), .val (.int vd), .val (.int ve), .val (.int w_0_1), .val (.int w_0_2), .val (.int w_0_3), .unset, .unset, .unset, .unset, .unset, .unset, .unset]) rfl k) ?_
  show OGo _ _ _ _ (s₁.setTop (mkF m 24 #[.val (.int va), .val (.int vb), .val (.int vc), .val (.int vd), .val (.int ve), .val (.int w_0_1), .val (.int w_0_2), .val (.int w_0_3), .unset, .unset, .unset, .unset, .unset, .unset, .unset] []))
  refine ogo (fun _ k => XS.iloadN X0.here hx rfl (hb hby at_24) rfl k) ?_
  show OGo _ _ _ _ (s₁.setTop (mkF m 25 #[.val (.int va), .val (.int vb), .val (.int vc), .val (.int vd), .val (.int ve), .val (.int w_0_1), .val (.int w_0_2), .val (.int w_0_3), .unset, .unset, .unset, .unset, .unset, .unset, .unset] [(.int va)]))
  refine ogo (fun _ k => XS.bipush X0.here hx rfl (hb hby at_25) k) ?_
  show OGo _ _ _ _ (s₁.setTop (mkF m 27 #[.val (.int va), .val (.int vb), .val (.int vc), .val (.int vd), .val (.int ve), .val (.int w_0_1), .val (.int w_0_2), .val (.int w_0_3), .unset, .unset, .unset, .unset, .unset, .unset, .unset] [(.int (18 : Int32)), (.int va)]))
  refine ogo (fun _ k => XS.iushr X0.here hx rfl (hb hby at_27) rfl k) ?_
  show OGo _ _ _ _ (s₁.setTop (mkF m 28 #[.val (.int va), .val (.int vb), .val (.int vc), .val (.int vd), .val (.int ve), .val (.int w_0_1), .val (.int w_0_2), .val (.int w_0_3), .unset, .unset, .unset, .unset, .unset, .unset, .unset] [(.int ((va.toUInt32 >>> ((18 : Int32) &&& 31).toUInt32).toInt32))]))
  refine ogo (fun _ k => XS.bipush X0.here hx rfl (hb hby at_28) k) ?_
  show OGo _ _ _ _ (s₁.setTop (mkF m 30 #[.val (.int va), .val (.int vb), .val (.int vc), .val (.int vd), .val (.int ve), .val (.int w_0_1), .val (.int w_0_2), .val (.int w_0_3), .unset, .unset, .unset, .unset, .unset, .unset, .unset] [(.int (63 : Int32)), (.int ((va.toUInt32 >>> ((18 : Int32) &&& 31).toUInt32).toInt32))]))
  refine ogo (fun _ k => XS.iand X0.here hx rfl (hb hby at_30) rfl k) ?_
  show OGo _ _ _ _ (s₁.setTop (mkF m 31 #[.val (.int va), .val (.int vb), .val (.int vc), .val (.int vd), .val (.int ve), .val (.int w_0_1), .val (.int w_0_2), .val (.int w_0_3), .unset, .unset, .unset, .unset, .unset, .unset, .unset] [(.int (((va.toUInt32 >>> ((18 : Int32) &&& 31).toUInt32).toInt32) &&& (63 : Int32)))]))
  suffices Nw_0_4 : ∀ w_0_4 : Int32, w_0_4 = (((va.toUInt32 >>> ((18 : Int32) &&& 31).toUInt32).toInt32) &&& (63 : Int32)) → OGo p.tables e below (OFin s (fun v _ L => v = some (.int 1) ∧ Fr n0 L) 24 640) (s₁.setTop (mkF m 31 #[.val (.int va), .val (.int vb), .val (.int vc), .val (.int vd), .val (.int ve), .val (.int w_0_1), .val (.int w_0_2), .val (.int w_0_3), .unset, .unset, .unset, .unset, .unset, .unset, .unset] [(.int w_0_4)])) from Nw_0_4 _ rfl
  intro w_0_4 hw_0_4
  refine ogo (fun _ k => XS.istore X0.here hx rfl (hb hby at_31) rfl (l' := #[.val (.int va), .val (.int vb), .val (.int vc), .val (.int vd), .val (.int ve), .val (.int w_0_1), .val (.int w_0_2), .val (.int w_0_3), .val (.int w_0_4), .unset, .unset, .unset, .unset, .unset, .unset]) rfl k) ?_
  show OGo _ _ _ _ (s₁.setTop (mkF m 33 #[.val (.int va), .val (.int vb), .val (.int vc), .val (.int vd), .val (.int ve), .val (.int w_0_1), .val (.int w_0_2), .val (.int w_0_3), .val (.int w_0_4), .unset, .unset, .unset, .unset, .unset, .unset] []))
  refine ogo (fun _ k => XS.bipush X0.here hx rfl (hb hby at_33) k) ?_
  show OGo _ _ _ _ (s₁.setTop (mkF m 35 #[.val (.int va), .val (.int vb), .val (.int vc), .val (.int vd), .val (.int ve), .val (.int w_0_1), .val (.int w_0_2), .val (.int w_0_3), .val (.int w_0_4), .unset, .unset, .unset, .unset, .unset, .unset] [(.int (64 : Int32))]))
  obtain ⟨T_0_5, h_0_5, k_0_5, X_0_5, e_0_5, E_0_5, A_0_5, Ex_0_5, st_0_5⟩ := newPE X0 hx hZ (hw _ (List.mem_of_getElem? (i := 0) rfl)) e0 (g := (mkF m 35 #[.val (.int va), .val (.int vb), .val (.int vc), .val (.int vd), .val (.int ve), .val (.int w_0_1), .val (.int w_0_2), .val (.int w_0_3), .val (.int w_0_4), .unset, .unset, .unset, .unset, .unset, .unset] [(.int (64 : Int32))])) rfl (hb hby at_35) rfl (by decide) (cap := 64) (by decide) (by decide) (by decide) (by decide) (ad := "[B") (by first | rfl | decide +kernel)
  obtain ⟨b_0_5, g_0_5⟩ : ∃ z, z = h0.size := ⟨_, rfl⟩
  rw [← g_0_5] at A_0_5 Ex_0_5 st_0_5
  have g_b_0_5 : n0 ≤ b_0_5 := Nat.le_trans Z0 (Nat.le_of_eq g_0_5.symm)
  have Z_0_5 : n0 ≤ h_0_5.size := Nat.le_trans Z0 E_0_5.1
  have V_0_5 : OAr Z h_0_5 b_0_5 .byte 64 (fun i => .int ((fun _ : Nat => (0 : Int32)) i)) := OAr.new A_0_5 (by decide)
  obtain ⟨lc_0_5, N_0_5, X_0_5⟩ : ∃ L, Fr n0 L ∧ Stand p l e room_1 s m #[(.int va), (.int vb), (.int vc), (.int vd), (.int ve)] below meth c T_0_5 L 1 64 := ⟨_, N0, X_0_5⟩
  refine ogo (fun _ k => st_0_5 _ k) ?_
  show OGo _ _ _ _ (T_0_5.setTop (mkF m 37 #[.val (.int va), .val (.int vb), .val (.int vc), .val (.int vd), .val (.int ve), .val (.int w_0_1), .val (.int w_0_2), .val (.int w_0_3), .val (.int w_0_4), .unset, .unset, .unset, .unset, .unset, .unset] [(.ref b_0_5)]))
  refine ogo (fun _ k => XS.astore X_0_5.here hx rfl (hb hby at_37) rfl rfl (l' := #[.val (.int va), .val (.int vb), .val (.int vc), .val (.int vd), .val (.int ve), .val (.int w_0_1), .val (.int w_0_2), .val (.int w_0_3), .val (.int w_0_4), .val (.ref b_0_5), .unset, .unset, .unset, .unset, .unset]) rfl k) ?_
  show OGo _ _ _ _ (T_0_5.setTop (mkF m 39 #[.val (.int va), .val (.int vb), .val (.int vc), .val (.int vd), .val (.int ve), .val (.int w_0_1), .val (.int w_0_2), .val (.int w_0_3), .val (.int w_0_4), .val (.ref b_0_5), .unset, .unset, .unset, .unset, .unset] []))
  refine ogo (fun _ k => XS.aload X_0_5.here hx rfl (hb hby at_39) rfl rfl k) ?_
  show OGo _ _ _ _ (T_0_5.setTop (mkF m 41 #[.val (.int va), .val (.int vb), .val (.int vc), .val (.int vd), .val (.int ve), .val (.int w_0_1), .val (.int w_0_2), .val (.int w_0_3), .val (.int w_0_4), .val (.ref b_0_5), .unset, .unset, .unset, .unset, .unset] [(.ref b_0_5)]))
  refine ogo (fun _ k => XS.iload X_0_5.here hx rfl (hb hby at_41) rfl k) ?_
  show OGo _ _ _ _ (T_0_5.setTop (mkF m 43 #[.val (.int va), .val (.int vb), .val (.int vc), .val (.int vd), .val (.int ve), .val (.int w_0_1), .val (.int w_0_2), .val (.int w_0_3), .val (.int w_0_4), .val (.ref b_0_5), .unset, .unset, .unset, .unset, .unset] [(.int w_0_1), (.ref b_0_5)]))
  refine ogo (fun _ k => XS.iloadN X_0_5.here hx rfl (hb hby at_43) rfl k) ?_
  show OGo _ _ _ _ (T_0_5.setTop (mkF m 44 #[.val (.int va), .val (.int vb), .val (.int vc), .val (.int vd), .val (.int ve), .val (.int w_0_1), .val (.int w_0_2), .val (.int w_0_3), .val (.int w_0_4), .val (.ref b_0_5), .unset, .unset, .unset, .unset, .unset] [(.int vb), (.int w_0_1), (.ref b_0_5)]))
  refine ogo (fun _ k => XS.i2b X_0_5.here hx rfl (hb hby at_44) rfl k) ?_
  show OGo _ _ _ _ (T_0_5.setTop (mkF m 45 #[.val (.int va), .val (.int vb), .val (.int vc), .val (.int vd), .val (.int ve), .val (.int w_0_1), .val (.int w_0_2), .val (.int w_0_3), .val (.int w_0_4), .val (.ref b_0_5), .unset, .unset, .unset, .unset, .unset] [(.int (vb.toInt8.toInt32)), (.int w_0_1), (.ref b_0_5)]))
  obtain ⟨T_0_6, h_0_6, X_0_6, e_0_6, W_0_6, V_0_6, st_0_6⟩ := ostB X_0_5 hx hZ e_0_5 V_0_5 (own_j hw_0_1).1 (own_j hw_0_1).2 (g := (mkF m 45 #[.val (.int va), .val (.int vb), .val (.int vc), .val (.int vd), .val (.int ve), .val (.int w_0_1), .val (.int w_0_2), .val (.int w_0_3), .val (.int w_0_4), .val (.ref b_0_5), .unset, .unset, .unset, .unset, .unset] [(.int (vb.toInt8.toInt32)), (.int w_0_1), (.ref b_0_5)])) rfl rfl (hb hby at_45)
  have Y_0_6 : OAr Z h_0_6 b_0_5 .byte 64 (fun i => .int ((fun i : Nat => if i = (w_0_1).toNatClampNeg then (vb.toInt8.toInt32).toInt8.toInt32 else (fun _ : Nat => (0 : Int32)) i) i)) := V_0_6.conv (fun i _ => by dsimp only; split <;> rfl)
  have f_0_7 := Ex_0_5.wr W_0_6
  have Z_0_6 : n0 ≤ h_0_6.size := Nat.le_trans Z_0_5 (Keep.of_wr W_0_6).1
  obtain ⟨lc_0_6, N_0_6, X_0_6⟩ : ∃ L, Fr n0 L ∧ Stand p l e room_1 s m #[(.int va), (.int vb), (.int vc), (.int vd), (.int ve)] below meth c T_0_6 L 1 64 := ⟨_, Fr.snoc X_0_6 N_0_5 g_b_0_5, X_0_6⟩
  refine ogo (fun _ k => st_0_6 _ k) ?_
  show OGo _ _ _ _ (T_0_6.setTop (mkF m 46 #[.val (.int va), .val (.int vb), .val (.int vc), .val (.int vd), .val (.int ve), .val (.int w_0_1), .val (.int w_0_2), .val (.int w_0_3), .val (.int w_0_4), .val (.ref b_0_5), .unset, .unset, .unset, .unset, .unset] []))
  refine ogo (fun _ k => XS.aload X_0_6.here hx rfl (hb hby at_46) rfl rfl k) ?_
  show OGo _ _ _ _ (T_0_6.setTop (mkF m 48 #[.val (.int va), .val (.int vb), .val (.int vc), .val (.int vd), .val (.int ve), .val (.int w_0_1), .val (.int w_0_2), .val (.int w_0_3), .val (.int w_0_4), .val (.ref b_0_5), .unset, .unset, .unset, .unset, .unset] [(.ref b_0_5)]))
  refine ogo (fun _ k => XS.iload X_0_6.here hx rfl (hb hby at_48) rfl k) ?_
  show OGo _ _ _ _ (T_0_6.setTop (mkF m 50 #[.val (.int va), .val (.int vb), .val (.int vc), .val (.int vd), .val (.int ve), .val (.int w_0_1), .val (.int w_0_2), .val (.int w_0_3), .val (.int w_0_4), .val (.ref b_0_5), .unset, .unset, .unset, .unset, .unset] [(.int w_0_2), (.ref b_0_5)]))
  refine ogo (fun _ k => XS.iloadN X_0_6.here hx rfl (hb hby at_50) rfl k) ?_
  show OGo _ _ _ _ (T_0_6.setTop (mkF m 51 #[.val (.int va), .val (.int vb), .val (.int vc), .val (.int vd), .val (.int ve), .val (.int w_0_1), .val (.int w_0_2), .val (.int w_0_3), .val (.int w_0_4), .val (.ref b_0_5), .unset, .unset, .unset, .unset, .unset] [(.int vc), (.int w_0_2), (.ref b_0_5)]))
  refine ogo (fun _ k => XS.i2b X_0_6.here hx rfl (hb hby at_51) rfl k) ?_
  show OGo _ _ _ _ (T_0_6.setTop (mkF m 52 #[.val (.int va), .val (.int vb), .val (.int vc), .val (.int vd), .val (.int ve), .val (.int w_0_1), .val (.int w_0_2), .val (.int w_0_3), .val (.int w_0_4), .val (.ref b_0_5), .unset, .unset, .unset, .unset, .unset] [(.int (vc.toInt8.toInt32)), (.int w_0_2), (.ref b_0_5)]))
  obtain ⟨T_0_8, h_0_8, X_0_8, e_0_8, W_0_8, V_0_8, st_0_8⟩ := ostB X_0_6 hx hZ e_0_6 Y_0_6 (own_j hw_0_2).1 (own_j hw_0_2).2 (g := (mkF m 52 #[.val (.int va), .val (.int vb), .val (.int vc), .val (.int vd), .val (.int ve), .val (.int w_0_1), .val (.int w_0_2), .val (.int w_0_3), .val (.int w_0_4), .val (.ref b_0_5), .unset, .unset, .unset, .unset, .unset] [(.int (vc.toInt8.toInt32)), (.int w_0_2), (.ref b_0_5)])) rfl rfl (hb hby at_52)
  have Y_0_8 : OAr Z h_0_8 b_0_5 .byte 64 (fun i => .int ((fun i : Nat => if i = (w_0_2).toNatClampNeg then (vc.toInt8.toInt32).toInt8.toInt32 else (fun i : Nat => if i = (w_0_1).toNatClampNeg then (vb.toInt8.toInt32).toInt8.toInt32 else (fun _ : Nat => (0 : Int32)) i) i) i)) := V_0_8.conv (fun i _ => by dsimp only; split <;> rfl)
  have f_0_9 := f_0_7.wr W_0_8
  have Z_0_8 : n0 ≤ h_0_8.size := Nat.le_trans Z_0_6 (Keep.of_wr W_0_8).1
  obtain ⟨lc_0_8, N_0_8, X_0_8⟩ : ∃ L, Fr n0 L ∧ Stand p l e room_1 s m #[(.int va), (.int vb), (.int vc), (.int vd), (.int ve)] below meth c T_0_8 L 1 64 := ⟨_, Fr.snoc X_0_8 N_0_6 g_b_0_5, X_0_8⟩
  refine ogo (fun _ k => st_0_8 _ k) ?_
  show OGo _ _ _ _ (T_0_8.setTop (mkF m 53 #[.val (.int va), .val (.int vb), .val (.int vc), .val (.int vd), .val (.int ve), .val (.int w_0_1), .val (.int w_0_2), .val (.int w_0_3), .val (.int w_0_4), .val (.ref b_0_5), .unset, .unset, .unset, .unset, .unset] []))
  refine ogo (fun _ k => XS.bipush X_0_8.here hx rfl (hb hby at_53) k) ?_
  show OGo _ _ _ _ (T_0_8.setTop (mkF m 55 #[.val (.int va), .val (.int vb), .val (.int vc), .val (.int vd), .val (.int ve), .val (.int w_0_1), .val (.int w_0_2), .val (.int w_0_3), .val (.int w_0_4), .val (.ref b_0_5), .unset, .unset, .unset, .unset, .unset] [(.int (64 : Int32))]))
  obtain ⟨T_0_10, h_0_10, k_0_10, X_0_10, e_0_10, E_0_10, A_0_10, Ex_0_10, st_0_10⟩ := newPE X_0_8 hx hZ (hw _ (List.mem_of_getElem? (i := 0) rfl)) e_0_8 (g := (mkF m 55 #[.val (.int va), .val (.int vb), .val (.int vc), .val (.int vd), .val (.int ve), .val (.int w_0_1), .val (.int w_0_2), .val (.int w_0_3), .val (.int w_0_4), .val (.ref b_0_5), .unset, .unset, .unset, .unset, .unset] [(.int (64 : Int32))])) rfl (hb hby at_55) rfl (by decide) (cap := 64) (by decide) (by decide) (by decide) (by decide) (ad := "[B") (by first | rfl | decide +kernel)
  obtain ⟨b_0_10, g_0_10⟩ : ∃ z, z = h_0_8.size := ⟨_, rfl⟩
  rw [← g_0_10] at A_0_10 Ex_0_10 st_0_10
  have g_b_0_10 : n0 ≤ b_0_10 := Nat.le_trans Z_0_8 (Nat.le_of_eq g_0_10.symm)
  have ne_b_0_5_b_0_10 : b_0_5 ≠ b_0_10 := Nat.ne_of_lt (Nat.lt_of_lt_of_le Y_0_8.lt (Nat.le_of_eq g_0_10.symm))
  have f_0_11 := f_0_9.ext E_0_10
  have f_0_12 := Y_0_8.ext E_0_10
  have Z_0_10 : n0 ≤ h_0_10.size := Nat.le_trans Z_0_8 E_0_10.1
  have V_0_10 : OAr Z h_0_10 b_0_10 .byte 64 (fun i => .int ((fun _ : Nat => (0 : Int32)) i)) := OAr.new A_0_10 (by decide)
  obtain ⟨lc_0_10, N_0_10, X_0_10⟩ : ∃ L, Fr n0 L ∧ Stand p l e room_1 s m #[(.int va), (.int vb), (.int vc), (.int vd), (.int ve)] below meth c T_0_10 L 2 128 := ⟨_, N_0_8, X_0_10⟩
  refine ogo (fun _ k => st_0_10 _ k) ?_
  show OGo _ _ _ _ (T_0_10.setTop (mkF m 57 #[.val (.int va), .val (.int vb), .val (.int vc), .val (.int vd), .val (.int ve), .val (.int w_0_1), .val (.int w_0_2), .val (.int w_0_3), .val (.int w_0_4), .val (.ref b_0_5), .unset, .unset, .unset, .unset, .unset] [(.ref b_0_10)]))
  refine ogo (fun _ k => XS.astore X_0_10.here hx rfl (hb hby at_57) rfl rfl (l' := #[.val (.int va), .val (.int vb), .val (.int vc), .val (.int vd), .val (.int ve), .val (.int w_0_1), .val (.int w_0_2), .val (.int w_0_3), .val (.int w_0_4), .val (.ref b_0_5), .val (.ref b_0_10), .unset, .unset, .unset, .unset]) rfl k) ?_
  show OGo _ _ _ _ (T_0_10.setTop (mkF m 59 #[.val (.int va), .val (.int vb), .val (.int vc), .val (.int vd), .val (.int ve), .val (.int w_0_1), .val (.int w_0_2), .val (.int w_0_3), .val (.int w_0_4), .val (.ref b_0_5), .val (.ref b_0_10), .unset, .unset, .unset, .unset] []))
  refine ogo (fun _ k => XS.aload X_0_10.here hx rfl (hb hby at_59) rfl rfl k) ?_
  show OGo _ _ _ _ (T_0_10.setTop (mkF m 61 #[.val (.int va), .val (.int vb), .val (.int vc), .val (.int vd), .val (.int ve), .val (.int w_0_1), .val (.int w_0_2), .val (.int w_0_3), .val (.int w_0_4), .val (.ref b_0_5), .val (.ref b_0_10), .unset, .unset, .unset, .unset] [(.ref b_0_10)]))
  refine ogo (fun _ k => XS.iload X_0_10.here hx rfl (hb hby at_61) rfl k) ?_
  show OGo _ _ _ _ (T_0_10.setTop (mkF m 63 #[.val (.int va), .val (.int vb), .val (.int vc), .val (.int vd), .val (.int ve), .val (.int w_0_1), .val (.int w_0_2), .val (.int w_0_3), .val (.int w_0_4), .val (.ref b_0_5), .val (.ref b_0_10), .unset, .unset, .unset, .unset] [(.int w_0_3), (.ref b_0_10)]))
  refine ogo (fun _ k => XS.iloadN X_0_10.here hx rfl (hb hby at_63) rfl k) ?_
  show OGo _ _ _ _ (T_0_10.setTop (mkF m 64 #[.val (.int va), .val (.int vb), .val (.int vc), .val (.int vd), .val (.int ve), .val (.int w_0_1), .val (.int w_0_2), .val (.int w_0_3), .val (.int w_0_4), .val (.ref b_0_5), .val (.ref b_0_10), .unset, .unset, .unset, .unset] [(.int vd), (.int w_0_3), (.ref b_0_10)]))
  refine ogo (fun _ k => XS.i2b X_0_10.here hx rfl (hb hby at_64) rfl k) ?_
  show OGo _ _ _ _ (T_0_10.setTop (mkF m 65 #[.val (.int va), .val (.int vb), .val (.int vc), .val (.int vd), .val (.int ve), .val (.int w_0_1), .val (.int w_0_2), .val (.int w_0_3), .val (.int w_0_4), .val (.ref b_0_5), .val (.ref b_0_10), .unset, .unset, .unset, .unset] [(.int (vd.toInt8.toInt32)), (.int w_0_3), (.ref b_0_10)]))
  obtain ⟨T_0_13, h_0_13, X_0_13, e_0_13, W_0_13, V_0_13, st_0_13⟩ := ostB X_0_10 hx hZ e_0_10 V_0_10 (own_j hw_0_3).1 (own_j hw_0_3).2 (g := (mkF m 65 #[.val (.int va), .val (.int vb), .val (.int vc), .val (.int vd), .val (.int ve), .val (.int w_0_1), .val (.int w_0_2), .val (.int w_0_3), .val (.int w_0_4), .val (.ref b_0_5), .val (.ref b_0_10), .unset, .unset, .unset, .unset] [(.int (vd.toInt8.toInt32)), (.int w_0_3), (.ref b_0_10)])) rfl rfl (hb hby at_65)
  have Y_0_13 : OAr Z h_0_13 b_0_10 .byte 64 (fun i => .int ((fun i : Nat => if i = (w_0_3).toNatClampNeg then (vd.toInt8.toInt32).toInt8.toInt32 else (fun _ : Nat => (0 : Int32)) i) i)) := V_0_13.conv (fun i _ => by dsimp only; split <;> rfl)
  have f_0_14 := f_0_11.wr W_0_13
  have f_0_15 := f_0_12.other W_0_13 ne_b_0_5_b_0_10
  have f_0_16 := Ex_0_10.wr W_0_13
  have Z_0_13 : n0 ≤ h_0_13.size := Nat.le_trans Z_0_10 (Keep.of_wr W_0_13).1
  obtain ⟨lc_0_13, N_0_13, X_0_13⟩ : ∃ L, Fr n0 L ∧ Stand p l e room_1 s m #[(.int va), (.int vb), (.int vc), (.int vd), (.int ve)] below meth c T_0_13 L 2 128 := ⟨_, Fr.snoc X_0_13 N_0_10 g_b_0_10, X_0_13⟩
  refine ogo (fun _ k => st_0_13 _ k) ?_
  show OGo _ _ _ _ (T_0_13.setTop (mkF m 66 #[.val (.int va), .val (.int vb), .val (.int vc), .val (.int vd), .val (.int ve), .val (.int w_0_1), .val (.int w_0_2), .val (.int w_0_3), .val (.int w_0_4), .val (.ref b_0_5), .val (.ref b_0_10), .unset, .unset, .unset, .unset] []))
  refine ogo (fun _ k => XS.aload X_0_13.here hx rfl (hb hby at_66) rfl rfl k) ?_
  show OGo _ _ _ _ (T_0_13.setTop (mkF m 68 #[.val (.int va), .val (.int vb), .val (.int vc), .val (.int vd), .val (.int ve), .val (.int w_0_1), .val (.int w_0_2), .val (.int w_0_3), .val (.int w_0_4), .val (.ref b_0_5), .val (.ref b_0_10), .unset, .unset, .unset, .unset] [(.ref b_0_10)]))
  refine ogo (fun _ k => XS.iload X_0_13.here hx rfl (hb hby at_68) rfl k) ?_
  show OGo _ _ _ _ (T_0_13.setTop (mkF m 70 #[.val (.int va), .val (.int vb), .val (.int vc), .val (.int vd), .val (.int ve), .val (.int w_0_1), .val (.int w_0_2), .val (.int w_0_3), .val (.int w_0_4), .val (.ref b_0_5), .val (.ref b_0_10), .unset, .unset, .unset, .unset] [(.int w_0_4), (.ref b_0_10)]))
  refine ogo (fun _ k => XS.iload X_0_13.here hx rfl (hb hby at_70) rfl k) ?_
  show OGo _ _ _ _ (T_0_13.setTop (mkF m 72 #[.val (.int va), .val (.int vb), .val (.int vc), .val (.int vd), .val (.int ve), .val (.int w_0_1), .val (.int w_0_2), .val (.int w_0_3), .val (.int w_0_4), .val (.ref b_0_5), .val (.ref b_0_10), .unset, .unset, .unset, .unset] [(.int ve), (.int w_0_4), (.ref b_0_10)]))
  refine ogo (fun _ k => XS.i2b X_0_13.here hx rfl (hb hby at_72) rfl k) ?_
  show OGo _ _ _ _ (T_0_13.setTop (mkF m 73 #[.val (.int va), .val (.int vb), .val (.int vc), .val (.int vd), .val (.int ve), .val (.int w_0_1), .val (.int w_0_2), .val (.int w_0_3), .val (.int w_0_4), .val (.ref b_0_5), .val (.ref b_0_10), .unset, .unset, .unset, .unset] [(.int (ve.toInt8.toInt32)), (.int w_0_4), (.ref b_0_10)]))
  obtain ⟨T_0_17, h_0_17, X_0_17, e_0_17, W_0_17, V_0_17, st_0_17⟩ := ostB X_0_13 hx hZ e_0_13 Y_0_13 (own_j hw_0_4).1 (own_j hw_0_4).2 (g := (mkF m 73 #[.val (.int va), .val (.int vb), .val (.int vc), .val (.int vd), .val (.int ve), .val (.int w_0_1), .val (.int w_0_2), .val (.int w_0_3), .val (.int w_0_4), .val (.ref b_0_5), .val (.ref b_0_10), .unset, .unset, .unset, .unset] [(.int (ve.toInt8.toInt32)), (.int w_0_4), (.ref b_0_10)])) rfl rfl (hb hby at_73)
  have Y_0_17 : OAr Z h_0_17 b_0_10 .byte 64 (fun i => .int ((fun i : Nat => if i = (w_0_4).toNatClampNeg then (ve.toInt8.toInt32).toInt8.toInt32 else (fun i : Nat => if i = (w_0_3).toNatClampNeg then (vd.toInt8.toInt32).toInt8.toInt32 else (fun _ : Nat => (0 : Int32)) i) i) i)) := V_0_17.conv (fun i _ => by dsimp only; split <;> rfl)
  have f_0_18 := f_0_14.wr W_0_17
  have f_0_19 := f_0_15.other W_0_17 ne_b_0_5_b_0_10
  have f_0_20 := f_0_16.wr W_0_17
  have Z_0_17 : n0 ≤ h_0_17.size := Nat.le_trans Z_0_13 (Keep.of_wr W_0_17).1
  obtain ⟨lc_0_17, N_0_17, X_0_17⟩ : ∃ L, Fr n0 L ∧ Stand p l e room_1 s m #[(.int va), (.int vb), (.int vc), (.int vd), (.int ve)] below meth c T_0_17 L 2 128 := ⟨_, Fr.snoc X_0_17 N_0_13 g_b_0_10, X_0_17⟩
  refine ogo (fun _ k => st_0_17 _ k) ?_
  show OGo _ _ _ _ (T_0_17.setTop (mkF m 74 #[.val (.int va), .val (.int vb), .val (.int vc), .val (.int vd), .val (.int ve), .val (.int w_0_1), .val (.int w_0_2), .val (.int w_0_3), .val (.int w_0_4), .val (.ref b_0_5), .val (.ref b_0_10), .unset, .unset, .unset, .unset] []))
  obtain ⟨T_0_21, h_0_21, X_0_21, e_0_21, E_0_21, A_0_21, D_0_21, -, st_0_21⟩ := newO X_0_17 hx hZ hown (hw _ (List.mem_of_getElem? (i := 1) rfl)) (hw _ (List.mem_of_getElem? (i := 2) rfl)) (hw _ (List.mem_of_getElem? (i := 3) rfl)) e_0_17 (g := (mkF m 74 #[.val (.int va), .val (.int vb), .val (.int vc), .val (.int vd), .val (.int ve), .val (.int w_0_1), .val (.int w_0_2), .val (.int w_0_3), .val (.int w_0_4), .val (.ref b_0_5), .val (.ref b_0_10), .unset, .unset, .unset, .unset] [])) rfl (hb hby at_74) (by decide) (by decide)
  obtain ⟨b_0_21, g_0_21⟩ : ∃ z, z = h_0_17.size := ⟨_, rfl⟩
  rw [← g_0_21] at A_0_21 D_0_21 st_0_21
  have g_b_0_21 : n0 ≤ b_0_21 := Nat.le_trans Z_0_17 (Nat.le_of_eq g_0_21.symm)
  have ne_b_0_5_b_0_21 : b_0_5 ≠ b_0_21 := Nat.ne_of_lt (Nat.lt_of_lt_of_le f_0_19.lt (Nat.le_of_eq g_0_21.symm))
  have ne_b_0_10_b_0_21 : b_0_10 ≠ b_0_21 := Nat.ne_of_lt (Nat.lt_of_lt_of_le Y_0_17.lt (Nat.le_of_eq g_0_21.symm))
  have f_0_22 := f_0_18.ext E_0_21
  have f_0_23 := f_0_19.ext E_0_21
  have f_0_24 := f_0_20.ext E_0_21
  have f_0_25 := Y_0_17.ext E_0_21
  have Z_0_21 : n0 ≤ h_0_21.size := Nat.le_trans Z_0_17 E_0_21.1
  have f_0_26 : Fld Z h_0_21 b_0_21 "com/example/gol_gumbaz/golgumbaz/envelope/BloomFilter" "bytes" "[B" .null := D_0_21 (Or.inr (hw _ (List.mem_of_getElem? (i := 20) rfl))) (ty := (.array .byte)) (by decide)
  obtain ⟨lc_0_21, N_0_21, X_0_21⟩ : ∃ L, Fr n0 L ∧ Stand p l e room_1 s m #[(.int va), (.int vb), (.int vc), (.int vd), (.int ve)] below meth c T_0_21 L 3 129 := ⟨_, N_0_17, X_0_21⟩
  refine ogo (fun _ k => st_0_21 _ k) ?_
  show OGo _ _ _ _ (T_0_21.setTop (mkF m 77 #[.val (.int va), .val (.int vb), .val (.int vc), .val (.int vd), .val (.int ve), .val (.int w_0_1), .val (.int w_0_2), .val (.int w_0_3), .val (.int w_0_4), .val (.ref b_0_5), .val (.ref b_0_10), .unset, .unset, .unset, .unset] [(.ref b_0_21)]))
  refine ogo (fun _ k => XS.dup X_0_21.here hx rfl (hb hby at_77) rfl rfl k) ?_
  show OGo _ _ _ _ (T_0_21.setTop (mkF m 78 #[.val (.int va), .val (.int vb), .val (.int vc), .val (.int vd), .val (.int ve), .val (.int w_0_1), .val (.int w_0_2), .val (.int w_0_3), .val (.int w_0_4), .val (.ref b_0_5), .val (.ref b_0_10), .unset, .unset, .unset, .unset] [(.ref b_0_21), (.ref b_0_21)]))
  refine ogo (fun _ k => XS.aload X_0_21.here hx rfl (hb hby at_78) rfl rfl k) ?_
  show OGo _ _ _ _ (T_0_21.setTop (mkF m 80 #[.val (.int va), .val (.int vb), .val (.int vc), .val (.int vd), .val (.int ve), .val (.int w_0_1), .val (.int w_0_2), .val (.int w_0_3), .val (.int w_0_4), .val (.ref b_0_5), .val (.ref b_0_10), .unset, .unset, .unset, .unset] [(.ref b_0_5), (.ref b_0_21), (.ref b_0_21)]))
  obtain ⟨v_0_27, T_0_27, h_0_27, L_0_27, e_0_27, hQ_0_27, X_0_27, st_0_27⟩ := ospecQ X_0_21 hx hZ e_0_21 (rm1 l Z a0 hw b_0_21 b_0_5 (fun i : Nat => if i = (w_0_2).toNatClampNeg then (vc.toInt8.toInt32).toInt8.toInt32 else (fun i : Nat => if i = (w_0_1).toNatClampNeg then (vb.toInt8.toInt32).toInt8.toInt32 else (fun _ : Nat => (0 : Int32)) i) i) h_0_21 n0 Z_0_21 A_0_21 f_0_26 f_0_22 f_0_23 g_b_0_21 (Ne.symm ne_b_0_5_b_0_21)) rfl hown (hw _ (List.mem_of_getElem? (i := 4) rfl)) (hw _ (List.mem_of_getElem? (i := 5) rfl)) (hw _ (List.mem_of_getElem? (i := 3) rfl)) (hw _ (List.mem_of_getElem? (i := 6) rfl)) (by decide) (b := b_0_21) (g := (mkF m 80 #[.val (.int va), .val (.int vb), .val (.int vc), .val (.int vd), .val (.int ve), .val (.int w_0_1), .val (.int w_0_2), .val (.int w_0_3), .val (.int w_0_4), .val (.ref b_0_5), .val (.ref b_0_10), .unset, .unset, .unset, .unset] [(.ref b_0_5), (.ref b_0_21), (.ref b_0_21)])) rfl (by rw [hml]; rfl) [(.ref b_0_5)] [(.ref b_0_21)] rfl (lenOf pd___B_V rfl) rfl (hb hby at_80) 1 (by show 2 * 0 + _ ≤ _; exact Nat.le_of_eq rfl) (by decide) (by decide) (by decide) (by decide)
  obtain ⟨cb_0_27, rfl, Nq_0_27, Kc_0_27, f_0_28, f_0_29, g_cb_0_27, ne_1_0_27, sq_0_27⟩ := hQ_0_27
  have ne_b_0_5_cb_0_27 : b_0_5 ≠ cb_0_27 := Nat.ne_of_lt (Nat.lt_of_lt_of_le f_0_23.lt sq_0_27)
  have ne_b_0_10_cb_0_27 : b_0_10 ≠ cb_0_27 := Nat.ne_of_lt (Nat.lt_of_lt_of_le f_0_25.lt sq_0_27)
  have f_0_30 := f_0_22.keep Kc_0_27
  have f_0_31 := f_0_23.keep Kc_0_27 (ninS ne_b_0_5_b_0_21 nin0)
  have f_0_32 := f_0_24.keep Kc_0_27
  have f_0_33 := f_0_25.keep Kc_0_27 (ninS ne_b_0_10_b_0_21 nin0)
  have f_0_34 := A_0_21.keep Kc_0_27
  have Z_0_27 : n0 ≤ h_0_27.size := Nat.le_trans Z_0_21 Kc_0_27.1
  obtain ⟨lc_0_27, N_0_27, X_0_27⟩ : ∃ L, Fr n0 L ∧ Stand p l e room_1 s m #[(.int va), (.int vb), (.int vc), (.int vd), (.int ve)] below meth c T_0_27 L 4 193 := ⟨_, Fr.app N_0_21 Nq_0_27, X_0_27⟩
  refine ogo (fun _ k => st_0_27 _ k) ?_
  show OGo _ _ _ _ (T_0_27.setTop (mkF m 83 #[.val (.int va), .val (.int vb), .val (.int vc), .val (.int vd), .val (.int ve), .val (.int w_0_1), .val (.int w_0_2), .val (.int w_0_3), .val (.int w_0_4), .val (.ref b_0_5), .val (.ref b_0_10), .unset, .unset, .unset, .unset] [(.ref b_0_21)]))
  refine ogo (fun _ k => XS.astore X_0_27.here hx rfl (hb hby at_83) rfl rfl (l' := #[.val (.int va), .val (.int vb), .val (.int vc), .val (.int vd), .val (.int ve), .val (.int w_0_1), .val (.int w_0_2), .val (.int w_0_3), .val (.int w_0_4), .val (.ref b_0_5), .val (.ref b_0_10), .val (.ref b_0_21), .unset, .unset, .unset]) rfl k) ?_
  show OGo _ _ _ _ (T_0_27.setTop (mkF m 85 #[.val (.int va), .val (.int vb), .val (.int vc), .val (.int vd), .val (.int ve), .val (.int w_0_1), .val (.int w_0_2), .val (.int w_0_3), .val (.int w_0_4), .val (.ref b_0_5), .val (.ref b_0_10), .val (.ref b_0_21), .unset, .unset, .unset] []))
  obtain ⟨T_0_35, h_0_35, X_0_35, e_0_35, E_0_35, A_0_35, D_0_35, -, st_0_35⟩ := newO X_0_27 hx hZ hown (hw _ (List.mem_of_getElem? (i := 1) rfl)) (hw _ (List.mem_of_getElem? (i := 2) rfl)) (hw _ (List.mem_of_getElem? (i := 3) rfl)) e_0_27 (g := (mkF m 85 #[.val (.int va), .val (.int vb), .val (.int vc), .val (.int vd), .val (.int ve), .val (.int w_0_1), .val (.int w_0_2), .val (.int w_0_3), .val (.int w_0_4), .val (.ref b_0_5), .val (.ref b_0_10), .val (.ref b_0_21), .unset, .unset, .unset] [])) rfl (hb hby at_85) (by decide) (by decide)
  obtain ⟨b_0_35, g_0_35⟩ : ∃ z, z = h_0_27.size := ⟨_, rfl⟩
  rw [← g_0_35] at A_0_35 D_0_35 st_0_35
  have g_b_0_35 : n0 ≤ b_0_35 := Nat.le_trans Z_0_27 (Nat.le_of_eq g_0_35.symm)
  have ne_b_0_5_b_0_35 : b_0_5 ≠ b_0_35 := Nat.ne_of_lt (Nat.lt_of_lt_of_le f_0_31.lt (Nat.le_of_eq g_0_35.symm))
  have ne_b_0_10_b_0_35 : b_0_10 ≠ b_0_35 := Nat.ne_of_lt (Nat.lt_of_lt_of_le f_0_33.lt (Nat.le_of_eq g_0_35.symm))
  have ne_b_0_21_b_0_35 : b_0_21 ≠ b_0_35 := Nat.ne_of_lt (Nat.lt_of_lt_of_le f_0_28.lt (Nat.le_of_eq g_0_35.symm))
  have ne_cb_0_27_b_0_35 : cb_0_27 ≠ b_0_35 := Nat.ne_of_lt (Nat.lt_of_lt_of_le f_0_29.lt (Nat.le_of_eq g_0_35.symm))
  have f_0_36 := f_0_30.ext E_0_35
  have f_0_37 := f_0_31.ext E_0_35
  have f_0_38 := f_0_32.ext E_0_35
  have f_0_39 := f_0_33.ext E_0_35
  have f_0_40 := f_0_34.ext E_0_35
  have f_0_41 := f_0_28.ext E_0_35
  have f_0_42 := f_0_29.ext E_0_35
  have Z_0_35 : n0 ≤ h_0_35.size := Nat.le_trans Z_0_27 E_0_35.1
  have f_0_43 : Fld Z h_0_35 b_0_35 "com/example/gol_gumbaz/golgumbaz/envelope/BloomFilter" "bytes" "[B" .null := D_0_35 (Or.inr (hw _ (List.mem_of_getElem? (i := 20) rfl))) (ty := (.array .byte)) (by decide)
  obtain ⟨lc_0_35, N_0_35, X_0_35⟩ : ∃ L, Fr n0 L ∧ Stand p l e room_1 s m #[(.int va), (.int vb), (.int vc), (.int vd), (.int ve)] below meth c T_0_35 L 5 194 := ⟨_, N_0_27, X_0_35⟩
  refine ogo (fun _ k => st_0_35 _ k) ?_
  show OGo _ _ _ _ (T_0_35.setTop (mkF m 88 #[.val (.int va), .val (.int vb), .val (.int vc), .val (.int vd), .val (.int ve), .val (.int w_0_1), .val (.int w_0_2), .val (.int w_0_3), .val (.int w_0_4), .val (.ref b_0_5), .val (.ref b_0_10), .val (.ref b_0_21), .unset, .unset, .unset] [(.ref b_0_35)]))
  refine ogo (fun _ k => XS.dup X_0_35.here hx rfl (hb hby at_88) rfl rfl k) ?_
  show OGo _ _ _ _ (T_0_35.setTop (mkF m 89 #[.val (.int va), .val (.int vb), .val (.int vc), .val (.int vd), .val (.int ve), .val (.int w_0_1), .val (.int w_0_2), .val (.int w_0_3), .val (.int w_0_4), .val (.ref b_0_5), .val (.ref b_0_10), .val (.ref b_0_21), .unset, .unset, .unset] [(.ref b_0_35), (.ref b_0_35)]))
  refine ogo (fun _ k => XS.aload X_0_35.here hx rfl (hb hby at_89) rfl rfl k) ?_
  show OGo _ _ _ _ (T_0_35.setTop (mkF m 91 #[.val (.int va), .val (.int vb), .val (.int vc), .val (.int vd), .val (.int ve), .val (.int w_0_1), .val (.int w_0_2), .val (.int w_0_3), .val (.int w_0_4), .val (.ref b_0_5), .val (.ref b_0_10), .val (.ref b_0_21), .unset, .unset, .unset] [(.ref b_0_10), (.ref b_0_35), (.ref b_0_35)]))
  obtain ⟨v_0_44, T_0_44, h_0_44, L_0_44, e_0_44, hQ_0_44, X_0_44, st_0_44⟩ := ospecQ X_0_35 hx hZ e_0_35 (rm1 l Z a0 hw b_0_35 b_0_10 (fun i : Nat => if i = (w_0_4).toNatClampNeg then (ve.toInt8.toInt32).toInt8.toInt32 else (fun i : Nat => if i = (w_0_3).toNatClampNeg then (vd.toInt8.toInt32).toInt8.toInt32 else (fun _ : Nat => (0 : Int32)) i) i) h_0_35 n0 Z_0_35 A_0_35 f_0_43 f_0_38 f_0_39 g_b_0_35 (Ne.symm ne_b_0_10_b_0_35)) rfl hown (hw _ (List.mem_of_getElem? (i := 4) rfl)) (hw _ (List.mem_of_getElem? (i := 5) rfl)) (hw _ (List.mem_of_getElem? (i := 3) rfl)) (hw _ (List.mem_of_getElem? (i := 6) rfl)) (by decide) (b := b_0_35) (g := (mkF m 91 #[.val (.int va), .val (.int vb), .val (.int vc), .val (.int vd), .val (.int ve), .val (.int w_0_1), .val (.int w_0_2), .val (.int w_0_3), .val (.int w_0_4), .val (.ref b_0_5), .val (.ref b_0_10), .val (.ref b_0_21), .unset, .unset, .unset] [(.ref b_0_10), (.ref b_0_35), (.ref b_0_35)])) rfl (by rw [hml]; rfl) [(.ref b_0_10)] [(.ref b_0_35)] rfl (lenOf pd___B_V rfl) rfl (hb hby at_91) 1 (by show 2 * 0 + _ ≤ _; exact Nat.le_of_eq rfl) (by decide) (by decide) (by decide) (by decide)
  obtain ⟨cb_0_44, rfl, Nq_0_44, Kc_0_44, f_0_45, f_0_46, g_cb_0_44, ne_1_0_44, sq_0_44⟩ := hQ_0_44
  have ne_b_0_5_cb_0_44 : b_0_5 ≠ cb_0_44 := Nat.ne_of_lt (Nat.lt_of_lt_of_le f_0_37.lt sq_0_44)
  have ne_b_0_10_cb_0_44 : b_0_10 ≠ cb_0_44 := Nat.ne_of_lt (Nat.lt_of_lt_of_le f_0_39.lt sq_0_44)
  have ne_b_0_21_cb_0_44 : b_0_21 ≠ cb_0_44 := Nat.ne_of_lt (Nat.lt_of_lt_of_le f_0_41.lt sq_0_44)
  have ne_cb_0_27_cb_0_44 : cb_0_27 ≠ cb_0_44 := Nat.ne_of_lt (Nat.lt_of_lt_of_le f_0_42.lt sq_0_44)
  have f_0_47 := f_0_36.keep Kc_0_44
  have f_0_48 := f_0_37.keep Kc_0_44 (ninS ne_b_0_5_b_0_35 nin0)
  have f_0_49 := f_0_38.keep Kc_0_44
  have f_0_50 := f_0_39.keep Kc_0_44 (ninS ne_b_0_10_b_0_35 nin0)
  have f_0_51 := f_0_40.keep Kc_0_44
  have f_0_52 := f_0_41.keep Kc_0_44 (ninS ne_b_0_21_b_0_35 nin0)
  have f_0_53 := f_0_42.keep Kc_0_44 (ninS ne_cb_0_27_b_0_35 nin0)
  have f_0_54 := A_0_35.keep Kc_0_44
  have Z_0_44 : n0 ≤ h_0_44.size := Nat.le_trans Z_0_35 Kc_0_44.1
  obtain ⟨lc_0_44, N_0_44, X_0_44⟩ : ∃ L, Fr n0 L ∧ Stand p l e room_1 s m #[(.int va), (.int vb), (.int vc), (.int vd), (.int ve)] below meth c T_0_44 L 6 258 := ⟨_, Fr.app N_0_35 Nq_0_44, X_0_44⟩
  refine ogo (fun _ k => st_0_44 _ k) ?_
  show OGo _ _ _ _ (T_0_44.setTop (mkF m 94 #[.val (.int va), .val (.int vb), .val (.int vc), .val (.int vd), .val (.int ve), .val (.int w_0_1), .val (.int w_0_2), .val (.int w_0_3), .val (.int w_0_4), .val (.ref b_0_5), .val (.ref b_0_10), .val (.ref b_0_21), .unset, .unset, .unset] [(.ref b_0_35)]))
  refine ogo (fun _ k => XS.astore X_0_44.here hx rfl (hb hby at_94) rfl rfl (l' := #[.val (.int va), .val (.int vb), .val (.int vc), .val (.int vd), .val (.int ve), .val (.int w_0_1), .val (.int w_0_2), .val (.int w_0_3), .val (.int w_0_4), .val (.ref b_0_5), .val (.ref b_0_10), .val (.ref b_0_21), .val (.ref b_0_35), .unset, .unset]) rfl k) ?_
  show OGo _ _ _ _ (T_0_44.setTop (mkF m 96 #[.val (.int va), .val (.int vb), .val (.int vc), .val (.int vd), .val (.int ve), .val (.int w_0_1), .val (.int w_0_2), .val (.int w_0_3), .val (.int w_0_4), .val (.ref b_0_5), .val (.ref b_0_10), .val (.ref b_0_21), .val (.ref b_0_35), .unset, .unset] []))
  refine ogo (fun _ k => XS.iload X_0_44.here hx rfl (hb hby at_96) rfl k) ?_
  show OGo _ _ _ _ (T_0_44.setTop (mkF m 98 #[.val (.int va), .val (.int vb), .val (.int vc), .val (.int vd), .val (.int ve), .val (.int w_0_1), .val (.int w_0_2), .val (.int w_0_3), .val (.int w_0_4), .val (.ref b_0_5), .val (.ref b_0_10), .val (.ref b_0_21), .val (.ref b_0_35), .unset, .unset] [(.int w_0_1)]))
  refine ogo (fun _ k => XS.iload X_0_44.here hx rfl (hb hby at_98) rfl k) ?_
  show OGo _ _ _ _ (T_0_44.setTop (mkF m 100 #[.val (.int va), .val (.int vb), .val (.int vc), .val (.int vd), .val (.int ve), .val (.int w_0_1), .val (.int w_0_2), .val (.int w_0_3), .val (.int w_0_4), .val (.ref b_0_5), .val (.ref b_0_10), .val (.ref b_0_21), .val (.ref b_0_35), .unset, .unset] [(.int w_0_2), (.int w_0_1)]))
  refine ogo (fun _ k => XS.iloadN X_0_44.here hx rfl (hb hby at_100) rfl k) ?_
  show OGo _ _ _ _ (T_0_44.setTop (mkF m 101 #[.val (.int va), .val (.int vb), .val (.int vc), .val (.int vd), .val (.int ve), .val (.int w_0_1), .val (.int w_0_2), .val (.int w_0_3), .val (.int w_0_4), .val (.ref b_0_5), .val (.ref b_0_10), .val (.ref b_0_21), .val (.ref b_0_35), .unset, .unset] [(.int vb), (.int w_0_2), (.int w_0_1)]))
  refine ogo (fun _ k => XS.iloadN X_0_44.here hx rfl (hb hby at_101) rfl k) ?_
  show OGo _ _ _ _ (T_0_44.setTop (mkF m 102 #[.val (.int va), .val (.int vb), .val (.int vc), .val (.int vd), .val (.int ve), .val (.int w_0_1), .val (.int w_0_2), .val (.int w_0_3), .val (.int w_0_4), .val (.ref b_0_5), .val (.ref b_0_10), .val (.ref b_0_21), .val (.ref b_0_35), .unset, .unset] [(.int vc), (.int vb), (.int w_0_2), (.int w_0_1)]))
  refine ogo (fun _ k => XS.iload X_0_44.here hx rfl (hb hby at_102) rfl k) ?_
  show OGo _ _ _ _ (T_0_44.setTop (mkF m 104 #[.val (.int va), .val (.int vb), .val (.int vc), .val (.int vd), .val (.int ve), .val (.int w_0_1), .val (.int w_0_2), .val (.int w_0_3), .val (.int w_0_4), .val (.ref b_0_5), .val (.ref b_0_10), .val (.ref b_0_21), .val (.ref b_0_35), .unset, .unset] [(.int w_0_3), (.int vc), (.int vb), (.int w_0_2), (.int w_0_1)]))
  obtain ⟨T_0_55, X_0_55, e_0_55, st_0_55⟩ := ocallP X_0_44 hx hZ e_0_44 (rm3 l Z a0 hw w_0_1 w_0_2 vb vc w_0_3  h_0_44 ) hown (hw _ (List.mem_of_getElem? (i := 21) rfl)) (hw _ (List.mem_of_getElem? (i := 22) rfl)) (hw _ (List.mem_of_getElem? (i := 23) rfl)) (hw _ (List.mem_of_getElem? (i := 24) rfl)) (by decide) (g := (mkF m 104 #[.val (.int va), .val (.int vb), .val (.int vc), .val (.int vd), .val (.int ve), .val (.int w_0_1), .val (.int w_0_2), .val (.int w_0_3), .val (.int w_0_4), .val (.ref b_0_5), .val (.ref b_0_10), .val (.ref b_0_21), .val (.ref b_0_35), .unset, .unset] [(.int w_0_3), (.int vc), (.int vb), (.int w_0_2), (.int w_0_1)])) rfl (by rw [hml]; rfl) [(.int w_0_1), (.int w_0_2), (.int vb), (.int vc), (.int w_0_3)] [] rfl (lenOf pd__IIIII_I rfl) rfl (hb hby at_104) 0 (by show 2 * 0 + _ ≤ _; exact Nat.le_of_eq rfl) (by decide) (by decide) (by decide) (by decide) rfl rfl
  refine ogo (fun _ k => st_0_55 _ k) ?_
  show OGo _ _ _ _ (T_0_55.setTop (mkF m 107 #[.val (.int va), .val (.int vb), .val (.int vc), .val (.int vd), .val (.int ve), .val (.int w_0_1), .val (.int w_0_2), .val (.int w_0_3), .val (.int w_0_4), .val (.ref b_0_5), .val (.ref b_0_10), .val (.ref b_0_21), .val (.ref b_0_35), .unset, .unset] [(.int (atF w_0_1 w_0_2 vb vc w_0_3))]))
  refine ogo (fun _ k => XS.iload X_0_55.here hx rfl (hb hby at_107) rfl k) ?_
  show OGo _ _ _ _ (T_0_55.setTop (mkF m 109 #[.val (.int va), .val (.int vb), .val (.int vc), .val (.int vd), .val (.int ve), .val (.int w_0_1), .val (.int w_0_2), .val (.int w_0_3), .val (.int w_0_4), .val (.ref b_0_5), .val (.ref b_0_10), .val (.ref b_0_21), .val (.ref b_0_35), .unset, .unset] [(.int w_0_3), (.int (atF w_0_1 w_0_2 vb vc w_0_3))]))
  refine ogo (fun _ k => XS.iload X_0_55.here hx rfl (hb hby at_109) rfl k) ?_
  show OGo _ _ _ _ (T_0_55.setTop (mkF m 111 #[.val (.int va), .val (.int vb), .val (.int vc), .val (.int vd), .val (.int ve), .val (.int w_0_1), .val (.int w_0_2), .val (.int w_0_3), .val (.int w_0_4), .val (.ref b_0_5), .val (.ref b_0_10), .val (.ref b_0_21), .val (.ref b_0_35), .unset, .unset] [(.int w_0_4), (.int w_0_3), (.int (atF w_0_1 w_0_2 vb vc w_0_3))]))
  refine ogo (fun _ k => XS.iloadN X_0_55.here hx rfl (hb hby at_111) rfl k) ?_
  show OGo _ _ _ _ (T_0_55.setTop (mkF m 112 #[.val (.int va), .val (.int vb), .val (.int vc), .val (.int vd), .val (.int ve), .val (.int w_0_1), .val (.int w_0_2), .val (.int w_0_3), .val (.int w_0_4), .val (.ref b_0_5), .val (.ref b_0_10), .val (.ref b_0_21), .val (.ref b_0_35), .unset, .unset] [(.int vd), (.int w_0_4), (.int w_0_3), (.int (atF w_0_1 w_0_2 vb vc w_0_3))]))
  refine ogo (fun _ k => XS.iload X_0_55.here hx rfl (hb hby at_112) rfl k) ?_
  show OGo _ _ _ _ (T_0_55.setTop (mkF m 114 #[.val (.int va), .val (.int vb), .val (.int vc), .val (.int vd), .val (.int ve), .val (.int w_0_1), .val (.int w_0_2), .val (.int w_0_3), .val (.int w_0_4), .val (.ref b_0_5), .val (.ref b_0_10), .val (.ref b_0_21), .val (.ref b_0_35), .unset, .unset] [(.int ve), (.int vd), (.int w_0_4), (.int w_0_3), (.int (atF w_0_1 w_0_2 vb vc w_0_3))]))
  refine ogo (fun _ k => XS.iload X_0_55.here hx rfl (hb hby at_114) rfl k) ?_
  show OGo _ _ _ _ (T_0_55.setTop (mkF m 116 #[.val (.int va), .val (.int vb), .val (.int vc), .val (.int vd), .val (.int ve), .val (.int w_0_1), .val (.int w_0_2), .val (.int w_0_3), .val (.int w_0_4), .val (.ref b_0_5), .val (.ref b_0_10), .val (.ref b_0_21), .val (.ref b_0_35), .unset, .unset] [(.int w_0_3), (.int ve), (.int vd), (.int w_0_4), (.int w_0_3), (.int (atF w_0_1 w_0_2 vb vc w_0_3))]))
  obtain ⟨T_0_56, X_0_56, e_0_56, st_0_56⟩ := ocallP X_0_55 hx hZ e_0_55 (rm3 l Z a0 hw w_0_3 w_0_4 vd ve w_0_3  h_0_44 ) hown (hw _ (List.mem_of_getElem? (i := 21) rfl)) (hw _ (List.mem_of_getElem? (i := 22) rfl)) (hw _ (List.mem_of_getElem? (i := 23) rfl)) (hw _ (List.mem_of_getElem? (i := 24) rfl)) (by decide) (g := (mkF m 116 #[.val (.int va), .val (.int vb), .val (.int vc), .val (.int vd), .val (.int ve), .val (.int w_0_1), .val (.int w_0_2), .val (.int w_0_3), .val (.int w_0_4), .val (.ref b_0_5), .val (.ref b_0_10), .val (.ref b_0_21), .val (.ref b_0_35), .unset, .unset] [(.int w_0_3), (.int ve), (.int vd), (.int w_0_4), (.int w_0_3), (.int (atF w_0_1 w_0_2 vb vc w_0_3))])) rfl (by rw [hml]; rfl) [(.int w_0_3), (.int w_0_4), (.int vd), (.int ve), (.int w_0_3)] [(.int (atF w_0_1 w_0_2 vb vc w_0_3))] rfl (lenOf pd__IIIII_I rfl) rfl (hb hby at_116) 1 (by show 2 * 0 + _ ≤ _; exact Nat.le_of_eq rfl) (by decide) (by decide) (by decide) (by decide) rfl rfl
  refine ogo (fun _ k => st_0_56 _ k) ?_
  show OGo _ _ _ _ (T_0_56.setTop (mkF m 119 #[.val (.int va), .val (.int vb), .val (.int vc), .val (.int vd), .val (.int ve), .val (.int w_0_1), .val (.int w_0_2), .val (.int w_0_3), .val (.int w_0_4), .val (.ref b_0_5), .val (.ref b_0_10), .val (.ref b_0_21), .val (.ref b_0_35), .unset, .unset] [(.int (atF w_0_3 w_0_4 vd ve w_0_3)), (.int (atF w_0_1 w_0_2 vb vc w_0_3))]))
  obtain ⟨T_0_57, X_0_57, e_0_57, st_0_57⟩ := ocallP X_0_56 hx hZ e_0_56 (rm4 l Z a0 hw (atF w_0_1 w_0_2 vb vc w_0_3) (atF w_0_3 w_0_4 vd ve w_0_3)  h_0_44 ) hown (hw _ (List.mem_of_getElem? (i := 25) rfl)) (hw _ (List.mem_of_getElem? (i := 26) rfl)) (hw _ (List.mem_of_getElem? (i := 23) rfl)) (hw _ (List.mem_of_getElem? (i := 27) rfl)) (by decide) (g := (mkF m 119 #[.val (.int va), .val (.int vb), .val (.int vc), .val (.int vd), .val (.int ve), .val (.int w_0_1), .val (.int w_0_2), .val (.int w_0_3), .val (.int w_0_4), .val (.ref b_0_5), .val (.ref b_0_10), .val (.ref b_0_21), .val (.ref b_0_35), .unset, .unset] [(.int (atF w_0_3 w_0_4 vd ve w_0_3)), (.int (atF w_0_1 w_0_2 vb vc w_0_3))])) rfl (by rw [hml]; rfl) [(.int (atF w_0_1 w_0_2 vb vc w_0_3)), (.int (atF w_0_3 w_0_4 vd ve w_0_3))] [] rfl (lenOf pd__II_Z rfl) rfl (hb hby at_119) 0 (by show 2 * 0 + _ ≤ _; exact Nat.le_of_eq rfl) (by decide) (by decide) (by decide) (by decide) rfl rfl
  refine ogo (fun _ k => st_0_57 _ k) ?_
  show OGo _ _ _ _ (T_0_57.setTop (mkF m 122 #[.val (.int va), .val (.int vb), .val (.int vc), .val (.int vd), .val (.int ve), .val (.int w_0_1), .val (.int w_0_2), .val (.int w_0_3), .val (.int w_0_4), .val (.ref b_0_5), .val (.ref b_0_10), .val (.ref b_0_21), .val (.ref b_0_35), .unset, .unset] [(.int (covF (atF w_0_1 w_0_2 vb vc w_0_3) (atF w_0_3 w_0_4 vd ve w_0_3)))]))
  suffices J_0_67 : ∀ (w_0_66 : Int32) (hw_0_66 : w_0_66 = (if (covF (atF w_0_1 w_0_2 vb vc w_0_3) (atF w_0_3 w_0_4 vd ve w_0_3)) = (0 : Int32) then (0 : Int32) else (if (covF (atF w_0_1 w_0_2 vb vc w_0_4) (atF w_0_3 w_0_4 vd ve w_0_4)) = (0 : Int32) then (0 : Int32) else (1 : Int32)))) (T_0_68 : State) (X_0_68 : Stand p l e room_1 s m #[(.int va), (.int vb), (.int vc), (.int vd), (.int ve)] below meth c T_0_68 lc_0_44 6 258) (e_0_68 : T_0_68.heap = h_0_44), OGo p.tables e below (OFin s (fun v _ L => v = some (.int 1) ∧ Fr n0 L) 24 640) (T_0_68.setTop (mkF m 159 #[.val (.int va), .val (.int vb), .val (.int vc), .val (.int vd), .val (.int ve), .val (.int w_0_1), .val (.int w_0_2), .val (.int w_0_3), .val (.int w_0_4), .val (.ref b_0_5), .val (.ref b_0_10), .val (.ref b_0_21), .val (.ref b_0_35), .unset, .unset] [(.int w_0_66)])) by
    by_cases hc_0_58 : (covF (atF w_0_1 w_0_2 vb vc w_0_3) (atF w_0_3 w_0_4 vd ve w_0_3)) = (0 : Int32)
    · refine ogo (fun _ k => XS.ifYes X_0_57.here hx rfl (pc0 := 122) (pc' := 158) rfl (hb hby at_122) rfl ((if0 _ _).trans (teq hc_0_58).1) (by decide) (by decide) k) ?_
      show OGo _ _ _ _ (T_0_57.setTop (mkF m 158 #[.val (.int va), .val (.int vb), .val (.int vc), .val (.int vd), .val (.int ve), .val (.int w_0_1), .val (.int w_0_2), .val (.int w_0_3), .val (.int w_0_4), .val (.ref b_0_5), .val (.ref b_0_10), .val (.ref b_0_21), .val (.ref b_0_35), .unset, .unset] []))
      refine ogo (fun _ k => XS.iconst X_0_57.here hx rfl (hb hby at_158) k) ?_
      show OGo _ _ _ _ (T_0_57.setTop (mkF m 159 #[.val (.int va), .val (.int vb), .val (.int vc), .val (.int vd), .val (.int ve), .val (.int w_0_1), .val (.int w_0_2), .val (.int w_0_3), .val (.int w_0_4), .val (.ref b_0_5), .val (.ref b_0_10), .val (.ref b_0_21), .val (.ref b_0_35), .unset, .unset] [(.int (0 : Int32))]))
      exact J_0_67 _ (if_pos hc_0_58).symm _ X_0_57 e_0_57
    · refine ogo (fun _ k => XS.ifNo X_0_57.here hx rfl (hb hby at_122) rfl ((if0 _ _).trans (feq hc_0_58).1) k) ?_
      show OGo _ _ _ _ (T_0_57.setTop (mkF m 125 #[.val (.int va), .val (.int vb), .val (.int vc), .val (.int vd), .val (.int ve), .val (.int w_0_1), .val (.int w_0_2), .val (.int w_0_3), .val (.int w_0_4), .val (.ref b_0_5), .val (.ref b_0_10), .val (.ref b_0_21), .val (.ref b_0_35), .unset, .unset] []))
      refine ogo (fun _ k => XS.iload X_0_57.here hx rfl (hb hby at_125) rfl k) ?_
      show OGo _ _ _ _ (T_0_57.setTop (mkF m 127 #[.val (.int va), .val (.int vb), .val (.int vc), .val (.int vd), .val (.int ve), .val (.int w_0_1), .val (.int w_0_2), .val (.int w_0_3), .val (.int w_0_4), .val (.ref b_0_5), .val (.ref b_0_10), .val (.ref b_0_21), .val (.ref b_0_35), .unset, .unset] [(.int w_0_1)]))
      refine ogo (fun _ k => XS.iload X_0_57.here hx rfl (hb hby at_127) rfl k) ?_
      show OGo _ _ _ _ (T_0_57.setTop (mkF m 129 #[.val (.int va), .val (.int vb), .val (.int vc), .val (.int vd), .val (.int ve), .val (.int w_0_1), .val (.int w_0_2), .val (.int w_0_3), .val (.int w_0_4), .val (.ref b_0_5), .val (.ref b_0_10), .val (.ref b_0_21), .val (.ref b_0_35), .unset, .unset] [(.int w_0_2), (.int w_0_1)]))
      refine ogo (fun _ k => XS.iloadN X_0_57.here hx rfl (hb hby at_129) rfl k) ?_
      show OGo _ _ _ _ (T_0_57.setTop (mkF m 130 #[.val (.int va), .val (.int vb), .val (.int vc), .val (.int vd), .val (.int ve), .val (.int w_0_1), .val (.int w_0_2), .val (.int w_0_3), .val (.int w_0_4), .val (.ref b_0_5), .val (.ref b_0_10), .val (.ref b_0_21), .val (.ref b_0_35), .unset, .unset] [(.int vb), (.int w_0_2), (.int w_0_1)]))
      refine ogo (fun _ k => XS.iloadN X_0_57.here hx rfl (hb hby at_130) rfl k) ?_
      show OGo _ _ _ _ (T_0_57.setTop (mkF m 131 #[.val (.int va), .val (.int vb), .val (.int vc), .val (.int vd), .val (.int ve), .val (.int w_0_1), .val (.int w_0_2), .val (.int w_0_3), .val (.int w_0_4), .val (.ref b_0_5), .val (.ref b_0_10), .val (.ref b_0_21), .val (.ref b_0_35), .unset, .unset] [(.int vc), (.int vb), (.int w_0_2), (.int w_0_1)]))
      refine ogo (fun _ k => XS.iload X_0_57.here hx rfl (hb hby at_131) rfl k) ?_
      show OGo _ _ _ _ (T_0_57.setTop (mkF m 133 #[.val (.int va), .val (.int vb), .val (.int vc), .val (.int vd), .val (.int ve), .val (.int w_0_1), .val (.int w_0_2), .val (.int w_0_3), .val (.int w_0_4), .val (.ref b_0_5), .val (.ref b_0_10), .val (.ref b_0_21), .val (.ref b_0_35), .unset, .unset] [(.int w_0_4), (.int vc), (.int vb), (.int w_0_2), (.int w_0_1)]))
      obtain ⟨T_0_59, X_0_59, e_0_59, st_0_59⟩ := ocallP X_0_57 hx hZ e_0_57 (rm3 l Z a0 hw w_0_1 w_0_2 vb vc w_0_4  h_0_44 ) hown (hw _ (List.mem_of_getElem? (i := 21) rfl)) (hw _ (List.mem_of_getElem? (i := 22) rfl)) (hw _ (List.mem_of_getElem? (i := 23) rfl)) (hw _ (List.mem_of_getElem? (i := 24) rfl)) (by decide) (g := (mkF m 133 #[.val (.int va), .val (.int vb), .val (.int vc), .val (.int vd), .val (.int ve), .val (.int w_0_1), .val (.int w_0_2), .val (.int w_0_3), .val (.int w_0_4), .val (.ref b_0_5), .val (.ref b_0_10), .val (.ref b_0_21), .val (.ref b_0_35), .unset, .unset] [(.int w_0_4), (.int vc), (.int vb), (.int w_0_2), (.int w_0_1)])) rfl (by rw [hml]; rfl) [(.int w_0_1), (.int w_0_2), (.int vb), (.int vc), (.int w_0_4)] [] rfl (lenOf pd__IIIII_I rfl) rfl (hb hby at_133) 0 (by show 2 * 0 + _ ≤ _; exact Nat.le_of_eq rfl) (by decide) (by decide) (by decide) (by decide) rfl rfl
      refine ogo (fun _ k => st_0_59 _ k) ?_
      show OGo _ _ _ _ (T_0_59.setTop (mkF m 136 #[.val (.int va), .val (.int vb), .val (.int vc), .val (.int vd), .val (.int ve), .val (.int w_0_1), .val (.int w_0_2), .val (.int w_0_3), .val (.int w_0_4), .val (.ref b_0_5), .val (.ref b_0_10), .val (.ref b_0_21), .val (.ref b_0_35), .unset, .unset] [(.int (atF w_0_1 w_0_2 vb vc w_0_4))]))
      refine ogo (fun _ k => XS.iload X_0_59.here hx rfl (hb hby at_136) rfl k) ?_
      show OGo _ _ _ _ (T_0_59.setTop (mkF m 138 #[.val (.int va), .val (.int vb), .val (.int vc), .val (.int vd), .val (.int ve), .val (.int w_0_1), .val (.int w_0_2), .val (.int w_0_3), .val (.int w_0_4), .val (.ref b_0_5), .val (.ref b_0_10), .val (.ref b_0_21), .val (.ref b_0_35), .unset, .unset] [(.int w_0_3), (.int (atF w_0_1 w_0_2 vb vc w_0_4))]))
      refine ogo (fun _ k => XS.iload X_0_59.here hx rfl (hb hby at_138) rfl k) ?_
      show OGo _ _ _ _ (T_0_59.setTop (mkF m 140 #[.val (.int va), .val (.int vb), .val (.int vc), .val (.int vd), .val (.int ve), .val (.int w_0_1), .val (.int w_0_2), .val (.int w_0_3), .val (.int w_0_4), .val (.ref b_0_5), .val (.ref b_0_10), .val (.ref b_0_21), .val (.ref b_0_35), .unset, .unset] [(.int w_0_4), (.int w_0_3), (.int (atF w_0_1 w_0_2 vb vc w_0_4))]))
      refine ogo (fun _ k => XS.iloadN X_0_59.here hx rfl (hb hby at_140) rfl k) ?_
      show OGo _ _ _ _ (T_0_59.setTop (mkF m 141 #[.val (.int va), .val (.int vb), .val (.int vc), .val (.int vd), .val (.int ve), .val (.int w_0_1), .val (.int w_0_2), .val (.int w_0_3), .val (.int w_0_4), .val (.ref b_0_5), .val (.ref b_0_10), .val (.ref b_0_21), .val (.ref b_0_35), .unset, .unset] [(.int vd), (.int w_0_4), (.int w_0_3), (.int (atF w_0_1 w_0_2 vb vc w_0_4))]))
      refine ogo (fun _ k => XS.iload X_0_59.here hx rfl (hb hby at_141) rfl k) ?_
      show OGo _ _ _ _ (T_0_59.setTop (mkF m 143 #[.val (.int va), .val (.int vb), .val (.int vc), .val (.int vd), .val (.int ve), .val (.int w_0_1), .val (.int w_0_2), .val (.int w_0_3), .val (.int w_0_4), .val (.ref b_0_5), .val (.ref b_0_10), .val (.ref b_0_21), .val (.ref b_0_35), .unset, .unset] [(.int ve), (.int vd), (.int w_0_4), (.int w_0_3), (.int (atF w_0_1 w_0_2 vb vc w_0_4))]))
      refine ogo (fun _ k => XS.iload X_0_59.here hx rfl (hb hby at_143) rfl k) ?_
      show OGo _ _ _ _ (T_0_59.setTop (mkF m 145 #[.val (.int va), .val (.int vb), .val (.int vc), .val (.int vd), .val (.int ve), .val (.int w_0_1), .val (.int w_0_2), .val (.int w_0_3), .val (.int w_0_4), .val (.ref b_0_5), .val (.ref b_0_10), .val (.ref b_0_21), .val (.ref b_0_35), .unset, .unset] [(.int w_0_4), (.int ve), (.int vd), (.int w_0_4), (.int w_0_3), (.int (atF w_0_1 w_0_2 vb vc w_0_4))]))
      obtain ⟨T_0_60, X_0_60, e_0_60, st_0_60⟩ := ocallP X_0_59 hx hZ e_0_59 (rm3 l Z a0 hw w_0_3 w_0_4 vd ve w_0_4  h_0_44 ) hown (hw _ (List.mem_of_getElem? (i := 21) rfl)) (hw _ (List.mem_of_getElem? (i := 22) rfl)) (hw _ (List.mem_of_getElem? (i := 23) rfl)) (hw _ (List.mem_of_getElem? (i := 24) rfl)) (by decide) (g := (mkF m 145 #[.val (.int va), .val (.int vb), .val (.int vc), .val (.int vd), .val (.int ve), .val (.int w_0_1), .val (.int w_0_2), .val (.int w_0_3), .val (.int w_0_4), .val (.ref b_0_5), .val (.ref b_0_10), .val (.ref b_0_21), .val (.ref b_0_35), .unset, .unset] [(.int w_0_4), (.int ve), (.int vd), (.int w_0_4), (.int w_0_3), (.int (atF w_0_1 w_0_2 vb vc w_0_4))])) rfl (by rw [hml]; rfl) [(.int w_0_3), (.int w_0_4), (.int vd), (.int ve), (.int w_0_4)] [(.int (atF w_0_1 w_0_2 vb vc w_0_4))] rfl (lenOf pd__IIIII_I rfl) rfl (hb hby at_145) 1 (by show 2 * 0 + _ ≤ _; exact Nat.le_of_eq rfl) (by decide) (by decide) (by decide) (by decide) rfl rfl
      refine ogo (fun _ k => st_0_60 _ k) ?_
      show OGo _ _ _ _ (T_0_60.setTop (mkF m 148 #[.val (.int va), .val (.int vb), .val (.int vc), .val (.int vd), .val (.int ve), .val (.int w_0_1), .val (.int w_0_2), .val (.int w_0_3), .val (.int w_0_4), .val (.ref b_0_5), .val (.ref b_0_10), .val (.ref b_0_21), .val (.ref b_0_35), .unset, .unset] [(.int (atF w_0_3 w_0_4 vd ve w_0_4)), (.int (atF w_0_1 w_0_2 vb vc w_0_4))]))
      obtain ⟨T_0_61, X_0_61, e_0_61, st_0_61⟩ := ocallP X_0_60 hx hZ e_0_60 (rm4 l Z a0 hw (atF w_0_1 w_0_2 vb vc w_0_4) (atF w_0_3 w_0_4 vd ve w_0_4)  h_0_44 ) hown (hw _ (List.mem_of_getElem? (i := 25) rfl)) (hw _ (List.mem_of_getElem? (i := 26) rfl)) (hw _ (List.mem_of_getElem? (i := 23) rfl)) (hw _ (List.mem_of_getElem? (i := 27) rfl)) (by decide) (g := (mkF m 148 #[.val (.int va), .val (.int vb), .val (.int vc), .val (.int vd), .val (.int ve), .val (.int w_0_1), .val (.int w_0_2), .val (.int w_0_3), .val (.int w_0_4), .val (.ref b_0_5), .val (.ref b_0_10), .val (.ref b_0_21), .val (.ref b_0_35), .unset, .unset] [(.int (atF w_0_3 w_0_4 vd ve w_0_4)), (.int (atF w_0_1 w_0_2 vb vc w_0_4))])) rfl (by rw [hml]; rfl) [(.int (atF w_0_1 w_0_2 vb vc w_0_4)), (.int (atF w_0_3 w_0_4 vd ve w_0_4))] [] rfl (lenOf pd__II_Z rfl) rfl (hb hby at_148) 0 (by show 2 * 0 + _ ≤ _; exact Nat.le_of_eq rfl) (by decide) (by decide) (by decide) (by decide) rfl rfl
      refine ogo (fun _ k => st_0_61 _ k) ?_
      show OGo _ _ _ _ (T_0_61.setTop (mkF m 151 #[.val (.int va), .val (.int vb), .val (.int vc), .val (.int vd), .val (.int ve), .val (.int w_0_1), .val (.int w_0_2), .val (.int w_0_3), .val (.int w_0_4), .val (.ref b_0_5), .val (.ref b_0_10), .val (.ref b_0_21), .val (.ref b_0_35), .unset, .unset] [(.int (covF (atF w_0_1 w_0_2 vb vc w_0_4) (atF w_0_3 w_0_4 vd ve w_0_4)))]))
      suffices J_0_64 : ∀ (w_0_63 : Int32) (hw_0_63 : w_0_63 = (if (covF (atF w_0_1 w_0_2 vb vc w_0_4) (atF w_0_3 w_0_4 vd ve w_0_4)) = (0 : Int32) then (0 : Int32) else (1 : Int32))), OGo p.tables e below (OFin s (fun v _ L => v = some (.int 1) ∧ Fr n0 L) 24 640) (T_0_61.setTop (mkF m 159 #[.val (.int va), .val (.int vb), .val (.int vc), .val (.int vd), .val (.int ve), .val (.int w_0_1), .val (.int w_0_2), .val (.int w_0_3), .val (.int w_0_4), .val (.ref b_0_5), .val (.ref b_0_10), .val (.ref b_0_21), .val (.ref b_0_35), .unset, .unset] [(.int w_0_63)])) by
        by_cases hc_0_62 : (covF (atF w_0_1 w_0_2 vb vc w_0_4) (atF w_0_3 w_0_4 vd ve w_0_4)) = (0 : Int32)
        · refine ogo (fun _ k => XS.ifYes X_0_61.here hx rfl (pc0 := 151) (pc' := 158) rfl (hb hby at_151) rfl ((if0 _ _).trans (teq hc_0_62).1) (by decide) (by decide) k) ?_
          show OGo _ _ _ _ (T_0_61.setTop (mkF m 158 #[.val (.int va), .val (.int vb), .val (.int vc), .val (.int vd), .val (.int ve), .val (.int w_0_1), .val (.int w_0_2), .val (.int w_0_3), .val (.int w_0_4), .val (.ref b_0_5), .val (.ref b_0_10), .val (.ref b_0_21), .val (.ref b_0_35), .unset, .unset] []))
          refine ogo (fun _ k => XS.iconst X_0_61.here hx rfl (hb hby at_158) k) ?_
          show OGo _ _ _ _ (T_0_61.setTop (mkF m 159 #[.val (.int va), .val (.int vb), .val (.int vc), .val (.int vd), .val (.int ve), .val (.int w_0_1), .val (.int w_0_2), .val (.int w_0_3), .val (.int w_0_4), .val (.ref b_0_5), .val (.ref b_0_10), .val (.ref b_0_21), .val (.ref b_0_35), .unset, .unset] [(.int (0 : Int32))]))
          exact J_0_64 _ (if_pos hc_0_62).symm
        · refine ogo (fun _ k => XS.ifNo X_0_61.here hx rfl (hb hby at_151) rfl ((if0 _ _).trans (feq hc_0_62).1) k) ?_
          show OGo _ _ _ _ (T_0_61.setTop (mkF m 154 #[.val (.int va), .val (.int vb), .val (.int vc), .val (.int vd), .val (.int ve), .val (.int w_0_1), .val (.int w_0_2), .val (.int w_0_3), .val (.int w_0_4), .val (.ref b_0_5), .val (.ref b_0_10), .val (.ref b_0_21), .val (.ref b_0_35), .unset, .unset] []))
          refine ogo (fun _ k => XS.iconst X_0_61.here hx rfl (hb hby at_154) k) ?_
          show OGo _ _ _ _ (T_0_61.setTop (mkF m 155 #[.val (.int va), .val (.int vb), .val (.int vc), .val (.int vd), .val (.int ve), .val (.int w_0_1), .val (.int w_0_2), .val (.int w_0_3), .val (.int w_0_4), .val (.ref b_0_5), .val (.ref b_0_10), .val (.ref b_0_21), .val (.ref b_0_35), .unset, .unset] [(.int (1 : Int32))]))
          refine ogo (fun _ k => XS.goto X_0_61.here hx rfl (pc0 := 155) (pc' := 159) rfl (hb hby at_155) (by decide) (by decide) k) ?_
          show OGo _ _ _ _ (T_0_61.setTop (mkF m 159 #[.val (.int va), .val (.int vb), .val (.int vc), .val (.int vd), .val (.int ve), .val (.int w_0_1), .val (.int w_0_2), .val (.int w_0_3), .val (.int w_0_4), .val (.ref b_0_5), .val (.ref b_0_10), .val (.ref b_0_21), .val (.ref b_0_35), .unset, .unset] [(.int (1 : Int32))]))
          exact J_0_64 _ (if_neg hc_0_62).symm
      intro w_0_63 hw_0_63
      subst hw_0_63
      exact J_0_67 _ (if_neg hc_0_58).symm _ X_0_61 e_0_61
  intro w_0_66 hw_0_66 T_0_68 X_0_68 e_0_68
  refine ogo (fun _ k => XS.istore X_0_68.here hx rfl (hb hby at_159) rfl (l' := #[.val (.int va), .val (.int vb), .val (.int vc), .val (.int vd), .val (.int ve), .val (.int w_0_1), .val (.int w_0_2), .val (.int w_0_3), .val (.int w_0_4), .val (.ref b_0_5), .val (.ref b_0_10), .val (.ref b_0_21), .val (.ref b_0_35), .val (.int w_0_66), .unset]) rfl k) ?_
  show OGo _ _ _ _ (T_0_68.setTop (mkF m 161 #[.val (.int va), .val (.int vb), .val (.int vc), .val (.int vd), .val (.int ve), .val (.int w_0_1), .val (.int w_0_2), .val (.int w_0_3), .val (.int w_0_4), .val (.ref b_0_5), .val (.ref b_0_10), .val (.ref b_0_21), .val (.ref b_0_35), .val (.int w_0_66), .unset] []))
  refine ogo (fun _ k => XS.iload X_0_68.here hx rfl (hb hby at_161) rfl k) ?_
  show OGo _ _ _ _ (T_0_68.setTop (mkF m 163 #[.val (.int va), .val (.int vb), .val (.int vc), .val (.int vd), .val (.int ve), .val (.int w_0_1), .val (.int w_0_2), .val (.int w_0_3), .val (.int w_0_4), .val (.ref b_0_5), .val (.ref b_0_10), .val (.ref b_0_21), .val (.ref b_0_35), .val (.int w_0_66), .unset] [(.int w_0_3)]))
  refine ogo (fun _ k => XS.iload X_0_68.here hx rfl (hb hby at_163) rfl k) ?_
  show OGo _ _ _ _ (T_0_68.setTop (mkF m 165 #[.val (.int va), .val (.int vb), .val (.int vc), .val (.int vd), .val (.int ve), .val (.int w_0_1), .val (.int w_0_2), .val (.int w_0_3), .val (.int w_0_4), .val (.ref b_0_5), .val (.ref b_0_10), .val (.ref b_0_21), .val (.ref b_0_35), .val (.int w_0_66), .unset] [(.int w_0_4), (.int w_0_3)]))
  refine ogo (fun _ k => XS.iloadN X_0_68.here hx rfl (hb hby at_165) rfl k) ?_
  show OGo _ _ _ _ (T_0_68.setTop (mkF m 166 #[.val (.int va), .val (.int vb), .val (.int vc), .val (.int vd), .val (.int ve), .val (.int w_0_1), .val (.int w_0_2), .val (.int w_0_3), .val (.int w_0_4), .val (.ref b_0_5), .val (.ref b_0_10), .val (.ref b_0_21), .val (.ref b_0_35), .val (.int w_0_66), .unset] [(.int vd), (.int w_0_4), (.int w_0_3)]))
  refine ogo (fun _ k => XS.iload X_0_68.here hx rfl (hb hby at_166) rfl k) ?_
  show OGo _ _ _ _ (T_0_68.setTop (mkF m 168 #[.val (.int va), .val (.int vb), .val (.int vc), .val (.int vd), .val (.int ve), .val (.int w_0_1), .val (.int w_0_2), .val (.int w_0_3), .val (.int w_0_4), .val (.ref b_0_5), .val (.ref b_0_10), .val (.ref b_0_21), .val (.ref b_0_35), .val (.int w_0_66), .unset] [(.int ve), (.int vd), (.int w_0_4), (.int w_0_3)]))
  refine ogo (fun _ k => XS.iload X_0_68.here hx rfl (hb hby at_168) rfl k) ?_
  show OGo _ _ _ _ (T_0_68.setTop (mkF m 170 #[.val (.int va), .val (.int vb), .val (.int vc), .val (.int vd), .val (.int ve), .val (.int w_0_1), .val (.int w_0_2), .val (.int w_0_3), .val (.int w_0_4), .val (.ref b_0_5), .val (.ref b_0_10), .val (.ref b_0_21), .val (.ref b_0_35), .val (.int w_0_66), .unset] [(.int w_0_1), (.int ve), (.int vd), (.int w_0_4), (.int w_0_3)]))
  obtain ⟨T_0_69, X_0_69, e_0_69, st_0_69⟩ := ocallP X_0_68 hx hZ e_0_68 (rm3 l Z a0 hw w_0_3 w_0_4 vd ve w_0_1  h_0_44 ) hown (hw _ (List.mem_of_getElem? (i := 21) rfl)) (hw _ (List.mem_of_getElem? (i := 22) rfl)) (hw _ (List.mem_of_getElem? (i := 23) rfl)) (hw _ (List.mem_of_getElem? (i := 24) rfl)) (by decide) (g := (mkF m 170 #[.val (.int va), .val (.int vb), .val (.int vc), .val (.int vd), .val (.int ve), .val (.int w_0_1), .val (.int w_0_2), .val (.int w_0_3), .val (.int w_0_4), .val (.ref b_0_5), .val (.ref b_0_10), .val (.ref b_0_21), .val (.ref b_0_35), .val (.int w_0_66), .unset] [(.int w_0_1), (.int ve), (.int vd), (.int w_0_4), (.int w_0_3)])) rfl (by rw [hml]; rfl) [(.int w_0_3), (.int w_0_4), (.int vd), (.int ve), (.int w_0_1)] [] rfl (lenOf pd__IIIII_I rfl) rfl (hb hby at_170) 0 (by show 2 * 0 + _ ≤ _; exact Nat.le_of_eq rfl) (by decide) (by decide) (by decide) (by decide) rfl rfl
  refine ogo (fun _ k => st_0_69 _ k) ?_
  show OGo _ _ _ _ (T_0_69.setTop (mkF m 173 #[.val (.int va), .val (.int vb), .val (.int vc), .val (.int vd), .val (.int ve), .val (.int w_0_1), .val (.int w_0_2), .val (.int w_0_3), .val (.int w_0_4), .val (.ref b_0_5), .val (.ref b_0_10), .val (.ref b_0_21), .val (.ref b_0_35), .val (.int w_0_66), .unset] [(.int (atF w_0_3 w_0_4 vd ve w_0_1))]))
  refine ogo (fun _ k => XS.iload X_0_69.here hx rfl (hb hby at_173) rfl k) ?_
  show OGo _ _ _ _ (T_0_69.setTop (mkF m 175 #[.val (.int va), .val (.int vb), .val (.int vc), .val (.int vd), .val (.int ve), .val (.int w_0_1), .val (.int w_0_2), .val (.int w_0_3), .val (.int w_0_4), .val (.ref b_0_5), .val (.ref b_0_10), .val (.ref b_0_21), .val (.ref b_0_35), .val (.int w_0_66), .unset] [(.int w_0_1), (.int (atF w_0_3 w_0_4 vd ve w_0_1))]))
  refine ogo (fun _ k => XS.iload X_0_69.here hx rfl (hb hby at_175) rfl k) ?_
  show OGo _ _ _ _ (T_0_69.setTop (mkF m 177 #[.val (.int va), .val (.int vb), .val (.int vc), .val (.int vd), .val (.int ve), .val (.int w_0_1), .val (.int w_0_2), .val (.int w_0_3), .val (.int w_0_4), .val (.ref b_0_5), .val (.ref b_0_10), .val (.ref b_0_21), .val (.ref b_0_35), .val (.int w_0_66), .unset] [(.int w_0_2), (.int w_0_1), (.int (atF w_0_3 w_0_4 vd ve w_0_1))]))
  refine ogo (fun _ k => XS.iloadN X_0_69.here hx rfl (hb hby at_177) rfl k) ?_
  show OGo _ _ _ _ (T_0_69.setTop (mkF m 178 #[.val (.int va), .val (.int vb), .val (.int vc), .val (.int vd), .val (.int ve), .val (.int w_0_1), .val (.int w_0_2), .val (.int w_0_3), .val (.int w_0_4), .val (.ref b_0_5), .val (.ref b_0_10), .val (.ref b_0_21), .val (.ref b_0_35), .val (.int w_0_66), .unset] [(.int vb), (.int w_0_2), (.int w_0_1), (.int (atF w_0_3 w_0_4 vd ve w_0_1))]))
  refine ogo (fun _ k => XS.iloadN X_0_69.here hx rfl (hb hby at_178) rfl k) ?_
  show OGo _ _ _ _ (T_0_69.setTop (mkF m 179 #[.val (.int va), .val (.int vb), .val (.int vc), .val (.int vd), .val (.int ve), .val (.int w_0_1), .val (.int w_0_2), .val (.int w_0_3), .val (.int w_0_4), .val (.ref b_0_5), .val (.ref b_0_10), .val (.ref b_0_21), .val (.ref b_0_35), .val (.int w_0_66), .unset] [(.int vc), (.int vb), (.int w_0_2), (.int w_0_1), (.int (atF w_0_3 w_0_4 vd ve w_0_1))]))
  refine ogo (fun _ k => XS.iload X_0_69.here hx rfl (hb hby at_179) rfl k) ?_
  show OGo _ _ _ _ (T_0_69.setTop (mkF m 181 #[.val (.int va), .val (.int vb), .val (.int vc), .val (.int vd), .val (.int ve), .val (.int w_0_1), .val (.int w_0_2), .val (.int w_0_3), .val (.int w_0_4), .val (.ref b_0_5), .val (.ref b_0_10), .val (.ref b_0_21), .val (.ref b_0_35), .val (.int w_0_66), .unset] [(.int w_0_1), (.int vc), (.int vb), (.int w_0_2), (.int w_0_1), (.int (atF w_0_3 w_0_4 vd ve w_0_1))]))
  obtain ⟨T_0_70, X_0_70, e_0_70, st_0_70⟩ := ocallP X_0_69 hx hZ e_0_69 (rm3 l Z a0 hw w_0_1 w_0_2 vb vc w_0_1  h_0_44 ) hown (hw _ (List.mem_of_getElem? (i := 21) rfl)) (hw _ (List.mem_of_getElem? (i := 22) rfl)) (hw _ (List.mem_of_getElem? (i := 23) rfl)) (hw _ (List.mem_of_getElem? (i := 24) rfl)) (by decide) (g := (mkF m 181 #[.val (.int va), .val (.int vb), .val (.int vc), .val (.int vd), .val (.int ve), .val (.int w_0_1), .val (.int w_0_2), .val (.int w_0_3), .val (.int w_0_4), .val (.ref b_0_5), .val (.ref b_0_10), .val (.ref b_0_21), .val (.ref b_0_35), .val (.int w_0_66), .unset] [(.int w_0_1), (.int vc), (.int vb), (.int w_0_2), (.int w_0_1), (.int (atF w_0_3 w_0_4 vd ve w_0_1))])) rfl (by rw [hml]; rfl) [(.int w_0_1), (.int w_0_2), (.int vb), (.int vc), (.int w_0_1)] [(.int (atF w_0_3 w_0_4 vd ve w_0_1))] rfl (lenOf pd__IIIII_I rfl) rfl (hb hby at_181) 1 (by show 2 * 0 + _ ≤ _; exact Nat.le_of_eq rfl) (by decide) (by decide) (by decide) (by decide) rfl rfl
  refine ogo (fun _ k => st_0_70 _ k) ?_
  show OGo _ _ _ _ (T_0_70.setTop (mkF m 184 #[.val (.int va), .val (.int vb), .val (.int vc), .val (.int vd), .val (.int ve), .val (.int w_0_1), .val (.int w_0_2), .val (.int w_0_3), .val (.int w_0_4), .val (.ref b_0_5), .val (.ref b_0_10), .val (.ref b_0_21), .val (.ref b_0_35), .val (.int w_0_66), .unset] [(.int (atF w_0_1 w_0_2 vb vc w_0_1)), (.int (atF w_0_3 w_0_4 vd ve w_0_1))]))
  obtain ⟨T_0_71, X_0_71, e_0_71, st_0_71⟩ := ocallP X_0_70 hx hZ e_0_70 (rm4 l Z a0 hw (atF w_0_3 w_0_4 vd ve w_0_1) (atF w_0_1 w_0_2 vb vc w_0_1)  h_0_44 ) hown (hw _ (List.mem_of_getElem? (i := 25) rfl)) (hw _ (List.mem_of_getElem? (i := 26) rfl)) (hw _ (List.mem_of_getElem? (i := 23) rfl)) (hw _ (List.mem_of_getElem? (i := 27) rfl)) (by decide) (g := (mkF m 184 #[.val (.int va), .val (.int vb), .val (.int vc), .val (.int vd), .val (.int ve), .val (.int w_0_1), .val (.int w_0_2), .val (.int w_0_3), .val (.int w_0_4), .val (.ref b_0_5), .val (.ref b_0_10), .val (.ref b_0_21), .val (.ref b_0_35), .val (.int w_0_66), .unset] [(.int (atF w_0_1 w_0_2 vb vc w_0_1)), (.int (atF w_0_3 w_0_4 vd ve w_0_1))])) rfl (by rw [hml]; rfl) [(.int (atF w_0_3 w_0_4 vd ve w_0_1)), (.int (atF w_0_1 w_0_2 vb vc w_0_1))] [] rfl (lenOf pd__II_Z rfl) rfl (hb hby at_184) 0 (by show 2 * 0 + _ ≤ _; exact Nat.le_of_eq rfl) (by decide) (by decide) (by decide) (by decide) rfl rfl
  refine ogo (fun _ k => st_0_71 _ k) ?_
  show OGo _ _ _ _ (T_0_71.setTop (mkF m 187 #[.val (.int va), .val (.int vb), .val (.int vc), .val (.int vd), .val (.int ve), .val (.int w_0_1), .val (.int w_0_2), .val (.int w_0_3), .val (.int w_0_4), .val (.ref b_0_5), .val (.ref b_0_10), .val (.ref b_0_21), .val (.ref b_0_35), .val (.int w_0_66), .unset] [(.int (covF (atF w_0_3 w_0_4 vd ve w_0_1) (atF w_0_1 w_0_2 vb vc w_0_1)))]))
  suffices J_0_81 : ∀ (w_0_80 : Int32) (hw_0_80 : w_0_80 = (if (covF (atF w_0_3 w_0_4 vd ve w_0_1) (atF w_0_1 w_0_2 vb vc w_0_1)) = (0 : Int32) then (0 : Int32) else (if (covF (atF w_0_3 w_0_4 vd ve w_0_2) (atF w_0_1 w_0_2 vb vc w_0_2)) = (0 : Int32) then (0 : Int32) else (1 : Int32)))) (T_0_82 : State) (X_0_82 : Stand p l e room_1 s m #[(.int va), (.int vb), (.int vc), (.int vd), (.int ve)] below meth c T_0_82 lc_0_44 6 258) (e_0_82 : T_0_82.heap = h_0_44), OGo p.tables e below (OFin s (fun v _ L => v = some (.int 1) ∧ Fr n0 L) 24 640) (T_0_82.setTop (mkF m 224 #[.val (.int va), .val (.int vb), .val (.int vc), .val (.int vd), .val (.int ve), .val (.int w_0_1), .val (.int w_0_2), .val (.int w_0_3), .val (.int w_0_4), .val (.ref b_0_5), .val (.ref b_0_10), .val (.ref b_0_21), .val (.ref b_0_35), .val (.int w_0_66), .unset] [(.int w_0_80)])) by
    by_cases hc_0_72 : (covF (atF w_0_3 w_0_4 vd ve w_0_1) (atF w_0_1 w_0_2 vb vc w_0_1)) = (0 : Int32)
    · refine ogo (fun _ k => XS.ifYes X_0_71.here hx rfl (pc0 := 187) (pc' := 223) rfl (hb hby at_187) rfl ((if0 _ _).trans (teq hc_0_72).1) (by decide) (by decide) k) ?_
      show OGo _ _ _ _ (T_0_71.setTop (mkF m 223 #[.val (.int va), .val (.int vb), .val (.int vc), .val (.int vd), .val (.int ve), .val (.int w_0_1), .val (.int w_0_2), .val (.int w_0_3), .val (.int w_0_4), .val (.ref b_0_5), .val (.ref b_0_10), .val (.ref b_0_21), .val (.ref b_0_35), .val (.int w_0_66), .unset] []))
      refine ogo (fun _ k => XS.iconst X_0_71.here hx rfl (hb hby at_223) k) ?_
      show OGo _ _ _ _ (T_0_71.setTop (mkF m 224 #[.val (.int va), .val (.int vb), .val (.int vc), .val (.int vd), .val (.int ve), .val (.int w_0_1), .val (.int w_0_2), .val (.int w_0_3), .val (.int w_0_4), .val (.ref b_0_5), .val (.ref b_0_10), .val (.ref b_0_21), .val (.ref b_0_35), .val (.int w_0_66), .unset] [(.int (0 : Int32))]))
      exact J_0_81 _ (if_pos hc_0_72).symm _ X_0_71 e_0_71
    · refine ogo (fun _ k => XS.ifNo X_0_71.here hx rfl (hb hby at_187) rfl ((if0 _ _).trans (feq hc_0_72).1) k) ?_
      show OGo _ _ _ _ (T_0_71.setTop (mkF m 190 #[.val (.int va), .val (.int vb), .val (.int vc), .val (.int vd), .val (.int ve), .val (.int w_0_1), .val (.int w_0_2), .val (.int w_0_3), .val (.int w_0_4), .val (.ref b_0_5), .val (.ref b_0_10), .val (.ref b_0_21), .val (.ref b_0_35), .val (.int w_0_66), .unset] []))
      refine ogo (fun _ k => XS.iload X_0_71.here hx rfl (hb hby at_190) rfl k) ?_
      show OGo _ _ _ _ (T_0_71.setTop (mkF m 192 #[.val (.int va), .val (.int vb), .val (.int vc), .val (.int vd), .val (.int ve), .val (.int w_0_1), .val (.int w_0_2), .val (.int w_0_3), .val (.int w_0_4), .val (.ref b_0_5), .val (.ref b_0_10), .val (.ref b_0_21), .val (.ref b_0_35), .val (.int w_0_66), .unset] [(.int w_0_3)]))
      refine ogo (fun _ k => XS.iload X_0_71.here hx rfl (hb hby at_192) rfl k) ?_
      show OGo _ _ _ _ (T_0_71.setTop (mkF m 194 #[.val (.int va), .val (.int vb), .val (.int vc), .val (.int vd), .val (.int ve), .val (.int w_0_1), .val (.int w_0_2), .val (.int w_0_3), .val (.int w_0_4), .val (.ref b_0_5), .val (.ref b_0_10), .val (.ref b_0_21), .val (.ref b_0_35), .val (.int w_0_66), .unset] [(.int w_0_4), (.int w_0_3)]))
      refine ogo (fun _ k => XS.iloadN X_0_71.here hx rfl (hb hby at_194) rfl k) ?_
      show OGo _ _ _ _ (T_0_71.setTop (mkF m 195 #[.val (.int va), .val (.int vb), .val (.int vc), .val (.int vd), .val (.int ve), .val (.int w_0_1), .val (.int w_0_2), .val (.int w_0_3), .val (.int w_0_4), .val (.ref b_0_5), .val (.ref b_0_10), .val (.ref b_0_21), .val (.ref b_0_35), .val (.int w_0_66), .unset] [(.int vd), (.int w_0_4), (.int w_0_3)]))
      refine ogo (fun _ k => XS.iload X_0_71.here hx rfl (hb hby at_195) rfl k) ?_
      show OGo _ _ _ _ (T_0_71.setTop (mkF m 197 #[.val (.int va), .val (.int vb), .val (.int vc), .val (.int vd), .val (.int ve), .val (.int w_0_1), .val (.int w_0_2), .val (.int w_0_3), .val (.int w_0_4), .val (.ref b_0_5), .val (.ref b_0_10), .val (.ref b_0_21), .val (.ref b_0_35), .val (.int w_0_66), .unset] [(.int ve), (.int vd), (.int w_0_4), (.int w_0_3)]))
      refine ogo (fun _ k => XS.iload X_0_71.here hx rfl (hb hby at_197) rfl k) ?_
      show OGo _ _ _ _ (T_0_71.setTop (mkF m 199 #[.val (.int va), .val (.int vb), .val (.int vc), .val (.int vd), .val (.int ve), .val (.int w_0_1), .val (.int w_0_2), .val (.int w_0_3), .val (.int w_0_4), .val (.ref b_0_5), .val (.ref b_0_10), .val (.ref b_0_21), .val (.ref b_0_35), .val (.int w_0_66), .unset] [(.int w_0_2), (.int ve), (.int vd), (.int w_0_4), (.int w_0_3)]))
      obtain ⟨T_0_73, X_0_73, e_0_73, st_0_73⟩ := ocallP X_0_71 hx hZ e_0_71 (rm3 l Z a0 hw w_0_3 w_0_4 vd ve w_0_2  h_0_44 ) hown (hw _ (List.mem_of_getElem? (i := 21) rfl)) (hw _ (List.mem_of_getElem? (i := 22) rfl)) (hw _ (List.mem_of_getElem? (i := 23) rfl)) (hw _ (List.mem_of_getElem? (i := 24) rfl)) (by decide) (g := (mkF m 199 #[.val (.int va), .val (.int vb), .val (.int vc), .val (.int vd), .val (.int ve), .val (.int w_0_1), .val (.int w_0_2), .val (.int w_0_3), .val (.int w_0_4), .val (.ref b_0_5), .val (.ref b_0_10), .val (.ref b_0_21), .val (.ref b_0_35), .val (.int w_0_66), .unset] [(.int w_0_2), (.int ve), (.int vd), (.int w_0_4), (.int w_0_3)])) rfl (by rw [hml]; rfl) [(.int w_0_3), (.int w_0_4), (.int vd), (.int ve), (.int w_0_2)] [] rfl (lenOf pd__IIIII_I rfl) rfl (hb hby at_199) 0 (by show 2 * 0 + _ ≤ _; exact Nat.le_of_eq rfl) (by decide) (by decide) (by decide) (by decide) rfl rfl
      refine ogo (fun _ k => st_0_73 _ k) ?_
      show OGo _ _ _ _ (T_0_73.setTop (mkF m 202 #[.val (.int va), .val (.int vb), .val (.int vc), .val (.int vd), .val (.int ve), .val (.int w_0_1), .val (.int w_0_2), .val (.int w_0_3), .val (.int w_0_4), .val (.ref b_0_5), .val (.ref b_0_10), .val (.ref b_0_21), .val (.ref b_0_35), .val (.int w_0_66), .unset] [(.int (atF w_0_3 w_0_4 vd ve w_0_2))]))
      refine ogo (fun _ k => XS.iload X_0_73.here hx rfl (hb hby at_202) rfl k) ?_
      show OGo _ _ _ _ (T_0_73.setTop (mkF m 204 #[.val (.int va), .val (.int vb), .val (.int vc), .val (.int vd), .val (.int ve), .val (.int w_0_1), .val (.int w_0_2), .val (.int w_0_3), .val (.int w_0_4), .val (.ref b_0_5), .val (.ref b_0_10), .val (.ref b_0_21), .val (.ref b_0_35), .val (.int w_0_66), .unset] [(.int w_0_1), (.int (atF w_0_3 w_0_4 vd ve w_0_2))]))
      refine ogo (fun _ k => XS.iload X_0_73.here hx rfl (hb hby at_204) rfl k) ?_
      show OGo _ _ _ _ (T_0_73.setTop (mkF m 206 #[.val (.int va), .val (.int vb), .val (.int vc), .val (.int vd), .val (.int ve), .val (.int w_0_1), .val (.int w_0_2), .val (.int w_0_3), .val (.int w_0_4), .val (.ref b_0_5), .val (.ref b_0_10), .val (.ref b_0_21), .val (.ref b_0_35), .val (.int w_0_66), .unset] [(.int w_0_2), (.int w_0_1), (.int (atF w_0_3 w_0_4 vd ve w_0_2))]))
      refine ogo (fun _ k => XS.iloadN X_0_73.here hx rfl (hb hby at_206) rfl k) ?_
      show OGo _ _ _ _ (T_0_73.setTop (mkF m 207 #[.val (.int va), .val (.int vb), .val (.int vc), .val (.int vd), .val (.int ve), .val (.int w_0_1), .val (.int w_0_2), .val (.int w_0_3), .val (.int w_0_4), .val (.ref b_0_5), .val (.ref b_0_10), .val (.ref b_0_21), .val (.ref b_0_35), .val (.int w_0_66), .unset] [(.int vb), (.int w_0_2), (.int w_0_1), (.int (atF w_0_3 w_0_4 vd ve w_0_2))]))
      refine ogo (fun _ k => XS.iloadN X_0_73.here hx rfl (hb hby at_207) rfl k) ?_
      show OGo _ _ _ _ (T_0_73.setTop (mkF m 208 #[.val (.int va), .val (.int vb), .val (.int vc), .val (.int vd), .val (.int ve), .val (.int w_0_1), .val (.int w_0_2), .val (.int w_0_3), .val (.int w_0_4), .val (.ref b_0_5), .val (.ref b_0_10), .val (.ref b_0_21), .val (.ref b_0_35), .val (.int w_0_66), .unset] [(.int vc), (.int vb), (.int w_0_2), (.int w_0_1), (.int (atF w_0_3 w_0_4 vd ve w_0_2))]))
      refine ogo (fun _ k => XS.iload X_0_73.here hx rfl (hb hby at_208) rfl k) ?_
      show OGo _ _ _ _ (T_0_73.setTop (mkF m 210 #[.val (.int va), .val (.int vb), .val (.int vc), .val (.int vd), .val (.int ve), .val (.int w_0_1), .val (.int w_0_2), .val (.int w_0_3), .val (.int w_0_4), .val (.ref b_0_5), .val (.ref b_0_10), .val (.ref b_0_21), .val (.ref b_0_35), .val (.int w_0_66), .unset] [(.int w_0_2), (.int vc), (.int vb), (.int w_0_2), (.int w_0_1), (.int (atF w_0_3 w_0_4 vd ve w_0_2))]))
      obtain ⟨T_0_74, X_0_74, e_0_74, st_0_74⟩ := ocallP X_0_73 hx hZ e_0_73 (rm3 l Z a0 hw w_0_1 w_0_2 vb vc w_0_2  h_0_44 ) hown (hw _ (List.mem_of_getElem? (i := 21) rfl)) (hw _ (List.mem_of_getElem? (i := 22) rfl)) (hw _ (List.mem_of_getElem? (i := 23) rfl)) (hw _ (List.mem_of_getElem? (i := 24) rfl)) (by decide) (g := (mkF m 210 #[.val (.int va), .val (.int vb), .val (.int vc), .val (.int vd), .val (.int ve), .val (.int w_0_1), .val (.int w_0_2), .val (.int w_0_3), .val (.int w_0_4), .val (.ref b_0_5), .val (.ref b_0_10), .val (.ref b_0_21), .val (.ref b_0_35), .val (.int w_0_66), .unset] [(.int w_0_2), (.int vc), (.int vb), (.int w_0_2), (.int w_0_1), (.int (atF w_0_3 w_0_4 vd ve w_0_2))])) rfl (by rw [hml]; rfl) [(.int w_0_1), (.int w_0_2), (.int vb), (.int vc), (.int w_0_2)] [(.int (atF w_0_3 w_0_4 vd ve w_0_2))] rfl (lenOf pd__IIIII_I rfl) rfl (hb hby at_210) 1 (by show 2 * 0 + _ ≤ _; exact Nat.le_of_eq rfl) (by decide) (by decide) (by decide) (by decide) rfl rfl
      refine ogo (fun _ k => st_0_74 _ k) ?_
      show OGo _ _ _ _ (T_0_74.setTop (mkF m 213 #[.val (.int va), .val (.int vb), .val (.int vc), .val (.int vd), .val (.int ve), .val (.int w_0_1), .val (.int w_0_2), .val (.int w_0_3), .val (.int w_0_4), .val (.ref b_0_5), .val (.ref b_0_10), .val (.ref b_0_21), .val (.ref b_0_35), .val (.int w_0_66), .unset] [(.int (atF w_0_1 w_0_2 vb vc w_0_2)), (.int (atF w_0_3 w_0_4 vd ve w_0_2))]))
      obtain ⟨T_0_75, X_0_75, e_0_75, st_0_75⟩ := ocallP X_0_74 hx hZ e_0_74 (rm4 l Z a0 hw (atF w_0_3 w_0_4 vd ve w_0_2) (atF w_0_1 w_0_2 vb vc w_0_2)  h_0_44 ) hown (hw _ (List.mem_of_getElem? (i := 25) rfl)) (hw _ (List.mem_of_getElem? (i := 26) rfl)) (hw _ (List.mem_of_getElem? (i := 23) rfl)) (hw _ (List.mem_of_getElem? (i := 27) rfl)) (by decide) (g := (mkF m 213 #[.val (.int va), .val (.int vb), .val (.int vc), .val (.int vd), .val (.int ve), .val (.int w_0_1), .val (.int w_0_2), .val (.int w_0_3), .val (.int w_0_4), .val (.ref b_0_5), .val (.ref b_0_10), .val (.ref b_0_21), .val (.ref b_0_35), .val (.int w_0_66), .unset] [(.int (atF w_0_1 w_0_2 vb vc w_0_2)), (.int (atF w_0_3 w_0_4 vd ve w_0_2))])) rfl (by rw [hml]; rfl) [(.int (atF w_0_3 w_0_4 vd ve w_0_2)), (.int (atF w_0_1 w_0_2 vb vc w_0_2))] [] rfl (lenOf pd__II_Z rfl) rfl (hb hby at_213) 0 (by show 2 * 0 + _ ≤ _; exact Nat.le_of_eq rfl) (by decide) (by decide) (by decide) (by decide) rfl rfl
      refine ogo (fun _ k => st_0_75 _ k) ?_
      show OGo _ _ _ _ (T_0_75.setTop (mkF m 216 #[.val (.int va), .val (.int vb), .val (.int vc), .val (.int vd), .val (.int ve), .val (.int w_0_1), .val (.int w_0_2), .val (.int w_0_3), .val (.int w_0_4), .val (.ref b_0_5), .val (.ref b_0_10), .val (.ref b_0_21), .val (.ref b_0_35), .val (.int w_0_66), .unset] [(.int (covF (atF w_0_3 w_0_4 vd ve w_0_2) (atF w_0_1 w_0_2 vb vc w_0_2)))]))
      suffices J_0_78 : ∀ (w_0_77 : Int32) (hw_0_77 : w_0_77 = (if (covF (atF w_0_3 w_0_4 vd ve w_0_2) (atF w_0_1 w_0_2 vb vc w_0_2)) = (0 : Int32) then (0 : Int32) else (1 : Int32))), OGo p.tables e below (OFin s (fun v _ L => v = some (.int 1) ∧ Fr n0 L) 24 640) (T_0_75.setTop (mkF m 224 #[.val (.int va), .val (.int vb), .val (.int vc), .val (.int vd), .val (.int ve), .val (.int w_0_1), .val (.int w_0_2), .val (.int w_0_3), .val (.int w_0_4), .val (.ref b_0_5), .val (.ref b_0_10), .val (.ref b_0_21), .val (.ref b_0_35), .val (.int w_0_66), .unset] [(.int w_0_77)])) by
        by_cases hc_0_76 : (covF (atF w_0_3 w_0_4 vd ve w_0_2) (atF w_0_1 w_0_2 vb vc w_0_2)) = (0 : Int32)
        · refine ogo (fun _ k => XS.ifYes X_0_75.here hx rfl (pc0 := 216) (pc' := 223) rfl (hb hby at_216) rfl ((if0 _ _).trans (teq hc_0_76).1) (by decide) (by decide) k) ?_
          show OGo _ _ _ _ (T_0_75.setTop (mkF m 223 #[.val (.int va), .val (.int vb), .val (.int vc), .val (.int vd), .val (.int ve), .val (.int w_0_1), .val (.int w_0_2), .val (.int w_0_3), .val (.int w_0_4), .val (.ref b_0_5), .val (.ref b_0_10), .val (.ref b_0_21), .val (.ref b_0_35), .val (.int w_0_66), .unset] []))
          refine ogo (fun _ k => XS.iconst X_0_75.here hx rfl (hb hby at_223) k) ?_
          show OGo _ _ _ _ (T_0_75.setTop (mkF m 224 #[.val (.int va), .val (.int vb), .val (.int vc), .val (.int vd), .val (.int ve), .val (.int w_0_1), .val (.int w_0_2), .val (.int w_0_3), .val (.int w_0_4), .val (.ref b_0_5), .val (.ref b_0_10), .val (.ref b_0_21), .val (.ref b_0_35), .val (.int w_0_66), .unset] [(.int (0 : Int32))]))
          exact J_0_78 _ (if_pos hc_0_76).symm
        · refine ogo (fun _ k => XS.ifNo X_0_75.here hx rfl (hb hby at_216) rfl ((if0 _ _).trans (feq hc_0_76).1) k) ?_
          show OGo _ _ _ _ (T_0_75.setTop (mkF m 219 #[.val (.int va), .val (.int vb), .val (.int vc), .val (.int vd), .val (.int ve), .val (.int w_0_1), .val (.int w_0_2), .val (.int w_0_3), .val (.int w_0_4), .val (.ref b_0_5), .val (.ref b_0_10), .val (.ref b_0_21), .val (.ref b_0_35), .val (.int w_0_66), .unset] []))
          refine ogo (fun _ k => XS.iconst X_0_75.here hx rfl (hb hby at_219) k) ?_
          show OGo _ _ _ _ (T_0_75.setTop (mkF m 220 #[.val (.int va), .val (.int vb), .val (.int vc), .val (.int vd), .val (.int ve), .val (.int w_0_1), .val (.int w_0_2), .val (.int w_0_3), .val (.int w_0_4), .val (.ref b_0_5), .val (.ref b_0_10), .val (.ref b_0_21), .val (.ref b_0_35), .val (.int w_0_66), .unset] [(.int (1 : Int32))]))
          refine ogo (fun _ k => XS.goto X_0_75.here hx rfl (pc0 := 220) (pc' := 224) rfl (hb hby at_220) (by decide) (by decide) k) ?_
          show OGo _ _ _ _ (T_0_75.setTop (mkF m 224 #[.val (.int va), .val (.int vb), .val (.int vc), .val (.int vd), .val (.int ve), .val (.int w_0_1), .val (.int w_0_2), .val (.int w_0_3), .val (.int w_0_4), .val (.ref b_0_5), .val (.ref b_0_10), .val (.ref b_0_21), .val (.ref b_0_35), .val (.int w_0_66), .unset] [(.int (1 : Int32))]))
          exact J_0_78 _ (if_neg hc_0_76).symm
      intro w_0_77 hw_0_77
      subst hw_0_77
      exact J_0_81 _ (if_neg hc_0_72).symm _ X_0_75 e_0_75
  intro w_0_80 hw_0_80 T_0_82 X_0_82 e_0_82
  refine ogo (fun _ k => XS.istore X_0_82.here hx rfl (hb hby at_224) rfl (l' := #[.val (.int va), .val (.int vb), .val (.int vc), .val (.int vd), .val (.int ve), .val (.int w_0_1), .val (.int w_0_2), .val (.int w_0_3), .val (.int w_0_4), .val (.ref b_0_5), .val (.ref b_0_10), .val (.ref b_0_21), .val (.ref b_0_35), .val (.int w_0_66), .val (.int w_0_80)]) rfl k) ?_
  show OGo _ _ _ _ (T_0_82.setTop (mkF m 226 #[.val (.int va), .val (.int vb), .val (.int vc), .val (.int vd), .val (.int ve), .val (.int w_0_1), .val (.int w_0_2), .val (.int w_0_3), .val (.int w_0_4), .val (.ref b_0_5), .val (.ref b_0_10), .val (.ref b_0_21), .val (.ref b_0_35), .val (.int w_0_66), .val (.int w_0_80)] []))
  refine ogo (fun _ k => XS.aload X_0_82.here hx rfl (hb hby at_226) rfl rfl k) ?_
  show OGo _ _ _ _ (T_0_82.setTop (mkF m 228 #[.val (.int va), .val (.int vb), .val (.int vc), .val (.int vd), .val (.int ve), .val (.int w_0_1), .val (.int w_0_2), .val (.int w_0_3), .val (.int w_0_4), .val (.ref b_0_5), .val (.ref b_0_10), .val (.ref b_0_21), .val (.ref b_0_35), .val (.int w_0_66), .val (.int w_0_80)] [(.ref b_0_21)]))
  refine ogo (fun _ k => XS.aload X_0_82.here hx rfl (hb hby at_228) rfl rfl k) ?_
  show OGo _ _ _ _ (T_0_82.setTop (mkF m 230 #[.val (.int va), .val (.int vb), .val (.int vc), .val (.int vd), .val (.int ve), .val (.int w_0_1), .val (.int w_0_2), .val (.int w_0_3), .val (.int w_0_4), .val (.ref b_0_5), .val (.ref b_0_10), .val (.ref b_0_21), .val (.ref b_0_35), .val (.int w_0_66), .val (.int w_0_80)] [(.ref b_0_35), (.ref b_0_21)]))
  obtain ⟨T_0_83, X_0_83, e_0_83, st_0_83⟩ := ovirtP X_0_82 hx hZ e_0_82 (rm5 l Z a0 hw b_0_21 b_0_35 cb_0_27 cb_0_44 ((fun i : Nat => if i = (w_0_2).toNatClampNeg then (vc.toInt8.toInt32).toInt8.toInt32 else (fun i : Nat => if i = (w_0_1).toNatClampNeg then (vb.toInt8.toInt32).toInt8.toInt32 else (fun _ : Nat => (0 : Int32)) i) i)) ((fun i : Nat => if i = (w_0_4).toNatClampNeg then (ve.toInt8.toInt32).toInt8.toInt32 else (fun i : Nat => if i = (w_0_3).toNatClampNeg then (vd.toInt8.toInt32).toInt8.toInt32 else (fun _ : Nat => (0 : Int32)) i) i)) h_0_44 f_0_52 f_0_45 f_0_53 f_0_46) hown (hw _ (List.mem_of_getElem? (i := 28) rfl)) (hw _ (List.mem_of_getElem? (i := 29) rfl)) (hw _ (List.mem_of_getElem? (i := 31) rfl)) (hw _ (List.mem_of_getElem? (i := 30) rfl)) (hw _ (List.mem_of_getElem? (i := 3) rfl)) (hw _ (List.mem_of_getElem? (i := 32) rfl)) (by decide) f_0_51 (g := (mkF m 230 #[.val (.int va), .val (.int vb), .val (.int vc), .val (.int vd), .val (.int ve), .val (.int w_0_1), .val (.int w_0_2), .val (.int w_0_3), .val (.int w_0_4), .val (.ref b_0_5), .val (.ref b_0_10), .val (.ref b_0_21), .val (.ref b_0_35), .val (.int w_0_66), .val (.int w_0_80)] [(.ref b_0_35), (.ref b_0_21)])) rfl (by rw [hml]; rfl) [(.ref b_0_35)] [] rfl (lenOf pd__Lcom_example_gol_gumbaz_golgumbaz_envelope_BloomFilter__Z rfl) rfl (hb hby at_230) 0 (by show 2 * 0 + _ ≤ _; exact Nat.le_of_eq rfl) (by decide) (by decide) (by decide) (by decide) rfl rfl
  refine ogo (fun _ k => st_0_83 _ k) ?_
  show OGo _ _ _ _ (T_0_83.setTop (mkF m 233 #[.val (.int va), .val (.int vb), .val (.int vc), .val (.int vd), .val (.int ve), .val (.int w_0_1), .val (.int w_0_2), .val (.int w_0_3), .val (.int w_0_4), .val (.ref b_0_5), .val (.ref b_0_10), .val (.ref b_0_21), .val (.ref b_0_35), .val (.int w_0_66), .val (.int w_0_80)] [(.int (hasAllF (fun i : Nat => if i = (w_0_2).toNatClampNeg then (vc.toInt8.toInt32).toInt8.toInt32 else (fun i : Nat => if i = (w_0_1).toNatClampNeg then (vb.toInt8.toInt32).toInt8.toInt32 else (fun _ : Nat => (0 : Int32)) i) i) (fun i : Nat => if i = (w_0_4).toNatClampNeg then (ve.toInt8.toInt32).toInt8.toInt32 else (fun i : Nat => if i = (w_0_3).toNatClampNeg then (vd.toInt8.toInt32).toInt8.toInt32 else (fun _ : Nat => (0 : Int32)) i) i)))]))
  refine ogo (fun _ k => XS.iload X_0_83.here hx rfl (hb hby at_233) rfl k) ?_
  show OGo _ _ _ _ (T_0_83.setTop (mkF m 235 #[.val (.int va), .val (.int vb), .val (.int vc), .val (.int vd), .val (.int ve), .val (.int w_0_1), .val (.int w_0_2), .val (.int w_0_3), .val (.int w_0_4), .val (.ref b_0_5), .val (.ref b_0_10), .val (.ref b_0_21), .val (.ref b_0_35), .val (.int w_0_66), .val (.int w_0_80)] [(.int w_0_66), (.int (hasAllF (fun i : Nat => if i = (w_0_2).toNatClampNeg then (vc.toInt8.toInt32).toInt8.toInt32 else (fun i : Nat => if i = (w_0_1).toNatClampNeg then (vb.toInt8.toInt32).toInt8.toInt32 else (fun _ : Nat => (0 : Int32)) i) i) (fun i : Nat => if i = (w_0_4).toNatClampNeg then (ve.toInt8.toInt32).toInt8.toInt32 else (fun i : Nat => if i = (w_0_3).toNatClampNeg then (vd.toInt8.toInt32).toInt8.toInt32 else (fun _ : Nat => (0 : Int32)) i) i)))]))
  suffices J_0_91 : ∀ (w_0_90 : Int32) (hw_0_90 : w_0_90 = (if (hasAllF (fun i : Nat => if i = (w_0_2).toNatClampNeg then (vc.toInt8.toInt32).toInt8.toInt32 else (fun i : Nat => if i = (w_0_1).toNatClampNeg then (vb.toInt8.toInt32).toInt8.toInt32 else (fun _ : Nat => (0 : Int32)) i) i) (fun i : Nat => if i = (w_0_4).toNatClampNeg then (ve.toInt8.toInt32).toInt8.toInt32 else (fun i : Nat => if i = (w_0_3).toNatClampNeg then (vd.toInt8.toInt32).toInt8.toInt32 else (fun _ : Nat => (0 : Int32)) i) i)) = w_0_66 then (if (hasAllF (fun i : Nat => if i = (w_0_4).toNatClampNeg then (ve.toInt8.toInt32).toInt8.toInt32 else (fun i : Nat => if i = (w_0_3).toNatClampNeg then (vd.toInt8.toInt32).toInt8.toInt32 else (fun _ : Nat => (0 : Int32)) i) i) (fun i : Nat => if i = (w_0_2).toNatClampNeg then (vc.toInt8.toInt32).toInt8.toInt32 else (fun i : Nat => if i = (w_0_1).toNatClampNeg then (vb.toInt8.toInt32).toInt8.toInt32 else (fun _ : Nat => (0 : Int32)) i) i)) = w_0_80 then (1 : Int32) else (0 : Int32)) else (0 : Int32))) (T_0_92 : State) (X_0_92 : Stand p l e room_1 s m #[(.int va), (.int vb), (.int vc), (.int vd), (.int ve)] below meth c T_0_92 lc_0_44 6 258) (e_0_92 : T_0_92.heap = h_0_44), OGo p.tables e below (OFin s (fun v _ L => v = some (.int 1) ∧ Fr n0 L) 24 640) (T_0_92.setTop (mkF m 255 #[.val (.int va), .val (.int vb), .val (.int vc), .val (.int vd), .val (.int ve), .val (.int w_0_1), .val (.int w_0_2), .val (.int w_0_3), .val (.int w_0_4), .val (.ref b_0_5), .val (.ref b_0_10), .val (.ref b_0_21), .val (.ref b_0_35), .val (.int w_0_66), .val (.int w_0_80)] [(.int w_0_90)])) by
    by_cases hc_0_84 : (hasAllF (fun i : Nat => if i = (w_0_2).toNatClampNeg then (vc.toInt8.toInt32).toInt8.toInt32 else (fun i : Nat => if i = (w_0_1).toNatClampNeg then (vb.toInt8.toInt32).toInt8.toInt32 else (fun _ : Nat => (0 : Int32)) i) i) (fun i : Nat => if i = (w_0_4).toNatClampNeg then (ve.toInt8.toInt32).toInt8.toInt32 else (fun i : Nat => if i = (w_0_3).toNatClampNeg then (vd.toInt8.toInt32).toInt8.toInt32 else (fun _ : Nat => (0 : Int32)) i) i)) = w_0_66
    · refine ogo (fun _ k => XS.icmpNo X_0_83.here hx rfl (hb hby at_235) rfl (teq hc_0_84).2 k) ?_
      show OGo _ _ _ _ (T_0_83.setTop (mkF m 238 #[.val (.int va), .val (.int vb), .val (.int vc), .val (.int vd), .val (.int ve), .val (.int w_0_1), .val (.int w_0_2), .val (.int w_0_3), .val (.int w_0_4), .val (.ref b_0_5), .val (.ref b_0_10), .val (.ref b_0_21), .val (.ref b_0_35), .val (.int w_0_66), .val (.int w_0_80)] []))
      refine ogo (fun _ k => XS.aload X_0_83.here hx rfl (hb hby at_238) rfl rfl k) ?_
      show OGo _ _ _ _ (T_0_83.setTop (mkF m 240 #[.val (.int va), .val (.int vb), .val (.int vc), .val (.int vd), .val (.int ve), .val (.int w_0_1), .val (.int w_0_2), .val (.int w_0_3), .val (.int w_0_4), .val (.ref b_0_5), .val (.ref b_0_10), .val (.ref b_0_21), .val (.ref b_0_35), .val (.int w_0_66), .val (.int w_0_80)] [(.ref b_0_35)]))
      refine ogo (fun _ k => XS.aload X_0_83.here hx rfl (hb hby at_240) rfl rfl k) ?_
      show OGo _ _ _ _ (T_0_83.setTop (mkF m 242 #[.val (.int va), .val (.int vb), .val (.int vc), .val (.int vd), .val (.int ve), .val (.int w_0_1), .val (.int w_0_2), .val (.int w_0_3), .val (.int w_0_4), .val (.ref b_0_5), .val (.ref b_0_10), .val (.ref b_0_21), .val (.ref b_0_35), .val (.int w_0_66), .val (.int w_0_80)] [(.ref b_0_21), (.ref b_0_35)]))
      obtain ⟨T_0_85, X_0_85, e_0_85, st_0_85⟩ := ovirtP X_0_83 hx hZ e_0_83 (rm5 l Z a0 hw b_0_35 b_0_21 cb_0_44 cb_0_27 ((fun i : Nat => if i = (w_0_4).toNatClampNeg then (ve.toInt8.toInt32).toInt8.toInt32 else (fun i : Nat => if i = (w_0_3).toNatClampNeg then (vd.toInt8.toInt32).toInt8.toInt32 else (fun _ : Nat => (0 : Int32)) i) i)) ((fun i : Nat => if i = (w_0_2).toNatClampNeg then (vc.toInt8.toInt32).toInt8.toInt32 else (fun i : Nat => if i = (w_0_1).toNatClampNeg then (vb.toInt8.toInt32).toInt8.toInt32 else (fun _ : Nat => (0 : Int32)) i) i)) h_0_44 f_0_45 f_0_52 f_0_46 f_0_53) hown (hw _ (List.mem_of_getElem? (i := 28) rfl)) (hw _ (List.mem_of_getElem? (i := 29) rfl)) (hw _ (List.mem_of_getElem? (i := 31) rfl)) (hw _ (List.mem_of_getElem? (i := 30) rfl)) (hw _ (List.mem_of_getElem? (i := 3) rfl)) (hw _ (List.mem_of_getElem? (i := 32) rfl)) (by decide) f_0_54 (g := (mkF m 242 #[.val (.int va), .val (.int vb), .val (.int vc), .val (.int vd), .val (.int ve), .val (.int w_0_1), .val (.int w_0_2), .val (.int w_0_3), .val (.int w_0_4), .val (.ref b_0_5), .val (.ref b_0_10), .val (.ref b_0_21), .val (.ref b_0_35), .val (.int w_0_66), .val (.int w_0_80)] [(.ref b_0_21), (.ref b_0_35)])) rfl (by rw [hml]; rfl) [(.ref b_0_21)] [] rfl (lenOf pd__Lcom_example_gol_gumbaz_golgumbaz_envelope_BloomFilter__Z rfl) rfl (hb hby at_242) 0 (by show 2 * 0 + _ ≤ _; exact Nat.le_of_eq rfl) (by decide) (by decide) (by decide) (by decide) rfl rfl
      refine ogo (fun _ k => st_0_85 _ k) ?_
      show OGo _ _ _ _ (T_0_85.setTop (mkF m 245 #[.val (.int va), .val (.int vb), .val (.int vc), .val (.int vd), .val (.int ve), .val (.int w_0_1), .val (.int w_0_2), .val (.int w_0_3), .val (.int w_0_4), .val (.ref b_0_5), .val (.ref b_0_10), .val (.ref b_0_21), .val (.ref b_0_35), .val (.int w_0_66), .val (.int w_0_80)] [(.int (hasAllF (fun i : Nat => if i = (w_0_4).toNatClampNeg then (ve.toInt8.toInt32).toInt8.toInt32 else (fun i : Nat => if i = (w_0_3).toNatClampNeg then (vd.toInt8.toInt32).toInt8.toInt32 else (fun _ : Nat => (0 : Int32)) i) i) (fun i : Nat => if i = (w_0_2).toNatClampNeg then (vc.toInt8.toInt32).toInt8.toInt32 else (fun i : Nat => if i = (w_0_1).toNatClampNeg then (vb.toInt8.toInt32).toInt8.toInt32 else (fun _ : Nat => (0 : Int32)) i) i)))]))
      refine ogo (fun _ k => XS.iload X_0_85.here hx rfl (hb hby at_245) rfl k) ?_
      show OGo _ _ _ _ (T_0_85.setTop (mkF m 247 #[.val (.int va), .val (.int vb), .val (.int vc), .val (.int vd), .val (.int ve), .val (.int w_0_1), .val (.int w_0_2), .val (.int w_0_3), .val (.int w_0_4), .val (.ref b_0_5), .val (.ref b_0_10), .val (.ref b_0_21), .val (.ref b_0_35), .val (.int w_0_66), .val (.int w_0_80)] [(.int w_0_80), (.int (hasAllF (fun i : Nat => if i = (w_0_4).toNatClampNeg then (ve.toInt8.toInt32).toInt8.toInt32 else (fun i : Nat => if i = (w_0_3).toNatClampNeg then (vd.toInt8.toInt32).toInt8.toInt32 else (fun _ : Nat => (0 : Int32)) i) i) (fun i : Nat => if i = (w_0_2).toNatClampNeg then (vc.toInt8.toInt32).toInt8.toInt32 else (fun i : Nat => if i = (w_0_1).toNatClampNeg then (vb.toInt8.toInt32).toInt8.toInt32 else (fun _ : Nat => (0 : Int32)) i) i)))]))
      suffices J_0_88 : ∀ (w_0_87 : Int32) (hw_0_87 : w_0_87 = (if (hasAllF (fun i : Nat => if i = (w_0_4).toNatClampNeg then (ve.toInt8.toInt32).toInt8.toInt32 else (fun i : Nat => if i = (w_0_3).toNatClampNeg then (vd.toInt8.toInt32).toInt8.toInt32 else (fun _ : Nat => (0 : Int32)) i) i) (fun i : Nat => if i = (w_0_2).toNatClampNeg then (vc.toInt8.toInt32).toInt8.toInt32 else (fun i : Nat => if i = (w_0_1).toNatClampNeg then (vb.toInt8.toInt32).toInt8.toInt32 else (fun _ : Nat => (0 : Int32)) i) i)) = w_0_80 then (1 : Int32) else (0 : Int32))), OGo p.tables e below (OFin s (fun v _ L => v = some (.int 1) ∧ Fr n0 L) 24 640) (T_0_85.setTop (mkF m 255 #[.val (.int va), .val (.int vb), .val (.int vc), .val (.int vd), .val (.int ve), .val (.int w_0_1), .val (.int w_0_2), .val (.int w_0_3), .val (.int w_0_4), .val (.ref b_0_5), .val (.ref b_0_10), .val (.ref b_0_21), .val (.ref b_0_35), .val (.int w_0_66), .val (.int w_0_80)] [(.int w_0_87)])) by
        by_cases hc_0_86 : (hasAllF (fun i : Nat => if i = (w_0_4).toNatClampNeg then (ve.toInt8.toInt32).toInt8.toInt32 else (fun i : Nat => if i = (w_0_3).toNatClampNeg then (vd.toInt8.toInt32).toInt8.toInt32 else (fun _ : Nat => (0 : Int32)) i) i) (fun i : Nat => if i = (w_0_2).toNatClampNeg then (vc.toInt8.toInt32).toInt8.toInt32 else (fun i : Nat => if i = (w_0_1).toNatClampNeg then (vb.toInt8.toInt32).toInt8.toInt32 else (fun _ : Nat => (0 : Int32)) i) i)) = w_0_80
        · refine ogo (fun _ k => XS.icmpNo X_0_85.here hx rfl (hb hby at_247) rfl (teq hc_0_86).2 k) ?_
          show OGo _ _ _ _ (T_0_85.setTop (mkF m 250 #[.val (.int va), .val (.int vb), .val (.int vc), .val (.int vd), .val (.int ve), .val (.int w_0_1), .val (.int w_0_2), .val (.int w_0_3), .val (.int w_0_4), .val (.ref b_0_5), .val (.ref b_0_10), .val (.ref b_0_21), .val (.ref b_0_35), .val (.int w_0_66), .val (.int w_0_80)] []))
          refine ogo (fun _ k => XS.iconst X_0_85.here hx rfl (hb hby at_250) k) ?_
          show OGo _ _ _ _ (T_0_85.setTop (mkF m 251 #[.val (.int va), .val (.int vb), .val (.int vc), .val (.int vd), .val (.int ve), .val (.int w_0_1), .val (.int w_0_2), .val (.int w_0_3), .val (.int w_0_4), .val (.ref b_0_5), .val (.ref b_0_10), .val (.ref b_0_21), .val (.ref b_0_35), .val (.int w_0_66), .val (.int w_0_80)] [(.int (1 : Int32))]))
          refine ogo (fun _ k => XS.goto X_0_85.here hx rfl (pc0 := 251) (pc' := 255) rfl (hb hby at_251) (by decide) (by decide) k) ?_
          show OGo _ _ _ _ (T_0_85.setTop (mkF m 255 #[.val (.int va), .val (.int vb), .val (.int vc), .val (.int vd), .val (.int ve), .val (.int w_0_1), .val (.int w_0_2), .val (.int w_0_3), .val (.int w_0_4), .val (.ref b_0_5), .val (.ref b_0_10), .val (.ref b_0_21), .val (.ref b_0_35), .val (.int w_0_66), .val (.int w_0_80)] [(.int (1 : Int32))]))
          exact J_0_88 _ (if_pos hc_0_86).symm
        · refine ogo (fun _ k => XS.icmpYes X_0_85.here hx rfl (pc0 := 247) (pc' := 254) rfl (hb hby at_247) rfl (feq hc_0_86).2 (by decide) (by decide) k) ?_
          show OGo _ _ _ _ (T_0_85.setTop (mkF m 254 #[.val (.int va), .val (.int vb), .val (.int vc), .val (.int vd), .val (.int ve), .val (.int w_0_1), .val (.int w_0_2), .val (.int w_0_3), .val (.int w_0_4), .val (.ref b_0_5), .val (.ref b_0_10), .val (.ref b_0_21), .val (.ref b_0_35), .val (.int w_0_66), .val (.int w_0_80)] []))
          refine ogo (fun _ k => XS.iconst X_0_85.here hx rfl (hb hby at_254) k) ?_
          show OGo _ _ _ _ (T_0_85.setTop (mkF m 255 #[.val (.int va), .val (.int vb), .val (.int vc), .val (.int vd), .val (.int ve), .val (.int w_0_1), .val (.int w_0_2), .val (.int w_0_3), .val (.int w_0_4), .val (.ref b_0_5), .val (.ref b_0_10), .val (.ref b_0_21), .val (.ref b_0_35), .val (.int w_0_66), .val (.int w_0_80)] [(.int (0 : Int32))]))
          exact J_0_88 _ (if_neg hc_0_86).symm
      intro w_0_87 hw_0_87
      subst hw_0_87
      exact J_0_91 _ (if_pos hc_0_84).symm _ X_0_85 e_0_85
    · refine ogo (fun _ k => XS.icmpYes X_0_83.here hx rfl (pc0 := 235) (pc' := 254) rfl (hb hby at_235) rfl (feq hc_0_84).2 (by decide) (by decide) k) ?_
      show OGo _ _ _ _ (T_0_83.setTop (mkF m 254 #[.val (.int va), .val (.int vb), .val (.int vc), .val (.int vd), .val (.int ve), .val (.int w_0_1), .val (.int w_0_2), .val (.int w_0_3), .val (.int w_0_4), .val (.ref b_0_5), .val (.ref b_0_10), .val (.ref b_0_21), .val (.ref b_0_35), .val (.int w_0_66), .val (.int w_0_80)] []))
      refine ogo (fun _ k => XS.iconst X_0_83.here hx rfl (hb hby at_254) k) ?_
      show OGo _ _ _ _ (T_0_83.setTop (mkF m 255 #[.val (.int va), .val (.int vb), .val (.int vc), .val (.int vd), .val (.int ve), .val (.int w_0_1), .val (.int w_0_2), .val (.int w_0_3), .val (.int w_0_4), .val (.ref b_0_5), .val (.ref b_0_10), .val (.ref b_0_21), .val (.ref b_0_35), .val (.int w_0_66), .val (.int w_0_80)] [(.int (0 : Int32))]))
      exact J_0_91 _ (if_neg hc_0_84).symm _ X_0_83 e_0_83
  intro w_0_90 hw_0_90 T_0_92 X_0_92 e_0_92
  have hz : w_0_90 = (1 : Int32) := plain0 va vb vc vd ve w_0_1 hw_0_1 w_0_2 hw_0_2 w_0_3 hw_0_3 w_0_4 hw_0_4 w_0_66 hw_0_66 w_0_80 hw_0_80 w_0_90 hw_0_90
  rw [hz]
  exact oret X_0_92 hx hlk Bd.returns rfl (Or.inl ⟨rfl, Or.inr (Or.inl rfl), _, rfl⟩) (hb hby at_255) (by decide) (by decide) ⟨rfl, N_0_44⟩
set_option maxRecDepth 65536 in
set_option maxHeartbeats 40000000 in
theorem comes_1 {Post : Tables → Env → Array Value → State → Outcome → State → Prop} (hpost : ∀ tb e args s v u, (limb_1_1.after args s (.returned v) u = true ∧ limb_1_2.after args s (.returned v) u = true) → FrameEnd s (.returned v) u (Jvm.fieldLocs frame_1_writes args s ++ Jvm.arrayLocs frame_1_arrays args s ++ Jvm.staticLocs frame_1_statics s) 24 640 → Post tb e args s (.returned v) u) :
    ArmFor flags0 classFile x code maxLocals ret World_1 tables_1 room_1 Calls_1 rest_1 Pre_1 Post := by
  intro l hfl _ _ p e ha hc hk s m args below hf hA hF happ hP
  obtain ⟨hcalls, hrest, hpre⟩ := hP
  obtain ⟨-, -, -, hnamed, -, -, -, hat⟩ := (Spec.applies_iff hf).mp happ
  obtain ⟨hg, hn⟩ := and_e (Cond.before_iff.mp (show (Jvm.Cond.and given_1 narrow_1).before args s = true from hpre))
  obtain ⟨gc, g0⟩ := and_e hg
  obtain ⟨ga0, g1⟩ := and_e g0
  obtain ⟨ga1, g2⟩ := and_e g1
  obtain ⟨ga2, g3⟩ := and_e g2
  obtain ⟨ga3, g4⟩ := and_e g3
  obtain ⟨w0, w1, w2, w3, w4, rfl⟩ : ∃ w0 w1 w2 w3 w4 : Value, args = #[w0, w1, w2, w3, w4] := by
    have hs : args.size = 5 := by simpa [Cond.value, given_1] using gc
    obtain ⟨L⟩ := args
    match L, hs with
    | [w0, w1, w2, w3, w4], _ => exact ⟨w0, w1, w2, w3, w4, rfl⟩
  have hw := fun d (hd : d ∈ tables_1) => atoms_spec (ws := Jvm.Cond.code x code maxLocals ret :: tables_1) hat d (List.mem_cons_of_mem _ hd)
  obtain ⟨i0, ei0⟩ := is_v ga0
  obtain rfl : w0 = (.int i0) := Option.some.inj ei0
  obtain ⟨i1, ei1⟩ := is_v ga1
  obtain rfl : w1 = (.int i1) := Option.some.inj ei1
  obtain ⟨i2, ei2⟩ := is_v ga2
  obtain rfl : w2 = (.int i2) := Option.some.inj ei2
  obtain ⟨i3, ei3⟩ := is_v ga3
  obtain rfl : w3 = (.int i3) := Option.some.inj ei3
  obtain ⟨i4, ei4⟩ := is_v g4
  obtain rfl : w4 = (.int i4) := Option.some.inj ei4
  obtain ⟨n, o, h1, h2, h3, _, L, rfl, ⟨rfl, N⟩, hq⟩ := rm0 l s _ hw tables_1 i0 i1 i2 i3 i4 s.heap s.heap.size (Nat.le_refl _)  p e ha hc hk s m _ below hf ((Spec.applies_iff_loose hf).mp happ).1 ⟨rfl, State.Warmed39.refl s, rfl⟩ trivial
  exact ⟨n, _, h1, h2, h3, hpost _ _ _ _ _ _ ⟨Cond.after_iff.mpr rfl, Cond.after_iff.mpr (eq_i res_at (Term.int_eval (1)) rfl)⟩ ⟨hq.1, hq.2.1, (hq.2.2.sift fun y hy => Or.inr (N y hy)).mono (by decide) (by decide)⟩⟩
theorem main_1_1 : Claimed_1_1 := comes_1 fun _ _ _ _ _ _ h hF => ⟨h.1, hF⟩
theorem main_1_2 : Claimed_1_2 := comes_1 fun _ _ _ _ _ _ h hF => ⟨h.2, hF⟩
end Jvm.Pilot.@@N@@
namespace Jvm.Pilot.@@N@@
open Jvm Jvm.ClassFile Sem Op Lib Jvm.Free Jvm.Stand Jvm.Pilot.@@N@@.Jvm.D
/-! MADE BY PROGRAM (witnessworld.py) out of the Statement's table words and the real class files: 9 classes; the members and pool entries that the words name. The judged class is class 1, her method 1. -/
namespace start1
open Jvm.ClassFile
def u (s : String) : CpInfo := .utf8 (stringToUtf16 s)
/-- a pool by its gaps: so many unusable entries, then the entry; so many at the end -/
def gap : Nat → List CpInfo → List CpInfo
  | 0, r => r
  | n + 1, r => .unusable :: gap n r
def poolList (es : List (Nat × CpInfo)) (last : Nat) : List CpInfo := es.foldr (fun e r => gap e.1 (e.2 :: r)) (gap last [])
def pool (es : List (Nat × CpInfo)) (last : Nat) : Array CpInfo := ⟨poolList es last⟩
def fileOf (pool : Array CpInfo) (this : Nat) (attrs : Array Attribute := #[]) (ms : Array MethodInfo := #[]) (fl : Nat := 33) (sup : Nat := 0) (ifs : Array Nat := #[]) (fds : Array FieldInfo := #[]) : ClassFile where
  minorVersion := 0
  majorVersion := 65
  constantPool := pool
  accessFlags := fl
  thisClass := this
  superClass := sup
  interfaces := ifs
  fields := fds
  methods := ms
  attributes := attrs
def plain (name : String) (sup : Option ClassId) : Class where
  name := name
  kind := .ordinary
  loader := none
  accessFlags := 33
  super := sup
  interfaces := #[]
  cf := none
  fields := #[]
  methods := #[]
  instanceTypes := #[]
  staticTypes := #[]
  resolved := #[]
  callSites := []
  init := .initialized
  statics := none
  mirror := none

def pool0 : Array CpInfo := pool [(5, u "<init>"), (0, u "()V"), (1, .class_ 10), (1, u "java/lang/Object"), (85, u "clone"), (0, u "()Ljava/lang/Object;")] 26

def k0c0 : Code := { maxStack := 0, maxLocals := 1, code := object_method_1_code, exceptionTable := #[], attributes := #[] }
def k0m0 : Method := { name := "<init>", desc := "()V", sig := { parameters := [], returnType := none }, accessFlags := 1, code := some k0c0 }
def k0m1 : Method := { name := "clone", desc := "()Ljava/lang/Object;", sig := { parameters := [], returnType := some (.object "java/lang/Object") }, accessFlags := 260, code := none }
/-- java/lang/Object -/
def k0 : Class := { plain "java/lang/Object" none with
  accessFlags := 33
  interfaces := #[]
  cf := some (fileOf pool0 8 #[] #[{ accessFlags := 1, nameIndex := 5, descriptorIndex := 6, attributes := #[] }, { accessFlags := 260, nameIndex := 96, descriptorIndex := 97, attributes := #[] }] 33 0 #[] #[])
  fields := #[]
  methods := #[k0m0, k0m1]
  instanceTypes := #[]
  staticTypes := #[]
  resolved := Array.replicate 124 none
  statics := none }

def pool1 : Array CpInfo := pool [(2, .class_ 4), (1, u "java/lang/Object"), (0, u "<init>"), (0, u "()V"), (0, .class_ 8), (0, u "com/example/gol_gumbaz/golgumbaz/envelope/BloomFilter"), (0, .methodref 7 10), (0, .nameAndType 5 11), (0, u "([B)V"), (0, .methodref 13 14), (0, .class_ 15), (0, .nameAndType 16 17), (0, u "com/example/gol_gumbaz/golgumbaz/envelope/BloomFilterHasAllPinLaw"), (0, u "at"), (0, u "(IIIII)I"), (0, .methodref 13 19), (0, .nameAndType 20 21), (0, u "covered"), (0, u "(II)Z"), (0, .methodref 7 23), (0, .nameAndType 24 25), (0, u "hasAll"), (0, u "(Lcom/example/gol_gumbaz/golgumbaz/envelope/BloomFilter;)Z"), (2, u "law"), (0, u "(IIIII)Z")] 5

def k1m0 : Method := { name := "<init>", desc := "()V", sig := { parameters := [], returnType := none }, accessFlags := 1, code := none }
def k1c1 : Code := { maxStack := 6, maxLocals := 15, code := code, exceptionTable := #[], attributes := #[] }
def k1m1 : Method := { name := "law", desc := "(IIIII)Z", sig := { parameters := [.int, .int, .int, .int, .int], returnType := some .boolean }, accessFlags := 9, code := some k1c1 }
def k1c2 : Code := { maxStack := 2, maxLocals := 5, code := method_3_code, exceptionTable := #[], attributes := #[] }
def k1m2 : Method := { name := "at", desc := "(IIIII)I", sig := { parameters := [.int, .int, .int, .int, .int], returnType := some .int }, accessFlags := 10, code := some k1c2 }
def k1c3 : Code := { maxStack := 3, maxLocals := 2, code := method_4_code, exceptionTable := #[], attributes := #[] }
def k1m3 : Method := { name := "covered", desc := "(II)Z", sig := { parameters := [.int, .int], returnType := some .boolean }, accessFlags := 10, code := some k1c3 }
/-- com/example/gol_gumbaz/golgumbaz/envelope/BloomFilterHasAllPinLaw -/
def k1 : Class := { plain "com/example/gol_gumbaz/golgumbaz/envelope/BloomFilterHasAllPinLaw" (some 0) with
  accessFlags := 49
  interfaces := #[]
  cf := some (fileOf pool1 13 #[] #[{ accessFlags := 1, nameIndex := 5, descriptorIndex := 6, attributes := #[] }, { accessFlags := 9, nameIndex := 28, descriptorIndex := 29, attributes := #[] }, { accessFlags := 10, nameIndex := 16, descriptorIndex := 17, attributes := #[] }, { accessFlags := 10, nameIndex := 20, descriptorIndex := 21, attributes := #[] }] 49 2 #[] #[])
  fields := #[]
  methods := #[k1m0, k1m1, k1m2, k1m3]
  instanceTypes := #[]
  staticTypes := #[]
  resolved := Array.replicate 35 none
  statics := none }

def pool2 : Array CpInfo := pool [(1, .methodref 2 3), (0, .class_ 4), (0, .nameAndType 5 6), (0, u "java/lang/Object"), (0, u "<init>"), (0, u "()V"), (21, .methodref 29 30), (0, .class_ 31), (0, .nameAndType 32 33), (0, u "[B"), (0, u "clone"), (0, u "()Ljava/lang/Object;"), (0, .fieldref 35 36), (0, .class_ 37), (0, .nameAndType 38 31), (0, u "com/example/gol_gumbaz/golgumbaz/envelope/BloomFilter"), (0, u "bytes"), (8, u "([B)V"), (69, u "ALL_BITS"), (0, u "B"), (13, u "hasAll"), (0, u "(Lcom/example/gol_gumbaz/golgumbaz/envelope/BloomFilter;)Z")] 5

def k2c0 : Code := { maxStack := 7, maxLocals := 2, code := prog_6_method_1_code, exceptionTable := #[], attributes := #[] }
def k2m0 : Method := { name := "<init>", desc := "([B)V", sig := { parameters := [(.array .byte)], returnType := none }, accessFlags := 1, code := some k2c0 }
def k2c1 : Code := { maxStack := 3, maxLocals := 3, code := prog_6_method_8_code, exceptionTable := #[], attributes := #[] }
def k2m1 : Method := { name := "hasAll", desc := "(Lcom/example/gol_gumbaz/golgumbaz/envelope/BloomFilter;)Z", sig := { parameters := [(.object "com/example/gol_gumbaz/golgumbaz/envelope/BloomFilter")], returnType := some .boolean }, accessFlags := 1, code := some k2c1 }
/-- com/example/gol_gumbaz/golgumbaz/envelope/BloomFilter -/
def k2 : Class := { plain "com/example/gol_gumbaz/golgumbaz/envelope/BloomFilter" (some 0) with
  accessFlags := 49
  interfaces := #[]
  cf := some (fileOf pool2 35 #[] #[{ accessFlags := 1, nameIndex := 5, descriptorIndex := 47, attributes := #[] }, { accessFlags := 1, nameIndex := 132, descriptorIndex := 133, attributes := #[] }] 49 2 #[] #[{ accessFlags := 26, nameIndex := 117, descriptorIndex := 118, attributes := #[] }, { accessFlags := 18, nameIndex := 38, descriptorIndex := 31, attributes := #[] }])
  fields := #[{ name := "ALL_BITS", type := .byte, accessFlags := 26, slot := 0, constantValue := 0 }, { name := "bytes", type := (.array .byte), accessFlags := 18, slot := 0, constantValue := 0 }]
  methods := #[k2m0, k2m1]
  instanceTypes := #[(.array .byte)]
  staticTypes := #[.byte]
  resolved := Array.replicate 139 none
  statics := none }

def pool3 : Array CpInfo := pool [(1, .class_ 2), (0, u "java/lang/Cloneable"), (0, .class_ 4), (0, u "java/lang/Object")] 2

/-- java/lang/Cloneable -/
def k3 : Class := { plain "java/lang/Cloneable" (some 0) with
  accessFlags := 1537
  interfaces := #[]
  cf := some (fileOf pool3 1 #[] #[] 1537 3 #[] #[])
  fields := #[]
  methods := #[]
  instanceTypes := #[]
  staticTypes := #[]
  resolved := Array.replicate 7 none
  statics := none }

def pool4 : Array CpInfo := pool [(1, u "java/io/Serializable"), (0, .class_ 1), (0, u "java/lang/Object"), (0, .class_ 3)] 3

/-- java/io/Serializable -/
def k4 : Class := { plain "java/io/Serializable" (some 0) with
  accessFlags := 1537
  interfaces := #[]
  cf := some (fileOf pool4 2 #[] #[] 1537 4 #[] #[])
  fields := #[]
  methods := #[]
  instanceTypes := #[]
  staticTypes := #[]
  resolved := Array.replicate 8 none
  statics := none }

/-- the primitive byte -/
def k5 : Class := { plain "byte" none with kind := .primitive 'B', accessFlags := 0x411 }
/-- [B -/
def k6 : Class := { plain "[B" (some 0) with kind := .array 5 .byte, interfaces := #[3, 4], accessFlags := 1041 }

/-- the primitive int -/
def k7 : Class := { plain "int" none with kind := .primitive 'I', accessFlags := 0x411 }
/-- [I -/
def k8 : Class := { plain "[I" (some 0) with kind := .array 7 .int, interfaces := #[3, 4], accessFlags := 1041 }

def heap : Heap := #[]
def classes : Array Class := #[k0, k1, k2, k3, k4, k5, k6, k7, k8]
def interned : List (Array UInt16 × Addr) := []
def slotsUsed : Nat := 0
def theMethod : MethodId := ⟨1, 1⟩
def args0 : Array Value := #[.int 9, .int 3, .int 4, .int 5, .int 6]
def aboutOver (below : List Frame) : State where
  vm := { classes := classes, interned := interned.toArray }
  heap := heap
  slotsUsed := slotsUsed
  threads := #[{ frames := .invoking theMethod args0 :: below }]
def below0 : List Frame := [.native { method := ⟨0, 0⟩, args := #[] }]
def about1 : State := aboutOver below0
def p0 : Program := .bare "" "" ""
def e0 : Env := launch0.env 0 0 0
theorem w_frames : about1.frames = Frame.invoking theMethod args0 :: below0 := rfl
set_option maxRecDepth 65536 in
theorem w_args : argsFit about1.vm theMethod args0 = true := by decide +kernel
set_option maxRecDepth 65536 in
theorem w_heap : heapFits about1 = true := by decide +kernel
set_option maxRecDepth 65536 in
theorem w_runnable : about1.curStatus? = some .runnable := by decide +kernel
set_option maxRecDepth 65536 in
theorem w_alone : about1.alone = true := by decide +kernel
set_option maxRecDepth 65536 in
theorem w_named : about1.methodNamed? x = some theMethod := by decide +kernel
set_option maxRecDepth 65536 in
theorem w_hears : about1.hears theMethod below0 = true := by decide +kernel
set_option maxRecDepth 65536 in
theorem w_ripe : about1.ripe theMethod args0 below0 = true := by decide +kernel
theorem w_running : about1.status = .running := rfl
set_option maxRecDepth 65536 in
theorem w_room : about1.hasRoom e0.platform room_1 = true :=
  launch0.hasRoom_least _ room_1 (by decide +kernel) (by decide +kernel) (by decide +kernel) (by decide +kernel) (by decide +kernel) (by decide +kernel)
theorem allAtoms_all (ts : List Jvm.Cond) (a : Array Jvm.Value) (st : Jvm.State) : (allAtoms ts).before a st = ts.all (fun c => c.before a st) := by
  induction ts with
  | nil => rfl
  | cons c t ih =>
    show (Jvm.Cond.and c (allAtoms t)).before a st = _
    rw [Jvm.Cond.before_and, ih, List.all_cons]
def words1 : List Jvm.Cond := Jvm.Cond.code x code maxLocals ret :: tables_1
/-- a 'code' word, met by the world's own term for the bytes: nothing is compared byte by byte -/
theorem code_word {y : MethodName} {bytes : ByteArray} {mx : Nat} {rt : Option FieldType} {a : Array Value} {s : State} {m : MethodId} {meth : Method} {c : Code} (h1 : s.methodNamed? y = some m) (h2 : s.vm.method? m = some meth) (h3 : meth.code = some c) (h4 : c.code = bytes)
    (h5 : (c.maxLocals == mx && c.exceptionTable.isEmpty && decide (c.maxStack ≤ mostOperands) && decide (meth.sig.returnType = rt) && !meth.locks && decide (parseMethodDescriptor y.desc = some meth.sig)) = true) : (Jvm.Cond.code y bytes mx rt).before a s = true := by
  simp only [Bool.and_eq_true, beq_iff_eq, Bool.not_eq_true', decide_eq_true_eq] at h5
  obtain ⟨⟨⟨⟨⟨g1, g2⟩, g3⟩, g4⟩, g5⟩, g6⟩ := h5
  simp [Cond.before, Cond.holds, Cond.value, h1, h2, h3, h4, g1, g2, g3, g4, g5, g6]
def isCode : Jvm.Cond → Bool
  | .code _ _ _ _ => true
  | _ => false
theorem all_split {L : List Jvm.Cond} {P : Jvm.Cond → Bool} (h1 : L.all (fun c => isCode c || P c) = true) (h2 : ∀ c ∈ L.filter isCode, P c = true) : L.all P = true := by
  refine List.all_eq_true.mpr fun c hc => ?_
  have h := List.all_eq_true.mp h1 c hc
  rcases Bool.eq_false_or_eq_true (isCode c) with hi | hi
  · exact h2 c (List.mem_filter.mpr ⟨hc, hi⟩)
  · simpa [hi] using h
set_option maxRecDepth 65536 in
theorem w_c0 : (Jvm.Cond.code x code maxLocals ret).before args0 about1 = true := code_word (m := ⟨1, 1⟩) (meth := k1m1) (c := k1c1) (by decide +kernel) rfl rfl rfl (by decide +kernel)
set_option maxRecDepth 65536 in
theorem w_c1 : (Jvm.Cond.code ({ cls := "com/example/gol_gumbaz/golgumbaz/envelope/BloomFilter", name := "<init>", desc := "([B)V" } : Jvm.MethodName) prog_6_method_1_code (2 : Nat) (Option.none : Option Jvm.ClassFile.FieldType)).before args0 about1 = true := code_word (m := ⟨2, 0⟩) (meth := k2m0) (c := k2c0) (by decide +kernel) rfl rfl rfl (by decide +kernel)
set_option maxRecDepth 65536 in
theorem w_c2 : (Jvm.Cond.code ({ cls := "java/lang/Object", name := "<init>", desc := "()V" } : Jvm.MethodName) object_method_1_code (1 : Nat) (Option.none : Option Jvm.ClassFile.FieldType)).before args0 about1 = true := code_word (m := ⟨0, 0⟩) (meth := k0m0) (c := k0c0) (by decide +kernel) rfl rfl rfl (by decide +kernel)
set_option maxRecDepth 65536 in
theorem w_c3 : (Jvm.Cond.code ({ cls := "com/example/gol_gumbaz/golgumbaz/envelope/BloomFilterHasAllPinLaw", name := "at", desc := "(IIIII)I" } : Jvm.MethodName) method_3_code (5 : Nat) (Option.some Jvm.ClassFile.FieldType.int)).before args0 about1 = true := code_word (m := ⟨1, 2⟩) (meth := k1m2) (c := k1c2) (by decide +kernel) rfl rfl rfl (by decide +kernel)
set_option maxRecDepth 65536 in
theorem w_c4 : (Jvm.Cond.code ({ cls := "com/example/gol_gumbaz/golgumbaz/envelope/BloomFilterHasAllPinLaw", name := "covered", desc := "(II)Z" } : Jvm.MethodName) method_4_code (2 : Nat) (Option.some Jvm.ClassFile.FieldType.boolean)).before args0 about1 = true := code_word (m := ⟨1, 3⟩) (meth := k1m3) (c := k1c3) (by decide +kernel) rfl rfl rfl (by decide +kernel)
set_option maxRecDepth 65536 in
theorem w_c5 : (Jvm.Cond.code ({ cls := "com/example/gol_gumbaz/golgumbaz/envelope/BloomFilter", name := "hasAll", desc := "(Lcom/example/gol_gumbaz/golgumbaz/envelope/BloomFilter;)Z" } : Jvm.MethodName) prog_6_method_8_code (3 : Nat) (Option.some Jvm.ClassFile.FieldType.boolean)).before args0 about1 = true := code_word (m := ⟨2, 1⟩) (meth := k2m1) (c := k2c1) (by decide +kernel) rfl rfl rfl (by decide +kernel)
def codes1 : List Jvm.Cond := [Jvm.Cond.code x code maxLocals ret, Jvm.Cond.code ({ cls := "com/example/gol_gumbaz/golgumbaz/envelope/BloomFilter", name := "<init>", desc := "([B)V" } : Jvm.MethodName) prog_6_method_1_code (2 : Nat) (Option.none : Option Jvm.ClassFile.FieldType), Jvm.Cond.code ({ cls := "java/lang/Object", name := "<init>", desc := "()V" } : Jvm.MethodName) object_method_1_code (1 : Nat) (Option.none : Option Jvm.ClassFile.FieldType), Jvm.Cond.code ({ cls := "com/example/gol_gumbaz/golgumbaz/envelope/BloomFilterHasAllPinLaw", name := "at", desc := "(IIIII)I" } : Jvm.MethodName) method_3_code (5 : Nat) (Option.some Jvm.ClassFile.FieldType.int), Jvm.Cond.code ({ cls := "com/example/gol_gumbaz/golgumbaz/envelope/BloomFilterHasAllPinLaw", name := "covered", desc := "(II)Z" } : Jvm.MethodName) method_4_code (2 : Nat) (Option.some Jvm.ClassFile.FieldType.boolean), Jvm.Cond.code ({ cls := "com/example/gol_gumbaz/golgumbaz/envelope/BloomFilter", name := "hasAll", desc := "(Lcom/example/gol_gumbaz/golgumbaz/envelope/BloomFilter;)Z" } : Jvm.MethodName) prog_6_method_8_code (3 : Nat) (Option.some Jvm.ClassFile.FieldType.boolean)]
set_option maxRecDepth 65536 in
theorem codes_eq : words1.filter isCode = codes1 := rfl
theorem w_codes : ∀ c ∈ words1.filter isCode, c.before args0 about1 = true := by
  rw [codes_eq]
  intro c hc
  simp only [codes1, List.mem_cons, List.not_mem_nil, or_false] at hc
  rcases hc with rfl | rfl | rfl | rfl | rfl | rfl
  · exact w_c0
  · exact w_c1
  · exact w_c2
  · exact w_c3
  · exact w_c4
  · exact w_c5
set_option maxRecDepth 65536 in
theorem w_t1 : (words1.take 24).all (fun c => isCode c || c.before args0 about1) = true := by decide +kernel
set_option maxRecDepth 65536 in
theorem w_t2 : (words1.drop 24).all (fun c => isCode c || c.before args0 about1) = true := by decide +kernel
theorem w_tables : (allAtoms (Jvm.Cond.code x code maxLocals ret :: tables_1)).before args0 about1 = true := by
  rw [allAtoms_all]
  show words1.all (fun c => c.before args0 about1) = true
  refine all_split ?_ w_codes
  rw [← List.take_append_drop 24 words1, List.all_append, w_t1, w_t2]
  rfl
set_option maxRecDepth 65536 in
theorem w_case : (Jvm.Cond.and given_1 narrow_1).before args0 about1 = true := by decide +kernel
theorem w_applies : (headSpec (Jvm.Cond.code x code maxLocals ret :: tables_1) room_1).applies x e0.platform about1 = true :=
  (Spec.applies_iff w_frames).mpr ⟨w_running, w_runnable, w_alone, w_named, w_hears, w_ripe, w_room, w_tables⟩
theorem atStart : AtStart classFile x code maxLocals ret World_1 tables_1 room_1 Calls_1 rest_1 Pre_1 launch0 p0 e0 about1 theMethod args0 below0 :=
  ⟨lists_1, trivial, launch0.admits_env _ _ _, launch0.least_env, fairChoices_fair.cas, fairChoices_fair.clock, w_frames, w_args, w_heap, w_applies, trivial, trivial, w_case⟩
end start1
theorem witness_1 : WitnessClaimed_1 := ⟨start1.p0, start1.e0, start1.about1, start1.theMethod, start1.args0, start1.below0, start1.atStart⟩
end Jvm.Pilot.@@N@@
