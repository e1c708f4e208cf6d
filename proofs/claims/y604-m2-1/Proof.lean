import JvmDerived
import JvmDerived.Pilot.@@N@@Statement
import JvmDerived.Pilot.@@N@@Code
set_option linter.unusedVariables false
set_option linter.unusedSimpArgs false
namespace Jvm.OwnKit
open Sem ClassFile Op Lib Jvm.Stand Jvm.Free Jvm.LawKit Jvm.RoadKit
section OwnGo
variable {p : Program} {l : Launch} {e : Env} {R : Room} {s : State} {m : MethodId} {args : Array Value} {below : List Frame} {meth : Method} {c : Code} {T : State} {locs : List Loc} {cells slots : Nat} {Z : State} {a0 : Array Value} {h : Heap}
/-- from the state t the run comes to an end of which P holds -/
def OGo (tb : Tables) (e : Env) (below : List Frame) (P : Outcome → State → Prop) (t : State) : Prop :=
  ∃ s₂ o, Steps tb e below t s₂ ∧ s₂.status = .running ∧ Ended s₂ below o ∧ P o s₂
theorem ogo {tb : Tables} {P : Outcome → State → Prop} {t t' : State} (k : ∀ u, Steps tb e below t' u → Steps tb e below t u) (g : OGo tb e below P t') : OGo tb e below P t := by
  obtain ⟨s₂, o, h1, h2⟩ := g
  exact ⟨s₂, o, k _ h1, h2⟩
theorem ogoT {tb : Tables} {P : Outcome → State → Prop} {t t' : State} (k : Steps tb e below t t') (g : OGo tb e below P t') : OGo tb e below P t := ogo (fun _ q => k.trans q) g
/-- the end of a body: returned, the heap as Q says, the frame kept -/
abbrev OFin (s : State) (Q : Option Value → Heap → List Loc → Prop) (K N : Nat) : Outcome → State → Prop :=
  fun o U => ∃ v L, o = .returned v ∧ Q v U.heap L ∧ FrameEnd s o U L K N
/-- a body's contract -/
def OMet (l : Launch) (Z : State) (y : MethodName) (bytes : ByteArray) (maxL : Nat) (ret : Option FieldType) (rm : Room) (as : Array Value) (h : Heap) (Q : Option Value → Heap → List Loc → Prop) : Prop :=
  ∀ ws : List Jvm.Cond, MetFree l y (head1 (Jvm.Cond.code y bytes maxL ret :: ws) rm) (fun a U => a = as ∧ Z.Warmed39 U.vm ∧ U.heap = h) (fun _ _ _ _ _ => True) (fun _ U o U' => ∃ v L, o = .returned v ∧ Q v U'.heap L ∧ FrameEnd U o U' L rm.cells rm.slots)
/-- a body that returns w and writes nothing -/
abbrev OPure (w : Option Value) (h : Heap) : Option Value → Heap → List Loc → Prop := fun v h' L => v = w ∧ L = [] ∧ h' = h
theorem oret (X : Stand p l e R s m args below meth c T locs cells slots) (hx : p.tables.exec = Jvm.exec) (hlk : meth.locks = false) {pc : Nat} {Ls : Array Slot} {w : Value} {t : FieldType} {i : Instr} {rest : List Value} (hret : meth.sig.returnType = some t) (hn : narrow t w = w)
    (hi : (i = .ireturn ∧ (t = .int ∨ t = .boolean ∨ t = .byte ∨ t = .char ∨ t = .short) ∧ ∃ z, w = .int z) ∨ (i = .lreturn ∧ t = .long ∧ ∃ z, w = .long z) ∨ (i = .dreturn ∧ t = .double ∧ ∃ z, w = .double z) ∨ (i = .freturn ∧ t = .float ∧ ∃ z, w = .float z) ∨ (i = .areturn ∧ t.isReference = true ∧ w.isRef = true))
    (hd : decode c.code pc = .ok (i, 1)) {K N : Nat} (hk : cells ≤ K) (hs : slots ≤ N) {Q : Option Value → Heap → List Loc → Prop} (hQ : Q (some w) T.heap locs) :
    OGo p.tables e below (OFin s Q K N) (T.setTop (mkF m pc Ls (w :: rest))) := by
  obtain ⟨fs, hr, hrun, hended, hW, hsame⟩ := X.leave (v := some w) (fun h => by rw [hret] at h; cases h) hlk
  exact ⟨_, _, retOut X hx hret hn hi hd hr, hrun, hended, _, _, rfl, hQ, ⟨_, rfl⟩, hW, hsame.mono hk hs⟩
theorem oretV (X : Stand p l e R s m args below meth c T locs cells slots) (hx : p.tables.exec = Jvm.exec) (hlk : meth.locks = false) {pc : Nat} {Ls : Array Slot} (hret : meth.sig.returnType = none)
    (hd : decode c.code pc = .ok (.return_, 1)) {K N : Nat} (hk : cells ≤ K) (hs : slots ≤ N) {Q : Option Value → Heap → List Loc → Prop} (hQ : Q none T.heap locs) :
    OGo p.tables e below (OFin s Q K N) (T.setTop (mkF m pc Ls [])) := by
  obtain ⟨fs, hr, hrun, hended, hW, hsame⟩ := X.leave (v := none) (fun _ => rfl) hlk
  exact ⟨_, _, X.returnOut hx hret hd hr, hrun, hended, _, _, rfl, hQ, ⟨_, rfl⟩, hW, hsame.mono hk hs⟩
abbrev OPlain (y : MethodName) : Prop := y.cls ≠ "java/lang/invoke/MethodHandle" ∧ y.cls ≠ "java/lang/invoke/VarHandle"
/-- a static call by its contract -/
theorem ocallQ (X : Stand p l e R s m args below meth c T locs cells slots) (hx : p.tables.exec = Jvm.exec) (hZ : Z.Warmed39 s.vm) (eT : T.heap = h) {own : String} {index : Nat} {y : MethodName} {bytes : ByteArray} {maxL : Nat} {ret : Option FieldType} {rm : Room} {as : Array Value} {Q : Option Value → Heap → List Loc → Prop} (hM : OMet l Z y bytes maxL ret rm as h Q)
    (hown : s.vm.findClass own = some m.cls) (w1 : (Jvm.Cond.methodLink own index y).before a0 Z = true) (w2 : (Jvm.Cond.static y).before a0 Z = true) (w3 : (Jvm.Cond.initialized y.cls).before a0 Z = true) (w4 : (Jvm.Cond.code y bytes maxL ret).before a0 Z = true) (hy : OPlain y)
    {g : JFrame} (hg : g.method = m) (hsize : g.locals.size = c.maxLocals) (argsL rest : List Value) (has : argsL.toArray = as) (hlen : ∀ sig, parseMethodDescriptor y.desc = some sig → argsL.length = sig.parameters.length) (hstack : g.stack = argsL.reverse ++ rest) (hdg : decode c.code g.pc = .ok (.invokestatic index, 3))
    (W : Nat) (hW : 2 * g.monitorRoom + (rest.map fun v => v.category).sum ≤ W) (hf : rm.frames + 1 ≤ R.frames) (hl : W + (maxL + 11) + rm.locals ≤ R.locals) (hc : cells + rm.cells ≤ R.cells) (hs : slots + rm.slots ≤ R.slots) :
    ∃ (v : Option Value) (T' : State) (h' : Heap) (L : List Loc), T'.heap = h' ∧ Q v h' L ∧ Stand p l e R s m args below meth c T' (locs ++ L) (cells + rm.cells) (slots + rm.slots) ∧
      ∀ target, Steps p.tables e below (T'.setTop { g with pc := g.pc + 3, stack := v.toList ++ rest }) target → Steps p.tables e below (T.setTop g) target := by
  obtain ⟨v, vm₁, ⟨T', L', k', n'⟩, -, X', ⟨L, hQ, l1, l2, l3⟩, st⟩ := Jvm.LawKit.callS X hx (y := y) hown (mvT hZ w1) (mvT hZ w2) (mvT hZ w3) (mvT hZ w4) hy (backOf (W := W) (hM []) hZ w4 w3 hf hl) (g := g) hg hsize (argsL := argsL) (rest := rest) hlen hstack hW hdg (fun _ _ => ⟨has, eT, hc, hs⟩)
  dsimp only [Pt.U, Pt.locs, Pt.cells, Pt.slots] at X' l1 l2 l3 st hQ
  subst l1 l2 l3
  exact ⟨v, T', _, L, rfl, hQ, X', st⟩
/-- a static call of a body that writes nothing -/
theorem ocallP (X : Stand p l e R s m args below meth c T locs cells slots) (hx : p.tables.exec = Jvm.exec) (hZ : Z.Warmed39 s.vm) (eT : T.heap = h) {own : String} {index : Nat} {y : MethodName} {bytes : ByteArray} {maxL : Nat} {ret : Option FieldType} {rm : Room} {as : Array Value} {w : Option Value} (hM : OMet l Z y bytes maxL ret rm as h (OPure w h))
    (hown : s.vm.findClass own = some m.cls) (w1 : (Jvm.Cond.methodLink own index y).before a0 Z = true) (w2 : (Jvm.Cond.static y).before a0 Z = true) (w3 : (Jvm.Cond.initialized y.cls).before a0 Z = true) (w4 : (Jvm.Cond.code y bytes maxL ret).before a0 Z = true) (hy : OPlain y)
    {g : JFrame} (hg : g.method = m) (hsize : g.locals.size = c.maxLocals) (argsL rest : List Value) (has : argsL.toArray = as) (hlen : ∀ sig, parseMethodDescriptor y.desc = some sig → argsL.length = sig.parameters.length) (hstack : g.stack = argsL.reverse ++ rest) (hdg : decode c.code g.pc = .ok (.invokestatic index, 3))
    (W : Nat) (hW : 2 * g.monitorRoom + (rest.map fun v => v.category).sum ≤ W) (hf : rm.frames + 1 ≤ R.frames) (hl : W + (maxL + 11) + rm.locals ≤ R.locals) (hc : cells + rm.cells ≤ R.cells) (hs : slots + rm.slots ≤ R.slots) (z1 : rm.cells = 0) (z2 : rm.slots = 0) :
    ∃ T' : State, Stand p l e R s m args below meth c T' locs cells slots ∧ T'.heap = h ∧
      ∀ target, Steps p.tables e below (T'.setTop { g with pc := g.pc + 3, stack := w.toList ++ rest }) target → Steps p.tables e below (T.setTop g) target := by
  obtain ⟨v, T', h', L, e2, ⟨rfl, rfl, e'⟩, X', st⟩ := ocallQ X hx hZ eT hM hown w1 w2 w3 w4 hy hg hsize argsL rest has hlen hstack hdg W hW hf hl hc hs
  rw [z1, z2, List.append_nil] at X'
  exact ⟨T', X', e2.trans e', st⟩
/-- an instance call by its contract -/
theorem ovirtQ (X : Stand p l e R s m args below meth c T locs cells slots) (hx : p.tables.exec = Jvm.exec) (hZ : Z.Warmed39 s.vm) (eT : T.heap = h) {own C : String} {index : Nat} {y : MethodName} {bytes : ByteArray} {maxL : Nat} {ret : Option FieldType} {rm : Room} {as : Array Value} {Q : Option Value → Heap → List Loc → Prop} (hM : OMet l Z y bytes maxL ret rm as h Q)
    (hown : s.vm.findClass own = some m.cls) (w1 : (Jvm.Cond.methodLink own index y).before a0 Z = true) (w2 : (Jvm.Cond.declares y).before a0 Z = true) (w3 : (Jvm.Cond.selects C y y).before a0 Z = true) (w4 : (Jvm.Cond.instanceMethod y).before a0 Z = true) (w5 : (Jvm.Cond.initialized y.cls).before a0 Z = true) (w6 : (Jvm.Cond.code y bytes maxL ret).before a0 Z = true) (hy : OPlain y) {b : Addr} (E : Exa Z h b C)
    {g : JFrame} (hg : g.method = m) (hsize : g.locals.size = c.maxLocals) (argsL rest : List Value) (has : (.ref b :: argsL).toArray = as) (hlen : ∀ sig, parseMethodDescriptor y.desc = some sig → argsL.length = sig.parameters.length) (hstack : g.stack = argsL.reverse ++ .ref b :: rest) (hdg : decode c.code g.pc = .ok (.invokevirtual index, 3))
    (W : Nat) (hW : 2 * g.monitorRoom + (rest.map fun v => v.category).sum ≤ W) (hf : rm.frames + 1 ≤ R.frames) (hl : W + (maxL + 11) + rm.locals ≤ R.locals) (hc : cells + rm.cells ≤ R.cells) (hs : slots + rm.slots ≤ R.slots) :
    ∃ (v : Option Value) (T' : State) (h' : Heap) (L : List Loc), T'.heap = h' ∧ Q v h' L ∧ Stand p l e R s m args below meth c T' (locs ++ L) (cells + rm.cells) (slots + rm.slots) ∧
      ∀ target, Steps p.tables e below (T'.setTop { g with pc := g.pc + 3, stack := v.toList ++ rest }) target → Steps p.tables e below (T.setTop g) target := by
  obtain ⟨cq, kq, qa, -, qc⟩ := isOf (T := T) hZ eT E
  have w3' : (Jvm.Cond.selects C y y).before args s = true := mvT hZ w3
  obtain ⟨v, vm₁, ⟨T', L', k', n'⟩, -, X', ⟨L, hQ, l1, l2, l3⟩, st⟩ := X.virtualBack hx (y := y) (z := y) hown (mvT hZ w1) (mvT hZ w2) (notFace_of_selects w3') w3' (mvT hZ w4) hy (backOf (W := W) (hM []) hZ w6 w5 hf hl) qa qc (g := g) hg hsize (Steps.refl _) (argsL := argsL) (rest := rest) hlen hstack hW hdg (fun _ _ => ⟨has, eT, hc, hs⟩)
  dsimp only [Pt.U, Pt.locs, Pt.cells, Pt.slots] at X' l1 l2 l3 st hQ
  subst l1 l2 l3
  exact ⟨v, T', _, L, rfl, hQ, X', fun _ k => st.trans k⟩
theorem ovirtP (X : Stand p l e R s m args below meth c T locs cells slots) (hx : p.tables.exec = Jvm.exec) (hZ : Z.Warmed39 s.vm) (eT : T.heap = h) {own C : String} {index : Nat} {y : MethodName} {bytes : ByteArray} {maxL : Nat} {ret : Option FieldType} {rm : Room} {as : Array Value} {w : Option Value} (hM : OMet l Z y bytes maxL ret rm as h (OPure w h))
    (hown : s.vm.findClass own = some m.cls) (w1 : (Jvm.Cond.methodLink own index y).before a0 Z = true) (w2 : (Jvm.Cond.declares y).before a0 Z = true) (w3 : (Jvm.Cond.selects C y y).before a0 Z = true) (w4 : (Jvm.Cond.instanceMethod y).before a0 Z = true) (w5 : (Jvm.Cond.initialized y.cls).before a0 Z = true) (w6 : (Jvm.Cond.code y bytes maxL ret).before a0 Z = true) (hy : OPlain y) {b : Addr} (E : Exa Z h b C)
    {g : JFrame} (hg : g.method = m) (hsize : g.locals.size = c.maxLocals) (argsL rest : List Value) (has : (.ref b :: argsL).toArray = as) (hlen : ∀ sig, parseMethodDescriptor y.desc = some sig → argsL.length = sig.parameters.length) (hstack : g.stack = argsL.reverse ++ .ref b :: rest) (hdg : decode c.code g.pc = .ok (.invokevirtual index, 3))
    (W : Nat) (hW : 2 * g.monitorRoom + (rest.map fun v => v.category).sum ≤ W) (hf : rm.frames + 1 ≤ R.frames) (hl : W + (maxL + 11) + rm.locals ≤ R.locals) (hc : cells + rm.cells ≤ R.cells) (hs : slots + rm.slots ≤ R.slots) (z1 : rm.cells = 0) (z2 : rm.slots = 0) :
    ∃ T' : State, Stand p l e R s m args below meth c T' locs cells slots ∧ T'.heap = h ∧
      ∀ target, Steps p.tables e below (T'.setTop { g with pc := g.pc + 3, stack := w.toList ++ rest }) target → Steps p.tables e below (T.setTop g) target := by
  obtain ⟨v, T', h', L, e2, ⟨rfl, rfl, e'⟩, X', st⟩ := ovirtQ X hx hZ eT hM hown w1 w2 w3 w4 w5 w6 hy E hg hsize argsL rest has hlen hstack hdg W hW hf hl hc hs
  rw [z1, z2, List.append_nil] at X'
  exact ⟨T', X', e2.trans e', st⟩
/-- a constructor by its contract -/
theorem ospecQ (X : Stand p l e R s m args below meth c T locs cells slots) (hx : p.tables.exec = Jvm.exec) (hZ : Z.Warmed39 s.vm) (eT : T.heap = h) {own : String} {index : Nat} {y : MethodName} {bytes : ByteArray} {maxL : Nat} {rm : Room} {as : Array Value} {Q : Option Value → Heap → List Loc → Prop} (hM : OMet l Z y bytes maxL none rm as h Q)
    (hyi : y.name = "<init>") (hown : s.vm.findClass own = some m.cls) (w1 : (Jvm.Cond.methodLink own index y).before a0 Z = true) (w4 : (Jvm.Cond.instanceMethod y).before a0 Z = true) (w5 : (Jvm.Cond.initialized y.cls).before a0 Z = true) (w6 : (Jvm.Cond.code y bytes maxL none).before a0 Z = true) (hy : OPlain y) {b : Addr}
    {g : JFrame} (hg : g.method = m) (hsize : g.locals.size = c.maxLocals) (argsL rest : List Value) (has : (.ref b :: argsL).toArray = as) (hlen : ∀ sig, parseMethodDescriptor y.desc = some sig → argsL.length = sig.parameters.length) (hstack : g.stack = argsL.reverse ++ .ref b :: rest) (hdg : decode c.code g.pc = .ok (.invokespecial index, 3))
    (W : Nat) (hW : 2 * g.monitorRoom + (rest.map fun v => v.category).sum ≤ W) (hf : rm.frames + 1 ≤ R.frames) (hl : W + (maxL + 11) + rm.locals ≤ R.locals) (hc : cells + rm.cells ≤ R.cells) (hs : slots + rm.slots ≤ R.slots) :
    ∃ (v : Option Value) (T' : State) (h' : Heap) (L : List Loc), T'.heap = h' ∧ Q v h' L ∧ Stand p l e R s m args below meth c T' (locs ++ L) (cells + rm.cells) (slots + rm.slots) ∧
      ∀ target, Steps p.tables e below (T'.setTop { g with pc := g.pc + 3, stack := v.toList ++ rest }) target → Steps p.tables e below (T.setTop g) target := by
  obtain ⟨v, vm₁, ⟨T', L', k', n'⟩, -, X', ⟨L, hQ, l1, l2, l3⟩, st⟩ := X.specialBack hx (y := y) hyi hown (mvT hZ w1) (mvT hZ w4) (mvT hZ w6) hy (backOf (W := W) (hM []) hZ w6 w5 hf hl) (g := g) hg hsize (Steps.refl _) (a := b) (argsL := argsL) (rest := rest) hlen hstack hW hdg (fun _ _ => ⟨has, eT, hc, hs⟩)
  dsimp only [Pt.U, Pt.locs, Pt.cells, Pt.slots] at X' l1 l2 l3 st hQ
  subst l1 l2 l3
  exact ⟨v, T', _, L, rfl, hQ, X', fun _ k => st.trans k⟩
theorem onb {z : Int32} (q : z = 0 ∨ z = 1) : narrow .boolean (.int z) = .int z := by rcases q with rfl | rfl <;> rfl
theorem ofb {z : Int32} (q : z = 0 ∨ z = 1) : fits .boolean (.int z) = true := by rcases q with rfl | rfl <;> rfl
theorem oif01 {c : Prop} [Decidable c] {a b : Int32} (qa : a = 0 ∨ a = 1) (qb : b = 0 ∨ b = 1) : (if c then a else b) = 0 ∨ (if c then a else b) = 1 := by split <;> assumption
/-! arrays by a function of the place -/
variable {ty : FieldType} {a b : Addr} {n : Nat} {f f' : Nat → Value} {h' : Heap} {ws : List Addr} {sl : Nat} {v : Value}
def OAr (Z : State) (h : Heap) (a : Addr) (ty : FieldType) (n : Nat) (f : Nat → Value) : Prop :=
  ∃ c : Cell, Arr Z h a c ty ∧ c.slots.size = n ∧ (∀ j, j < n → c.slots[j]? = some (f j)) ∧ ∀ j, j < n → fits ty (f j) = true
theorem OAr.lt (F : OAr Z h a ty n f) : a < h.size := by obtain ⟨c, A, -⟩ := F; exact A.lt
theorem OAr.ext (F : OAr Z h a ty n f) (E : Ext h h') : OAr Z h' a ty n f := by obtain ⟨c, A, r⟩ := F; exact ⟨c, A.ext E, r⟩
theorem OAr.other (F : OAr Z h b ty n f) (W : Wr h h' a sl v) (q : b ≠ a) : OAr Z h' b ty n f := by obtain ⟨c, A, r⟩ := F; exact ⟨c, A.other W q, r⟩
theorem OAr.keep (F : OAr Z h a ty n f) (K : Keep h h' ws) (q : a ∉ ws) : OAr Z h' a ty n f := by obtain ⟨c, A, r⟩ := F; exact ⟨c, ⟨K.2.1 a c A.1 q, A.2⟩, r⟩
theorem OAr.conv (F : OAr Z h a ty n f) (q : ∀ j, j < n → f j = f' j) : OAr Z h a ty n f' := by
  obtain ⟨c, A, S, H, G⟩ := F
  exact ⟨c, A, S, fun j hj => by rw [← q j hj]; exact H j hj, fun j hj => by rw [← q j hj]; exact G j hj⟩
theorem OAr.new {k : ClassId} {z : Int32} (A : Arr Z h a (newA k ty z) ty) (q : z.toNatClampNeg = n) : OAr Z h a ty n (fun _ => defaultValue ty) :=
  ⟨_, A, (sz_new _ _ _).trans q, fun j hj => by simp [newA, q, hj], fun j _ => by cases ty <;> rfl⟩
theorem OAr.set (F : OAr Z h a ty n f) (W : Wr h h' a sl v) (hv : fits ty v = true) : OAr Z h' a ty n (fun j => if j = sl then v else f j) := by
  obtain ⟨c, A, S, H, G⟩ := F
  refine ⟨_, A.same W, by rw [sz_set]; exact S, fun j hj => ?_, fun j hj => ?_⟩
  · show (c.slots.setIfInBounds sl v)[j]? = _
    rw [Array.getElem?_setIfInBounds]
    by_cases q : j = sl
    · subst q; simp [S, hj]
    · rw [if_neg (fun z => q z.symm), H j hj]; simp [q]
  · by_cases q : j = sl
    · simp [q, hv]
    · simp [q, G j hj]
theorem oidx {j : Int32} (h0 : 0 ≤ j.toInt) (h1 : j.toInt < (n : Int)) : ¬ (j < 0) ∧ j.toNatClampNeg < n := by
  refine ⟨fun q => ?_, ?_⟩
  · rw [Int32.lt_iff_toInt_lt] at q; have : (0 : Int32).toInt = 0 := rfl; omega
  · simp only [Int32.toNatClampNeg]; omega
theorem oin {c : Cell} {j : Int32} (S : c.slots.size = n) (h0 : 0 ≤ j.toInt) (h1 : j.toInt < (n : Int)) : ¬ (j < 0 ∨ c.slots.size ≤ j.toNatClampNeg) := by
  obtain ⟨q1, q2⟩ := oidx h0 h1
  rw [S]; exact fun z => z.elim q1 (fun u => Nat.not_le.mpr q2 u)
theorem ostB (X : Stand p l e R s m args below meth c T locs cells slots) (hx : p.tables.exec = Jvm.exec) (hZ : Z.Warmed39 s.vm) (eT : T.heap = h) (F : OAr Z h a .byte n f) {j x : Int32} (h0 : 0 ≤ j.toInt) (h1 : j.toInt < (n : Int)) {g : JFrame} (hg : g.method = m) {rest : List Value} (hs : g.stack = .int x :: .int j :: .ref a :: rest) (hd : decode c.code g.pc = .ok (.bastore, 1)) :
    ∃ T' h', Stand p l e R s m args below meth c T' (locs ++ [⟨a, j.toNatClampNeg⟩]) cells slots ∧ T'.heap = h' ∧ Wr h h' a j.toNatClampNeg (.int x.toInt8.toInt32) ∧ OAr Z h' a .byte n (fun i => if i = j.toNatClampNeg then .int x.toInt8.toInt32 else f i) ∧ ∀ target, Steps p.tables e below (T'.setTop { g with pc := g.pc + 1, stack := rest }) target → Steps p.tables e below (T.setTop g) target := by
  obtain ⟨cl, A, S, H, G⟩ := F
  obtain ⟨T', h', X', e', W, st⟩ := stB X hx hZ eT A (j := j) (x := x) (oin S h0 h1) hg hs hd
  exact ⟨T', h', X', e', W, OAr.set ⟨cl, A, S, H, G⟩ W (fits_nar_byte x), st⟩
theorem ostI (X : Stand p l e R s m args below meth c T locs cells slots) (hx : p.tables.exec = Jvm.exec) (hZ : Z.Warmed39 s.vm) (eT : T.heap = h) (F : OAr Z h a .int n f) {j x : Int32} (h0 : 0 ≤ j.toInt) (h1 : j.toInt < (n : Int)) {g : JFrame} (hg : g.method = m) {rest : List Value} (hs : g.stack = .int x :: .int j :: .ref a :: rest) (hd : decode c.code g.pc = .ok (.iastore, 1)) :
    ∃ T' h', Stand p l e R s m args below meth c T' (locs ++ [⟨a, j.toNatClampNeg⟩]) cells slots ∧ T'.heap = h' ∧ Wr h h' a j.toNatClampNeg (.int x) ∧ OAr Z h' a .int n (fun i => if i = j.toNatClampNeg then .int x else f i) ∧ ∀ target, Steps p.tables e below (T'.setTop { g with pc := g.pc + 1, stack := rest }) target → Steps p.tables e below (T.setTop g) target := by
  obtain ⟨cl, A, S, H, G⟩ := F
  obtain ⟨T', h', X', e', W, st⟩ := stI X hx hZ eT A (j := j) (x := x) (oin S h0 h1) hg hs hd
  exact ⟨T', h', X', e', W, OAr.set ⟨cl, A, S, H, G⟩ W rfl, st⟩
theorem ostJ (X : Stand p l e R s m args below meth c T locs cells slots) (hx : p.tables.exec = Jvm.exec) (hZ : Z.Warmed39 s.vm) (eT : T.heap = h) (F : OAr Z h a .long n f) {j : Int32} {x : Int64} (h0 : 0 ≤ j.toInt) (h1 : j.toInt < (n : Int)) {g : JFrame} (hg : g.method = m) {rest : List Value} (hs : g.stack = .long x :: .int j :: .ref a :: rest) (hd : decode c.code g.pc = .ok (.lastore, 1)) :
    ∃ T' h', Stand p l e R s m args below meth c T' (locs ++ [⟨a, j.toNatClampNeg⟩]) cells slots ∧ T'.heap = h' ∧ Wr h h' a j.toNatClampNeg (.long x) ∧ OAr Z h' a .long n (fun i => if i = j.toNatClampNeg then .long x else f i) ∧ ∀ target, Steps p.tables e below (T'.setTop { g with pc := g.pc + 1, stack := rest }) target → Steps p.tables e below (T.setTop g) target := by
  obtain ⟨cl, A, S, H, G⟩ := F
  obtain ⟨T', h', X', e', W, st⟩ := stJ X hx hZ eT A (j := j) (x := x) (oin S h0 h1) hg hs hd
  exact ⟨T', h', X', e', W, OAr.set ⟨cl, A, S, H, G⟩ W rfl, st⟩
theorem oldB (X : Stand p l e R s m args below meth c T locs cells slots) (hx : p.tables.exec = Jvm.exec) (hZ : Z.Warmed39 s.vm) (eT : T.heap = h) (F : OAr Z h a .byte n f) {j : Int32} (h0 : 0 ≤ j.toInt) (h1 : j.toInt < (n : Int)) {g : JFrame} (hg : g.method = m) {rest : List Value} (hs : g.stack = .int j :: .ref a :: rest) (hd : decode c.code g.pc = .ok (.baload, 1)) :
    ∀ target, Steps p.tables e below (T.setTop { g with pc := g.pc + 1, stack := f j.toNatClampNeg :: rest }) target → Steps p.tables e below (T.setTop g) target := by
  obtain ⟨cl, A, S, H, G⟩ := F
  exact fun t k => X.baloadBytes hx (by rw [eT]; exact A.1) (State.isArrayOf_alike hZ.alike A.2.1) A.2.2 (oin S h0 h1) (H _ (oidx h0 h1).2) hg hs hd t k
theorem oldI (X : Stand p l e R s m args below meth c T locs cells slots) (hx : p.tables.exec = Jvm.exec) (hZ : Z.Warmed39 s.vm) (eT : T.heap = h) (F : OAr Z h a .int n f) {j : Int32} (h0 : 0 ≤ j.toInt) (h1 : j.toInt < (n : Int)) {g : JFrame} (hg : g.method = m) {rest : List Value} (hs : g.stack = .int j :: .ref a :: rest) (hd : decode c.code g.pc = .ok (.iaload, 1)) :
    ∀ target, Steps p.tables e below (T.setTop { g with pc := g.pc + 1, stack := f j.toNatClampNeg :: rest }) target → Steps p.tables e below (T.setTop g) target := by
  obtain ⟨cl, A, S, H, G⟩ := F
  exact fun t k => X.iaload hx (by rw [eT]; exact A.1) (State.isArrayOf_alike hZ.alike A.2.1) A.2.2 (oin S h0 h1) (H _ (oidx h0 h1).2) hg hs hd t k
theorem oldJ (X : Stand p l e R s m args below meth c T locs cells slots) (hx : p.tables.exec = Jvm.exec) (hZ : Z.Warmed39 s.vm) (eT : T.heap = h) (F : OAr Z h a .long n f) {j : Int32} (h0 : 0 ≤ j.toInt) (h1 : j.toInt < (n : Int)) {g : JFrame} (hg : g.method = m) {rest : List Value} (hs : g.stack = .int j :: .ref a :: rest) (hd : decode c.code g.pc = .ok (.laload, 1)) :
    ∀ target, Steps p.tables e below (T.setTop { g with pc := g.pc + 1, stack := f j.toNatClampNeg :: rest }) target → Steps p.tables e below (T.setTop g) target := by
  obtain ⟨cl, A, S, H, G⟩ := F
  exact fun t k => X.laload hx (by rw [eT]; exact A.1) (State.isArrayOf_alike hZ.alike A.2.1) A.2.2 (oin S h0 h1) (H _ (oidx h0 h1).2) hg hs hd t k
theorem oalen (X : Stand p l e R s m args below meth c T locs cells slots) (hx : p.tables.exec = Jvm.exec) (hZ : Z.Warmed39 s.vm) (eT : T.heap = h) (F : OAr Z h a ty n f) {g : JFrame} (hg : g.method = m) {rest : List Value} (hs : g.stack = .ref a :: rest) (hd : decode c.code g.pc = .ok (.arraylength, 1)) :
    ∀ target, Steps p.tables e below (T.setTop { g with pc := g.pc + 1, stack := .int n.toInt32 :: rest }) target → Steps p.tables e below (T.setTop g) target := by
  obtain ⟨cl, A, S, H, G⟩ := F
  subst S
  exact fun t k => X.arraylength hx (by rw [eT]; exact A.1) (State.isArrayOf_alike hZ.alike A.2.1) hg hs hd t k
theorem oclone (X : Stand p l e R s m args below meth c T locs cells slots) (hx : p.tables.exec = Jvm.exec) (hZ : Z.Warmed39 s.vm) {own ad : String} {index : Nat} (hown : s.vm.findClass own = some m.cls)
    (w1 : (Jvm.Cond.methodLink own index ⟨ad, "clone", "()Ljava/lang/Object;"⟩).before a0 Z = true) (w2 : (Jvm.Cond.sameMethod ad "java/lang/Object" "clone" "()Ljava/lang/Object;").before a0 Z = true) (w3 : (Jvm.Cond.native ⟨"java/lang/Object", "clone", "()Ljava/lang/Object;"⟩).before a0 Z = true)
    (w4 : (Jvm.Cond.instanceMethod ⟨"java/lang/Object", "clone", "()Ljava/lang/Object;"⟩).before a0 Z = true) (w5 : (Jvm.Cond.selects ad ⟨ad, "clone", "()Ljava/lang/Object;"⟩ ⟨"java/lang/Object", "clone", "()Ljava/lang/Object;"⟩).before a0 Z = true) (w6 : (Jvm.Cond.castable ad "java/lang/Cloneable").before a0 Z = true)
    (eT : T.heap = h) (F : OAr Z h a ty n f) (E : Exa Z h a ad) {g : JFrame} (hg : g.method = m) (hsize : g.locals.size = c.maxLocals) {rest : List Value} (hs : g.stack = .ref a :: rest) (hd : decode c.code g.pc = .ok (.invokevirtual index, 3))
    (hf : 1 ≤ R.frames) (W : Nat) (hW : 2 * g.monitorRoom + (rest.map fun v => v.category).sum ≤ W) (hl : W + 14 ≤ R.locals) (hc : cells + 1 ≤ R.cells) (hsl : slots + n ≤ R.slots) :
    ∃ T' h', Stand p l e R s m args below meth c T' locs (cells + 1) (slots + n) ∧ T'.heap = h' ∧ Ext h h' ∧ OAr Z h' h.size ty n f ∧ Exa Z h' h.size ad ∧
      ∀ target, Steps p.tables e below (T'.setTop { g with pc := g.pc + 3, stack := .ref h.size :: rest }) target → Steps p.tables e below (T.setTop g) target := by
  obtain ⟨cl, A, S, H, G⟩ := F
  have FC : FitC Z cl := fitC_of A fun i hi v hv => by rw [H i (S ▸ hi)] at hv; cases hv; exact G i (S ▸ hi)
  obtain ⟨T', h', X', e', ex, A', E', st⟩ := cloneA X hx hZ hown w1 w2 w3 w4 w5 w6 eT A E FC hg hsize hs hd hf hW hl (Nat.le_of_eq S) hc hsl
  exact ⟨T', h', X', e', ex, ⟨cloneOf cl, A', S, H, G⟩, E', st⟩
end OwnGo
end Jvm.OwnKit
namespace Jvm.Pilot.@@N@@
open Jvm Jvm.ClassFile Sem Op Lib Jvm.Free Jvm.Stand Jvm.LawKit Jvm.RoadKit Bundle Jvm.OwnKit Jvm.Pilot.@@N@@.Jvm.D
theorem own_i63 (x : Int32) : 0 ≤ (x &&& (63 : Int32)).toInt ∧ (x &&& (63 : Int32)).toInt < ((64 : Nat) : Int) := by
  have h := c_mask x (63 : Int32) 6 (by decide) (by decide)
  omega
theorem own_n (x : Int32) : 0 ≤ (x &&& (511 : Int32)).toInt ∧ (x &&& (511 : Int32)).toInt < 512 := by
  have h := c_mask x (511 : Int32) 9 (by decide) (by decide)
  omega
theorem own_i3 (x : Int32) : 0 ≤ ((x &&& (511 : Int32)) >>> ((3 : Int32) &&& 31)).toInt ∧ ((x &&& (511 : Int32)) >>> ((3 : Int32) &&& 31)).toInt < ((64 : Nat) : Int) := by
  have h := own_n x
  rw [c_ishr _ (3 : Int32) 3 (by decide)]
  omega
theorem own_d8 (x : Int32) : 0 ≤ ((x &&& (511 : Int32)) / (8 : Int32)).toInt ∧ ((x &&& (511 : Int32)) / (8 : Int32)).toInt < ((64 : Nat) : Int) := by
  have h := own_n x
  rw [(c_idiv (x &&& (511 : Int32)) (8 : Int32) 8 rfl (by decide)).1 h.1]
  omega
theorem d1_0 : decode prog_6_method_1_code 0 = .ok (.aload_n 0, 1) := by decide +kernel
theorem d1_1 : decode prog_6_method_1_code 1 = .ok (.invokespecial 1, 3) := by decide +kernel
theorem d1_4 : decode prog_6_method_1_code 4 = .ok (.aload_n 1, 1) := by decide +kernel
theorem d1_5 : decode prog_6_method_1_code 5 = .ok (.arraylength, 1) := by decide +kernel
theorem d1_6 : decode prog_6_method_1_code 6 = .ok (.bipush 64, 2) := by decide +kernel
theorem d1_8 : decode prog_6_method_1_code 8 = .ok (.if_icmp .eq 36, 3) := by decide +kernel
theorem d1_44 : decode prog_6_method_1_code 44 = .ok (.aload_n 0, 1) := by decide +kernel
theorem d1_45 : decode prog_6_method_1_code 45 = .ok (.aload_n 1, 1) := by decide +kernel
theorem d1_46 : decode prog_6_method_1_code 46 = .ok (.invokevirtual 28, 3) := by decide +kernel
theorem d1_49 : decode prog_6_method_1_code 49 = .ok (.checkcast 29, 3) := by decide +kernel
theorem d1_52 : decode prog_6_method_1_code 52 = .ok (.putfield 34, 3) := by decide +kernel
theorem d1_55 : decode prog_6_method_1_code 55 = .ok (.return_, 1) := by decide +kernel
theorem pn_1 : plainName "com/example/gol_gumbaz/golgumbaz/envelope/BloomFilter" = true := by first | (simp [plainName, overriddenIn]; done) | decide +kernel
theorem ef_1 (m : MethodId) (x0 : Addr) (x1 : Addr) : entryFrame m #[(.ref x0), (.ref x1)] 2 = mkF m 0 #[.val (.ref x0), .val (.ref x1)] [] := by first | (simp [entryFrame, mkF, argsToLocals, Value.category]; done) | rfl
set_option maxRecDepth 65536 in
set_option maxHeartbeats 40000000 in
theorem rm1 (l : Launch) (Z : State) (a0 : Array Value) (hw : ∀ d ∈ tables_1, d.before a0 Z = true) (ob : Addr) (ar : Addr) (fa : Nat → Int32) (h0 : Heap) (n0 : Nat) (Z0 : n0 ≤ h0.size) (P0 : Exa Z h0 ob "com/example/gol_gumbaz/golgumbaz/envelope/BloomFilter") (P1 : Fld Z h0 ob "com/example/gol_gumbaz/golgumbaz/envelope/BloomFilter" "bytes" "[B" .null) (P2 : Exa Z h0 ar "[B") (P3 : OAr Z h0 ar .byte 64 (fun i => .int (fa i))) (g_ob : n0 ≤ ob) (ne_ob_ar : ob ≠ ar) :
    OMet l Z (⟨"com/example/gol_gumbaz/golgumbaz/envelope/BloomFilter", "<init>", "([B)V"⟩ : MethodName) prog_6_method_1_code 2 none ({ frames := 1, cells := 1, slots := 64, locals := 15 } : Room) #[(.ref ob), (.ref ar)] h0 (fun v h L => ∃ cb, v = none ∧ Fr n0 L ∧ Keep h0 h [ob] ∧ Fld Z h ob "com/example/gol_gumbaz/golgumbaz/envelope/BloomFilter" "bytes" "[B" (.ref cb) ∧ OAr Z h cb .byte 64 (fun i => .int (fa i)) ∧ n0 ≤ cb ∧ ob ≠ cb ∧ h0.size ≤ cb) := by
  intro ws
  refine MetFree.of_bodySF (plainFor_of_name pn_1) hisR ?_
  intro p e s m args below meth c s₁ Bd hml0 hP hK
  obtain ⟨rfl, hZ, hh⟩ := hP
  have hx := Bd.exec
  have hby := Bd.bytes
  have hml : c.maxLocals = 2 := hml0
  have hown : s.vm.findClass "com/example/gol_gumbaz/golgumbaz/envelope/BloomFilter" = some m.cls := findClass_of_methodNamed Bd.named
  have hnm := (name_of_methodNamed Bd.named Bd.method).1
  have hlk : meth.locks = false := Bd.notSynchronized
  have X0 : Stand p l e ({ frames := 1, cells := 1, slots := 64, locals := 15 } : Room) s m #[(.ref ob), (.ref ar)] below meth c s₁ [] 0 0 := Stand.of_body Bd
  have e0 : s₁.heap = h0 := by rw [← hh, Bd.state]; rfl
  have N0 := Fr.nil n0
  have K0 := Keep.refl h0 [ob]
  refine (?_ : OGo p.tables e below (OFin s (fun v h L => ∃ cb, v = none ∧ Fr n0 L ∧ Keep h0 h [ob] ∧ Fld Z h ob "com/example/gol_gumbaz/golgumbaz/envelope/BloomFilter" "bytes" "[B" (.ref cb) ∧ OAr Z h cb .byte 64 (fun i => .int (fa i)) ∧ n0 ≤ cb ∧ ob ≠ cb ∧ h0.size ≤ cb) 1 64) _)
  refine ogo (fun _ k => castTop (ef_1 m ob ar) k) ?_
  show OGo _ _ _ _ (s₁.setTop (mkF m 0 #[.val (.ref ob), .val (.ref ar)] []))
  refine ogo (fun _ k => XS.aloadN X0.here hx rfl (hb hby d1_0) rfl rfl k) ?_
  show OGo _ _ _ _ (s₁.setTop (mkF m 1 #[.val (.ref ob), .val (.ref ar)] [(.ref ob)]))
  obtain ⟨T_1_1, X_1_1, e_1_1, st_1_1⟩ := initO X0 hx hZ hown (hw _ (List.mem_of_getElem? (i := 7) rfl)) (hw _ (List.mem_of_getElem? (i := 8) rfl)) (hw _ (List.mem_of_getElem? (i := 9) rfl)) e0 (g := (mkF m 1 #[.val (.ref ob), .val (.ref ar)] [(.ref ob)])) rfl (by rw [hml]; rfl) rfl (hb hby d1_1) (by decide) (W := 0) (by show 2 * 0 + _ ≤ _; exact Nat.le_of_eq rfl) (by decide)
  refine ogo (fun _ k => st_1_1 _ k) ?_
  show OGo _ _ _ _ (T_1_1.setTop (mkF m 4 #[.val (.ref ob), .val (.ref ar)] []))
  refine ogo (fun _ k => XS.aloadN X_1_1.here hx rfl (hb hby d1_4) rfl rfl k) ?_
  show OGo _ _ _ _ (T_1_1.setTop (mkF m 5 #[.val (.ref ob), .val (.ref ar)] [(.ref ar)]))
  refine ogo (fun _ k => oalen X_1_1 hx hZ e_1_1 P3 (g := (mkF m 5 #[.val (.ref ob), .val (.ref ar)] [(.ref ar)])) rfl rfl (hb hby d1_5) _ k) ?_
  show OGo _ _ _ _ (T_1_1.setTop (mkF m 6 #[.val (.ref ob), .val (.ref ar)] [(.int (64 : Int32))]))
  refine ogo (fun _ k => XS.bipush X_1_1.here hx rfl (hb hby d1_6) k) ?_
  show OGo _ _ _ _ (T_1_1.setTop (mkF m 8 #[.val (.ref ob), .val (.ref ar)] [(.int (64 : Int32)), (.int (64 : Int32))]))
  refine ogo (fun _ k => XS.icmpYes X_1_1.here hx rfl (pc0 := 8) (pc' := 44) rfl (hb hby d1_8) rfl (teq (by decide : (64 : Int32) = (64 : Int32))).1 (by decide) (by decide) k) ?_
  show OGo _ _ _ _ (T_1_1.setTop (mkF m 44 #[.val (.ref ob), .val (.ref ar)] []))
  refine ogo (fun _ k => XS.aloadN X_1_1.here hx rfl (hb hby d1_44) rfl rfl k) ?_
  show OGo _ _ _ _ (T_1_1.setTop (mkF m 45 #[.val (.ref ob), .val (.ref ar)] [(.ref ob)]))
  refine ogo (fun _ k => XS.aloadN X_1_1.here hx rfl (hb hby d1_45) rfl rfl k) ?_
  show OGo _ _ _ _ (T_1_1.setTop (mkF m 46 #[.val (.ref ob), .val (.ref ar)] [(.ref ar), (.ref ob)]))
  obtain ⟨T_1_2, h_1_2, X_1_2, e_1_2, E_1_2, V_1_2, Ex_1_2, st_1_2⟩ := oclone X_1_1 hx hZ hown (hw _ (List.mem_of_getElem? (i := 10) rfl)) (hw _ (List.mem_of_getElem? (i := 11) rfl)) (hw _ (List.mem_of_getElem? (i := 15) rfl)) (hw _ (List.mem_of_getElem? (i := 13) rfl)) (hw _ (List.mem_of_getElem? (i := 14) rfl)) (hw _ (List.mem_of_getElem? (i := 16) rfl)) e_1_1 P3 P2 (g := (mkF m 46 #[.val (.ref ob), .val (.ref ar)] [(.ref ar), (.ref ob)])) rfl (by rw [hml]; rfl) rfl (hb hby d1_46) (by decide) 1 (by show 2 * 0 + _ ≤ _; exact Nat.le_of_eq rfl) (by decide) (by decide) (by decide)
  obtain ⟨b_1_2, g_1_2⟩ : ∃ z, z = h0.size := ⟨_, rfl⟩
  rw [← g_1_2] at V_1_2 Ex_1_2 st_1_2
  have g_b_1_2 : n0 ≤ b_1_2 := Nat.le_trans Z0 (Nat.le_of_eq g_1_2.symm)
  have ne_ob_b_1_2 : ob ≠ b_1_2 := Nat.ne_of_lt (Nat.lt_of_lt_of_le P1.lt (Nat.le_of_eq g_1_2.symm))
  have ne_ar_b_1_2 : ar ≠ b_1_2 := Nat.ne_of_lt (Nat.lt_of_lt_of_le P3.lt (Nat.le_of_eq g_1_2.symm))
  have sz_b_1_2 : h0.size ≤ b_1_2 := Nat.le_trans K0.1 (Nat.le_of_eq g_1_2.symm)
  have K_1_2 := K0.ext E_1_2
  have f_1_3 := P0.ext E_1_2
  have f_1_4 := P1.ext E_1_2
  have f_1_5 := P2.ext E_1_2
  have f_1_6 := P3.ext E_1_2
  have Z_1_2 : n0 ≤ h_1_2.size := Nat.le_trans Z0 E_1_2.1
  obtain ⟨lc_1_2, N_1_2, X_1_2⟩ : ∃ L, Fr n0 L ∧ Stand p l e ({ frames := 1, cells := 1, slots := 64, locals := 15 } : Room) s m #[(.ref ob), (.ref ar)] below meth c T_1_2 L 1 64 := ⟨_, N0, X_1_2⟩
  refine ogo (fun _ k => st_1_2 _ k) ?_
  show OGo _ _ _ _ (T_1_2.setTop (mkF m 49 #[.val (.ref ob), .val (.ref ar)] [(.ref b_1_2), (.ref ob)]))
  obtain ⟨T_1_7, X_1_7, e_1_7, st_1_7⟩ := castY X_1_2 hx hZ hown (hw _ (List.mem_of_getElem? (i := 17) rfl)) e_1_2 (Ins.self Ex_1_2) (g := (mkF m 49 #[.val (.ref ob), .val (.ref ar)] [(.ref b_1_2), (.ref ob)])) rfl rfl (hb hby d1_49)
  refine ogo (fun _ k => st_1_7 _ k) ?_
  show OGo _ _ _ _ (T_1_7.setTop (mkF m 52 #[.val (.ref ob), .val (.ref ar)] [(.ref b_1_2), (.ref ob)]))
  obtain ⟨T_1_8, h_1_8, X_1_8, e_1_8, W_1_8, st_1_8⟩ := putF X_1_7 hx hZ hown (host := "") (Or.inl (hw _ (List.mem_of_getElem? (i := 19) rfl))) Via.refl e_1_7 f_1_4 f_1_3 (Or.inr ⟨(hw _ (List.mem_of_getElem? (i := 20) rfl)), rfl, hnm⟩) (hw _ (List.mem_of_getElem? (i := 2) rfl)) (ty := (.array .byte)) (by decide) rfl rfl (g := (mkF m 52 #[.val (.ref ob), .val (.ref ar)] [(.ref b_1_2), (.ref ob)])) rfl rfl (hb hby d1_52)
  have K_1_8 := K_1_2.wr W_1_8 (Or.inl (List.mem_of_getElem? (i := 0) rfl))
  have f_1_9 := f_1_3.wr W_1_8
  have f_1_10 := f_1_4.same W_1_8
  have f_1_11 := f_1_5.wr W_1_8
  have f_1_12 := f_1_6.other W_1_8 (Ne.symm ne_ob_ar)
  have f_1_13 := Ex_1_2.wr W_1_8
  have f_1_14 := V_1_2.other W_1_8 (Ne.symm ne_ob_b_1_2)
  have Z_1_8 : n0 ≤ h_1_8.size := Nat.le_trans Z_1_2 (Keep.of_wr W_1_8).1
  obtain ⟨lc_1_8, N_1_8, X_1_8⟩ : ∃ L, Fr n0 L ∧ Stand p l e ({ frames := 1, cells := 1, slots := 64, locals := 15 } : Room) s m #[(.ref ob), (.ref ar)] below meth c T_1_8 L 1 64 := ⟨_, Fr.snoc X_1_8 N_1_2 g_ob, X_1_8⟩
  refine ogo (fun _ k => st_1_8 _ k) ?_
  show OGo _ _ _ _ (T_1_8.setTop (mkF m 55 #[.val (.ref ob), .val (.ref ar)] []))
  exact oretV X_1_8 hx hlk Bd.returns (hb hby d1_55) (by decide) (by decide) (by rw [e_1_8]; exact ⟨b_1_2, rfl, N_1_8, K_1_8, f_1_10, f_1_14, g_b_1_2, ne_ob_b_1_2, sz_b_1_2⟩)
theorem d3_0 : decode prog_6_method_7_code 0 = .ok (.aload_n 0, 1) := by decide +kernel
theorem d3_1 : decode prog_6_method_7_code 1 = .ok (.getfield 34, 3) := by decide +kernel
theorem d3_4 : decode prog_6_method_7_code 4 = .ok (.iload_n 1, 1) := by decide +kernel
theorem d3_5 : decode prog_6_method_7_code 5 = .ok (.bipush 8, 2) := by decide +kernel
theorem d3_7 : decode prog_6_method_7_code 7 = .ok (.idiv, 1) := by decide +kernel
theorem d3_8 : decode prog_6_method_7_code 8 = .ok (.baload, 1) := by decide +kernel
theorem d3_9 : decode prog_6_method_7_code 9 = .ok (.iconst 1, 1) := by decide +kernel
theorem d3_10 : decode prog_6_method_7_code 10 = .ok (.iload_n 1, 1) := by decide +kernel
theorem d3_11 : decode prog_6_method_7_code 11 = .ok (.bipush 8, 2) := by decide +kernel
theorem d3_13 : decode prog_6_method_7_code 13 = .ok (.irem, 1) := by decide +kernel
theorem d3_14 : decode prog_6_method_7_code 14 = .ok (.ishl, 1) := by decide +kernel
theorem d3_15 : decode prog_6_method_7_code 15 = .ok (.iand, 1) := by decide +kernel
theorem d3_16 : decode prog_6_method_7_code 16 = .ok (.ifCond .eq 7, 3) := by decide +kernel
theorem d3_19 : decode prog_6_method_7_code 19 = .ok (.iconst 1, 1) := by decide +kernel
theorem d3_20 : decode prog_6_method_7_code 20 = .ok (.goto 4, 3) := by decide +kernel
theorem d3_23 : decode prog_6_method_7_code 23 = .ok (.iconst 0, 1) := by decide +kernel
theorem d3_24 : decode prog_6_method_7_code 24 = .ok (.ireturn, 1) := by decide +kernel
theorem pn_3 : plainName "com/example/gol_gumbaz/golgumbaz/envelope/BloomFilter" = true := by first | (simp [plainName, overriddenIn]; done) | decide +kernel
theorem ef_3 (m : MethodId) (x0 : Addr) (x1 : Int32) : entryFrame m #[(.ref x0), (.int x1)] 2 = mkF m 0 #[.val (.ref x0), .val (.int x1)] [] := by first | (simp [entryFrame, mkF, argsToLocals, Value.category]; done) | rfl
def hasF (qn : Int32)  (fa : Nat → Int32) : Int32 := (let w_3_3 : Int32 := (if ((fa ((qn / (8 : Int32))).toNatClampNeg) &&& ((1 : Int32) <<< ((qn % (8 : Int32)) &&& 31))) = (0 : Int32) then (0 : Int32) else (1 : Int32)); w_3_3)
set_option maxRecDepth 65536 in
set_option maxHeartbeats 40000000 in
theorem rm3 (l : Launch) (Z : State) (a0 : Array Value) (hw : ∀ d ∈ tables_1, d.before a0 Z = true) (ob : Addr) (qn : Int32) (cb : Addr) (fa : Nat → Int32) (h0 : Heap) (P0 : Fld Z h0 ob "com/example/gol_gumbaz/golgumbaz/envelope/BloomFilter" "bytes" "[B" (.ref cb)) (P1 : OAr Z h0 cb .byte 64 (fun i => .int (fa i))) (h0' : 0 ≤ (qn / (8 : Int32)).toInt) (h1' : (qn / (8 : Int32)).toInt < ((64 : Nat) : Int)) :
    OMet l Z (⟨"com/example/gol_gumbaz/golgumbaz/envelope/BloomFilter", "has", "(I)Z"⟩ : MethodName) prog_6_method_7_code 2 (some .boolean) ({ frames := 0, cells := 0, slots := 0, locals := 0 } : Room) #[(.ref ob), (.int qn)] h0 (OPure (some (.int (hasF qn fa))) h0) := by
  intro ws
  refine MetFree.of_bodySF (plainFor_of_name pn_3) hisR ?_
  intro p e s m args below meth c s₁ Bd hml0 hP hK
  obtain ⟨rfl, hZ, hh⟩ := hP
  have hx := Bd.exec
  have hby := Bd.bytes
  have hml : c.maxLocals = 2 := hml0
  have hown : s.vm.findClass "com/example/gol_gumbaz/golgumbaz/envelope/BloomFilter" = some m.cls := findClass_of_methodNamed Bd.named
  have hnm := (name_of_methodNamed Bd.named Bd.method).1
  have hlk : meth.locks = false := Bd.notSynchronized
  have X0 : Stand p l e ({ frames := 0, cells := 0, slots := 0, locals := 0 } : Room) s m #[(.ref ob), (.int qn)] below meth c s₁ [] 0 0 := Stand.of_body Bd
  have e0 : s₁.heap = h0 := by rw [← hh, Bd.state]; rfl
  refine (?_ : OGo p.tables e below (OFin s (OPure (some (.int (hasF qn fa))) h0) 0 0) _)
  refine ogo (fun _ k => castTop (ef_3 m ob qn) k) ?_
  show OGo _ _ _ _ (s₁.setTop (mkF m 0 #[.val (.ref ob), .val (.int qn)] []))
  refine ogo (fun _ k => XS.aloadN X0.here hx rfl (hb hby d3_0) rfl rfl k) ?_
  show OGo _ _ _ _ (s₁.setTop (mkF m 1 #[.val (.ref ob), .val (.int qn)] [(.ref ob)]))
  obtain ⟨T_3_1, X_3_1, e_3_1, st_3_1⟩ := getF X0 hx hZ hown (host := "") (Or.inl (hw _ (List.mem_of_getElem? (i := 19) rfl))) Via.refl e0 P0 (g := (mkF m 1 #[.val (.ref ob), .val (.int qn)] [(.ref ob)])) rfl rfl (hb hby d3_1)
  refine ogo (fun _ k => st_3_1 _ k) ?_
  show OGo _ _ _ _ (T_3_1.setTop (mkF m 4 #[.val (.ref ob), .val (.int qn)] [(.ref cb)]))
  refine ogo (fun _ k => XS.iloadN X_3_1.here hx rfl (hb hby d3_4) rfl k) ?_
  show OGo _ _ _ _ (T_3_1.setTop (mkF m 5 #[.val (.ref ob), .val (.int qn)] [(.int qn), (.ref cb)]))
  refine ogo (fun _ k => XS.bipush X_3_1.here hx rfl (hb hby d3_5) k) ?_
  show OGo _ _ _ _ (T_3_1.setTop (mkF m 7 #[.val (.ref ob), .val (.int qn)] [(.int (8 : Int32)), (.int qn), (.ref cb)]))
  refine ogo (fun _ k => XS.idiv X_3_1.here hx rfl (hb hby d3_7) rfl (by decide) k) ?_
  show OGo _ _ _ _ (T_3_1.setTop (mkF m 8 #[.val (.ref ob), .val (.int qn)] [(.int (qn / (8 : Int32))), (.ref cb)]))
  refine ogo (fun _ k => oldB X_3_1 hx hZ e_3_1 P1 h0' h1' (g := (mkF m 8 #[.val (.ref ob), .val (.int qn)] [(.int (qn / (8 : Int32))), (.ref cb)])) rfl rfl (hb hby d3_8) _ k) ?_
  show OGo _ _ _ _ (T_3_1.setTop (mkF m 9 #[.val (.ref ob), .val (.int qn)] [(.int (fa ((qn / (8 : Int32))).toNatClampNeg))]))
  refine ogo (fun _ k => XS.iconst X_3_1.here hx rfl (hb hby d3_9) k) ?_
  show OGo _ _ _ _ (T_3_1.setTop (mkF m 10 #[.val (.ref ob), .val (.int qn)] [(.int (1 : Int32)), (.int (fa ((qn / (8 : Int32))).toNatClampNeg))]))
  refine ogo (fun _ k => XS.iloadN X_3_1.here hx rfl (hb hby d3_10) rfl k) ?_
  show OGo _ _ _ _ (T_3_1.setTop (mkF m 11 #[.val (.ref ob), .val (.int qn)] [(.int qn), (.int (1 : Int32)), (.int (fa ((qn / (8 : Int32))).toNatClampNeg))]))
  refine ogo (fun _ k => XS.bipush X_3_1.here hx rfl (hb hby d3_11) k) ?_
  show OGo _ _ _ _ (T_3_1.setTop (mkF m 13 #[.val (.ref ob), .val (.int qn)] [(.int (8 : Int32)), (.int qn), (.int (1 : Int32)), (.int (fa ((qn / (8 : Int32))).toNatClampNeg))]))
  refine ogo (fun _ k => iremM X_3_1 hx rfl (hb hby d3_13) rfl (by decide) k) ?_
  show OGo _ _ _ _ (T_3_1.setTop (mkF m 14 #[.val (.ref ob), .val (.int qn)] [(.int (qn % (8 : Int32))), (.int (1 : Int32)), (.int (fa ((qn / (8 : Int32))).toNatClampNeg))]))
  refine ogo (fun _ k => XS.ishl X_3_1.here hx rfl (hb hby d3_14) rfl k) ?_
  show OGo _ _ _ _ (T_3_1.setTop (mkF m 15 #[.val (.ref ob), .val (.int qn)] [(.int ((1 : Int32) <<< ((qn % (8 : Int32)) &&& 31))), (.int (fa ((qn / (8 : Int32))).toNatClampNeg))]))
  refine ogo (fun _ k => XS.iand X_3_1.here hx rfl (hb hby d3_15) rfl k) ?_
  show OGo _ _ _ _ (T_3_1.setTop (mkF m 16 #[.val (.ref ob), .val (.int qn)] [(.int ((fa ((qn / (8 : Int32))).toNatClampNeg) &&& ((1 : Int32) <<< ((qn % (8 : Int32)) &&& 31))))]))
  suffices J_3_4 : ∀ (w_3_3 : Int32) (hw_3_3 : w_3_3 = (if ((fa ((qn / (8 : Int32))).toNatClampNeg) &&& ((1 : Int32) <<< ((qn % (8 : Int32)) &&& 31))) = (0 : Int32) then (0 : Int32) else (1 : Int32))), OGo p.tables e below (OFin s (OPure (some (.int (hasF qn fa))) h0) 0 0) (T_3_1.setTop (mkF m 24 #[.val (.ref ob), .val (.int qn)] [(.int w_3_3)])) by
    by_cases hc_3_2 : ((fa ((qn / (8 : Int32))).toNatClampNeg) &&& ((1 : Int32) <<< ((qn % (8 : Int32)) &&& 31))) = (0 : Int32)
    · refine ogo (fun _ k => XS.ifYes X_3_1.here hx rfl (pc0 := 16) (pc' := 23) rfl (hb hby d3_16) rfl ((if0 _ _).trans (teq hc_3_2).1) (by decide) (by decide) k) ?_
      show OGo _ _ _ _ (T_3_1.setTop (mkF m 23 #[.val (.ref ob), .val (.int qn)] []))
      refine ogo (fun _ k => XS.iconst X_3_1.here hx rfl (hb hby d3_23) k) ?_
      show OGo _ _ _ _ (T_3_1.setTop (mkF m 24 #[.val (.ref ob), .val (.int qn)] [(.int (0 : Int32))]))
      exact J_3_4 _ (if_pos hc_3_2).symm
    · refine ogo (fun _ k => XS.ifNo X_3_1.here hx rfl (hb hby d3_16) rfl ((if0 _ _).trans (feq hc_3_2).1) k) ?_
      show OGo _ _ _ _ (T_3_1.setTop (mkF m 19 #[.val (.ref ob), .val (.int qn)] []))
      refine ogo (fun _ k => XS.iconst X_3_1.here hx rfl (hb hby d3_19) k) ?_
      show OGo _ _ _ _ (T_3_1.setTop (mkF m 20 #[.val (.ref ob), .val (.int qn)] [(.int (1 : Int32))]))
      refine ogo (fun _ k => XS.goto X_3_1.here hx rfl (pc0 := 20) (pc' := 24) rfl (hb hby d3_20) (by decide) (by decide) k) ?_
      show OGo _ _ _ _ (T_3_1.setTop (mkF m 24 #[.val (.ref ob), .val (.int qn)] [(.int (1 : Int32))]))
      exact J_3_4 _ (if_neg hc_3_2).symm
  intro w_3_3 hw_3_3
  exact oret X_3_1 hx hlk Bd.returns (onb (by subst_vars; repeat' first | decide | apply oif01)) (Or.inl ⟨rfl, Or.inr (Or.inl rfl), _, rfl⟩) (hb hby d3_24) (by decide) (by decide) ⟨by subst_vars; rfl, rfl, e_3_1⟩
theorem pn_0 : plainName "com/example/gol_gumbaz/golgumbaz/envelope/BloomFilterHasPinLaw" = true := by first | (simp [plainName, overriddenIn]; done) | decide +kernel
theorem ef_0 (m : MethodId) (x0 : Int32) (x1 : Int32) (x2 : Int32) (x3 : Int32) : entryFrame m #[(.int x0), (.int x1), (.int x2), (.int x3)] maxLocals = mkF m 0 #[.val (.int x0), .val (.int x1), .val (.int x2), .val (.int x3), .unset, .unset, .unset, .unset] [] := by first | (simp [entryFrame, mkF, argsToLocals, Value.category, maxLocals]; done) | rfl
theorem pd___B_V : parseMethodDescriptor "([B)V" = some ⟨[(.array .byte)], none⟩ := by decide +kernel
theorem pd__I_Z : parseMethodDescriptor "(I)Z" = some ⟨[.int], some .boolean⟩ := by decide +kernel
theorem own_all : ∀ c : Fin 256, ∀ r : Fin 8, (((Int8.ofNat c.val).toInt32 &&& ((1 : Int32) <<< (Int32.ofNat r.val &&& 31))) = (0 : Int32) ↔ ((((Int8.ofNat c.val).toInt32 &&& (255 : Int32)) >>> (Int32.ofNat r.val &&& 31)) &&& (1 : Int32)) = (0 : Int32)) := by decide +kernel
theorem own_i8 (y : Int8) : Int8.ofNat y.toBitVec.toNat = y := by
  apply Int8.toBitVec_inj.mp
  show BitVec.ofNat 8 y.toBitVec.toNat = y.toBitVec
  simp
theorem own_byte (y : Int8) (r : Nat) (hr : r < 8) : ((y.toInt32 &&& ((1 : Int32) <<< (Int32.ofNat r &&& 31))) = (0 : Int32) ↔ (((y.toInt32 &&& (255 : Int32)) >>> (Int32.ofNat r &&& 31)) &&& (1 : Int32)) = (0 : Int32)) := by
  have h := own_all ⟨y.toBitVec.toNat, y.toBitVec.isLt⟩ ⟨r, hr⟩
  dsimp only at h
  rw [own_i8] at h
  exact h
theorem own_255 (y : Int32) : y &&& (255 : Int32) = y.toInt8.toInt32 &&& (255 : Int32) := by
  apply Int32.toInt_inj.mp
  rw [c_mask y (255 : Int32) 8 (by decide) (by decide), c_mask y.toInt8.toInt32 (255 : Int32) 8 (by decide) (by decide)]
  have h := (c_i2b y).1
  omega
theorem own_88 (y : Int32) : (y.toInt8.toInt32).toInt8.toInt32 = y.toInt8.toInt32 := by
  apply Int32.toInt_inj.mp
  have h1 := c_i2b y
  have h2 := c_i2b y.toInt8.toInt32
  omega
theorem own_nat {j k : Int32} (h : j.toInt = k.toInt) : j.toNatClampNeg = k.toNatClampNeg := by simp only [Int32.toNatClampNeg, h]
theorem own_small {j : Int32} (h0 : 0 ≤ j.toInt) (h1 : j.toInt < 8) : ∃ r : Nat, r < 8 ∧ j = Int32.ofNat r := by
  refine ⟨j.toInt.toNat, by omega, Int32.toInt_inj.mp ?_⟩
  have : ∀ r : Fin 8, (Int32.ofNat r.val).toInt = r.val := by decide +kernel
  have q := this ⟨j.toInt.toNat, by omega⟩
  dsimp only at q
  rw [q]; omega
theorem plain0 (va : Int32) (vb : Int32) (vc : Int32) (vd : Int32) (w_0_17 : Int32) (hw_0_17 : w_0_17 = (if (((vb &&& (255 : Int32)) >>> (((va &&& (511 : Int32)) &&& (7 : Int32)) &&& 31)) &&& (1 : Int32)) = (0 : Int32) then (0 : Int32) else (1 : Int32))) (w_0_22 : Int32) (hw_0_22 : w_0_22 = (if (hasF (va &&& (511 : Int32)) (fun i : Nat => if i = (((va &&& (511 : Int32)) >>> ((3 : Int32) &&& 31))).toNatClampNeg then (vb.toInt8.toInt32).toInt8.toInt32 else (fun i : Nat => if i = ((vc &&& (63 : Int32))).toNatClampNeg then (vd.toInt8.toInt32).toInt8.toInt32 else (fun _ : Nat => (0 : Int32)) i) i)) = w_0_17 then (1 : Int32) else (0 : Int32))) : w_0_22 = (1 : Int32) := by
  have hn := own_n va
  have hidx : ((va &&& (511 : Int32)) / (8 : Int32)).toNatClampNeg = ((va &&& (511 : Int32)) >>> ((3 : Int32) &&& 31)).toNatClampNeg := by
    apply own_nat
    rw [(c_idiv (va &&& (511 : Int32)) (8 : Int32) 8 rfl (by decide)).1 hn.1, c_ishr _ (3 : Int32) 3 (by decide)]
    omega
  have h7 : ((va &&& (511 : Int32)) &&& (7 : Int32)).toInt = (va &&& (511 : Int32)).toInt % (2 ^ 3 : Nat) := c_mask _ (7 : Int32) 3 (by decide) (by decide)
  have hr : (va &&& (511 : Int32)) % (8 : Int32) = (va &&& (511 : Int32)) &&& (7 : Int32) := by
    apply Int32.toInt_inj.mp
    rw [(c_irem (va &&& (511 : Int32)) (8 : Int32) 8 rfl).1 hn.1, h7]
    omega
  obtain ⟨r, hr8, er⟩ := own_small (j := (va &&& (511 : Int32)) &&& (7 : Int32)) (by omega) (by omega)
  have key := own_byte vb.toInt8 r hr8
  have hF : hasF (va &&& (511 : Int32)) (fun i : Nat => if i = (((va &&& (511 : Int32)) >>> ((3 : Int32) &&& 31))).toNatClampNeg then (vb.toInt8.toInt32).toInt8.toInt32 else (fun i : Nat => if i = ((vc &&& (63 : Int32))).toNatClampNeg then (vd.toInt8.toInt32).toInt8.toInt32 else (fun _ : Nat => (0 : Int32)) i) i) = w_0_17 := by
    rw [hw_0_17, own_255 vb, er]
    simp only [hasF]
    rw [if_pos hidx, own_88, hr, er]
    by_cases q : (vb.toInt8.toInt32 &&& ((1 : Int32) <<< (Int32.ofNat r &&& 31))) = (0 : Int32)
    · rw [if_pos q, if_pos (key.mp q)]
    · rw [if_neg q, if_neg (fun z => q (key.mpr z))]
  rw [hw_0_22, if_pos hF]
set_option maxRecDepth 65536 in
set_option maxHeartbeats 40000000 in
theorem rm0 (l : Launch) (Z : State) (a0 : Array Value) (hw : ∀ d ∈ tables_1, d.before a0 Z = true) (ws : List Jvm.Cond) (va : Int32) (vb : Int32) (vc : Int32) (vd : Int32) (h0 : Heap) (n0 : Nat) (Z0 : n0 ≤ h0.size)  :
    MetFree l x (head1 (Jvm.Cond.code x code maxLocals ret :: ws) room_1) (fun a U => a = #[(.int va), (.int vb), (.int vc), (.int vd)] ∧ Z.Warmed39 U.vm ∧ U.heap = h0) (fun _ _ _ _ _ => True) (fun _ U o U' => ∃ v L, o = .returned v ∧ (v = some (.int 1) ∧ Fr n0 L) ∧ FrameEnd U o U' L 16 384) := by
  refine MetFree.of_bodySF (plainFor_of_name pn_0) hisR ?_
  intro p e s m args below meth c s₁ Bd hml0 hP hK
  obtain ⟨rfl, hZ, hh⟩ := hP
  have hx := Bd.exec
  have hby := Bd.bytes
  have hml : c.maxLocals = 8 := hml0
  have hown : s.vm.findClass "com/example/gol_gumbaz/golgumbaz/envelope/BloomFilterHasPinLaw" = some m.cls := findClass_of_methodNamed Bd.named
  have hnm := (name_of_methodNamed Bd.named Bd.method).1
  have hlk : meth.locks = false := Bd.notSynchronized
  have X0 : Stand p l e room_1 s m #[(.int va), (.int vb), (.int vc), (.int vd)] below meth c s₁ [] 0 0 := Stand.of_body Bd
  have e0 : s₁.heap = h0 := by rw [← hh, Bd.state]; rfl
  have N0 := Fr.nil n0
  refine (?_ : OGo p.tables e below (OFin s (fun v _ L => v = some (.int 1) ∧ Fr n0 L) 16 384) _)
  refine ogo (fun _ k => castTop (ef_0 m va vb vc vd) k) ?_
  show OGo _ _ _ _ (s₁.setTop (mkF m 0 #[.val (.int va), .val (.int vb), .val (.int vc), .val (.int vd), .unset, .unset, .unset, .unset] []))
  refine ogo (fun _ k => XS.iloadN X0.here hx rfl (hb hby at_0) rfl k) ?_
  show OGo _ _ _ _ (s₁.setTop (mkF m 1 #[.val (.int va), .val (.int vb), .val (.int vc), .val (.int vd), .unset, .unset, .unset, .unset] [(.int va)]))
  refine ogo (fun _ k => XS.sipush X0.here hx rfl (hb hby at_1) k) ?_
  show OGo _ _ _ _ (s₁.setTop (mkF m 4 #[.val (.int va), .val (.int vb), .val (.int vc), .val (.int vd), .unset, .unset, .unset, .unset] [(.int (511 : Int32)), (.int va)]))
  refine ogo (fun _ k => XS.iand X0.here hx rfl (hb hby at_4) rfl k) ?_
  show OGo _ _ _ _ (s₁.setTop (mkF m 5 #[.val (.int va), .val (.int vb), .val (.int vc), .val (.int vd), .unset, .unset, .unset, .unset] [(.int (va &&& (511 : Int32)))]))
  refine ogo (fun _ k => XS.istore X0.here hx rfl (hb hby at_5) rfl (l' := #[.val (.int va), .val (.int vb), .val (.int vc), .val (.int vd), .val (.int (va &&& (511 : Int32))), .unset, .unset, .unset]) rfl k) ?_
  show OGo _ _ _ _ (s₁.setTop (mkF m 7 #[.val (.int va), .val (.int vb), .val (.int vc), .val (.int vd), .val (.int (va &&& (511 : Int32))), .unset, .unset, .unset] []))
  refine ogo (fun _ k => XS.bipush X0.here hx rfl (hb hby at_7) k) ?_
  show OGo _ _ _ _ (s₁.setTop (mkF m 9 #[.val (.int va), .val (.int vb), .val (.int vc), .val (.int vd), .val (.int (va &&& (511 : Int32))), .unset, .unset, .unset] [(.int (64 : Int32))]))
  obtain ⟨T_0_1, h_0_1, k_0_1, X_0_1, e_0_1, E_0_1, A_0_1, Ex_0_1, st_0_1⟩ := newPE X0 hx hZ (hw _ (List.mem_of_getElem? (i := 0) rfl)) e0 (g := (mkF m 9 #[.val (.int va), .val (.int vb), .val (.int vc), .val (.int vd), .val (.int (va &&& (511 : Int32))), .unset, .unset, .unset] [(.int (64 : Int32))])) rfl (hb hby at_9) rfl (by decide) (cap := 64) (by decide) (by decide) (by decide) (by decide) (ad := "[B") (by first | rfl | decide +kernel)
  obtain ⟨b_0_1, g_0_1⟩ : ∃ z, z = h0.size := ⟨_, rfl⟩
  rw [← g_0_1] at A_0_1 Ex_0_1 st_0_1
  have g_b_0_1 : n0 ≤ b_0_1 := Nat.le_trans Z0 (Nat.le_of_eq g_0_1.symm)
  have Z_0_1 : n0 ≤ h_0_1.size := Nat.le_trans Z0 E_0_1.1
  have V_0_1 : OAr Z h_0_1 b_0_1 .byte 64 (fun i => .int ((fun _ : Nat => (0 : Int32)) i)) := OAr.new A_0_1 (by decide)
  obtain ⟨lc_0_1, N_0_1, X_0_1⟩ : ∃ L, Fr n0 L ∧ Stand p l e room_1 s m #[(.int va), (.int vb), (.int vc), (.int vd)] below meth c T_0_1 L 1 64 := ⟨_, N0, X_0_1⟩
  refine ogo (fun _ k => st_0_1 _ k) ?_
  show OGo _ _ _ _ (T_0_1.setTop (mkF m 11 #[.val (.int va), .val (.int vb), .val (.int vc), .val (.int vd), .val (.int (va &&& (511 : Int32))), .unset, .unset, .unset] [(.ref b_0_1)]))
  refine ogo (fun _ k => XS.astore X_0_1.here hx rfl (hb hby at_11) rfl rfl (l' := #[.val (.int va), .val (.int vb), .val (.int vc), .val (.int vd), .val (.int (va &&& (511 : Int32))), .val (.ref b_0_1), .unset, .unset]) rfl k) ?_
  show OGo _ _ _ _ (T_0_1.setTop (mkF m 13 #[.val (.int va), .val (.int vb), .val (.int vc), .val (.int vd), .val (.int (va &&& (511 : Int32))), .val (.ref b_0_1), .unset, .unset] []))
  refine ogo (fun _ k => XS.aload X_0_1.here hx rfl (hb hby at_13) rfl rfl k) ?_
  show OGo _ _ _ _ (T_0_1.setTop (mkF m 15 #[.val (.int va), .val (.int vb), .val (.int vc), .val (.int vd), .val (.int (va &&& (511 : Int32))), .val (.ref b_0_1), .unset, .unset] [(.ref b_0_1)]))
  refine ogo (fun _ k => XS.iloadN X_0_1.here hx rfl (hb hby at_15) rfl k) ?_
  show OGo _ _ _ _ (T_0_1.setTop (mkF m 16 #[.val (.int va), .val (.int vb), .val (.int vc), .val (.int vd), .val (.int (va &&& (511 : Int32))), .val (.ref b_0_1), .unset, .unset] [(.int vc), (.ref b_0_1)]))
  refine ogo (fun _ k => XS.bipush X_0_1.here hx rfl (hb hby at_16) k) ?_
  show OGo _ _ _ _ (T_0_1.setTop (mkF m 18 #[.val (.int va), .val (.int vb), .val (.int vc), .val (.int vd), .val (.int (va &&& (511 : Int32))), .val (.ref b_0_1), .unset, .unset] [(.int (63 : Int32)), (.int vc), (.ref b_0_1)]))
  refine ogo (fun _ k => XS.iand X_0_1.here hx rfl (hb hby at_18) rfl k) ?_
  show OGo _ _ _ _ (T_0_1.setTop (mkF m 19 #[.val (.int va), .val (.int vb), .val (.int vc), .val (.int vd), .val (.int (va &&& (511 : Int32))), .val (.ref b_0_1), .unset, .unset] [(.int (vc &&& (63 : Int32))), (.ref b_0_1)]))
  refine ogo (fun _ k => XS.iloadN X_0_1.here hx rfl (hb hby at_19) rfl k) ?_
  show OGo _ _ _ _ (T_0_1.setTop (mkF m 20 #[.val (.int va), .val (.int vb), .val (.int vc), .val (.int vd), .val (.int (va &&& (511 : Int32))), .val (.ref b_0_1), .unset, .unset] [(.int vd), (.int (vc &&& (63 : Int32))), (.ref b_0_1)]))
  refine ogo (fun _ k => XS.i2b X_0_1.here hx rfl (hb hby at_20) rfl k) ?_
  show OGo _ _ _ _ (T_0_1.setTop (mkF m 21 #[.val (.int va), .val (.int vb), .val (.int vc), .val (.int vd), .val (.int (va &&& (511 : Int32))), .val (.ref b_0_1), .unset, .unset] [(.int (vd.toInt8.toInt32)), (.int (vc &&& (63 : Int32))), (.ref b_0_1)]))
  obtain ⟨T_0_2, h_0_2, X_0_2, e_0_2, W_0_2, V_0_2, st_0_2⟩ := ostB X_0_1 hx hZ e_0_1 V_0_1 (own_i63 _).1 (own_i63 _).2 (g := (mkF m 21 #[.val (.int va), .val (.int vb), .val (.int vc), .val (.int vd), .val (.int (va &&& (511 : Int32))), .val (.ref b_0_1), .unset, .unset] [(.int (vd.toInt8.toInt32)), (.int (vc &&& (63 : Int32))), (.ref b_0_1)])) rfl rfl (hb hby at_21)
  have Y_0_2 : OAr Z h_0_2 b_0_1 .byte 64 (fun i => .int ((fun i : Nat => if i = ((vc &&& (63 : Int32))).toNatClampNeg then (vd.toInt8.toInt32).toInt8.toInt32 else (fun _ : Nat => (0 : Int32)) i) i)) := V_0_2.conv (fun i _ => by dsimp only; split <;> rfl)
  have f_0_3 := Ex_0_1.wr W_0_2
  have Z_0_2 : n0 ≤ h_0_2.size := Nat.le_trans Z_0_1 (Keep.of_wr W_0_2).1
  obtain ⟨lc_0_2, N_0_2, X_0_2⟩ : ∃ L, Fr n0 L ∧ Stand p l e room_1 s m #[(.int va), (.int vb), (.int vc), (.int vd)] below meth c T_0_2 L 1 64 := ⟨_, Fr.snoc X_0_2 N_0_1 g_b_0_1, X_0_2⟩
  refine ogo (fun _ k => st_0_2 _ k) ?_
  show OGo _ _ _ _ (T_0_2.setTop (mkF m 22 #[.val (.int va), .val (.int vb), .val (.int vc), .val (.int vd), .val (.int (va &&& (511 : Int32))), .val (.ref b_0_1), .unset, .unset] []))
  refine ogo (fun _ k => XS.aload X_0_2.here hx rfl (hb hby at_22) rfl rfl k) ?_
  show OGo _ _ _ _ (T_0_2.setTop (mkF m 24 #[.val (.int va), .val (.int vb), .val (.int vc), .val (.int vd), .val (.int (va &&& (511 : Int32))), .val (.ref b_0_1), .unset, .unset] [(.ref b_0_1)]))
  refine ogo (fun _ k => XS.iload X_0_2.here hx rfl (hb hby at_24) rfl k) ?_
  show OGo _ _ _ _ (T_0_2.setTop (mkF m 26 #[.val (.int va), .val (.int vb), .val (.int vc), .val (.int vd), .val (.int (va &&& (511 : Int32))), .val (.ref b_0_1), .unset, .unset] [(.int (va &&& (511 : Int32))), (.ref b_0_1)]))
  refine ogo (fun _ k => XS.iconst X_0_2.here hx rfl (hb hby at_26) k) ?_
  show OGo _ _ _ _ (T_0_2.setTop (mkF m 27 #[.val (.int va), .val (.int vb), .val (.int vc), .val (.int vd), .val (.int (va &&& (511 : Int32))), .val (.ref b_0_1), .unset, .unset] [(.int (3 : Int32)), (.int (va &&& (511 : Int32))), (.ref b_0_1)]))
  refine ogo (fun _ k => XS.ishr X_0_2.here hx rfl (hb hby at_27) rfl k) ?_
  show OGo _ _ _ _ (T_0_2.setTop (mkF m 28 #[.val (.int va), .val (.int vb), .val (.int vc), .val (.int vd), .val (.int (va &&& (511 : Int32))), .val (.ref b_0_1), .unset, .unset] [(.int ((va &&& (511 : Int32)) >>> ((3 : Int32) &&& 31))), (.ref b_0_1)]))
  refine ogo (fun _ k => XS.iloadN X_0_2.here hx rfl (hb hby at_28) rfl k) ?_
  show OGo _ _ _ _ (T_0_2.setTop (mkF m 29 #[.val (.int va), .val (.int vb), .val (.int vc), .val (.int vd), .val (.int (va &&& (511 : Int32))), .val (.ref b_0_1), .unset, .unset] [(.int vb), (.int ((va &&& (511 : Int32)) >>> ((3 : Int32) &&& 31))), (.ref b_0_1)]))
  refine ogo (fun _ k => XS.i2b X_0_2.here hx rfl (hb hby at_29) rfl k) ?_
  show OGo _ _ _ _ (T_0_2.setTop (mkF m 30 #[.val (.int va), .val (.int vb), .val (.int vc), .val (.int vd), .val (.int (va &&& (511 : Int32))), .val (.ref b_0_1), .unset, .unset] [(.int (vb.toInt8.toInt32)), (.int ((va &&& (511 : Int32)) >>> ((3 : Int32) &&& 31))), (.ref b_0_1)]))
  obtain ⟨T_0_4, h_0_4, X_0_4, e_0_4, W_0_4, V_0_4, st_0_4⟩ := ostB X_0_2 hx hZ e_0_2 Y_0_2 (own_i3 _).1 (own_i3 _).2 (g := (mkF m 30 #[.val (.int va), .val (.int vb), .val (.int vc), .val (.int vd), .val (.int (va &&& (511 : Int32))), .val (.ref b_0_1), .unset, .unset] [(.int (vb.toInt8.toInt32)), (.int ((va &&& (511 : Int32)) >>> ((3 : Int32) &&& 31))), (.ref b_0_1)])) rfl rfl (hb hby at_30)
  have Y_0_4 : OAr Z h_0_4 b_0_1 .byte 64 (fun i => .int ((fun i : Nat => if i = (((va &&& (511 : Int32)) >>> ((3 : Int32) &&& 31))).toNatClampNeg then (vb.toInt8.toInt32).toInt8.toInt32 else (fun i : Nat => if i = ((vc &&& (63 : Int32))).toNatClampNeg then (vd.toInt8.toInt32).toInt8.toInt32 else (fun _ : Nat => (0 : Int32)) i) i) i)) := V_0_4.conv (fun i _ => by dsimp only; split <;> rfl)
  have f_0_5 := f_0_3.wr W_0_4
  have Z_0_4 : n0 ≤ h_0_4.size := Nat.le_trans Z_0_2 (Keep.of_wr W_0_4).1
  obtain ⟨lc_0_4, N_0_4, X_0_4⟩ : ∃ L, Fr n0 L ∧ Stand p l e room_1 s m #[(.int va), (.int vb), (.int vc), (.int vd)] below meth c T_0_4 L 1 64 := ⟨_, Fr.snoc X_0_4 N_0_2 g_b_0_1, X_0_4⟩
  refine ogo (fun _ k => st_0_4 _ k) ?_
  show OGo _ _ _ _ (T_0_4.setTop (mkF m 31 #[.val (.int va), .val (.int vb), .val (.int vc), .val (.int vd), .val (.int (va &&& (511 : Int32))), .val (.ref b_0_1), .unset, .unset] []))
  obtain ⟨T_0_6, h_0_6, X_0_6, e_0_6, E_0_6, A_0_6, D_0_6, -, st_0_6⟩ := newO X_0_4 hx hZ hown (hw _ (List.mem_of_getElem? (i := 1) rfl)) (hw _ (List.mem_of_getElem? (i := 2) rfl)) (hw _ (List.mem_of_getElem? (i := 3) rfl)) e_0_4 (g := (mkF m 31 #[.val (.int va), .val (.int vb), .val (.int vc), .val (.int vd), .val (.int (va &&& (511 : Int32))), .val (.ref b_0_1), .unset, .unset] [])) rfl (hb hby at_31) (by decide) (by decide)
  obtain ⟨b_0_6, g_0_6⟩ : ∃ z, z = h_0_4.size := ⟨_, rfl⟩
  rw [← g_0_6] at A_0_6 D_0_6 st_0_6
  have g_b_0_6 : n0 ≤ b_0_6 := Nat.le_trans Z_0_4 (Nat.le_of_eq g_0_6.symm)
  have ne_b_0_1_b_0_6 : b_0_1 ≠ b_0_6 := Nat.ne_of_lt (Nat.lt_of_lt_of_le Y_0_4.lt (Nat.le_of_eq g_0_6.symm))
  have f_0_7 := f_0_5.ext E_0_6
  have f_0_8 := Y_0_4.ext E_0_6
  have Z_0_6 : n0 ≤ h_0_6.size := Nat.le_trans Z_0_4 E_0_6.1
  have f_0_9 : Fld Z h_0_6 b_0_6 "com/example/gol_gumbaz/golgumbaz/envelope/BloomFilter" "bytes" "[B" .null := D_0_6 (Or.inr (hw _ (List.mem_of_getElem? (i := 20) rfl))) (ty := (.array .byte)) (by decide)
  obtain ⟨lc_0_6, N_0_6, X_0_6⟩ : ∃ L, Fr n0 L ∧ Stand p l e room_1 s m #[(.int va), (.int vb), (.int vc), (.int vd)] below meth c T_0_6 L 2 65 := ⟨_, N_0_4, X_0_6⟩
  refine ogo (fun _ k => st_0_6 _ k) ?_
  show OGo _ _ _ _ (T_0_6.setTop (mkF m 34 #[.val (.int va), .val (.int vb), .val (.int vc), .val (.int vd), .val (.int (va &&& (511 : Int32))), .val (.ref b_0_1), .unset, .unset] [(.ref b_0_6)]))
  refine ogo (fun _ k => XS.dup X_0_6.here hx rfl (hb hby at_34) rfl rfl k) ?_
  show OGo _ _ _ _ (T_0_6.setTop (mkF m 35 #[.val (.int va), .val (.int vb), .val (.int vc), .val (.int vd), .val (.int (va &&& (511 : Int32))), .val (.ref b_0_1), .unset, .unset] [(.ref b_0_6), (.ref b_0_6)]))
  refine ogo (fun _ k => XS.aload X_0_6.here hx rfl (hb hby at_35) rfl rfl k) ?_
  show OGo _ _ _ _ (T_0_6.setTop (mkF m 37 #[.val (.int va), .val (.int vb), .val (.int vc), .val (.int vd), .val (.int (va &&& (511 : Int32))), .val (.ref b_0_1), .unset, .unset] [(.ref b_0_1), (.ref b_0_6), (.ref b_0_6)]))
  obtain ⟨v_0_10, T_0_10, h_0_10, L_0_10, e_0_10, hQ_0_10, X_0_10, st_0_10⟩ := ospecQ X_0_6 hx hZ e_0_6 (rm1 l Z a0 hw b_0_6 b_0_1 (fun i : Nat => if i = (((va &&& (511 : Int32)) >>> ((3 : Int32) &&& 31))).toNatClampNeg then (vb.toInt8.toInt32).toInt8.toInt32 else (fun i : Nat => if i = ((vc &&& (63 : Int32))).toNatClampNeg then (vd.toInt8.toInt32).toInt8.toInt32 else (fun _ : Nat => (0 : Int32)) i) i) h_0_6 n0 Z_0_6 A_0_6 f_0_9 f_0_7 f_0_8 g_b_0_6 (Ne.symm ne_b_0_1_b_0_6)) rfl hown (hw _ (List.mem_of_getElem? (i := 4) rfl)) (hw _ (List.mem_of_getElem? (i := 5) rfl)) (hw _ (List.mem_of_getElem? (i := 3) rfl)) (hw _ (List.mem_of_getElem? (i := 6) rfl)) (by decide) (b := b_0_6) (g := (mkF m 37 #[.val (.int va), .val (.int vb), .val (.int vc), .val (.int vd), .val (.int (va &&& (511 : Int32))), .val (.ref b_0_1), .unset, .unset] [(.ref b_0_1), (.ref b_0_6), (.ref b_0_6)])) rfl (by rw [hml]; rfl) [(.ref b_0_1)] [(.ref b_0_6)] rfl (lenOf pd___B_V rfl) rfl (hb hby at_37) 1 (by show 2 * 0 + _ ≤ _; exact Nat.le_of_eq rfl) (by decide) (by decide) (by decide) (by decide)
  obtain ⟨cb_0_10, rfl, Nq_0_10, Kc_0_10, f_0_11, f_0_12, g_cb_0_10, ne_1_0_10, sq_0_10⟩ := hQ_0_10
  have ne_b_0_1_cb_0_10 : b_0_1 ≠ cb_0_10 := Nat.ne_of_lt (Nat.lt_of_lt_of_le f_0_8.lt sq_0_10)
  have f_0_13 := f_0_7.keep Kc_0_10
  have f_0_14 := f_0_8.keep Kc_0_10 (ninS ne_b_0_1_b_0_6 nin0)
  have f_0_15 := A_0_6.keep Kc_0_10
  have Z_0_10 : n0 ≤ h_0_10.size := Nat.le_trans Z_0_6 Kc_0_10.1
  obtain ⟨lc_0_10, N_0_10, X_0_10⟩ : ∃ L, Fr n0 L ∧ Stand p l e room_1 s m #[(.int va), (.int vb), (.int vc), (.int vd)] below meth c T_0_10 L 3 129 := ⟨_, Fr.app N_0_6 Nq_0_10, X_0_10⟩
  refine ogo (fun _ k => st_0_10 _ k) ?_
  show OGo _ _ _ _ (T_0_10.setTop (mkF m 40 #[.val (.int va), .val (.int vb), .val (.int vc), .val (.int vd), .val (.int (va &&& (511 : Int32))), .val (.ref b_0_1), .unset, .unset] [(.ref b_0_6)]))
  refine ogo (fun _ k => XS.astore X_0_10.here hx rfl (hb hby at_40) rfl rfl (l' := #[.val (.int va), .val (.int vb), .val (.int vc), .val (.int vd), .val (.int (va &&& (511 : Int32))), .val (.ref b_0_1), .val (.ref b_0_6), .unset]) rfl k) ?_
  show OGo _ _ _ _ (T_0_10.setTop (mkF m 42 #[.val (.int va), .val (.int vb), .val (.int vc), .val (.int vd), .val (.int (va &&& (511 : Int32))), .val (.ref b_0_1), .val (.ref b_0_6), .unset] []))
  refine ogo (fun _ k => XS.iloadN X_0_10.here hx rfl (hb hby at_42) rfl k) ?_
  show OGo _ _ _ _ (T_0_10.setTop (mkF m 43 #[.val (.int va), .val (.int vb), .val (.int vc), .val (.int vd), .val (.int (va &&& (511 : Int32))), .val (.ref b_0_1), .val (.ref b_0_6), .unset] [(.int vb)]))
  refine ogo (fun _ k => XS.sipush X_0_10.here hx rfl (hb hby at_43) k) ?_
  show OGo _ _ _ _ (T_0_10.setTop (mkF m 46 #[.val (.int va), .val (.int vb), .val (.int vc), .val (.int vd), .val (.int (va &&& (511 : Int32))), .val (.ref b_0_1), .val (.ref b_0_6), .unset] [(.int (255 : Int32)), (.int vb)]))
  refine ogo (fun _ k => XS.iand X_0_10.here hx rfl (hb hby at_46) rfl k) ?_
  show OGo _ _ _ _ (T_0_10.setTop (mkF m 47 #[.val (.int va), .val (.int vb), .val (.int vc), .val (.int vd), .val (.int (va &&& (511 : Int32))), .val (.ref b_0_1), .val (.ref b_0_6), .unset] [(.int (vb &&& (255 : Int32)))]))
  refine ogo (fun _ k => XS.iload X_0_10.here hx rfl (hb hby at_47) rfl k) ?_
  show OGo _ _ _ _ (T_0_10.setTop (mkF m 49 #[.val (.int va), .val (.int vb), .val (.int vc), .val (.int vd), .val (.int (va &&& (511 : Int32))), .val (.ref b_0_1), .val (.ref b_0_6), .unset] [(.int (va &&& (511 : Int32))), (.int (vb &&& (255 : Int32)))]))
  refine ogo (fun _ k => XS.bipush X_0_10.here hx rfl (hb hby at_49) k) ?_
  show OGo _ _ _ _ (T_0_10.setTop (mkF m 51 #[.val (.int va), .val (.int vb), .val (.int vc), .val (.int vd), .val (.int (va &&& (511 : Int32))), .val (.ref b_0_1), .val (.ref b_0_6), .unset] [(.int (7 : Int32)), (.int (va &&& (511 : Int32))), (.int (vb &&& (255 : Int32)))]))
  refine ogo (fun _ k => XS.iand X_0_10.here hx rfl (hb hby at_51) rfl k) ?_
  show OGo _ _ _ _ (T_0_10.setTop (mkF m 52 #[.val (.int va), .val (.int vb), .val (.int vc), .val (.int vd), .val (.int (va &&& (511 : Int32))), .val (.ref b_0_1), .val (.ref b_0_6), .unset] [(.int ((va &&& (511 : Int32)) &&& (7 : Int32))), (.int (vb &&& (255 : Int32)))]))
  refine ogo (fun _ k => XS.ishr X_0_10.here hx rfl (hb hby at_52) rfl k) ?_
  show OGo _ _ _ _ (T_0_10.setTop (mkF m 53 #[.val (.int va), .val (.int vb), .val (.int vc), .val (.int vd), .val (.int (va &&& (511 : Int32))), .val (.ref b_0_1), .val (.ref b_0_6), .unset] [(.int ((vb &&& (255 : Int32)) >>> (((va &&& (511 : Int32)) &&& (7 : Int32)) &&& 31)))]))
  refine ogo (fun _ k => XS.iconst X_0_10.here hx rfl (hb hby at_53) k) ?_
  show OGo _ _ _ _ (T_0_10.setTop (mkF m 54 #[.val (.int va), .val (.int vb), .val (.int vc), .val (.int vd), .val (.int (va &&& (511 : Int32))), .val (.ref b_0_1), .val (.ref b_0_6), .unset] [(.int (1 : Int32)), (.int ((vb &&& (255 : Int32)) >>> (((va &&& (511 : Int32)) &&& (7 : Int32)) &&& 31)))]))
  refine ogo (fun _ k => XS.iand X_0_10.here hx rfl (hb hby at_54) rfl k) ?_
  show OGo _ _ _ _ (T_0_10.setTop (mkF m 55 #[.val (.int va), .val (.int vb), .val (.int vc), .val (.int vd), .val (.int (va &&& (511 : Int32))), .val (.ref b_0_1), .val (.ref b_0_6), .unset] [(.int (((vb &&& (255 : Int32)) >>> (((va &&& (511 : Int32)) &&& (7 : Int32)) &&& 31)) &&& (1 : Int32)))]))
  suffices J_0_18 : ∀ (w_0_17 : Int32) (hw_0_17 : w_0_17 = (if (((vb &&& (255 : Int32)) >>> (((va &&& (511 : Int32)) &&& (7 : Int32)) &&& 31)) &&& (1 : Int32)) = (0 : Int32) then (0 : Int32) else (1 : Int32))), OGo p.tables e below (OFin s (fun v _ L => v = some (.int 1) ∧ Fr n0 L) 16 384) (T_0_10.setTop (mkF m 63 #[.val (.int va), .val (.int vb), .val (.int vc), .val (.int vd), .val (.int (va &&& (511 : Int32))), .val (.ref b_0_1), .val (.ref b_0_6), .unset] [(.int w_0_17)])) by
    by_cases hc_0_16 : (((vb &&& (255 : Int32)) >>> (((va &&& (511 : Int32)) &&& (7 : Int32)) &&& 31)) &&& (1 : Int32)) = (0 : Int32)
    · refine ogo (fun _ k => XS.ifYes X_0_10.here hx rfl (pc0 := 55) (pc' := 62) rfl (hb hby at_55) rfl ((if0 _ _).trans (teq hc_0_16).1) (by decide) (by decide) k) ?_
      show OGo _ _ _ _ (T_0_10.setTop (mkF m 62 #[.val (.int va), .val (.int vb), .val (.int vc), .val (.int vd), .val (.int (va &&& (511 : Int32))), .val (.ref b_0_1), .val (.ref b_0_6), .unset] []))
      refine ogo (fun _ k => XS.iconst X_0_10.here hx rfl (hb hby at_62) k) ?_
      show OGo _ _ _ _ (T_0_10.setTop (mkF m 63 #[.val (.int va), .val (.int vb), .val (.int vc), .val (.int vd), .val (.int (va &&& (511 : Int32))), .val (.ref b_0_1), .val (.ref b_0_6), .unset] [(.int (0 : Int32))]))
      exact J_0_18 _ (if_pos hc_0_16).symm
    · refine ogo (fun _ k => XS.ifNo X_0_10.here hx rfl (hb hby at_55) rfl ((if0 _ _).trans (feq hc_0_16).1) k) ?_
      show OGo _ _ _ _ (T_0_10.setTop (mkF m 58 #[.val (.int va), .val (.int vb), .val (.int vc), .val (.int vd), .val (.int (va &&& (511 : Int32))), .val (.ref b_0_1), .val (.ref b_0_6), .unset] []))
      refine ogo (fun _ k => XS.iconst X_0_10.here hx rfl (hb hby at_58) k) ?_
      show OGo _ _ _ _ (T_0_10.setTop (mkF m 59 #[.val (.int va), .val (.int vb), .val (.int vc), .val (.int vd), .val (.int (va &&& (511 : Int32))), .val (.ref b_0_1), .val (.ref b_0_6), .unset] [(.int (1 : Int32))]))
      refine ogo (fun _ k => XS.goto X_0_10.here hx rfl (pc0 := 59) (pc' := 63) rfl (hb hby at_59) (by decide) (by decide) k) ?_
      show OGo _ _ _ _ (T_0_10.setTop (mkF m 63 #[.val (.int va), .val (.int vb), .val (.int vc), .val (.int vd), .val (.int (va &&& (511 : Int32))), .val (.ref b_0_1), .val (.ref b_0_6), .unset] [(.int (1 : Int32))]))
      exact J_0_18 _ (if_neg hc_0_16).symm
  intro w_0_17 hw_0_17
  refine ogo (fun _ k => XS.istore X_0_10.here hx rfl (hb hby at_63) rfl (l' := #[.val (.int va), .val (.int vb), .val (.int vc), .val (.int vd), .val (.int (va &&& (511 : Int32))), .val (.ref b_0_1), .val (.ref b_0_6), .val (.int w_0_17)]) rfl k) ?_
  show OGo _ _ _ _ (T_0_10.setTop (mkF m 65 #[.val (.int va), .val (.int vb), .val (.int vc), .val (.int vd), .val (.int (va &&& (511 : Int32))), .val (.ref b_0_1), .val (.ref b_0_6), .val (.int w_0_17)] []))
  refine ogo (fun _ k => XS.aload X_0_10.here hx rfl (hb hby at_65) rfl rfl k) ?_
  show OGo _ _ _ _ (T_0_10.setTop (mkF m 67 #[.val (.int va), .val (.int vb), .val (.int vc), .val (.int vd), .val (.int (va &&& (511 : Int32))), .val (.ref b_0_1), .val (.ref b_0_6), .val (.int w_0_17)] [(.ref b_0_6)]))
  refine ogo (fun _ k => XS.iload X_0_10.here hx rfl (hb hby at_67) rfl k) ?_
  show OGo _ _ _ _ (T_0_10.setTop (mkF m 69 #[.val (.int va), .val (.int vb), .val (.int vc), .val (.int vd), .val (.int (va &&& (511 : Int32))), .val (.ref b_0_1), .val (.ref b_0_6), .val (.int w_0_17)] [(.int (va &&& (511 : Int32))), (.ref b_0_6)]))
  obtain ⟨T_0_20, X_0_20, e_0_20, st_0_20⟩ := ovirtP X_0_10 hx hZ e_0_10 (rm3 l Z a0 hw b_0_6 (va &&& (511 : Int32)) cb_0_10 ((fun i : Nat => if i = (((va &&& (511 : Int32)) >>> ((3 : Int32) &&& 31))).toNatClampNeg then (vb.toInt8.toInt32).toInt8.toInt32 else (fun i : Nat => if i = ((vc &&& (63 : Int32))).toNatClampNeg then (vd.toInt8.toInt32).toInt8.toInt32 else (fun _ : Nat => (0 : Int32)) i) i)) h_0_10 f_0_11 f_0_12 (own_d8 _).1 (own_d8 _).2) hown (hw _ (List.mem_of_getElem? (i := 21) rfl)) (hw _ (List.mem_of_getElem? (i := 22) rfl)) (hw _ (List.mem_of_getElem? (i := 24) rfl)) (hw _ (List.mem_of_getElem? (i := 23) rfl)) (hw _ (List.mem_of_getElem? (i := 3) rfl)) (hw _ (List.mem_of_getElem? (i := 25) rfl)) (by decide) f_0_15 (g := (mkF m 69 #[.val (.int va), .val (.int vb), .val (.int vc), .val (.int vd), .val (.int (va &&& (511 : Int32))), .val (.ref b_0_1), .val (.ref b_0_6), .val (.int w_0_17)] [(.int (va &&& (511 : Int32))), (.ref b_0_6)])) rfl (by rw [hml]; rfl) [(.int (va &&& (511 : Int32)))] [] rfl (lenOf pd__I_Z rfl) rfl (hb hby at_69) 0 (by show 2 * 0 + _ ≤ _; exact Nat.le_of_eq rfl) (by decide) (by decide) (by decide) (by decide) rfl rfl
  refine ogo (fun _ k => st_0_20 _ k) ?_
  show OGo _ _ _ _ (T_0_20.setTop (mkF m 72 #[.val (.int va), .val (.int vb), .val (.int vc), .val (.int vd), .val (.int (va &&& (511 : Int32))), .val (.ref b_0_1), .val (.ref b_0_6), .val (.int w_0_17)] [(.int (hasF (va &&& (511 : Int32)) (fun i : Nat => if i = (((va &&& (511 : Int32)) >>> ((3 : Int32) &&& 31))).toNatClampNeg then (vb.toInt8.toInt32).toInt8.toInt32 else (fun i : Nat => if i = ((vc &&& (63 : Int32))).toNatClampNeg then (vd.toInt8.toInt32).toInt8.toInt32 else (fun _ : Nat => (0 : Int32)) i) i)))]))
  refine ogo (fun _ k => XS.iload X_0_20.here hx rfl (hb hby at_72) rfl k) ?_
  show OGo _ _ _ _ (T_0_20.setTop (mkF m 74 #[.val (.int va), .val (.int vb), .val (.int vc), .val (.int vd), .val (.int (va &&& (511 : Int32))), .val (.ref b_0_1), .val (.ref b_0_6), .val (.int w_0_17)] [(.int w_0_17), (.int (hasF (va &&& (511 : Int32)) (fun i : Nat => if i = (((va &&& (511 : Int32)) >>> ((3 : Int32) &&& 31))).toNatClampNeg then (vb.toInt8.toInt32).toInt8.toInt32 else (fun i : Nat => if i = ((vc &&& (63 : Int32))).toNatClampNeg then (vd.toInt8.toInt32).toInt8.toInt32 else (fun _ : Nat => (0 : Int32)) i) i)))]))
  suffices J_0_23 : ∀ (w_0_22 : Int32) (hw_0_22 : w_0_22 = (if (hasF (va &&& (511 : Int32)) (fun i : Nat => if i = (((va &&& (511 : Int32)) >>> ((3 : Int32) &&& 31))).toNatClampNeg then (vb.toInt8.toInt32).toInt8.toInt32 else (fun i : Nat => if i = ((vc &&& (63 : Int32))).toNatClampNeg then (vd.toInt8.toInt32).toInt8.toInt32 else (fun _ : Nat => (0 : Int32)) i) i)) = w_0_17 then (1 : Int32) else (0 : Int32))), OGo p.tables e below (OFin s (fun v _ L => v = some (.int 1) ∧ Fr n0 L) 16 384) (T_0_20.setTop (mkF m 82 #[.val (.int va), .val (.int vb), .val (.int vc), .val (.int vd), .val (.int (va &&& (511 : Int32))), .val (.ref b_0_1), .val (.ref b_0_6), .val (.int w_0_17)] [(.int w_0_22)])) by
    by_cases hc_0_21 : (hasF (va &&& (511 : Int32)) (fun i : Nat => if i = (((va &&& (511 : Int32)) >>> ((3 : Int32) &&& 31))).toNatClampNeg then (vb.toInt8.toInt32).toInt8.toInt32 else (fun i : Nat => if i = ((vc &&& (63 : Int32))).toNatClampNeg then (vd.toInt8.toInt32).toInt8.toInt32 else (fun _ : Nat => (0 : Int32)) i) i)) = w_0_17
    · refine ogo (fun _ k => XS.icmpNo X_0_20.here hx rfl (hb hby at_74) rfl (teq hc_0_21).2 k) ?_
      show OGo _ _ _ _ (T_0_20.setTop (mkF m 77 #[.val (.int va), .val (.int vb), .val (.int vc), .val (.int vd), .val (.int (va &&& (511 : Int32))), .val (.ref b_0_1), .val (.ref b_0_6), .val (.int w_0_17)] []))
      refine ogo (fun _ k => XS.iconst X_0_20.here hx rfl (hb hby at_77) k) ?_
      show OGo _ _ _ _ (T_0_20.setTop (mkF m 78 #[.val (.int va), .val (.int vb), .val (.int vc), .val (.int vd), .val (.int (va &&& (511 : Int32))), .val (.ref b_0_1), .val (.ref b_0_6), .val (.int w_0_17)] [(.int (1 : Int32))]))
      refine ogo (fun _ k => XS.goto X_0_20.here hx rfl (pc0 := 78) (pc' := 82) rfl (hb hby at_78) (by decide) (by decide) k) ?_
      show OGo _ _ _ _ (T_0_20.setTop (mkF m 82 #[.val (.int va), .val (.int vb), .val (.int vc), .val (.int vd), .val (.int (va &&& (511 : Int32))), .val (.ref b_0_1), .val (.ref b_0_6), .val (.int w_0_17)] [(.int (1 : Int32))]))
      exact J_0_23 _ (if_pos hc_0_21).symm
    · refine ogo (fun _ k => XS.icmpYes X_0_20.here hx rfl (pc0 := 74) (pc' := 81) rfl (hb hby at_74) rfl (feq hc_0_21).2 (by decide) (by decide) k) ?_
      show OGo _ _ _ _ (T_0_20.setTop (mkF m 81 #[.val (.int va), .val (.int vb), .val (.int vc), .val (.int vd), .val (.int (va &&& (511 : Int32))), .val (.ref b_0_1), .val (.ref b_0_6), .val (.int w_0_17)] []))
      refine ogo (fun _ k => XS.iconst X_0_20.here hx rfl (hb hby at_81) k) ?_
      show OGo _ _ _ _ (T_0_20.setTop (mkF m 82 #[.val (.int va), .val (.int vb), .val (.int vc), .val (.int vd), .val (.int (va &&& (511 : Int32))), .val (.ref b_0_1), .val (.ref b_0_6), .val (.int w_0_17)] [(.int (0 : Int32))]))
      exact J_0_23 _ (if_neg hc_0_21).symm
  intro w_0_22 hw_0_22
  have hz : w_0_22 = (1 : Int32) := plain0 va vb vc vd w_0_17 hw_0_17 w_0_22 hw_0_22
  rw [hz]
  exact oret X_0_20 hx hlk Bd.returns rfl (Or.inl ⟨rfl, Or.inr (Or.inl rfl), _, rfl⟩) (hb hby at_82) (by decide) (by decide) ⟨rfl, N_0_10⟩
set_option maxRecDepth 65536 in
set_option maxHeartbeats 40000000 in
theorem comes_1 {Post : Tables → Env → Array Value → State → Outcome → State → Prop} (hpost : ∀ tb e args s v u, (limb_1_1.after args s (.returned v) u = true ∧ limb_1_2.after args s (.returned v) u = true) → FrameEnd s (.returned v) u (Jvm.fieldLocs frame_1_writes args s ++ Jvm.arrayLocs frame_1_arrays args s ++ Jvm.staticLocs frame_1_statics s) 16 384 → Post tb e args s (.returned v) u) :
    ArmFor flags0 classFile x code maxLocals ret World_1 tables_1 room_1 Calls_1 rest_1 Pre_1 Post := by
  intro l hfl _ _ p e ha hc hk s m args below hf hA hF happ hP
  obtain ⟨hcalls, hrest, hpre⟩ := hP
  obtain ⟨-, -, -, hnamed, -, -, -, hat⟩ := (Spec.applies_iff hf).mp happ
  obtain ⟨hg, hn⟩ := and_e (Cond.before_iff.mp (show (Jvm.Cond.and given_1 narrow_1).before args s = true from hpre))
  obtain ⟨gc, g0⟩ := and_e hg
  obtain ⟨ga0, g1⟩ := and_e g0
  obtain ⟨ga1, g2⟩ := and_e g1
  obtain ⟨ga2, g3⟩ := and_e g2
  obtain ⟨w0, w1, w2, w3, rfl⟩ : ∃ w0 w1 w2 w3 : Value, args = #[w0, w1, w2, w3] := by
    have hs : args.size = 4 := by simpa [Cond.value, given_1] using gc
    obtain ⟨L⟩ := args
    match L, hs with
    | [w0, w1, w2, w3], _ => exact ⟨w0, w1, w2, w3, rfl⟩
  have hw := fun d (hd : d ∈ tables_1) => atoms_spec (ws := Jvm.Cond.code x code maxLocals ret :: tables_1) hat d (List.mem_cons_of_mem _ hd)
  obtain ⟨i0, ei0⟩ := is_v ga0
  obtain rfl : w0 = (.int i0) := Option.some.inj ei0
  obtain ⟨i1, ei1⟩ := is_v ga1
  obtain rfl : w1 = (.int i1) := Option.some.inj ei1
  obtain ⟨i2, ei2⟩ := is_v ga2
  obtain rfl : w2 = (.int i2) := Option.some.inj ei2
  obtain ⟨i3, ei3⟩ := is_v g3
  obtain rfl : w3 = (.int i3) := Option.some.inj ei3
  obtain ⟨n, o, h1, h2, h3, _, L, rfl, ⟨rfl, N⟩, hq⟩ := rm0 l s _ hw tables_1 i0 i1 i2 i3 s.heap s.heap.size (Nat.le_refl _)  p e ha hc hk s m _ below hf ((Spec.applies_iff_loose hf).mp happ).1 ⟨rfl, State.Warmed39.refl s, rfl⟩ trivial
  exact ⟨n, _, h1, h2, h3, hpost _ _ _ _ _ _ ⟨Cond.after_iff.mpr rfl, Cond.after_iff.mpr (eq_i res_at (Term.int_eval (1)) rfl)⟩ ⟨hq.1, hq.2.1, (hq.2.2.sift fun y hy => Or.inr (N y hy)).mono (by decide) (by decide)⟩⟩
theorem main_1_1 : Claimed_1_1 := comes_1 fun _ _ _ _ _ _ h hF => ⟨h.1, hF⟩
theorem main_1_2 : Claimed_1_2 := comes_1 fun _ _ _ _ _ _ h hF => ⟨h.2, hF⟩
end Jvm.Pilot.@@N@@
namespace Jvm.Pilot.@@N@@
open Jvm Jvm.ClassFile Sem Op Lib Jvm.Free Jvm.Stand Jvm.Pilot.@@N@@.Jvm.D
/-! MADE BY PROGRAM (witnessworld.py) out of the Statement's table words and the real class files: 7 classes; the members and pool entries that the words name. The judged class is class 1, her method 1. -/
namespace start1
open Jvm.ClassFile
def u (s : String) : CpInfo := .utf8 (stringToUtf16 s)
/-- a pool by its gaps: so many unusable entries, then the entry; so many at the end -/
def gap : Nat → List CpInfo → List CpInfo
  | 0, r => r
  | n + 1, r => .unusable :: gap n r
def poolList (es : List (Nat × CpInfo)) (last : Nat) : List CpInfo := es.foldr (fun e r => gap e.1 (e.2 :: r)) (gap last [])
def pool (es : List (Nat × CpInfo)) (last : Nat) : Array CpInfo := ⟨poolList es last⟩
def fileOf (pool : Array CpInfo) (this : Nat) (attrs : Array Attribute := #[]) (ms : Array MethodInfo := #[]) (fl : Nat := 33) (sup : Nat := 0) (ifs : Array Nat := #[]) (fds : Array FieldInfo := #[]) : ClassFile where
  minorVersion := 0
  majorVersion := 65
  constantPool := pool
  accessFlags := fl
  thisClass := this
  superClass := sup
  interfaces := ifs
  fields := fds
  methods := ms
  attributes := attrs
def plain (name : String) (sup : Option ClassId) : Class where
  name := name
  kind := .ordinary
  loader := none
  accessFlags := 33
  super := sup
  interfaces := #[]
  cf := none
  fields := #[]
  methods := #[]
  instanceTypes := #[]
  staticTypes := #[]
  resolved := #[]
  callSites := []
  init := .initialized
  statics := none
  mirror := none

def pool0 : Array CpInfo := pool [(5, u "<init>"), (0, u "()V"), (1, .class_ 10), (1, u "java/lang/Object"), (85, u "clone"), (0, u "()Ljava/lang/Object;")] 26

def k0c0 : Code := { maxStack := 0, maxLocals := 1, code := object_method_1_code, exceptionTable := #[], attributes := #[] }
def k0m0 : Method := { name := "<init>", desc := "()V", sig := { parameters := [], returnType := none }, accessFlags := 1, code := some k0c0 }
def k0m1 : Method := { name := "clone", desc := "()Ljava/lang/Object;", sig := { parameters := [], returnType := some (.object "java/lang/Object") }, accessFlags := 260, code := none }
/-- java/lang/Object -/
def k0 : Class := { plain "java/lang/Object" none with
  accessFlags := 33
  interfaces := #[]
  cf := some (fileOf pool0 8 #[] #[{ accessFlags := 1, nameIndex := 5, descriptorIndex := 6, attributes := #[] }, { accessFlags := 260, nameIndex := 96, descriptorIndex := 97, attributes := #[] }] 33 0 #[] #[])
  fields := #[]
  methods := #[k0m0, k0m1]
  instanceTypes := #[]
  staticTypes := #[]
  resolved := Array.replicate 124 none
  statics := none }

def pool1 : Array CpInfo := pool [(2, .class_ 4), (1, u "java/lang/Object"), (0, u "<init>"), (0, u "()V"), (0, .class_ 8), (0, u "com/example/gol_gumbaz/golgumbaz/envelope/BloomFilter"), (0, .methodref 7 10), (0, .nameAndType 5 11), (0, u "([B)V"), (0, .methodref 7 13), (0, .nameAndType 14 15), (0, u "has"), (0, u "(I)Z"), (0, .class_ 17), (0, u "com/example/gol_gumbaz/golgumbaz/envelope/BloomFilterHasPinLaw"), (2, u "law"), (0, u "(IIII)Z")] 5

def k1m0 : Method := { name := "<init>", desc := "()V", sig := { parameters := [], returnType := none }, accessFlags := 1, code := none }
def k1c1 : Code := { maxStack := 3, maxLocals := 8, code := code, exceptionTable := #[], attributes := #[] }
def k1m1 : Method := { name := "law", desc := "(IIII)Z", sig := { parameters := [.int, .int, .int, .int], returnType := some .boolean }, accessFlags := 9, code := some k1c1 }
/-- com/example/gol_gumbaz/golgumbaz/envelope/BloomFilterHasPinLaw -/
def k1 : Class := { plain "com/example/gol_gumbaz/golgumbaz/envelope/BloomFilterHasPinLaw" (some 0) with
  accessFlags := 49
  interfaces := #[]
  cf := some (fileOf pool1 16 #[] #[{ accessFlags := 1, nameIndex := 5, descriptorIndex := 6, attributes := #[] }, { accessFlags := 9, nameIndex := 20, descriptorIndex := 21, attributes := #[] }] 49 2 #[] #[])
  fields := #[]
  methods := #[k1m0, k1m1]
  instanceTypes := #[]
  staticTypes := #[]
  resolved := Array.replicate 27 none
  statics := none }

def pool2 : Array CpInfo := pool [(1, .methodref 2 3), (0, .class_ 4), (0, .nameAndType 5 6), (0, u "java/lang/Object"), (0, u "<init>"), (0, u "()V"), (21, .methodref 29 30), (0, .class_ 31), (0, .nameAndType 32 33), (0, u "[B"), (0, u "clone"), (0, u "()Ljava/lang/Object;"), (0, .fieldref 35 36), (0, .class_ 37), (0, .nameAndType 38 31), (0, u "com/example/gol_gumbaz/golgumbaz/envelope/BloomFilter"), (0, u "bytes"), (8, u "([B)V"), (65, u "has"), (0, u "(I)Z"), (2, u "ALL_BITS"), (0, u "B")] 20

def k2c0 : Code := { maxStack := 7, maxLocals := 2, code := prog_6_method_1_code, exceptionTable := #[], attributes := #[] }
def k2m0 : Method := { name := "<init>", desc := "([B)V", sig := { parameters := [(.array .byte)], returnType := none }, accessFlags := 1, code := some k2c0 }
def k2c1 : Code := { maxStack := 4, maxLocals := 2, code := prog_6_method_7_code, exceptionTable := #[], attributes := #[] }
def k2m1 : Method := { name := "has", desc := "(I)Z", sig := { parameters := [.int], returnType := some .boolean }, accessFlags := 1, code := some k2c1 }
/-- com/example/gol_gumbaz/golgumbaz/envelope/BloomFilter -/
def k2 : Class := { plain "com/example/gol_gumbaz/golgumbaz/envelope/BloomFilter" (some 0) with
  accessFlags := 49
  interfaces := #[]
  cf := some (fileOf pool2 35 #[] #[{ accessFlags := 1, nameIndex := 5, descriptorIndex := 47, attributes := #[] }, { accessFlags := 1, nameIndex := 113, descriptorIndex := 114, attributes := #[] }] 49 2 #[] #[{ accessFlags := 26, nameIndex := 117, descriptorIndex := 118, attributes := #[] }, { accessFlags := 18, nameIndex := 38, descriptorIndex := 31, attributes := #[] }])
  fields := #[{ name := "ALL_BITS", type := .byte, accessFlags := 26, slot := 0, constantValue := 0 }, { name := "bytes", type := (.array .byte), accessFlags := 18, slot := 0, constantValue := 0 }]
  methods := #[k2m0, k2m1]
  instanceTypes := #[(.array .byte)]
  staticTypes := #[.byte]
  resolved := Array.replicate 139 none
  statics := none }

def pool3 : Array CpInfo := pool [(1, .class_ 2), (0, u "java/lang/Cloneable"), (0, .class_ 4), (0, u "java/lang/Object")] 2

/-- java/lang/Cloneable -/
def k3 : Class := { plain "java/lang/Cloneable" (some 0) with
  accessFlags := 1537
  interfaces := #[]
  cf := some (fileOf pool3 1 #[] #[] 1537 3 #[] #[])
  fields := #[]
  methods := #[]
  instanceTypes := #[]
  staticTypes := #[]
  resolved := Array.replicate 7 none
  statics := none }

def pool4 : Array CpInfo := pool [(1, u "java/io/Serializable"), (0, .class_ 1), (0, u "java/lang/Object"), (0, .class_ 3)] 3

/-- java/io/Serializable -/
def k4 : Class := { plain "java/io/Serializable" (some 0) with
  accessFlags := 1537
  interfaces := #[]
  cf := some (fileOf pool4 2 #[] #[] 1537 4 #[] #[])
  fields := #[]
  methods := #[]
  instanceTypes := #[]
  staticTypes := #[]
  resolved := Array.replicate 8 none
  statics := none }

/-- the primitive byte -/
def k5 : Class := { plain "byte" none with kind := .primitive 'B', accessFlags := 0x411 }
/-- [B -/
def k6 : Class := { plain "[B" (some 0) with kind := .array 5 .byte, interfaces := #[3, 4], accessFlags := 1041 }

def heap : Heap := #[]
def classes : Array Class := #[k0, k1, k2, k3, k4, k5, k6]
def interned : List (Array UInt16 × Addr) := []
def slotsUsed : Nat := 0
def theMethod : MethodId := ⟨1, 1⟩
def args0 : Array Value := #[.int 9, .int 3, .int 4, .int 5]
def aboutOver (below : List Frame) : State where
  vm := { classes := classes, interned := interned.toArray }
  heap := heap
  slotsUsed := slotsUsed
  threads := #[{ frames := .invoking theMethod args0 :: below }]
def below0 : List Frame := [.native { method := ⟨0, 0⟩, args := #[] }]
def about1 : State := aboutOver below0
def p0 : Program := .bare "" "" ""
def e0 : Env := launch0.env 0 0 0
theorem w_frames : about1.frames = Frame.invoking theMethod args0 :: below0 := rfl
set_option maxRecDepth 65536 in
theorem w_args : argsFit about1.vm theMethod args0 = true := by decide +kernel
set_option maxRecDepth 65536 in
theorem w_heap : heapFits about1 = true := by decide +kernel
set_option maxRecDepth 65536 in
theorem w_runnable : about1.curStatus? = some .runnable := by decide +kernel
set_option maxRecDepth 65536 in
theorem w_alone : about1.alone = true := by decide +kernel
set_option maxRecDepth 65536 in
theorem w_named : about1.methodNamed? x = some theMethod := by decide +kernel
set_option maxRecDepth 65536 in
theorem w_hears : about1.hears theMethod below0 = true := by decide +kernel
set_option maxRecDepth 65536 in
theorem w_ripe : about1.ripe theMethod args0 below0 = true := by decide +kernel
theorem w_running : about1.status = .running := rfl
set_option maxRecDepth 65536 in
theorem w_room : about1.hasRoom e0.platform room_1 = true :=
  launch0.hasRoom_least _ room_1 (by decide +kernel) (by decide +kernel) (by decide +kernel) (by decide +kernel) (by decide +kernel) (by decide +kernel)
theorem allAtoms_all (ts : List Jvm.Cond) (a : Array Jvm.Value) (st : Jvm.State) : (allAtoms ts).before a st = ts.all (fun c => c.before a st) := by
  induction ts with
  | nil => rfl
  | cons c t ih =>
    show (Jvm.Cond.and c (allAtoms t)).before a st = _
    rw [Jvm.Cond.before_and, ih, List.all_cons]
def words1 : List Jvm.Cond := Jvm.Cond.code x code maxLocals ret :: tables_1
/-- a 'code' word, met by the world's own term for the bytes: nothing is compared byte by byte -/
theorem code_word {y : MethodName} {bytes : ByteArray} {mx : Nat} {rt : Option FieldType} {a : Array Value} {s : State} {m : MethodId} {meth : Method} {c : Code} (h1 : s.methodNamed? y = some m) (h2 : s.vm.method? m = some meth) (h3 : meth.code = some c) (h4 : c.code = bytes)
    (h5 : (c.maxLocals == mx && c.exceptionTable.isEmpty && decide (c.maxStack ≤ mostOperands) && decide (meth.sig.returnType = rt) && !meth.locks && decide (parseMethodDescriptor y.desc = some meth.sig)) = true) : (Jvm.Cond.code y bytes mx rt).before a s = true := by
  simp only [Bool.and_eq_true, beq_iff_eq, Bool.not_eq_true', decide_eq_true_eq] at h5
  obtain ⟨⟨⟨⟨⟨g1, g2⟩, g3⟩, g4⟩, g5⟩, g6⟩ := h5
  simp [Cond.before, Cond.holds, Cond.value, h1, h2, h3, h4, g1, g2, g3, g4, g5, g6]
def isCode : Jvm.Cond → Bool
  | .code _ _ _ _ => true
  | _ => false
theorem all_split {L : List Jvm.Cond} {P : Jvm.Cond → Bool} (h1 : L.all (fun c => isCode c || P c) = true) (h2 : ∀ c ∈ L.filter isCode, P c = true) : L.all P = true := by
  refine List.all_eq_true.mpr fun c hc => ?_
  have h := List.all_eq_true.mp h1 c hc
  rcases Bool.eq_false_or_eq_true (isCode c) with hi | hi
  · exact h2 c (List.mem_filter.mpr ⟨hc, hi⟩)
  · simpa [hi] using h
set_option maxRecDepth 65536 in
theorem w_c0 : (Jvm.Cond.code x code maxLocals ret).before args0 about1 = true := code_word (m := ⟨1, 1⟩) (meth := k1m1) (c := k1c1) (by decide +kernel) rfl rfl rfl (by decide +kernel)
set_option maxRecDepth 65536 in
theorem w_c1 : (Jvm.Cond.code ({ cls := "com/example/gol_gumbaz/golgumbaz/envelope/BloomFilter", name := "<init>", desc := "([B)V" } : Jvm.MethodName) prog_6_method_1_code (2 : Nat) (Option.none : Option Jvm.ClassFile.FieldType)).before args0 about1 = true := code_word (m := ⟨2, 0⟩) (meth := k2m0) (c := k2c0) (by decide +kernel) rfl rfl rfl (by decide +kernel)
set_option maxRecDepth 65536 in
theorem w_c2 : (Jvm.Cond.code ({ cls := "java/lang/Object", name := "<init>", desc := "()V" } : Jvm.MethodName) object_method_1_code (1 : Nat) (Option.none : Option Jvm.ClassFile.FieldType)).before args0 about1 = true := code_word (m := ⟨0, 0⟩) (meth := k0m0) (c := k0c0) (by decide +kernel) rfl rfl rfl (by decide +kernel)
set_option maxRecDepth 65536 in
theorem w_c3 : (Jvm.Cond.code ({ cls := "com/example/gol_gumbaz/golgumbaz/envelope/BloomFilter", name := "has", desc := "(I)Z" } : Jvm.MethodName) prog_6_method_7_code (2 : Nat) (Option.some Jvm.ClassFile.FieldType.boolean)).before args0 about1 = true := code_word (m := ⟨2, 1⟩) (meth := k2m1) (c := k2c1) (by decide +kernel) rfl rfl rfl (by decide +kernel)
def codes1 : List Jvm.Cond := [Jvm.Cond.code x code maxLocals ret, Jvm.Cond.code ({ cls := "com/example/gol_gumbaz/golgumbaz/envelope/BloomFilter", name := "<init>", desc := "([B)V" } : Jvm.MethodName) prog_6_method_1_code (2 : Nat) (Option.none : Option Jvm.ClassFile.FieldType), Jvm.Cond.code ({ cls := "java/lang/Object", name := "<init>", desc := "()V" } : Jvm.MethodName) object_method_1_code (1 : Nat) (Option.none : Option Jvm.ClassFile.FieldType), Jvm.Cond.code ({ cls := "com/example/gol_gumbaz/golgumbaz/envelope/BloomFilter", name := "has", desc := "(I)Z" } : Jvm.MethodName) prog_6_method_7_code (2 : Nat) (Option.some Jvm.ClassFile.FieldType.boolean)]
set_option maxRecDepth 65536 in
theorem codes_eq : words1.filter isCode = codes1 := rfl
theorem w_codes : ∀ c ∈ words1.filter isCode, c.before args0 about1 = true := by
  rw [codes_eq]
  intro c hc
  simp only [codes1, List.mem_cons, List.not_mem_nil, or_false] at hc
  rcases hc with rfl | rfl | rfl | rfl
  · exact w_c0
  · exact w_c1
  · exact w_c2
  · exact w_c3
set_option maxRecDepth 65536 in
theorem w_t1 : (words1.take 24).all (fun c => isCode c || c.before args0 about1) = true := by decide +kernel
set_option maxRecDepth 65536 in
theorem w_t2 : (words1.drop 24).all (fun c => isCode c || c.before args0 about1) = true := by decide +kernel
theorem w_tables : (allAtoms (Jvm.Cond.code x code maxLocals ret :: tables_1)).before args0 about1 = true := by
  rw [allAtoms_all]
  show words1.all (fun c => c.before args0 about1) = true
  refine all_split ?_ w_codes
  rw [← List.take_append_drop 24 words1, List.all_append, w_t1, w_t2]
  rfl
set_option maxRecDepth 65536 in
theorem w_case : (Jvm.Cond.and given_1 narrow_1).before args0 about1 = true := by decide +kernel
theorem w_applies : (headSpec (Jvm.Cond.code x code maxLocals ret :: tables_1) room_1).applies x e0.platform about1 = true :=
  (Spec.applies_iff w_frames).mpr ⟨w_running, w_runnable, w_alone, w_named, w_hears, w_ripe, w_room, w_tables⟩
theorem atStart : AtStart classFile x code maxLocals ret World_1 tables_1 room_1 Calls_1 rest_1 Pre_1 launch0 p0 e0 about1 theMethod args0 below0 :=
  ⟨lists_1, trivial, launch0.admits_env _ _ _, launch0.least_env, fairChoices_fair.cas, fairChoices_fair.clock, w_frames, w_args, w_heap, w_applies, trivial, trivial, w_case⟩
end start1
theorem witness_1 : WitnessClaimed_1 := ⟨start1.p0, start1.e0, start1.about1, start1.theMethod, start1.args0, start1.below0, start1.atStart⟩
end Jvm.Pilot.@@N@@
