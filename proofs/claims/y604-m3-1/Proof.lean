import JvmDerived
import JvmDerived.Pilot.@@N@@Statement
import JvmDerived.Pilot.@@N@@Code
set_option linter.unusedVariables false
set_option linter.unusedSimpArgs false
namespace Jvm.OwnKit
open Sem ClassFile Op Lib Jvm.Stand Jvm.Free Jvm.LawKit Jvm.RoadKit
section OwnGo
variable {p : Program} {l : Launch} {e : Env} {R : Room} {s : State} {m : MethodId} {args : Array Value} {below : List Frame} {meth : Method} {c : Code} {T : State} {locs : List Loc} {cells slots : Nat} {Z : State} {a0 : Array Value} {h : Heap}
/-- from the state t the run comes to an end of which P holds -/
def OGo (tb : Tables) (e : Env) (below : List Frame) (P : Outcome → State → Prop) (t : State) : Prop :=
  ∃ s₂ o, Steps tb e below t s₂ ∧ s₂.status = .running ∧ Ended s₂ below o ∧ P o s₂
theorem ogo {tb : Tables} {P : Outcome → State → Prop} {t t' : State} (k : ∀ u, Steps tb e below t' u → Steps tb e below t u) (g : OGo tb e below P t') : OGo tb e below P t := by
  obtain ⟨s₂, o, h1, h2⟩ := g
  exact ⟨s₂, o, k _ h1, h2⟩
theorem ogoT {tb : Tables} {P : Outcome → State → Prop} {t t' : State} (k : Steps tb e below t t') (g : OGo tb e below P t') : OGo tb e below P t := ogo (fun _ q => k.trans q) g
/-- the end of a body: returned, the heap as Q says, the frame kept -/
abbrev OFin (s : State) (Q : Option Value → Heap → List Loc → Prop) (K N : Nat) : Outcome → State → Prop :=
  fun o U => ∃ v L, o = .returned v ∧ Q v U.heap L ∧ FrameEnd s o U L K N
/-- a body's contract -/
def OMet (l : Launch) (Z : State) (y : MethodName) (bytes : ByteArray) (maxL : Nat) (ret : Option FieldType) (rm : Room) (as : Array Value) (h : Heap) (Q : Option Value → Heap → List Loc → Prop) : Prop :=
  ∀ ws : List Jvm.Cond, MetFree l y (head1 (Jvm.Cond.code y bytes maxL ret :: ws) rm) (fun a U => a = as ∧ Z.Warmed39 U.vm ∧ U.heap = h) (fun _ _ _ _ _ => True) (fun _ U o U' => ∃ v L, o = .returned v ∧ Q v U'.heap L ∧ FrameEnd U o U' L rm.cells rm.slots)
/-- a body that returns w and writes nothing -/
abbrev OPure (w : Option Value) (h : Heap) : Option Value → Heap → List Loc → Prop := fun v h' L => v = w ∧ L = [] ∧ h' = h
theorem oret (X : Stand p l e R s m args below meth c T locs cells slots) (hx : p.tables.exec = Jvm.exec) (hlk : meth.locks = false) {pc : Nat} {Ls : Array Slot} {w : Value} {t : FieldType} {i : Instr} {rest : List Value} (hret : meth.sig.returnType = some t) (hn : narrow t w = w)
    (hi : (i = .ireturn ∧ (t = .int ∨ t = .boolean ∨ t = .byte ∨ t = .char ∨ t = .short) ∧ ∃ z, w = .int z) ∨ (i = .lreturn ∧ t = .long ∧ ∃ z, w = .long z) ∨ (i = .dreturn ∧ t = .double ∧ ∃ z, w = .double z) ∨ (i = .freturn ∧ t = .float ∧ ∃ z, w = .float z) ∨ (i = .areturn ∧ t.isReference = true ∧ w.isRef = true))
    (hd : decode c.code pc = .ok (i, 1)) {K N : Nat} (hk : cells ≤ K) (hs : slots ≤ N) {Q : Option Value → Heap → List Loc → Prop} (hQ : Q (some w) T.heap locs) :
    OGo p.tables e below (OFin s Q K N) (T.setTop (mkF m pc Ls (w :: rest))) := by
  obtain ⟨fs, hr, hrun, hended, hW, hsame⟩ := X.leave (v := some w) (fun h => by rw [hret] at h; cases h) hlk
  exact ⟨_, _, retOut X hx hret hn hi hd hr, hrun, hended, _, _, rfl, hQ, ⟨_, rfl⟩, hW, hsame.mono hk hs⟩
theorem oretV (X : Stand p l e R s m args below meth c T locs cells slots) (hx : p.tables.exec = Jvm.exec) (hlk : meth.locks = false) {pc : Nat} {Ls : Array Slot} (hret : meth.sig.returnType = none)
    (hd : decode c.code pc = .ok (.return_, 1)) {K N : Nat} (hk : cells ≤ K) (hs : slots ≤ N) {Q : Option Value → Heap → List Loc → Prop} (hQ : Q none T.heap locs) :
    OGo p.tables e below (OFin s Q K N) (T.setTop (mkF m pc Ls [])) := by
  obtain ⟨fs, hr, hrun, hended, hW, hsame⟩ := X.leave (v := none) (fun _ => rfl) hlk
  exact ⟨_, _, X.returnOut hx hret hd hr, hrun, hended, _, _, rfl, hQ, ⟨_, rfl⟩, hW, hsame.mono hk hs⟩
abbrev OPlain (y : MethodName) : Prop := y.cls ≠ "java/lang/invoke/MethodHandle" ∧ y.cls ≠ "java/lang/invoke/VarHandle"
/-- a static call by its contract -/
theorem ocallQ (X : Stand p l e R s m args below meth c T locs cells slots) (hx : p.tables.exec = Jvm.exec) (hZ : Z.Warmed39 s.vm) (eT : T.heap = h) {own : String} {index : Nat} {y : MethodName} {bytes : ByteArray} {maxL : Nat} {ret : Option FieldType} {rm : Room} {as : Array Value} {Q : Option Value → Heap → List Loc → Prop} (hM : OMet l Z y bytes maxL ret rm as h Q)
    (hown : s.vm.findClass own = some m.cls) (w1 : (Jvm.Cond.methodLink own index y).before a0 Z = true) (w2 : (Jvm.Cond.static y).before a0 Z = true) (w3 : (Jvm.Cond.initialized y.cls).before a0 Z = true) (w4 : (Jvm.Cond.code y bytes maxL ret).before a0 Z = true) (hy : OPlain y)
    {g : JFrame} (hg : g.method = m) (hsize : g.locals.size = c.maxLocals) (argsL rest : List Value) (has : argsL.toArray = as) (hlen : ∀ sig, parseMethodDescriptor y.desc = some sig → argsL.length = sig.parameters.length) (hstack : g.stack = argsL.reverse ++ rest) (hdg : decode c.code g.pc = .ok (.invokestatic index, 3))
    (W : Nat) (hW : 2 * g.monitorRoom + (rest.map fun v => v.category).sum ≤ W) (hf : rm.frames + 1 ≤ R.frames) (hl : W + (maxL + 11) + rm.locals ≤ R.locals) (hc : cells + rm.cells ≤ R.cells) (hs : slots + rm.slots ≤ R.slots) :
    ∃ (v : Option Value) (T' : State) (h' : Heap) (L : List Loc), T'.heap = h' ∧ Q v h' L ∧ Stand p l e R s m args below meth c T' (locs ++ L) (cells + rm.cells) (slots + rm.slots) ∧
      ∀ target, Steps p.tables e below (T'.setTop { g with pc := g.pc + 3, stack := v.toList ++ rest }) target → Steps p.tables e below (T.setTop g) target := by
  obtain ⟨v, vm₁, ⟨T', L', k', n'⟩, -, X', ⟨L, hQ, l1, l2, l3⟩, st⟩ := Jvm.LawKit.callS X hx (y := y) hown (mvT hZ w1) (mvT hZ w2) (mvT hZ w3) (mvT hZ w4) hy (backOf (W := W) (hM []) hZ w4 w3 hf hl) (g := g) hg hsize (argsL := argsL) (rest := rest) hlen hstack hW hdg (fun _ _ => ⟨has, eT, hc, hs⟩)
  dsimp only [Pt.U, Pt.locs, Pt.cells, Pt.slots] at X' l1 l2 l3 st hQ
  subst l1 l2 l3
  exact ⟨v, T', _, L, rfl, hQ, X', st⟩
/-- a static call of a body that writes nothing -/
theorem ocallP (X : Stand p l e R s m args below meth c T locs cells slots) (hx : p.tables.exec = Jvm.exec) (hZ : Z.Warmed39 s.vm) (eT : T.heap = h) {own : String} {index : Nat} {y : MethodName} {bytes : ByteArray} {maxL : Nat} {ret : Option FieldType} {rm : Room} {as : Array Value} {w : Option Value} (hM : OMet l Z y bytes maxL ret rm as h (OPure w h))
    (hown : s.vm.findClass own = some m.cls) (w1 : (Jvm.Cond.methodLink own index y).before a0 Z = true) (w2 : (Jvm.Cond.static y).before a0 Z = true) (w3 : (Jvm.Cond.initialized y.cls).before a0 Z = true) (w4 : (Jvm.Cond.code y bytes maxL ret).before a0 Z = true) (hy : OPlain y)
    {g : JFrame} (hg : g.method = m) (hsize : g.locals.size = c.maxLocals) (argsL rest : List Value) (has : argsL.toArray = as) (hlen : ∀ sig, parseMethodDescriptor y.desc = some sig → argsL.length = sig.parameters.length) (hstack : g.stack = argsL.reverse ++ rest) (hdg : decode c.code g.pc = .ok (.invokestatic index, 3))
    (W : Nat) (hW : 2 * g.monitorRoom + (rest.map fun v => v.category).sum ≤ W) (hf : rm.frames + 1 ≤ R.frames) (hl : W + (maxL + 11) + rm.locals ≤ R.locals) (hc : cells + rm.cells ≤ R.cells) (hs : slots + rm.slots ≤ R.slots) (z1 : rm.cells = 0) (z2 : rm.slots = 0) :
    ∃ T' : State, Stand p l e R s m args below meth c T' locs cells slots ∧ T'.heap = h ∧
      ∀ target, Steps p.tables e below (T'.setTop { g with pc := g.pc + 3, stack := w.toList ++ rest }) target → Steps p.tables e below (T.setTop g) target := by
  obtain ⟨v, T', h', L, e2, ⟨rfl, rfl, e'⟩, X', st⟩ := ocallQ X hx hZ eT hM hown w1 w2 w3 w4 hy hg hsize argsL rest has hlen hstack hdg W hW hf hl hc hs
  rw [z1, z2, List.append_nil] at X'
  exact ⟨T', X', e2.trans e', st⟩
/-- an instance call by its contract -/
theorem ovirtQ (X : Stand p l e R s m args below meth c T locs cells slots) (hx : p.tables.exec = Jvm.exec) (hZ : Z.Warmed39 s.vm) (eT : T.heap = h) {own C : String} {index : Nat} {y : MethodName} {bytes : ByteArray} {maxL : Nat} {ret : Option FieldType} {rm : Room} {as : Array Value} {Q : Option Value → Heap → List Loc → Prop} (hM : OMet l Z y bytes maxL ret rm as h Q)
    (hown : s.vm.findClass own = some m.cls) (w1 : (Jvm.Cond.methodLink own index y).before a0 Z = true) (w2 : (Jvm.Cond.declares y).before a0 Z = true) (w3 : (Jvm.Cond.selects C y y).before a0 Z = true) (w4 : (Jvm.Cond.instanceMethod y).before a0 Z = true) (w5 : (Jvm.Cond.initialized y.cls).before a0 Z = true) (w6 : (Jvm.Cond.code y bytes maxL ret).before a0 Z = true) (hy : OPlain y) {b : Addr} (E : Exa Z h b C)
    {g : JFrame} (hg : g.method = m) (hsize : g.locals.size = c.maxLocals) (argsL rest : List Value) (has : (.ref b :: argsL).toArray = as) (hlen : ∀ sig, parseMethodDescriptor y.desc = some sig → argsL.length = sig.parameters.length) (hstack : g.stack = argsL.reverse ++ .ref b :: rest) (hdg : decode c.code g.pc = .ok (.invokevirtual index, 3))
    (W : Nat) (hW : 2 * g.monitorRoom + (rest.map fun v => v.category).sum ≤ W) (hf : rm.frames + 1 ≤ R.frames) (hl : W + (maxL + 11) + rm.locals ≤ R.locals) (hc : cells + rm.cells ≤ R.cells) (hs : slots + rm.slots ≤ R.slots) :
    ∃ (v : Option Value) (T' : State) (h' : Heap) (L : List Loc), T'.heap = h' ∧ Q v h' L ∧ Stand p l e R s m args below meth c T' (locs ++ L) (cells + rm.cells) (slots + rm.slots) ∧
      ∀ target, Steps p.tables e below (T'.setTop { g with pc := g.pc + 3, stack := v.toList ++ rest }) target → Steps p.tables e below (T.setTop g) target := by
  obtain ⟨cq, kq, qa, -, qc⟩ := isOf (T := T) hZ eT E
  have w3' : (Jvm.Cond.selects C y y).before args s = true := mvT hZ w3
  obtain ⟨v, vm₁, ⟨T', L', k', n'⟩, -, X', ⟨L, hQ, l1, l2, l3⟩, st⟩ := X.virtualBack hx (y := y) (z := y) hown (mvT hZ w1) (mvT hZ w2) (notFace_of_selects w3') w3' (mvT hZ w4) hy (backOf (W := W) (hM []) hZ w6 w5 hf hl) qa qc (g := g) hg hsize (Steps.refl _) (argsL := argsL) (rest := rest) hlen hstack hW hdg (fun _ _ => ⟨has, eT, hc, hs⟩)
  dsimp only [Pt.U, Pt.locs, Pt.cells, Pt.slots] at X' l1 l2 l3 st hQ
  subst l1 l2 l3
  exact ⟨v, T', _, L, rfl, hQ, X', fun _ k => st.trans k⟩
theorem ovirtP (X : Stand p l e R s m args below meth c T locs cells slots) (hx : p.tables.exec = Jvm.exec) (hZ : Z.Warmed39 s.vm) (eT : T.heap = h) {own C : String} {index : Nat} {y : MethodName} {bytes : ByteArray} {maxL : Nat} {ret : Option FieldType} {rm : Room} {as : Array Value} {w : Option Value} (hM : OMet l Z y bytes maxL ret rm as h (OPure w h))
    (hown : s.vm.findClass own = some m.cls) (w1 : (Jvm.Cond.methodLink own index y).before a0 Z = true) (w2 : (Jvm.Cond.declares y).before a0 Z = true) (w3 : (Jvm.Cond.selects C y y).before a0 Z = true) (w4 : (Jvm.Cond.instanceMethod y).before a0 Z = true) (w5 : (Jvm.Cond.initialized y.cls).before a0 Z = true) (w6 : (Jvm.Cond.code y bytes maxL ret).before a0 Z = true) (hy : OPlain y) {b : Addr} (E : Exa Z h b C)
    {g : JFrame} (hg : g.method = m) (hsize : g.locals.size = c.maxLocals) (argsL rest : List Value) (has : (.ref b :: argsL).toArray = as) (hlen : ∀ sig, parseMethodDescriptor y.desc = some sig → argsL.length = sig.parameters.length) (hstack : g.stack = argsL.reverse ++ .ref b :: rest) (hdg : decode c.code g.pc = .ok (.invokevirtual index, 3))
    (W : Nat) (hW : 2 * g.monitorRoom + (rest.map fun v => v.category).sum ≤ W) (hf : rm.frames + 1 ≤ R.frames) (hl : W + (maxL + 11) + rm.locals ≤ R.locals) (hc : cells + rm.cells ≤ R.cells) (hs : slots + rm.slots ≤ R.slots) (z1 : rm.cells = 0) (z2 : rm.slots = 0) :
    ∃ T' : State, Stand p l e R s m args below meth c T' locs cells slots ∧ T'.heap = h ∧
      ∀ target, Steps p.tables e below (T'.setTop { g with pc := g.pc + 3, stack := w.toList ++ rest }) target → Steps p.tables e below (T.setTop g) target := by
  obtain ⟨v, T', h', L, e2, ⟨rfl, rfl, e'⟩, X', st⟩ := ovirtQ X hx hZ eT hM hown w1 w2 w3 w4 w5 w6 hy E hg hsize argsL rest has hlen hstack hdg W hW hf hl hc hs
  rw [z1, z2, List.append_nil] at X'
  exact ⟨T', X', e2.trans e', st⟩
/-- a constructor by its contract -/
theorem ospecQ (X : Stand p l e R s m args below meth c T locs cells slots) (hx : p.tables.exec = Jvm.exec) (hZ : Z.Warmed39 s.vm) (eT : T.heap = h) {own : String} {index : Nat} {y : MethodName} {bytes : ByteArray} {maxL : Nat} {rm : Room} {as : Array Value} {Q : Option Value → Heap → List Loc → Prop} (hM : OMet l Z y bytes maxL none rm as h Q)
    (hyi : y.name = "<init>") (hown : s.vm.findClass own = some m.cls) (w1 : (Jvm.Cond.methodLink own index y).before a0 Z = true) (w4 : (Jvm.Cond.instanceMethod y).before a0 Z = true) (w5 : (Jvm.Cond.initialized y.cls).before a0 Z = true) (w6 : (Jvm.Cond.code y bytes maxL none).before a0 Z = true) (hy : OPlain y) {b : Addr}
    {g : JFrame} (hg : g.method = m) (hsize : g.locals.size = c.maxLocals) (argsL rest : List Value) (has : (.ref b :: argsL).toArray = as) (hlen : ∀ sig, parseMethodDescriptor y.desc = some sig → argsL.length = sig.parameters.length) (hstack : g.stack = argsL.reverse ++ .ref b :: rest) (hdg : decode c.code g.pc = .ok (.invokespecial index, 3))
    (W : Nat) (hW : 2 * g.monitorRoom + (rest.map fun v => v.category).sum ≤ W) (hf : rm.frames + 1 ≤ R.frames) (hl : W + (maxL + 11) + rm.locals ≤ R.locals) (hc : cells + rm.cells ≤ R.cells) (hs : slots + rm.slots ≤ R.slots) :
    ∃ (v : Option Value) (T' : State) (h' : Heap) (L : List Loc), T'.heap = h' ∧ Q v h' L ∧ Stand p l e R s m args below meth c T' (locs ++ L) (cells + rm.cells) (slots + rm.slots) ∧
      ∀ target, Steps p.tables e below (T'.setTop { g with pc := g.pc + 3, stack := v.toList ++ rest }) target → Steps p.tables e below (T.setTop g) target := by
  obtain ⟨v, vm₁, ⟨T', L', k', n'⟩, -, X', ⟨L, hQ, l1, l2, l3⟩, st⟩ := X.specialBack hx (y := y) hyi hown (mvT hZ w1) (mvT hZ w4) (mvT hZ w6) hy (backOf (W := W) (hM []) hZ w6 w5 hf hl) (g := g) hg hsize (Steps.refl _) (a := b) (argsL := argsL) (rest := rest) hlen hstack hW hdg (fun _ _ => ⟨has, eT, hc, hs⟩)
  dsimp only [Pt.U, Pt.locs, Pt.cells, Pt.slots] at X' l1 l2 l3 st hQ
  subst l1 l2 l3
  exact ⟨v, T', _, L, rfl, hQ, X', fun _ k => st.trans k⟩
theorem onb {z : Int32} (q : z = 0 ∨ z = 1) : narrow .boolean (.int z) = .int z := by rcases q with rfl | rfl <;> rfl
theorem ofb {z : Int32} (q : z = 0 ∨ z = 1) : fits .boolean (.int z) = true := by rcases q with rfl | rfl <;> rfl
theorem oif01 {c : Prop} [Decidable c] {a b : Int32} (qa : a = 0 ∨ a = 1) (qb : b = 0 ∨ b = 1) : (if c then a else b) = 0 ∨ (if c then a else b) = 1 := by split <;> assumption
/-! arrays by a function of the place -/
variable {ty : FieldType} {a b : Addr} {n : Nat} {f f' : Nat → Value} {h' : Heap} {ws : List Addr} {sl : Nat} {v : Value}
def OAr (Z : State) (h : Heap) (a : Addr) (ty : FieldType) (n : Nat) (f : Nat → Value) : Prop :=
  ∃ c : Cell, Arr Z h a c ty ∧ c.slots.size = n ∧ (∀ j, j < n → c.slots[j]? = some (f j)) ∧ ∀ j, j < n → fits ty (f j) = true
theorem OAr.lt (F : OAr Z h a ty n f) : a < h.size := by obtain ⟨c, A, -⟩ := F; exact A.lt
theorem OAr.ext (F : OAr Z h a ty n f) (E : Ext h h') : OAr Z h' a ty n f := by obtain ⟨c, A, r⟩ := F; exact ⟨c, A.ext E, r⟩
theorem OAr.other (F : OAr Z h b ty n f) (W : Wr h h' a sl v) (q : b ≠ a) : OAr Z h' b ty n f := by obtain ⟨c, A, r⟩ := F; exact ⟨c, A.other W q, r⟩
theorem OAr.keep (F : OAr Z h a ty n f) (K : Keep h h' ws) (q : a ∉ ws) : OAr Z h' a ty n f := by obtain ⟨c, A, r⟩ := F; exact ⟨c, ⟨K.2.1 a c A.1 q, A.2⟩, r⟩
theorem OAr.conv (F : OAr Z h a ty n f) (q : ∀ j, j < n → f j = f' j) : OAr Z h a ty n f' := by
  obtain ⟨c, A, S, H, G⟩ := F
  exact ⟨c, A, S, fun j hj => by rw [← q j hj]; exact H j hj, fun j hj => by rw [← q j hj]; exact G j hj⟩
theorem OAr.new {k : ClassId} {z : Int32} (A : Arr Z h a (newA k ty z) ty) (q : z.toNatClampNeg = n) : OAr Z h a ty n (fun _ => defaultValue ty) :=
  ⟨_, A, (sz_new _ _ _).trans q, fun j hj => by simp [newA, q, hj], fun j _ => by cases ty <;> rfl⟩
theorem OAr.set (F : OAr Z h a ty n f) (W : Wr h h' a sl v) (hv : fits ty v = true) : OAr Z h' a ty n (fun j => if j = sl then v else f j) := by
  obtain ⟨c, A, S, H, G⟩ := F
  refine ⟨_, A.same W, by rw [sz_set]; exact S, fun j hj => ?_, fun j hj => ?_⟩
  · show (c.slots.setIfInBounds sl v)[j]? = _
    rw [Array.getElem?_setIfInBounds]
    by_cases q : j = sl
    · subst q; simp [S, hj]
    · rw [if_neg (fun z => q z.symm), H j hj]; simp [q]
  · by_cases q : j = sl
    · simp [q, hv]
    · simp [q, G j hj]
theorem oidx {j : Int32} (h0 : 0 ≤ j.toInt) (h1 : j.toInt < (n : Int)) : ¬ (j < 0) ∧ j.toNatClampNeg < n := by
  refine ⟨fun q => ?_, ?_⟩
  · rw [Int32.lt_iff_toInt_lt] at q; have : (0 : Int32).toInt = 0 := rfl; omega
  · simp only [Int32.toNatClampNeg]; omega
theorem oin {c : Cell} {j : Int32} (S : c.slots.size = n) (h0 : 0 ≤ j.toInt) (h1 : j.toInt < (n : Int)) : ¬ (j < 0 ∨ c.slots.size ≤ j.toNatClampNeg) := by
  obtain ⟨q1, q2⟩ := oidx h0 h1
  rw [S]; exact fun z => z.elim q1 (fun u => Nat.not_le.mpr q2 u)
theorem ostB (X : Stand p l e R s m args below meth c T locs cells slots) (hx : p.tables.exec = Jvm.exec) (hZ : Z.Warmed39 s.vm) (eT : T.heap = h) (F : OAr Z h a .byte n f) {j x : Int32} (h0 : 0 ≤ j.toInt) (h1 : j.toInt < (n : Int)) {g : JFrame} (hg : g.method = m) {rest : List Value} (hs : g.stack = .int x :: .int j :: .ref a :: rest) (hd : decode c.code g.pc = .ok (.bastore, 1)) :
    ∃ T' h', Stand p l e R s m args below meth c T' (locs ++ [⟨a, j.toNatClampNeg⟩]) cells slots ∧ T'.heap = h' ∧ Wr h h' a j.toNatClampNeg (.int x.toInt8.toInt32) ∧ OAr Z h' a .byte n (fun i => if i = j.toNatClampNeg then .int x.toInt8.toInt32 else f i) ∧ ∀ target, Steps p.tables e below (T'.setTop { g with pc := g.pc + 1, stack := rest }) target → Steps p.tables e below (T.setTop g) target := by
  obtain ⟨cl, A, S, H, G⟩ := F
  obtain ⟨T', h', X', e', W, st⟩ := stB X hx hZ eT A (j := j) (x := x) (oin S h0 h1) hg hs hd
  exact ⟨T', h', X', e', W, OAr.set ⟨cl, A, S, H, G⟩ W (fits_nar_byte x), st⟩
theorem ostI (X : Stand p l e R s m args below meth c T locs cells slots) (hx : p.tables.exec = Jvm.exec) (hZ : Z.Warmed39 s.vm) (eT : T.heap = h) (F : OAr Z h a .int n f) {j x : Int32} (h0 : 0 ≤ j.toInt) (h1 : j.toInt < (n : Int)) {g : JFrame} (hg : g.method = m) {rest : List Value} (hs : g.stack = .int x :: .int j :: .ref a :: rest) (hd : decode c.code g.pc = .ok (.iastore, 1)) :
    ∃ T' h', Stand p l e R s m args below meth c T' (locs ++ [⟨a, j.toNatClampNeg⟩]) cells slots ∧ T'.heap = h' ∧ Wr h h' a j.toNatClampNeg (.int x) ∧ OAr Z h' a .int n (fun i => if i = j.toNatClampNeg then .int x else f i) ∧ ∀ target, Steps p.tables e below (T'.setTop { g with pc := g.pc + 1, stack := rest }) target → Steps p.tables e below (T.setTop g) target := by
  obtain ⟨cl, A, S, H, G⟩ := F
  obtain ⟨T', h', X', e', W, st⟩ := stI X hx hZ eT A (j := j) (x := x) (oin S h0 h1) hg hs hd
  exact ⟨T', h', X', e', W, OAr.set ⟨cl, A, S, H, G⟩ W rfl, st⟩
theorem ostJ (X : Stand p l e R s m args below meth c T locs cells slots) (hx : p.tables.exec = Jvm.exec) (hZ : Z.Warmed39 s.vm) (eT : T.heap = h) (F : OAr Z h a .long n f) {j : Int32} {x : Int64} (h0 : 0 ≤ j.toInt) (h1 : j.toInt < (n : Int)) {g : JFrame} (hg : g.method = m) {rest : List Value} (hs : g.stack = .long x :: .int j :: .ref a :: rest) (hd : decode c.code g.pc = .ok (.lastore, 1)) :
    ∃ T' h', Stand p l e R s m args below meth c T' (locs ++ [⟨a, j.toNatClampNeg⟩]) cells slots ∧ T'.heap = h' ∧ Wr h h' a j.toNatClampNeg (.long x) ∧ OAr Z h' a .long n (fun i => if i = j.toNatClampNeg then .long x else f i) ∧ ∀ target, Steps p.tables e below (T'.setTop { g with pc := g.pc + 1, stack := rest }) target → Steps p.tables e below (T.setTop g) target := by
  obtain ⟨cl, A, S, H, G⟩ := F
  obtain ⟨T', h', X', e', W, st⟩ := stJ X hx hZ eT A (j := j) (x := x) (oin S h0 h1) hg hs hd
  exact ⟨T', h', X', e', W, OAr.set ⟨cl, A, S, H, G⟩ W rfl, st⟩
theorem oldB (X : Stand p l e R s m args below meth c T locs cells slots) (hx : p.tables.exec = Jvm.exec) (hZ : Z.Warmed39 s.vm) (eT : T.heap = h) (F : OAr Z h a .byte n f) {j : Int32} (h0 : 0 ≤ j.toInt) (h1 : j.toInt < (n : Int)) {g : JFrame} (hg : g.method = m) {rest : List Value} (hs : g.stack = .int j :: .ref a :: rest) (hd : decode c.code g.pc = .ok (.baload, 1)) :
    ∀ target, Steps p.tables e below (T.setTop { g with pc := g.pc + 1, stack := f j.toNatClampNeg :: rest }) target → Steps p.tables e below (T.setTop g) target := by
  obtain ⟨cl, A, S, H, G⟩ := F
  exact fun t k => X.baloadBytes hx (by rw [eT]; exact A.1) (State.isArrayOf_alike hZ.alike A.2.1) A.2.2 (oin S h0 h1) (H _ (oidx h0 h1).2) hg hs hd t k
theorem oldI (X : Stand p l e R s m args below meth c T locs cells slots) (hx : p.tables.exec = Jvm.exec) (hZ : Z.Warmed39 s.vm) (eT : T.heap = h) (F : OAr Z h a .int n f) {j : Int32} (h0 : 0 ≤ j.toInt) (h1 : j.toInt < (n : Int)) {g : JFrame} (hg : g.method = m) {rest : List Value} (hs : g.stack = .int j :: .ref a :: rest) (hd : decode c.code g.pc = .ok (.iaload, 1)) :
    ∀ target, Steps p.tables e below (T.setTop { g with pc := g.pc + 1, stack := f j.toNatClampNeg :: rest }) target → Steps p.tables e below (T.setTop g) target := by
  obtain ⟨cl, A, S, H, G⟩ := F
  exact fun t k => X.iaload hx (by rw [eT]; exact A.1) (State.isArrayOf_alike hZ.alike A.2.1) A.2.2 (oin S h0 h1) (H _ (oidx h0 h1).2) hg hs hd t k
theorem oldJ (X : Stand p l e R s m args below meth c T locs cells slots) (hx : p.tables.exec = Jvm.exec) (hZ : Z.Warmed39 s.vm) (eT : T.heap = h) (F : OAr Z h a .long n f) {j : Int32} (h0 : 0 ≤ j.toInt) (h1 : j.toInt < (n : Int)) {g : JFrame} (hg : g.method = m) {rest : List Value} (hs : g.stack = .int j :: .ref a :: rest) (hd : decode c.code g.pc = .ok (.laload, 1)) :
    ∀ target, Steps p.tables e below (T.setTop { g with pc := g.pc + 1, stack := f j.toNatClampNeg :: rest }) target → Steps p.tables e below (T.setTop g) target := by
  obtain ⟨cl, A, S, H, G⟩ := F
  exact fun t k => X.laload hx (by rw [eT]; exact A.1) (State.isArrayOf_alike hZ.alike A.2.1) A.2.2 (oin S h0 h1) (H _ (oidx h0 h1).2) hg hs hd t k
theorem oalen (X : Stand p l e R s m args below meth c T locs cells slots) (hx : p.tables.exec = Jvm.exec) (hZ : Z.Warmed39 s.vm) (eT : T.heap = h) (F : OAr Z h a ty n f) {g : JFrame} (hg : g.method = m) {rest : List Value} (hs : g.stack = .ref a :: rest) (hd : decode c.code g.pc = .ok (.arraylength, 1)) :
    ∀ target, Steps p.tables e below (T.setTop { g with pc := g.pc + 1, stack := .int n.toInt32 :: rest }) target → Steps p.tables e below (T.setTop g) target := by
  obtain ⟨cl, A, S, H, G⟩ := F
  subst S
  exact fun t k => X.arraylength hx (by rw [eT]; exact A.1) (State.isArrayOf_alike hZ.alike A.2.1) hg hs hd t k
theorem oclone (X : Stand p l e R s m args below meth c T locs cells slots) (hx : p.tables.exec = Jvm.exec) (hZ : Z.Warmed39 s.vm) {own ad : String} {index : Nat} (hown : s.vm.findClass own = some m.cls)
    (w1 : (Jvm.Cond.methodLink own index ⟨ad, "clone", "()Ljava/lang/Object;"⟩).before a0 Z = true) (w2 : (Jvm.Cond.sameMethod ad "java/lang/Object" "clone" "()Ljava/lang/Object;").before a0 Z = true) (w3 : (Jvm.Cond.native ⟨"java/lang/Object", "clone", "()Ljava/lang/Object;"⟩).before a0 Z = true)
    (w4 : (Jvm.Cond.instanceMethod ⟨"java/lang/Object", "clone", "()Ljava/lang/Object;"⟩).before a0 Z = true) (w5 : (Jvm.Cond.selects ad ⟨ad, "clone", "()Ljava/lang/Object;"⟩ ⟨"java/lang/Object", "clone", "()Ljava/lang/Object;"⟩).before a0 Z = true) (w6 : (Jvm.Cond.castable ad "java/lang/Cloneable").before a0 Z = true)
    (eT : T.heap = h) (F : OAr Z h a ty n f) (E : Exa Z h a ad) {g : JFrame} (hg : g.method = m) (hsize : g.locals.size = c.maxLocals) {rest : List Value} (hs : g.stack = .ref a :: rest) (hd : decode c.code g.pc = .ok (.invokevirtual index, 3))
    (hf : 1 ≤ R.frames) (W : Nat) (hW : 2 * g.monitorRoom + (rest.map fun v => v.category).sum ≤ W) (hl : W + 14 ≤ R.locals) (hc : cells + 1 ≤ R.cells) (hsl : slots + n ≤ R.slots) :
    ∃ T' h', Stand p l e R s m args below meth c T' locs (cells + 1) (slots + n) ∧ T'.heap = h' ∧ Ext h h' ∧ OAr Z h' h.size ty n f ∧ Exa Z h' h.size ad ∧
      ∀ target, Steps p.tables e below (T'.setTop { g with pc := g.pc + 3, stack := .ref h.size :: rest }) target → Steps p.tables e below (T.setTop g) target := by
  obtain ⟨cl, A, S, H, G⟩ := F
  have FC : FitC Z cl := fitC_of A fun i hi v hv => by rw [H i (S ▸ hi)] at hv; cases hv; exact G i (S ▸ hi)
  obtain ⟨T', h', X', e', ex, A', E', st⟩ := cloneA X hx hZ hown w1 w2 w3 w4 w5 w6 eT A E FC hg hsize hs hd hf hW hl (Nat.le_of_eq S) hc hsl
  exact ⟨T', h', X', e', ex, ⟨cloneOf cl, A', S, H, G⟩, E', st⟩
end OwnGo
end Jvm.OwnKit
namespace Jvm.Pilot.@@N@@
open Jvm Jvm.ClassFile Sem Op Lib Jvm.Free Jvm.Stand Jvm.LawKit Jvm.RoadKit Bundle Jvm.OwnKit Jvm.Pilot.@@N@@.Jvm.D
theorem own_j {w x : Int32} (h : w = x &&& (63 : Int32)) : 0 ≤ w.toInt ∧ w.toInt < ((64 : Nat) : Int) := by
  have q := c_mask x (63 : Int32) 6 (by decide) (by decide)
  rw [h]
  omega
theorem own_inc {i : Int32} {j : Nat} (hi : i.toInt = (j : Int)) (hj : j < 1000) : (i + (1 : Int32)).toInt = ((j + 1 : Nat) : Int) := by
  have c := c_iadd i (1 : Int32)
  have r := rng32 (i + (1 : Int32))
  have o : (1 : Int32).toInt = 1 := rfl
  omega
theorem own_d0 : FP.dconst0 = FP.i2d (0 : Int32) := by decide +kernel
theorem own_b53 (x : Int32) : B53 x.toInt64 := by
  have r := rng32 x
  exact ⟨by rw [c_i2l]; omega, by rw [c_i2l]; omega⟩
theorem own_dc (x y : Int32) (o : CmpOp) : cmpValue (FP.dcmp (FP.i2d x) (FP.i2d y)) o = lcmpW x.toInt64 y.toInt64 := by
  rw [i2d_w, i2d_w]
  exact dcmpV_w (own_b53 x) (own_b53 y) o
theorem d1_0 : decode prog_6_method_1_code 0 = .ok (.aload_n 0, 1) := by decide +kernel
theorem d1_1 : decode prog_6_method_1_code 1 = .ok (.invokespecial 1, 3) := by decide +kernel
theorem d1_4 : decode prog_6_method_1_code 4 = .ok (.aload_n 1, 1) := by decide +kernel
theorem d1_5 : decode prog_6_method_1_code 5 = .ok (.arraylength, 1) := by decide +kernel
theorem d1_6 : decode prog_6_method_1_code 6 = .ok (.bipush 64, 2) := by decide +kernel
theorem d1_8 : decode prog_6_method_1_code 8 = .ok (.if_icmp .eq 36, 3) := by decide +kernel
theorem d1_44 : decode prog_6_method_1_code 44 = .ok (.aload_n 0, 1) := by decide +kernel
theorem d1_45 : decode prog_6_method_1_code 45 = .ok (.aload_n 1, 1) := by decide +kernel
theorem d1_46 : decode prog_6_method_1_code 46 = .ok (.invokevirtual 28, 3) := by decide +kernel
theorem d1_49 : decode prog_6_method_1_code 49 = .ok (.checkcast 29, 3) := by decide +kernel
theorem d1_52 : decode prog_6_method_1_code 52 = .ok (.putfield 34, 3) := by decide +kernel
theorem d1_55 : decode prog_6_method_1_code 55 = .ok (.return_, 1) := by decide +kernel
theorem pn_1 : plainName "com/example/gol_gumbaz/golgumbaz/envelope/BloomFilter" = true := by first | (simp [plainName, overriddenIn]; done) | decide +kernel
theorem ef_1 (m : MethodId) (x0 : Addr) (x1 : Addr) : entryFrame m #[(.ref x0), (.ref x1)] 2 = mkF m 0 #[.val (.ref x0), .val (.ref x1)] [] := by first | (simp [entryFrame, mkF, argsToLocals, Value.category]; done) | rfl
set_option maxRecDepth 65536 in
set_option maxHeartbeats 40000000 in
theorem rm1 (l : Launch) (Z : State) (a0 : Array Value) (hw : ∀ d ∈ tables_1, d.before a0 Z = true) (ob : Addr) (ar : Addr) (fa : Nat → Int32) (h0 : Heap) (n0 : Nat) (Z0 : n0 ≤ h0.size) (P0 : Exa Z h0 ob "com/example/gol_gumbaz/golgumbaz/envelope/BloomFilter") (P1 : Fld Z h0 ob "com/example/gol_gumbaz/golgumbaz/envelope/BloomFilter" "bytes" "[B" .null) (P2 : Exa Z h0 ar "[B") (P3 : OAr Z h0 ar .byte 64 (fun i => .int (fa i))) (g_ob : n0 ≤ ob) (ne_ob_ar : ob ≠ ar) :
    OMet l Z (⟨"com/example/gol_gumbaz/golgumbaz/envelope/BloomFilter", "<init>", "([B)V"⟩ : MethodName) prog_6_method_1_code 2 none ({ frames := 1, cells := 1, slots := 64, locals := 15 } : Room) #[(.ref ob), (.ref ar)] h0 (fun v h L => ∃ cb, v = none ∧ Fr n0 L ∧ Keep h0 h [ob] ∧ Fld Z h ob "com/example/gol_gumbaz/golgumbaz/envelope/BloomFilter" "bytes" "[B" (.ref cb) ∧ OAr Z h cb .byte 64 (fun i => .int (fa i)) ∧ n0 ≤ cb ∧ ob ≠ cb ∧ h0.size ≤ cb) := by
  intro ws
  refine MetFree.of_bodySF (plainFor_of_name pn_1) hisR ?_
  intro p e s m args below meth c s₁ Bd hml0 hP hK
  obtain ⟨rfl, hZ, hh⟩ := hP
  have hx := Bd.exec
  have hby := Bd.bytes
  have hml : c.maxLocals = 2 := hml0
  have hown : s.vm.findClass "com/example/gol_gumbaz/golgumbaz/envelope/BloomFilter" = some m.cls := findClass_of_methodNamed Bd.named
  have hnm := (name_of_methodNamed Bd.named Bd.method).1
  have hlk : meth.locks = false := Bd.notSynchronized
  have X0 : Stand p l e ({ frames := 1, cells := 1, slots := 64, locals := 15 } : Room) s m #[(.ref ob), (.ref ar)] below meth c s₁ [] 0 0 := Stand.of_body Bd
  have e0 : s₁.heap = h0 := by rw [← hh, Bd.state]; rfl
  have N0 := Fr.nil n0
  have K0 := Keep.refl h0 [ob]
  refine (?_ : OGo p.tables e below (OFin s (fun v h L => ∃ cb, v = none ∧ Fr n0 L ∧ Keep h0 h [ob] ∧ Fld Z h ob "com/example/gol_gumbaz/golgumbaz/envelope/BloomFilter" "bytes" "[B" (.ref cb) ∧ OAr Z h cb .byte 64 (fun i => .int (fa i)) ∧ n0 ≤ cb ∧ ob ≠ cb ∧ h0.size ≤ cb) 1 64) _)
  refine ogo (fun _ k => castTop (ef_1 m ob ar) k) ?_
  show OGo _ _ _ _ (s₁.setTop (mkF m 0 #[.val (.ref ob), .val (.ref ar)] []))
  refine ogo (fun _ k => XS.aloadN X0.here hx rfl (hb hby d1_0) rfl rfl k) ?_
  show OGo _ _ _ _ (s₁.setTop (mkF m 1 #[.val (.ref ob), .val (.ref ar)] [(.ref ob)]))
  obtain ⟨T_1_1, X_1_1, e_1_1, st_1_1⟩ := initO X0 hx hZ hown (hw _ (List.mem_of_getElem? (i := 11) rfl)) (hw _ (List.mem_of_getElem? (i := 12) rfl)) (hw _ (List.mem_of_getElem? (i := 13) rfl)) e0 (g := (mkF m 1 #[.val (.ref ob), .val (.ref ar)] [(.ref ob)])) rfl (by rw [hml]; rfl) rfl (hb hby d1_1) (by decide) (W := 0) (by show 2 * 0 + _ ≤ _; exact Nat.le_of_eq rfl) (by decide)
  refine ogo (fun _ k => st_1_1 _ k) ?_
  show OGo _ _ _ _ (T_1_1.setTop (mkF m 4 #[.val (.ref ob), .val (.ref ar)] []))
  refine ogo (fun _ k => XS.aloadN X_1_1.here hx rfl (hb hby d1_4) rfl rfl k) ?_
  show OGo _ _ _ _ (T_1_1.setTop (mkF m 5 #[.val (.ref ob), .val (.ref ar)] [(.ref ar)]))
  refine ogo (fun _ k => oalen X_1_1 hx hZ e_1_1 P3 (g := (mkF m 5 #[.val (.ref ob), .val (.ref ar)] [(.ref ar)])) rfl rfl (hb hby d1_5) _ k) ?_
  show OGo _ _ _ _ (T_1_1.setTop (mkF m 6 #[.val (.ref ob), .val (.ref ar)] [(.int (64 : Int32))]))
  refine ogo (fun _ k => XS.bipush X_1_1.here hx rfl (hb hby d1_6) k) ?_
  show OGo _ _ _ _ (T_1_1.setTop (mkF m 8 #[.val (.ref ob), .val (.ref ar)] [(.int (64 : Int32)), (.int (64 : Int32))]))
  refine ogo (fun _ k => XS.icmpYes X_1_1.here hx rfl (pc0 := 8) (pc' := 44) rfl (hb hby d1_8) rfl (teq (by decide : (64 : Int32) = (64 : Int32))).1 (by decide) (by decide) k) ?_
  show OGo _ _ _ _ (T_1_1.setTop (mkF m 44 #[.val (.ref ob), .val (.ref ar)] []))
  refine ogo (fun _ k => XS.aloadN X_1_1.here hx rfl (hb hby d1_44) rfl rfl k) ?_
  show OGo _ _ _ _ (T_1_1.setTop (mkF m 45 #[.val (.ref ob), .val (.ref ar)] [(.ref ob)]))
  refine ogo (fun _ k => XS.aloadN X_1_1.here hx rfl (hb hby d1_45) rfl rfl k) ?_
  show OGo _ _ _ _ (T_1_1.setTop (mkF m 46 #[.val (.ref ob), .val (.ref ar)] [(.ref ar), (.ref ob)]))
  obtain ⟨T_1_2, h_1_2, X_1_2, e_1_2, E_1_2, V_1_2, Ex_1_2, st_1_2⟩ := oclone X_1_1 hx hZ hown (hw _ (List.mem_of_getElem? (i := 14) rfl)) (hw _ (List.mem_of_getElem? (i := 15) rfl)) (hw _ (List.mem_of_getElem? (i := 19) rfl)) (hw _ (List.mem_of_getElem? (i := 17) rfl)) (hw _ (List.mem_of_getElem? (i := 18) rfl)) (hw _ (List.mem_of_getElem? (i := 20) rfl)) e_1_1 P3 P2 (g := (mkF m 46 #[.val (.ref ob), .val (.ref ar)] [(.ref ar), (.ref ob)])) rfl (by rw [hml]; rfl) rfl (hb hby d1_46) (by decide) 1 (by show 2 * 0 + _ ≤ _; exact Nat.le_of_eq rfl) (by decide) (by decide) (by decide)
  obtain ⟨b_1_2, g_1_2⟩ : ∃ z, z = h0.size := ⟨_, rfl⟩
  rw [← g_1_2] at V_1_2 Ex_1_2 st_1_2
  have g_b_1_2 : n0 ≤ b_1_2 := Nat.le_trans Z0 (Nat.le_of_eq g_1_2.symm)
  have ne_ob_b_1_2 : ob ≠ b_1_2 := Nat.ne_of_lt (Nat.lt_of_lt_of_le P1.lt (Nat.le_of_eq g_1_2.symm))
  have ne_ar_b_1_2 : ar ≠ b_1_2 := Nat.ne_of_lt (Nat.lt_of_lt_of_le P3.lt (Nat.le_of_eq g_1_2.symm))
  have sz_b_1_2 : h0.size ≤ b_1_2 := Nat.le_trans K0.1 (Nat.le_of_eq g_1_2.symm)
  have K_1_2 := K0.ext E_1_2
  have f_1_3 := P0.ext E_1_2
  have f_1_4 := P1.ext E_1_2
  have f_1_5 := P2.ext E_1_2
  have f_1_6 := P3.ext E_1_2
  have Z_1_2 : n0 ≤ h_1_2.size := Nat.le_trans Z0 E_1_2.1
  obtain ⟨lc_1_2, N_1_2, X_1_2⟩ : ∃ L, Fr n0 L ∧ Stand p l e ({ frames := 1, cells := 1, slots := 64, locals := 15 } : Room) s m #[(.ref ob), (.ref ar)] below meth c T_1_2 L 1 64 := ⟨_, N0, X_1_2⟩
  refine ogo (fun _ k => st_1_2 _ k) ?_
  show OGo _ _ _ _ (T_1_2.setTop (mkF m 49 #[.val (.ref ob), .val (.ref ar)] [(.ref b_1_2), (.ref ob)]))
  obtain ⟨T_1_7, X_1_7, e_1_7, st_1_7⟩ := castY X_1_2 hx hZ hown (hw _ (List.mem_of_getElem? (i := 21) rfl)) e_1_2 (Ins.self Ex_1_2) (g := (mkF m 49 #[.val (.ref ob), .val (.ref ar)] [(.ref b_1_2), (.ref ob)])) rfl rfl (hb hby d1_49)
  refine ogo (fun _ k => st_1_7 _ k) ?_
  show OGo _ _ _ _ (T_1_7.setTop (mkF m 52 #[.val (.ref ob), .val (.ref ar)] [(.ref b_1_2), (.ref ob)]))
  obtain ⟨T_1_8, h_1_8, X_1_8, e_1_8, W_1_8, st_1_8⟩ := putF X_1_7 hx hZ hown (host := "") (Or.inl (hw _ (List.mem_of_getElem? (i := 23) rfl))) Via.refl e_1_7 f_1_4 f_1_3 (Or.inr ⟨(hw _ (List.mem_of_getElem? (i := 24) rfl)), rfl, hnm⟩) (hw _ (List.mem_of_getElem? (i := 6) rfl)) (ty := (.array .byte)) (by decide) rfl rfl (g := (mkF m 52 #[.val (.ref ob), .val (.ref ar)] [(.ref b_1_2), (.ref ob)])) rfl rfl (hb hby d1_52)
  have K_1_8 := K_1_2.wr W_1_8 (Or.inl (List.mem_of_getElem? (i := 0) rfl))
  have f_1_9 := f_1_3.wr W_1_8
  have f_1_10 := f_1_4.same W_1_8
  have f_1_11 := f_1_5.wr W_1_8
  have f_1_12 := f_1_6.other W_1_8 (Ne.symm ne_ob_ar)
  have f_1_13 := Ex_1_2.wr W_1_8
  have f_1_14 := V_1_2.other W_1_8 (Ne.symm ne_ob_b_1_2)
  have Z_1_8 : n0 ≤ h_1_8.size := Nat.le_trans Z_1_2 (Keep.of_wr W_1_8).1
  obtain ⟨lc_1_8, N_1_8, X_1_8⟩ : ∃ L, Fr n0 L ∧ Stand p l e ({ frames := 1, cells := 1, slots := 64, locals := 15 } : Room) s m #[(.ref ob), (.ref ar)] below meth c T_1_8 L 1 64 := ⟨_, Fr.snoc X_1_8 N_1_2 g_ob, X_1_8⟩
  refine ogo (fun _ k => st_1_8 _ k) ?_
  show OGo _ _ _ _ (T_1_8.setTop (mkF m 55 #[.val (.ref ob), .val (.ref ar)] []))
  exact oretV X_1_8 hx hlk Bd.returns (hb hby d1_55) (by decide) (by decide) (by rw [e_1_8]; exact ⟨b_1_2, rfl, N_1_8, K_1_8, f_1_10, f_1_14, g_b_1_2, ne_ob_b_1_2, sz_b_1_2⟩)
theorem own_tab {Z s : State} {a0 args : Array Value} (hZ : Z.Warmed39 s.vm) (hw : ∀ d ∈ tables_1, d.before a0 Z = true) : Jvm.Free.Fl.IsFinite.tab.before args s = true := by
  have w1 : (Jvm.Cond.code Jvm.Free.Fl.IsFinite.yN Jvm.Free.Fl.IsFinite.yB 2 (some .boolean)).before args s = true := mvT hZ (hw _ (List.mem_of_getElem? (i := 32) rfl))
  have w2 : (Jvm.Cond.methodLink Jvm.Free.Fl.DC 38 Jvm.Free.Fl.Abs.absDN).before args s = true := mvT hZ (hw _ (List.mem_of_getElem? (i := 33) rfl))
  have w3 : (Jvm.Cond.static Jvm.Free.Fl.Abs.absDN).before args s = true := mvT hZ (hw _ (List.mem_of_getElem? (i := 34) rfl))
  have w4 : (Jvm.Cond.initialized "java/lang/Math").before args s = true := mvT hZ (hw _ (List.mem_of_getElem? (i := 35) rfl))
  have w5 : (Jvm.Cond.code Jvm.Free.Fl.Abs.absDN Jvm.Free.Fl.Abs.absDCode 2 (some .double)).before args s = true := mvT hZ (hw _ (List.mem_of_getElem? (i := 36) rfl))
  have w6 : (Jvm.Cond.constantDouble Jvm.Free.Fl.DC 111 Jvm.Free.Fl.maxD).before args s = true := mvT hZ (hw _ (List.mem_of_getElem? (i := 37) rfl))
  simp only [Jvm.Free.Fl.IsFinite.tab, Cond.before_and, w1, w2, w3, w4, w5, w6, Bool.and_self]
theorem d3_0 : decode prog_26_method_1_code 0 = .ok (.aload_n 0, 1) := by decide +kernel
theorem d3_1 : decode prog_26_method_1_code 1 = .ok (.invokespecial 1, 3) := by decide +kernel
theorem d3_4 : decode prog_26_method_1_code 4 = .ok (.dload_n 1, 1) := by decide +kernel
theorem d3_5 : decode prog_26_method_1_code 5 = .ok (.invokestatic 7, 3) := by decide +kernel
theorem d3_8 : decode prog_26_method_1_code 8 = .ok (.ifCond .eq 9, 3) := by decide +kernel
theorem d3_11 : decode prog_26_method_1_code 11 = .ok (.dload_n 1, 1) := by decide +kernel
theorem d3_12 : decode prog_26_method_1_code 12 = .ok (.dconst 0, 1) := by decide +kernel
theorem d3_13 : decode prog_26_method_1_code 13 = .ok (.dcmp .g, 1) := by decide +kernel
theorem d3_14 : decode prog_26_method_1_code 14 = .ok (.ifCond .ge 27, 3) := by decide +kernel
theorem d3_41 : decode prog_26_method_1_code 41 = .ok (.aload_n 0, 1) := by decide +kernel
theorem d3_42 : decode prog_26_method_1_code 42 = .ok (.dload_n 1, 1) := by decide +kernel
theorem d3_43 : decode prog_26_method_1_code 43 = .ok (.putfield 30, 3) := by decide +kernel
theorem d3_46 : decode prog_26_method_1_code 46 = .ok (.aload_n 0, 1) := by decide +kernel
theorem d3_47 : decode prog_26_method_1_code 47 = .ok (.aload_n 3, 1) := by decide +kernel
theorem d3_48 : decode prog_26_method_1_code 48 = .ok (.putfield 36, 3) := by decide +kernel
theorem d3_51 : decode prog_26_method_1_code 51 = .ok (.return_, 1) := by decide +kernel
theorem pn_3 : plainName "com/example/gol_gumbaz/golgumbaz/shh/Admission" = true := by first | (simp [plainName, overriddenIn]; done) | decide +kernel
theorem ef_3 (m : MethodId) (x0 : Addr) (x1 : UInt64) (x2 : Addr) : entryFrame m #[(.ref x0), (.double x1), (.ref x2)] 4 = mkF m 0 #[.val (.ref x0), .val (.double x1), .second, .val (.ref x2)] [] := by first | (simp [entryFrame, mkF, argsToLocals, Value.category]; done) | rfl
theorem pd__D_Z : parseMethodDescriptor "(D)Z" = some ⟨[.double], some .boolean⟩ := by decide +kernel
set_option maxRecDepth 65536 in
set_option maxHeartbeats 40000000 in
theorem rm3 (l : Launch) (Z : State) (a0 : Array Value) (hw : ∀ d ∈ tables_1, d.before a0 Z = true) (ob : Addr) (q1 : Int32) (fi : Addr)  (h0 : Heap) (n0 : Nat) (Z0 : n0 ≤ h0.size) (P0 : Exa Z h0 ob "com/example/gol_gumbaz/golgumbaz/shh/Admission") (P1 : Fld Z h0 ob "com/example/gol_gumbaz/golgumbaz/shh/Admission" "minPow" "D" (.double (0 : UInt64))) (P2 : Fld Z h0 ob "com/example/gol_gumbaz/golgumbaz/shh/Admission" "filter" "Lcom/example/gol_gumbaz/golgumbaz/envelope/BloomFilter;" .null) (g_ob : n0 ≤ ob) (hq : 0 ≤ q1.toInt) :
    OMet l Z (⟨"com/example/gol_gumbaz/golgumbaz/shh/Admission", "<init>", "(DLcom/example/gol_gumbaz/golgumbaz/envelope/BloomFilter;)V"⟩ : MethodName) prog_26_method_1_code 4 none ({ frames := 2, cells := 0, slots := 0, locals := 26 } : Room) #[(.ref ob), (.double (FP.i2d q1)), (.ref fi)] h0 (fun v h L => v = none ∧ Fr n0 L ∧ Keep h0 h [ob] ∧ Fld Z h ob "com/example/gol_gumbaz/golgumbaz/shh/Admission" "minPow" "D" (.double (FP.i2d q1)) ∧ Fld Z h ob "com/example/gol_gumbaz/golgumbaz/shh/Admission" "filter" "Lcom/example/gol_gumbaz/golgumbaz/envelope/BloomFilter;" (.ref fi)) := by
  intro ws
  refine MetFree.of_bodySF (plainFor_of_name pn_3) hisR ?_
  intro p e s m args below meth c s₁ Bd hml0 hP hK
  obtain ⟨rfl, hZ, hh⟩ := hP
  have hx := Bd.exec
  have hby := Bd.bytes
  have hml : c.maxLocals = 4 := hml0
  have hown : s.vm.findClass "com/example/gol_gumbaz/golgumbaz/shh/Admission" = some m.cls := findClass_of_methodNamed Bd.named
  have hnm := (name_of_methodNamed Bd.named Bd.method).1
  have hlk : meth.locks = false := Bd.notSynchronized
  have X0 : Stand p l e ({ frames := 2, cells := 0, slots := 0, locals := 26 } : Room) s m #[(.ref ob), (.double (FP.i2d q1)), (.ref fi)] below meth c s₁ [] 0 0 := Stand.of_body Bd
  have e0 : s₁.heap = h0 := by rw [← hh, Bd.state]; rfl
  have N0 := Fr.nil n0
  have K0 := Keep.refl h0 [ob]
  refine (?_ : OGo p.tables e below (OFin s (fun v h L => v = none ∧ Fr n0 L ∧ Keep h0 h [ob] ∧ Fld Z h ob "com/example/gol_gumbaz/golgumbaz/shh/Admission" "minPow" "D" (.double (FP.i2d q1)) ∧ Fld Z h ob "com/example/gol_gumbaz/golgumbaz/shh/Admission" "filter" "Lcom/example/gol_gumbaz/golgumbaz/envelope/BloomFilter;" (.ref fi)) 0 0) _)
  refine ogo (fun _ k => castTop (ef_3 m ob (FP.i2d q1) fi) k) ?_
  show OGo _ _ _ _ (s₁.setTop (mkF m 0 #[.val (.ref ob), .val (.double (FP.i2d q1)), .second, .val (.ref fi)] []))
  refine ogo (fun _ k => XS.aloadN X0.here hx rfl (hb hby d3_0) rfl rfl k) ?_
  show OGo _ _ _ _ (s₁.setTop (mkF m 1 #[.val (.ref ob), .val (.double (FP.i2d q1)), .second, .val (.ref fi)] [(.ref ob)]))
  obtain ⟨T_3_1, X_3_1, e_3_1, st_3_1⟩ := initO X0 hx hZ hown (hw _ (List.mem_of_getElem? (i := 28) rfl)) (hw _ (List.mem_of_getElem? (i := 12) rfl)) (hw _ (List.mem_of_getElem? (i := 13) rfl)) e0 (g := (mkF m 1 #[.val (.ref ob), .val (.double (FP.i2d q1)), .second, .val (.ref fi)] [(.ref ob)])) rfl (by rw [hml]; rfl) rfl (hb hby d3_1) (by decide) (W := 0) (by show 2 * 0 + _ ≤ _; exact Nat.le_of_eq rfl) (by decide)
  refine ogo (fun _ k => st_3_1 _ k) ?_
  show OGo _ _ _ _ (T_3_1.setTop (mkF m 4 #[.val (.ref ob), .val (.double (FP.i2d q1)), .second, .val (.ref fi)] []))
  refine ogo (fun _ k => XS.dloadN X_3_1.here hx rfl (hb hby d3_4) rfl k) ?_
  show OGo _ _ _ _ (T_3_1.setTop (mkF m 5 #[.val (.ref ob), .val (.double (FP.i2d q1)), .second, .val (.ref fi)] [(.double (FP.i2d q1))]))
  have nn_3_2 : Jvm.Free.Fl.NoNaN64 (FP.i2d q1) := (Jvm.Free.Fl.i2d_fin _).noNaN
  obtain ⟨v_3_2, _, ⟨T_3_2, L_3_2, k_3_2, n_3_2⟩, -, X_3_2, ⟨⟨y1_3_2, y2_3_2, y3_3_2, y4_3_2⟩, hv_3_2⟩, st_3_2⟩ := Jvm.LawKit.callS X_3_1 hx (y := Jvm.Free.Fl.IsFinite.yN) hown (mvT hZ (hw _ (List.mem_of_getElem? (i := 29) rfl))) (mvT hZ (hw _ (List.mem_of_getElem? (i := 30) rfl))) (mvT hZ (hw _ (List.mem_of_getElem? (i := 31) rfl))) (mvT hZ (hw _ (List.mem_of_getElem? (i := 32) rfl))) (by decide) (Jvm.Free.Fl.IsFinite.pays (W := 0) (by decide) (by decide) (own_tab hZ hw) (mvT hZ (hw _ (List.mem_of_getElem? (i := 31) rfl)))) (g := (mkF m 5 #[.val (.ref ob), .val (.double (FP.i2d q1)), .second, .val (.ref fi)] [(.double (FP.i2d q1))])) rfl (by rw [hml]; rfl) (argsL := [(.double (FP.i2d q1))]) (rest := []) (lenOf pd__D_Z rfl) rfl (by show 2 * 0 + _ ≤ _; exact Nat.le_of_eq rfl) (hb hby d3_5) (fun _ _ => ⟨by show 0 ≤ _; exact Nat.zero_le _, by show 0 ≤ _; exact Nat.zero_le _, _, rfl, nn_3_2⟩)
  dsimp only [Pt.U, Pt.locs, Pt.cells, Pt.slots] at X_3_2 y1_3_2 y2_3_2 y3_3_2 y4_3_2 st_3_2 hv_3_2
  subst y2_3_2 y3_3_2 y4_3_2
  have hv2_3_2 := hv_3_2 _ ⟨rfl, nn_3_2⟩
  rw [if_pos ((Jvm.Free.Fl.le_max_iff nn_3_2).mpr (Jvm.Free.Fl.i2d_fin _))] at hv2_3_2
  subst hv2_3_2
  have e_3_2 := y1_3_2.trans e_3_1
  refine ogo (fun _ k => st_3_2 _ k) ?_
  show OGo _ _ _ _ (T_3_2.setTop (mkF m 8 #[.val (.ref ob), .val (.double (FP.i2d q1)), .second, .val (.ref fi)] [(.int (1 : Int32))]))
  refine ogo (fun _ k => XS.ifNo X_3_2.here hx rfl (hb hby d3_8) rfl ((if0 _ _).trans (feq (by decide : ¬ ((1 : Int32) = (0 : Int32)))).1) k) ?_
  show OGo _ _ _ _ (T_3_2.setTop (mkF m 11 #[.val (.ref ob), .val (.double (FP.i2d q1)), .second, .val (.ref fi)] []))
  refine ogo (fun _ k => XS.dloadN X_3_2.here hx rfl (hb hby d3_11) rfl k) ?_
  show OGo _ _ _ _ (T_3_2.setTop (mkF m 12 #[.val (.ref ob), .val (.double (FP.i2d q1)), .second, .val (.ref fi)] [(.double (FP.i2d q1))]))
  refine ogo (fun _ k => XS.dconst0 X_3_2.here hx rfl (hb hby d3_12) own_d0 k) ?_
  show OGo _ _ _ _ (T_3_2.setTop (mkF m 13 #[.val (.ref ob), .val (.double (FP.i2d q1)), .second, .val (.ref fi)] [(.double (FP.i2d (0 : Int32))), (.double (FP.i2d q1))]))
  refine ogo (fun _ k => XS.dcmpS X_3_2.here hx rfl (hb hby d3_13) rfl (own_dc _ _ _) k) ?_
  show OGo _ _ _ _ (T_3_2.setTop (mkF m 14 #[.val (.ref ob), .val (.double (FP.i2d q1)), .second, .val (.ref fi)] [(.int (lcmpW q1.toInt64 (0 : Int32).toInt64))]))
  refine ogo (fun _ k => XS.ifYes X_3_2.here hx rfl (pc0 := 14) (pc' := 41) rfl (hb hby d3_14) rfl ((if0 _ _).trans (flt (fun q => (show ¬ (q1.toInt64 < (0 : Int32).toInt64) from by rw [Int64.lt_iff_toInt_lt, c_i2l, c_i2l]; have o : (0 : Int32).toInt = 0 := rfl; omega) ((lw_lt _ _).mp q))).2.1) (by decide) (by decide) k) ?_
  show OGo _ _ _ _ (T_3_2.setTop (mkF m 41 #[.val (.ref ob), .val (.double (FP.i2d q1)), .second, .val (.ref fi)] []))
  refine ogo (fun _ k => XS.aloadN X_3_2.here hx rfl (hb hby d3_41) rfl rfl k) ?_
  show OGo _ _ _ _ (T_3_2.setTop (mkF m 42 #[.val (.ref ob), .val (.double (FP.i2d q1)), .second, .val (.ref fi)] [(.ref ob)]))
  refine ogo (fun _ k => XS.dloadN X_3_2.here hx rfl (hb hby d3_42) rfl k) ?_
  show OGo _ _ _ _ (T_3_2.setTop (mkF m 43 #[.val (.ref ob), .val (.double (FP.i2d q1)), .second, .val (.ref fi)] [(.double (FP.i2d q1)), (.ref ob)]))
  obtain ⟨T_3_3, h_3_3, X_3_3, e_3_3, W_3_3, st_3_3⟩ := putF X_3_2 hx hZ hown (host := "") (Or.inl (hw _ (List.mem_of_getElem? (i := 38) rfl))) Via.refl e_3_2 P1 P0 (Or.inr ⟨(hw _ (List.mem_of_getElem? (i := 39) rfl)), rfl, hnm⟩) (hw _ (List.mem_of_getElem? (i := 3) rfl)) (ty := .double) (by decide) rfl rfl (g := (mkF m 43 #[.val (.ref ob), .val (.double (FP.i2d q1)), .second, .val (.ref fi)] [(.double (FP.i2d q1)), (.ref ob)])) rfl rfl (hb hby d3_43)
  have K_3_3 := K0.wr W_3_3 (Or.inl (List.mem_of_getElem? (i := 0) rfl))
  have f_3_4 := P0.wr W_3_3
  have f_3_5 := P1.same W_3_3
  have f_3_6 := P2.other W_3_3 (Or.inr (slot_ne (Or.inr (hw _ (List.mem_of_getElem? (i := 41) rfl))) (Or.inr (hw _ (List.mem_of_getElem? (i := 39) rfl))) (by decide) (t := (.object "com/example/gol_gumbaz/golgumbaz/envelope/BloomFilter")) (t' := .double) (by decide) (by decide)))
  have Z_3_3 : n0 ≤ h_3_3.size := Nat.le_trans Z0 (Keep.of_wr W_3_3).1
  obtain ⟨lc_3_3, N_3_3, X_3_3⟩ : ∃ L, Fr n0 L ∧ Stand p l e ({ frames := 2, cells := 0, slots := 0, locals := 26 } : Room) s m #[(.ref ob), (.double (FP.i2d q1)), (.ref fi)] below meth c T_3_3 L 0 0 := ⟨_, Fr.snoc X_3_3 N0 g_ob, X_3_3⟩
  refine ogo (fun _ k => st_3_3 _ k) ?_
  show OGo _ _ _ _ (T_3_3.setTop (mkF m 46 #[.val (.ref ob), .val (.double (FP.i2d q1)), .second, .val (.ref fi)] []))
  refine ogo (fun _ k => XS.aloadN X_3_3.here hx rfl (hb hby d3_46) rfl rfl k) ?_
  show OGo _ _ _ _ (T_3_3.setTop (mkF m 47 #[.val (.ref ob), .val (.double (FP.i2d q1)), .second, .val (.ref fi)] [(.ref ob)]))
  refine ogo (fun _ k => XS.aloadN X_3_3.here hx rfl (hb hby d3_47) rfl rfl k) ?_
  show OGo _ _ _ _ (T_3_3.setTop (mkF m 48 #[.val (.ref ob), .val (.double (FP.i2d q1)), .second, .val (.ref fi)] [(.ref fi), (.ref ob)]))
  obtain ⟨T_3_7, h_3_7, X_3_7, e_3_7, W_3_7, st_3_7⟩ := putF X_3_3 hx hZ hown (host := "") (Or.inl (hw _ (List.mem_of_getElem? (i := 40) rfl))) Via.refl e_3_3 f_3_6 f_3_4 (Or.inr ⟨(hw _ (List.mem_of_getElem? (i := 41) rfl)), rfl, hnm⟩) (hw _ (List.mem_of_getElem? (i := 3) rfl)) (ty := (.object "com/example/gol_gumbaz/golgumbaz/envelope/BloomFilter")) (by decide) rfl rfl (g := (mkF m 48 #[.val (.ref ob), .val (.double (FP.i2d q1)), .second, .val (.ref fi)] [(.ref fi), (.ref ob)])) rfl rfl (hb hby d3_48)
  have K_3_7 := K_3_3.wr W_3_7 (Or.inl (List.mem_of_getElem? (i := 0) rfl))
  have f_3_8 := f_3_4.wr W_3_7
  have f_3_9 := f_3_5.other W_3_7 (Or.inr (slot_ne (Or.inr (hw _ (List.mem_of_getElem? (i := 39) rfl))) (Or.inr (hw _ (List.mem_of_getElem? (i := 41) rfl))) (by decide) (t := .double) (t' := (.object "com/example/gol_gumbaz/golgumbaz/envelope/BloomFilter")) (by decide) (by decide)))
  have f_3_10 := f_3_6.same W_3_7
  have Z_3_7 : n0 ≤ h_3_7.size := Nat.le_trans Z_3_3 (Keep.of_wr W_3_7).1
  obtain ⟨lc_3_7, N_3_7, X_3_7⟩ : ∃ L, Fr n0 L ∧ Stand p l e ({ frames := 2, cells := 0, slots := 0, locals := 26 } : Room) s m #[(.ref ob), (.double (FP.i2d q1)), (.ref fi)] below meth c T_3_7 L 0 0 := ⟨_, Fr.snoc X_3_7 N_3_3 g_ob, X_3_7⟩
  refine ogo (fun _ k => st_3_7 _ k) ?_
  show OGo _ _ _ _ (T_3_7.setTop (mkF m 51 #[.val (.ref ob), .val (.double (FP.i2d q1)), .second, .val (.ref fi)] []))
  exact oretV X_3_7 hx hlk Bd.returns (hb hby d3_51) (by decide) (by decide) (by rw [e_3_7]; exact ⟨rfl, N_3_7, K_3_7, f_3_9, f_3_10⟩)
theorem own_nn {w x : Int32} (h : w = x &&& (2147483647 : Int32)) : 0 ≤ w.toInt := by
  have q := c_mask x (2147483647 : Int32) 31 (by decide) (by decide)
  rw [h]
  omega
def own_bad (fa fb : Nat → Int32) (q : Nat) : Int32 := fb q &&& (fa q ^^^ (-1 : Int32))
def hasAllF (fa fb : Nat → Int32) : Int32 := if (List.range 64).all (fun q => own_bad fa fb q == (0 : Int32)) = true then (1 : Int32) else (0 : Int32)
theorem own_iff {fa fb : Nat → Int32} : (List.range 64).all (fun q => own_bad fa fb q == (0 : Int32)) = true ↔ ∀ q, q < 64 → own_bad fa fb q = (0 : Int32) := by simp [List.all_eq_true]
theorem own_hp {fa fb : Nat → Int32} (h : ∀ q, q < 64 → own_bad fa fb q = (0 : Int32)) : hasAllF fa fb = (1 : Int32) := by rw [hasAllF, if_pos (own_iff.mpr h)]
theorem own_hn {fa fb : Nat → Int32} (h : ¬ ∀ q, q < 64 → own_bad fa fb q = (0 : Int32)) : hasAllF fa fb = (0 : Int32) := by rw [hasAllF, if_neg (fun z => h (own_iff.mp z))]
theorem d9_0 : decode prog_6_method_8_code 0 = .ok (.iconst 0, 1) := by decide +kernel
theorem d9_1 : decode prog_6_method_8_code 1 = .ok (.istore_n 2, 1) := by decide +kernel
theorem d9_2 : decode prog_6_method_8_code 2 = .ok (.iload_n 2, 1) := by decide +kernel
theorem d9_3 : decode prog_6_method_8_code 3 = .ok (.aload_n 0, 1) := by decide +kernel
theorem d9_4 : decode prog_6_method_8_code 4 = .ok (.getfield 34, 3) := by decide +kernel
theorem d9_7 : decode prog_6_method_8_code 7 = .ok (.arraylength, 1) := by decide +kernel
theorem d9_8 : decode prog_6_method_8_code 8 = .ok (.if_icmp .ge 29, 3) := by decide +kernel
theorem d9_11 : decode prog_6_method_8_code 11 = .ok (.aload_n 1, 1) := by decide +kernel
theorem d9_12 : decode prog_6_method_8_code 12 = .ok (.getfield 34, 3) := by decide +kernel
theorem d9_15 : decode prog_6_method_8_code 15 = .ok (.iload_n 2, 1) := by decide +kernel
theorem d9_16 : decode prog_6_method_8_code 16 = .ok (.baload, 1) := by decide +kernel
theorem d9_17 : decode prog_6_method_8_code 17 = .ok (.aload_n 0, 1) := by decide +kernel
theorem d9_18 : decode prog_6_method_8_code 18 = .ok (.getfield 34, 3) := by decide +kernel
theorem d9_21 : decode prog_6_method_8_code 21 = .ok (.iload_n 2, 1) := by decide +kernel
theorem d9_22 : decode prog_6_method_8_code 22 = .ok (.baload, 1) := by decide +kernel
theorem d9_23 : decode prog_6_method_8_code 23 = .ok (.iconst (-1), 1) := by decide +kernel
theorem d9_24 : decode prog_6_method_8_code 24 = .ok (.ixor, 1) := by decide +kernel
theorem d9_25 : decode prog_6_method_8_code 25 = .ok (.iand, 1) := by decide +kernel
theorem d9_26 : decode prog_6_method_8_code 26 = .ok (.ifCond .eq 5, 3) := by decide +kernel
theorem d9_29 : decode prog_6_method_8_code 29 = .ok (.iconst 0, 1) := by decide +kernel
theorem d9_30 : decode prog_6_method_8_code 30 = .ok (.ireturn, 1) := by decide +kernel
theorem d9_31 : decode prog_6_method_8_code 31 = .ok (.iinc 2 1, 3) := by decide +kernel
theorem d9_34 : decode prog_6_method_8_code 34 = .ok (.goto (-32), 3) := by decide +kernel
theorem d9_37 : decode prog_6_method_8_code 37 = .ok (.iconst 1, 1) := by decide +kernel
theorem d9_38 : decode prog_6_method_8_code 38 = .ok (.ireturn, 1) := by decide +kernel
theorem pn_9 : plainName "com/example/gol_gumbaz/golgumbaz/envelope/BloomFilter" = true := by first | (simp [plainName, overriddenIn]; done) | decide +kernel
theorem ef_9 (m : MethodId) (x0 : Addr) (x1 : Addr) : entryFrame m #[(.ref x0), (.ref x1)] 3 = mkF m 0 #[.val (.ref x0), .val (.ref x1), .unset] [] := by first | (simp [entryFrame, mkF, argsToLocals, Value.category]; done) | rfl
set_option maxRecDepth 65536 in
set_option maxHeartbeats 40000000 in
theorem rm9 (l : Launch) (Z : State) (a0 : Array Value) (hw : ∀ d ∈ tables_1, d.before a0 Z = true) (ob : Addr) (oc : Addr) (ca : Addr) (cb : Addr) (fa : Nat → Int32) (fb : Nat → Int32) (h0 : Heap) (P0 : Fld Z h0 ob "com/example/gol_gumbaz/golgumbaz/envelope/BloomFilter" "bytes" "[B" (.ref ca)) (P1 : Fld Z h0 oc "com/example/gol_gumbaz/golgumbaz/envelope/BloomFilter" "bytes" "[B" (.ref cb)) (P2 : OAr Z h0 ca .byte 64 (fun i => .int (fa i))) (P3 : OAr Z h0 cb .byte 64 (fun i => .int (fb i))) :
    OMet l Z (⟨"com/example/gol_gumbaz/golgumbaz/envelope/BloomFilter", "hasAll", "(Lcom/example/gol_gumbaz/golgumbaz/envelope/BloomFilter;)Z"⟩ : MethodName) prog_6_method_8_code 3 (some .boolean) ({ frames := 0, cells := 0, slots := 0, locals := 0 } : Room) #[(.ref ob), (.ref oc)] h0 (OPure (some (.int (hasAllF fa fb))) h0) := by
  intro ws
  refine MetFree.of_bodySF (plainFor_of_name pn_9) hisR ?_
  intro p e s m args below meth c s₁ Bd hml0 hP hK
  obtain ⟨rfl, hZ, hh⟩ := hP
  have hx := Bd.exec
  have hby := Bd.bytes
  have hml : c.maxLocals = 3 := hml0
  have hown : s.vm.findClass "com/example/gol_gumbaz/golgumbaz/envelope/BloomFilter" = some m.cls := findClass_of_methodNamed Bd.named
  have hnm := (name_of_methodNamed Bd.named Bd.method).1
  have hlk : meth.locks = false := Bd.notSynchronized
  have X0 : Stand p l e ({ frames := 0, cells := 0, slots := 0, locals := 0 } : Room) s m #[(.ref ob), (.ref oc)] below meth c s₁ [] 0 0 := Stand.of_body Bd
  have e0 : s₁.heap = h0 := by rw [← hh, Bd.state]; rfl
  refine (?_ : OGo p.tables e below (OFin s (OPure (some (.int (hasAllF fa fb))) h0) 0 0) _)
  refine ogo (fun _ k => castTop (ef_9 m ob oc) k) ?_
  show OGo _ _ _ _ (s₁.setTop (mkF m 0 #[.val (.ref ob), .val (.ref oc), .unset] []))
  refine ogo (fun _ k => XS.iconst X0.here hx rfl (hb hby d9_0) k) ?_
  show OGo _ _ _ _ (s₁.setTop (mkF m 1 #[.val (.ref ob), .val (.ref oc), .unset] [(.int (0 : Int32))]))
  refine ogo (fun _ k => XS.istoreN X0.here hx rfl (hb hby d9_1) rfl (l' := #[.val (.ref ob), .val (.ref oc), .val (.int (0 : Int32))]) rfl k) ?_
  show OGo _ _ _ _ (s₁.setTop (mkF m 2 #[.val (.ref ob), .val (.ref oc), .val (.int (0 : Int32))] []))
  suffices LP : ∀ (kk j : Nat) (i : Int32) (hi : i.toInt = (j : Int)) (hj : j + kk = 64) (hok : ∀ q, q < j → own_bad fa fb q = (0 : Int32)) (T : State) (X : Stand p l e ({ frames := 0, cells := 0, slots := 0, locals := 0 } : Room) s m #[(.ref ob), (.ref oc)] below meth c T [] 0 0) (e1 : T.heap = h0), OGo p.tables e below (OFin s (OPure (some (.int (hasAllF fa fb))) h0) 0 0) (T.setTop (mkF m 2 #[.val (.ref ob), .val (.ref oc), .val (.int i)] [])) from LP 64 0 (0 : Int32) rfl rfl (fun q hq => absurd hq (Nat.not_lt_zero q)) _ X0 e0
  intro kk
  induction kk with
  | zero =>
    intro j i hi hj hok T X e1
    have i64 : (64 : Int32).toInt = 64 := rfl
    have hn : i.toNatClampNeg = j := by simp only [Int32.toNatClampNeg, hi]; omega
    have hlt : ¬ i < (64 : Int32) := by rw [Int32.lt_iff_toInt_lt, i64]; omega
    show OGo _ _ _ _ (T.setTop (mkF m 2 #[.val (.ref ob), .val (.ref oc), .val (.int i)] []))
    refine ogo (fun _ k => XS.iloadN X.here hx rfl (hb hby d9_2) rfl k) ?_
    show OGo _ _ _ _ (T.setTop (mkF m 3 #[.val (.ref ob), .val (.ref oc), .val (.int i)] [(.int i)]))
    refine ogo (fun _ k => XS.aloadN X.here hx rfl (hb hby d9_3) rfl rfl k) ?_
    show OGo _ _ _ _ (T.setTop (mkF m 4 #[.val (.ref ob), .val (.ref oc), .val (.int i)] [(.ref ob), (.int i)]))
    obtain ⟨T_9_1, X_9_1, e_9_1, st_9_1⟩ := getF X hx hZ hown (host := "") (Or.inl (hw _ (List.mem_of_getElem? (i := 23) rfl))) Via.refl e1 P0 (g := (mkF m 4 #[.val (.ref ob), .val (.ref oc), .val (.int i)] [(.ref ob), (.int i)])) rfl rfl (hb hby d9_4)
    refine ogo (fun _ k => st_9_1 _ k) ?_
    show OGo _ _ _ _ (T_9_1.setTop (mkF m 7 #[.val (.ref ob), .val (.ref oc), .val (.int i)] [(.ref ca), (.int i)]))
    refine ogo (fun _ k => oalen X_9_1 hx hZ e_9_1 P2 (g := (mkF m 7 #[.val (.ref ob), .val (.ref oc), .val (.int i)] [(.ref ca), (.int i)])) rfl rfl (hb hby d9_7) _ k) ?_
    show OGo _ _ _ _ (T_9_1.setTop (mkF m 8 #[.val (.ref ob), .val (.ref oc), .val (.int i)] [(.int (64 : Int32)), (.int i)]))
    refine ogo (fun _ k => XS.icmpYes X_9_1.here hx rfl (pc0 := 8) (pc' := 37) rfl (hb hby d9_8) rfl (flt hlt).2.1 (by decide) (by decide) k) ?_
    show OGo _ _ _ _ (T_9_1.setTop (mkF m 37 #[.val (.ref ob), .val (.ref oc), .val (.int i)] []))
    refine ogo (fun _ k => XS.iconst X_9_1.here hx rfl (hb hby d9_37) k) ?_
    show OGo _ _ _ _ (T_9_1.setTop (mkF m 38 #[.val (.ref ob), .val (.ref oc), .val (.int i)] [(.int (1 : Int32))]))
    exact oret X_9_1 hx hlk Bd.returns rfl (Or.inl ⟨rfl, Or.inr (Or.inl rfl), _, rfl⟩) (hb hby d9_38) (by decide) (by decide) ⟨by rw [own_hp (fun q hq => hok q (by omega))], rfl, e_9_1⟩
  | succ kk ih =>
    intro j i hi hj hok T X e1
    have i64 : (64 : Int32).toInt = 64 := rfl
    have hn : i.toNatClampNeg = j := by simp only [Int32.toNatClampNeg, hi]; omega
    have hlt : i < (64 : Int32) := by rw [Int32.lt_iff_toInt_lt, i64]; omega
    show OGo _ _ _ _ (T.setTop (mkF m 2 #[.val (.ref ob), .val (.ref oc), .val (.int i)] []))
    refine ogo (fun _ k => XS.iloadN X.here hx rfl (hb hby d9_2) rfl k) ?_
    show OGo _ _ _ _ (T.setTop (mkF m 3 #[.val (.ref ob), .val (.ref oc), .val (.int i)] [(.int i)]))
    refine ogo (fun _ k => XS.aloadN X.here hx rfl (hb hby d9_3) rfl rfl k) ?_
    show OGo _ _ _ _ (T.setTop (mkF m 4 #[.val (.ref ob), .val (.ref oc), .val (.int i)] [(.ref ob), (.int i)]))
    obtain ⟨T_9_2, X_9_2, e_9_2, st_9_2⟩ := getF X hx hZ hown (host := "") (Or.inl (hw _ (List.mem_of_getElem? (i := 23) rfl))) Via.refl e1 P0 (g := (mkF m 4 #[.val (.ref ob), .val (.ref oc), .val (.int i)] [(.ref ob), (.int i)])) rfl rfl (hb hby d9_4)
    refine ogo (fun _ k => st_9_2 _ k) ?_
    show OGo _ _ _ _ (T_9_2.setTop (mkF m 7 #[.val (.ref ob), .val (.ref oc), .val (.int i)] [(.ref ca), (.int i)]))
    refine ogo (fun _ k => oalen X_9_2 hx hZ e_9_2 P2 (g := (mkF m 7 #[.val (.ref ob), .val (.ref oc), .val (.int i)] [(.ref ca), (.int i)])) rfl rfl (hb hby d9_7) _ k) ?_
    show OGo _ _ _ _ (T_9_2.setTop (mkF m 8 #[.val (.ref ob), .val (.ref oc), .val (.int i)] [(.int (64 : Int32)), (.int i)]))
    refine ogo (fun _ k => XS.icmpNo X_9_2.here hx rfl (hb hby d9_8) rfl (tlt hlt).2.1 k) ?_
    show OGo _ _ _ _ (T_9_2.setTop (mkF m 11 #[.val (.ref ob), .val (.ref oc), .val (.int i)] []))
    refine ogo (fun _ k => XS.aloadN X_9_2.here hx rfl (hb hby d9_11) rfl rfl k) ?_
    show OGo _ _ _ _ (T_9_2.setTop (mkF m 12 #[.val (.ref ob), .val (.ref oc), .val (.int i)] [(.ref oc)]))
    obtain ⟨T_9_3, X_9_3, e_9_3, st_9_3⟩ := getF X_9_2 hx hZ hown (host := "") (Or.inl (hw _ (List.mem_of_getElem? (i := 23) rfl))) Via.refl e_9_2 P1 (g := (mkF m 12 #[.val (.ref ob), .val (.ref oc), .val (.int i)] [(.ref oc)])) rfl rfl (hb hby d9_12)
    refine ogo (fun _ k => st_9_3 _ k) ?_
    show OGo _ _ _ _ (T_9_3.setTop (mkF m 15 #[.val (.ref ob), .val (.ref oc), .val (.int i)] [(.ref cb)]))
    refine ogo (fun _ k => XS.iloadN X_9_3.here hx rfl (hb hby d9_15) rfl k) ?_
    show OGo _ _ _ _ (T_9_3.setTop (mkF m 16 #[.val (.ref ob), .val (.ref oc), .val (.int i)] [(.int i), (.ref cb)]))
    refine ogo (fun _ k => oldB X_9_3 hx hZ e_9_3 P3 (by omega) (by omega) (g := (mkF m 16 #[.val (.ref ob), .val (.ref oc), .val (.int i)] [(.int i), (.ref cb)])) rfl rfl (hb hby d9_16) _ k) ?_
    show OGo _ _ _ _ (T_9_3.setTop (mkF m 17 #[.val (.ref ob), .val (.ref oc), .val (.int i)] [(.int (fb (i).toNatClampNeg))]))
    refine ogo (fun _ k => XS.aloadN X_9_3.here hx rfl (hb hby d9_17) rfl rfl k) ?_
    show OGo _ _ _ _ (T_9_3.setTop (mkF m 18 #[.val (.ref ob), .val (.ref oc), .val (.int i)] [(.ref ob), (.int (fb (i).toNatClampNeg))]))
    obtain ⟨T_9_4, X_9_4, e_9_4, st_9_4⟩ := getF X_9_3 hx hZ hown (host := "") (Or.inl (hw _ (List.mem_of_getElem? (i := 23) rfl))) Via.refl e_9_3 P0 (g := (mkF m 18 #[.val (.ref ob), .val (.ref oc), .val (.int i)] [(.ref ob), (.int (fb (i).toNatClampNeg))])) rfl rfl (hb hby d9_18)
    refine ogo (fun _ k => st_9_4 _ k) ?_
    show OGo _ _ _ _ (T_9_4.setTop (mkF m 21 #[.val (.ref ob), .val (.ref oc), .val (.int i)] [(.ref ca), (.int (fb (i).toNatClampNeg))]))
    refine ogo (fun _ k => XS.iloadN X_9_4.here hx rfl (hb hby d9_21) rfl k) ?_
    show OGo _ _ _ _ (T_9_4.setTop (mkF m 22 #[.val (.ref ob), .val (.ref oc), .val (.int i)] [(.int i), (.ref ca), (.int (fb (i).toNatClampNeg))]))
    refine ogo (fun _ k => oldB X_9_4 hx hZ e_9_4 P2 (by omega) (by omega) (g := (mkF m 22 #[.val (.ref ob), .val (.ref oc), .val (.int i)] [(.int i), (.ref ca), (.int (fb (i).toNatClampNeg))])) rfl rfl (hb hby d9_22) _ k) ?_
    show OGo _ _ _ _ (T_9_4.setTop (mkF m 23 #[.val (.ref ob), .val (.ref oc), .val (.int i)] [(.int (fa (i).toNatClampNeg)), (.int (fb (i).toNatClampNeg))]))
    refine ogo (fun _ k => XS.iconst X_9_4.here hx rfl (hb hby d9_23) k) ?_
    show OGo _ _ _ _ (T_9_4.setTop (mkF m 24 #[.val (.ref ob), .val (.ref oc), .val (.int i)] [(.int (-1 : Int32)), (.int (fa (i).toNatClampNeg)), (.int (fb (i).toNatClampNeg))]))
    refine ogo (fun _ k => XS.ixor X_9_4.here hx rfl (hb hby d9_24) rfl k) ?_
    show OGo _ _ _ _ (T_9_4.setTop (mkF m 25 #[.val (.ref ob), .val (.ref oc), .val (.int i)] [(.int ((fa (i).toNatClampNeg) ^^^ (-1 : Int32))), (.int (fb (i).toNatClampNeg))]))
    refine ogo (fun _ k => XS.iand X_9_4.here hx rfl (hb hby d9_25) rfl k) ?_
    show OGo _ _ _ _ (T_9_4.setTop (mkF m 26 #[.val (.ref ob), .val (.ref oc), .val (.int i)] [(.int ((fb (i).toNatClampNeg) &&& ((fa (i).toNatClampNeg) ^^^ (-1 : Int32))))]))
    by_cases hc_9_5 : ((fb (i).toNatClampNeg) &&& ((fa (i).toNatClampNeg) ^^^ (-1 : Int32))) = (0 : Int32)
    · refine ogo (fun _ k => XS.ifYes X_9_4.here hx rfl (pc0 := 26) (pc' := 31) rfl (hb hby d9_26) rfl ((if0 _ _).trans (teq hc_9_5).1) (by decide) (by decide) k) ?_
      show OGo _ _ _ _ (T_9_4.setTop (mkF m 31 #[.val (.ref ob), .val (.ref oc), .val (.int i)] []))
      refine ogo (fun _ k => XS.iinc X_9_4.here hx rfl (hb hby d9_31) rfl (l' := #[.val (.ref ob), .val (.ref oc), .val (.int (i + (1 : Int32)))]) rfl k) ?_
      show OGo _ _ _ _ (T_9_4.setTop (mkF m 34 #[.val (.ref ob), .val (.ref oc), .val (.int (i + (1 : Int32)))] []))
      refine ogo (fun _ k => XS.goto X_9_4.here hx rfl (pc0 := 34) (pc' := 2) rfl (hb hby d9_34) (by decide) (by decide) k) ?_
      show OGo _ _ _ _ (T_9_4.setTop (mkF m 2 #[.val (.ref ob), .val (.ref oc), .val (.int (i + (1 : Int32)))] []))
      exact ih (j + 1) _ (own_inc hi (by omega)) (by omega) (fun q hq => (Nat.lt_succ_iff_lt_or_eq.mp hq).elim (hok q) (fun u => by subst u; rw [← hn]; exact hc_9_5)) _ X_9_4 e_9_4
    · refine ogo (fun _ k => XS.ifNo X_9_4.here hx rfl (hb hby d9_26) rfl ((if0 _ _).trans (feq hc_9_5).1) k) ?_
      show OGo _ _ _ _ (T_9_4.setTop (mkF m 29 #[.val (.ref ob), .val (.ref oc), .val (.int i)] []))
      refine ogo (fun _ k => XS.iconst X_9_4.here hx rfl (hb hby d9_29) k) ?_
      show OGo _ _ _ _ (T_9_4.setTop (mkF m 30 #[.val (.ref ob), .val (.ref oc), .val (.int i)] [(.int (0 : Int32))]))
      exact oret X_9_4 hx hlk Bd.returns rfl (Or.inl ⟨rfl, Or.inr (Or.inl rfl), _, rfl⟩) (hb hby d9_30) (by decide) (by decide) ⟨by rw [own_hn (fun z => hc_9_5 (by have u := z j (by omega); rw [← hn] at u; exact u))], rfl, e_9_4⟩
theorem d8_0 : decode prog_26_method_7_code 0 = .ok (.aload_n 0, 1) := by decide +kernel
theorem d8_1 : decode prog_26_method_7_code 1 = .ok (.getfield 30, 3) := by decide +kernel
theorem d8_4 : decode prog_26_method_7_code 4 = .ok (.aload_n 1, 1) := by decide +kernel
theorem d8_5 : decode prog_26_method_7_code 5 = .ok (.getfield 30, 3) := by decide +kernel
theorem d8_8 : decode prog_26_method_7_code 8 = .ok (.dcmp .g, 1) := by decide +kernel
theorem d8_9 : decode prog_26_method_7_code 9 = .ok (.ifCond .gt 21, 3) := by decide +kernel
theorem d8_12 : decode prog_26_method_7_code 12 = .ok (.aload_n 0, 1) := by decide +kernel
theorem d8_13 : decode prog_26_method_7_code 13 = .ok (.getfield 36, 3) := by decide +kernel
theorem d8_16 : decode prog_26_method_7_code 16 = .ok (.aload_n 1, 1) := by decide +kernel
theorem d8_17 : decode prog_26_method_7_code 17 = .ok (.getfield 36, 3) := by decide +kernel
theorem d8_20 : decode prog_26_method_7_code 20 = .ok (.invokevirtual 55, 3) := by decide +kernel
theorem d8_23 : decode prog_26_method_7_code 23 = .ok (.ifCond .eq 7, 3) := by decide +kernel
theorem d8_26 : decode prog_26_method_7_code 26 = .ok (.iconst 1, 1) := by decide +kernel
theorem d8_27 : decode prog_26_method_7_code 27 = .ok (.goto 4, 3) := by decide +kernel
theorem d8_30 : decode prog_26_method_7_code 30 = .ok (.iconst 0, 1) := by decide +kernel
theorem d8_31 : decode prog_26_method_7_code 31 = .ok (.ireturn, 1) := by decide +kernel
theorem pn_8 : plainName "com/example/gol_gumbaz/golgumbaz/shh/Admission" = true := by first | (simp [plainName, overriddenIn]; done) | decide +kernel
theorem ef_8 (m : MethodId) (x0 : Addr) (x1 : Addr) : entryFrame m #[(.ref x0), (.ref x1)] 2 = mkF m 0 #[.val (.ref x0), .val (.ref x1)] [] := by first | (simp [entryFrame, mkF, argsToLocals, Value.category]; done) | rfl
theorem pd__Lcom_example_gol_gumbaz_golgumbaz_envelope_BloomFilter__Z : parseMethodDescriptor "(Lcom/example/gol_gumbaz/golgumbaz/envelope/BloomFilter;)Z" = some ⟨[(.object "com/example/gol_gumbaz/golgumbaz/envelope/BloomFilter")], some .boolean⟩ := by decide +kernel
def takesF  (u1 : Int32) (u2 : Int32)     (fa : Nat → Int32) (fb : Nat → Int32) : Int32 := (let w_8_11 : Int32 := (if u2.toInt64 < u1.toInt64 then (0 : Int32) else (if (hasAllF fa fb) = (0 : Int32) then (0 : Int32) else (1 : Int32))); w_8_11)
set_option maxRecDepth 65536 in
set_option maxHeartbeats 40000000 in
theorem rm8 (l : Launch) (Z : State) (a0 : Array Value) (hw : ∀ d ∈ tables_1, d.before a0 Z = true) (oa : Addr) (oc : Addr) (u1 : Int32) (u2 : Int32) (f1 : Addr) (f2 : Addr) (ca : Addr) (cb : Addr) (fa : Nat → Int32) (fb : Nat → Int32) (h0 : Heap) (P0 : Fld Z h0 oa "com/example/gol_gumbaz/golgumbaz/shh/Admission" "minPow" "D" (.double (FP.i2d u1))) (P1 : Fld Z h0 oc "com/example/gol_gumbaz/golgumbaz/shh/Admission" "minPow" "D" (.double (FP.i2d u2))) (P2 : Fld Z h0 oa "com/example/gol_gumbaz/golgumbaz/shh/Admission" "filter" "Lcom/example/gol_gumbaz/golgumbaz/envelope/BloomFilter;" (.ref f1)) (P3 : Fld Z h0 oc "com/example/gol_gumbaz/golgumbaz/shh/Admission" "filter" "Lcom/example/gol_gumbaz/golgumbaz/envelope/BloomFilter;" (.ref f2)) (P4 : Exa Z h0 f1 "com/example/gol_gumbaz/golgumbaz/envelope/BloomFilter") (P5 : Fld Z h0 f1 "com/example/gol_gumbaz/golgumbaz/envelope/BloomFilter" "bytes" "[B" (.ref ca)) (P6 : Fld Z h0 f2 "com/example/gol_gumbaz/golgumbaz/envelope/BloomFilter" "bytes" "[B" (.ref cb)) (P7 : OAr Z h0 ca .byte 64 (fun i => .int (fa i))) (P8 : OAr Z h0 cb .byte 64 (fun i => .int (fb i))) :
    OMet l Z (⟨"com/example/gol_gumbaz/golgumbaz/shh/Admission", "takesAll", "(Lcom/example/gol_gumbaz/golgumbaz/shh/Admission;)Z"⟩ : MethodName) prog_26_method_7_code 2 (some .boolean) ({ frames := 1, cells := 0, slots := 0, locals := 14 } : Room) #[(.ref oa), (.ref oc)] h0 (OPure (some (.int (takesF u1 u2 fa fb))) h0) := by
  intro ws
  refine MetFree.of_bodySF (plainFor_of_name pn_8) hisR ?_
  intro p e s m args below meth c s₁ Bd hml0 hP hK
  obtain ⟨rfl, hZ, hh⟩ := hP
  have hx := Bd.exec
  have hby := Bd.bytes
  have hml : c.maxLocals = 2 := hml0
  have hown : s.vm.findClass "com/example/gol_gumbaz/golgumbaz/shh/Admission" = some m.cls := findClass_of_methodNamed Bd.named
  have hnm := (name_of_methodNamed Bd.named Bd.method).1
  have hlk : meth.locks = false := Bd.notSynchronized
  have X0 : Stand p l e ({ frames := 1, cells := 0, slots := 0, locals := 14 } : Room) s m #[(.ref oa), (.ref oc)] below meth c s₁ [] 0 0 := Stand.of_body Bd
  have e0 : s₁.heap = h0 := by rw [← hh, Bd.state]; rfl
  refine (?_ : OGo p.tables e below (OFin s (OPure (some (.int (takesF u1 u2 fa fb))) h0) 0 0) _)
  refine ogo (fun _ k => castTop (ef_8 m oa oc) k) ?_
  show OGo _ _ _ _ (s₁.setTop (mkF m 0 #[.val (.ref oa), .val (.ref oc)] []))
  refine ogo (fun _ k => XS.aloadN X0.here hx rfl (hb hby d8_0) rfl rfl k) ?_
  show OGo _ _ _ _ (s₁.setTop (mkF m 1 #[.val (.ref oa), .val (.ref oc)] [(.ref oa)]))
  obtain ⟨T_8_1, X_8_1, e_8_1, st_8_1⟩ := getF X0 hx hZ hown (host := "") (Or.inl (hw _ (List.mem_of_getElem? (i := 38) rfl))) Via.refl e0 P0 (g := (mkF m 1 #[.val (.ref oa), .val (.ref oc)] [(.ref oa)])) rfl rfl (hb hby d8_1)
  refine ogo (fun _ k => st_8_1 _ k) ?_
  show OGo _ _ _ _ (T_8_1.setTop (mkF m 4 #[.val (.ref oa), .val (.ref oc)] [(.double (FP.i2d u1))]))
  refine ogo (fun _ k => XS.aloadN X_8_1.here hx rfl (hb hby d8_4) rfl rfl k) ?_
  show OGo _ _ _ _ (T_8_1.setTop (mkF m 5 #[.val (.ref oa), .val (.ref oc)] [(.ref oc), (.double (FP.i2d u1))]))
  obtain ⟨T_8_2, X_8_2, e_8_2, st_8_2⟩ := getF X_8_1 hx hZ hown (host := "") (Or.inl (hw _ (List.mem_of_getElem? (i := 38) rfl))) Via.refl e_8_1 P1 (g := (mkF m 5 #[.val (.ref oa), .val (.ref oc)] [(.ref oc), (.double (FP.i2d u1))])) rfl rfl (hb hby d8_5)
  refine ogo (fun _ k => st_8_2 _ k) ?_
  show OGo _ _ _ _ (T_8_2.setTop (mkF m 8 #[.val (.ref oa), .val (.ref oc)] [(.double (FP.i2d u2)), (.double (FP.i2d u1))]))
  refine ogo (fun _ k => XS.dcmpS X_8_2.here hx rfl (hb hby d8_8) rfl (own_dc _ _ _) k) ?_
  show OGo _ _ _ _ (T_8_2.setTop (mkF m 9 #[.val (.ref oa), .val (.ref oc)] [(.int (lcmpW u1.toInt64 u2.toInt64))]))
  suffices J_8_12 : ∀ (w_8_11 : Int32) (hw_8_11 : w_8_11 = (if u2.toInt64 < u1.toInt64 then (0 : Int32) else (if (hasAllF fa fb) = (0 : Int32) then (0 : Int32) else (1 : Int32)))) (T_8_13 : State) (X_8_13 : Stand p l e ({ frames := 1, cells := 0, slots := 0, locals := 14 } : Room) s m #[(.ref oa), (.ref oc)] below meth c T_8_13 [] 0 0) (e_8_13 : T_8_13.heap = h0), OGo p.tables e below (OFin s (OPure (some (.int (takesF u1 u2 fa fb))) h0) 0 0) (T_8_13.setTop (mkF m 31 #[.val (.ref oa), .val (.ref oc)] [(.int w_8_11)])) by
    by_cases hc_8_3 : u2.toInt64 < u1.toInt64
    · refine ogo (fun _ k => XS.ifYes X_8_2.here hx rfl (pc0 := 9) (pc' := 30) rfl (hb hby d8_9) rfl ((if0 _ _).trans (tlt ((lw_gt _ _).mpr hc_8_3)).2.2.1) (by decide) (by decide) k) ?_
      show OGo _ _ _ _ (T_8_2.setTop (mkF m 30 #[.val (.ref oa), .val (.ref oc)] []))
      refine ogo (fun _ k => XS.iconst X_8_2.here hx rfl (hb hby d8_30) k) ?_
      show OGo _ _ _ _ (T_8_2.setTop (mkF m 31 #[.val (.ref oa), .val (.ref oc)] [(.int (0 : Int32))]))
      exact J_8_12 _ (if_pos hc_8_3).symm _ X_8_2 e_8_2
    · refine ogo (fun _ k => XS.ifNo X_8_2.here hx rfl (hb hby d8_9) rfl ((if0 _ _).trans (flt (fun q => hc_8_3 ((lw_gt _ _).mp q))).2.2.1) k) ?_
      show OGo _ _ _ _ (T_8_2.setTop (mkF m 12 #[.val (.ref oa), .val (.ref oc)] []))
      refine ogo (fun _ k => XS.aloadN X_8_2.here hx rfl (hb hby d8_12) rfl rfl k) ?_
      show OGo _ _ _ _ (T_8_2.setTop (mkF m 13 #[.val (.ref oa), .val (.ref oc)] [(.ref oa)]))
      obtain ⟨T_8_4, X_8_4, e_8_4, st_8_4⟩ := getF X_8_2 hx hZ hown (host := "") (Or.inl (hw _ (List.mem_of_getElem? (i := 40) rfl))) Via.refl e_8_2 P2 (g := (mkF m 13 #[.val (.ref oa), .val (.ref oc)] [(.ref oa)])) rfl rfl (hb hby d8_13)
      refine ogo (fun _ k => st_8_4 _ k) ?_
      show OGo _ _ _ _ (T_8_4.setTop (mkF m 16 #[.val (.ref oa), .val (.ref oc)] [(.ref f1)]))
      refine ogo (fun _ k => XS.aloadN X_8_4.here hx rfl (hb hby d8_16) rfl rfl k) ?_
      show OGo _ _ _ _ (T_8_4.setTop (mkF m 17 #[.val (.ref oa), .val (.ref oc)] [(.ref oc), (.ref f1)]))
      obtain ⟨T_8_5, X_8_5, e_8_5, st_8_5⟩ := getF X_8_4 hx hZ hown (host := "") (Or.inl (hw _ (List.mem_of_getElem? (i := 40) rfl))) Via.refl e_8_4 P3 (g := (mkF m 17 #[.val (.ref oa), .val (.ref oc)] [(.ref oc), (.ref f1)])) rfl rfl (hb hby d8_17)
      refine ogo (fun _ k => st_8_5 _ k) ?_
      show OGo _ _ _ _ (T_8_5.setTop (mkF m 20 #[.val (.ref oa), .val (.ref oc)] [(.ref f2), (.ref f1)]))
      obtain ⟨T_8_6, X_8_6, e_8_6, st_8_6⟩ := ovirtP X_8_5 hx hZ e_8_5 (rm9 l Z a0 hw f1 f2 ca cb fa fb h0 P5 P6 P7 P8) hown (hw _ (List.mem_of_getElem? (i := 54) rfl)) (hw _ (List.mem_of_getElem? (i := 55) rfl)) (hw _ (List.mem_of_getElem? (i := 57) rfl)) (hw _ (List.mem_of_getElem? (i := 56) rfl)) (hw _ (List.mem_of_getElem? (i := 7) rfl)) (hw _ (List.mem_of_getElem? (i := 58) rfl)) (by decide) P4 (g := (mkF m 20 #[.val (.ref oa), .val (.ref oc)] [(.ref f2), (.ref f1)])) rfl (by rw [hml]; rfl) [(.ref f2)] [] rfl (lenOf pd__Lcom_example_gol_gumbaz_golgumbaz_envelope_BloomFilter__Z rfl) rfl (hb hby d8_20) 0 (by show 2 * 0 + _ ≤ _; exact Nat.le_of_eq rfl) (by decide) (by decide) (by decide) (by decide) rfl rfl
      refine ogo (fun _ k => st_8_6 _ k) ?_
      show OGo _ _ _ _ (T_8_6.setTop (mkF m 23 #[.val (.ref oa), .val (.ref oc)] [(.int (hasAllF fa fb))]))
      suffices J_8_9 : ∀ (w_8_8 : Int32) (hw_8_8 : w_8_8 = (if (hasAllF fa fb) = (0 : Int32) then (0 : Int32) else (1 : Int32))), OGo p.tables e below (OFin s (OPure (some (.int (takesF u1 u2 fa fb))) h0) 0 0) (T_8_6.setTop (mkF m 31 #[.val (.ref oa), .val (.ref oc)] [(.int w_8_8)])) by
        by_cases hc_8_7 : (hasAllF fa fb) = (0 : Int32)
        · refine ogo (fun _ k => XS.ifYes X_8_6.here hx rfl (pc0 := 23) (pc' := 30) rfl (hb hby d8_23) rfl ((if0 _ _).trans (teq hc_8_7).1) (by decide) (by decide) k) ?_
          show OGo _ _ _ _ (T_8_6.setTop (mkF m 30 #[.val (.ref oa), .val (.ref oc)] []))
          refine ogo (fun _ k => XS.iconst X_8_6.here hx rfl (hb hby d8_30) k) ?_
          show OGo _ _ _ _ (T_8_6.setTop (mkF m 31 #[.val (.ref oa), .val (.ref oc)] [(.int (0 : Int32))]))
          exact J_8_9 _ (if_pos hc_8_7).symm
        · refine ogo (fun _ k => XS.ifNo X_8_6.here hx rfl (hb hby d8_23) rfl ((if0 _ _).trans (feq hc_8_7).1) k) ?_
          show OGo _ _ _ _ (T_8_6.setTop (mkF m 26 #[.val (.ref oa), .val (.ref oc)] []))
          refine ogo (fun _ k => XS.iconst X_8_6.here hx rfl (hb hby d8_26) k) ?_
          show OGo _ _ _ _ (T_8_6.setTop (mkF m 27 #[.val (.ref oa), .val (.ref oc)] [(.int (1 : Int32))]))
          refine ogo (fun _ k => XS.goto X_8_6.here hx rfl (pc0 := 27) (pc' := 31) rfl (hb hby d8_27) (by decide) (by decide) k) ?_
          show OGo _ _ _ _ (T_8_6.setTop (mkF m 31 #[.val (.ref oa), .val (.ref oc)] [(.int (1 : Int32))]))
          exact J_8_9 _ (if_neg hc_8_7).symm
      intro w_8_8 hw_8_8
      subst hw_8_8
      exact J_8_12 _ (if_neg hc_8_3).symm _ X_8_6 e_8_6
  intro w_8_11 hw_8_11 T_8_13 X_8_13 e_8_13
  exact oret X_8_13 hx hlk Bd.returns (onb (by subst hw_8_11; repeat' first | decide | apply oif01)) (Or.inl ⟨rfl, Or.inr (Or.inl rfl), _, rfl⟩) (hb hby d8_31) (by decide) (by decide) ⟨by subst hw_8_11; rfl, rfl, e_8_13⟩
theorem d6_0 : decode method_3_code 0 = .ok (.iload_n 0, 1) := by decide +kernel
theorem d6_1 : decode method_3_code 1 = .ok (.iload_n 1, 1) := by decide +kernel
theorem d6_2 : decode method_3_code 2 = .ok (.if_icmp .ne 9, 3) := by decide +kernel
theorem d6_5 : decode method_3_code 5 = .ok (.iload_n 2, 1) := by decide +kernel
theorem d6_6 : decode method_3_code 6 = .ok (.sipush 255, 3) := by decide +kernel
theorem d6_9 : decode method_3_code 9 = .ok (.iand, 1) := by decide +kernel
theorem d6_10 : decode method_3_code 10 = .ok (.ireturn, 1) := by decide +kernel
theorem d6_11 : decode method_3_code 11 = .ok (.iload_n 0, 1) := by decide +kernel
theorem d6_12 : decode method_3_code 12 = .ok (.iload_n 3, 1) := by decide +kernel
theorem d6_13 : decode method_3_code 13 = .ok (.if_icmp .ne 10, 3) := by decide +kernel
theorem d6_16 : decode method_3_code 16 = .ok (.iload 4, 2) := by decide +kernel
theorem d6_18 : decode method_3_code 18 = .ok (.sipush 255, 3) := by decide +kernel
theorem d6_21 : decode method_3_code 21 = .ok (.iand, 1) := by decide +kernel
theorem d6_22 : decode method_3_code 22 = .ok (.ireturn, 1) := by decide +kernel
theorem d6_23 : decode method_3_code 23 = .ok (.iconst 0, 1) := by decide +kernel
theorem d6_24 : decode method_3_code 24 = .ok (.ireturn, 1) := by decide +kernel
theorem pn_6 : plainName "com/example/gol_gumbaz/golgumbaz/shh/AdmissionTakesAllPinLaw" = true := by first | (simp [plainName, overriddenIn]; done) | decide +kernel
theorem ef_6 (m : MethodId) (x0 : Int32) (x1 : Int32) (x2 : Int32) (x3 : Int32) (x4 : Int32) : entryFrame m #[(.int x0), (.int x1), (.int x2), (.int x3), (.int x4)] 5 = mkF m 0 #[.val (.int x0), .val (.int x1), .val (.int x2), .val (.int x3), .val (.int x4)] [] := by first | (simp [entryFrame, mkF, argsToLocals, Value.category]; done) | rfl
def atF (q1 : Int32) (q2 : Int32) (q3 : Int32) (q4 : Int32) (q5 : Int32)  : Int32 := (if q1 = q2 then (q3 &&& (255 : Int32)) else (if q1 = q4 then (q5 &&& (255 : Int32)) else (0 : Int32)))
set_option maxRecDepth 65536 in
set_option maxHeartbeats 40000000 in
theorem rm6 (l : Launch) (Z : State) (a0 : Array Value) (hw : ∀ d ∈ tables_1, d.before a0 Z = true) (q1 : Int32) (q2 : Int32) (q3 : Int32) (q4 : Int32) (q5 : Int32)  (h0 : Heap)  :
    OMet l Z (⟨"com/example/gol_gumbaz/golgumbaz/shh/AdmissionTakesAllPinLaw", "at", "(IIBIB)I"⟩ : MethodName) method_3_code 5 (some .int) ({ frames := 0, cells := 0, slots := 0, locals := 0 } : Room) #[(.int q1), (.int q2), (.int q3), (.int q4), (.int q5)] h0 (OPure (some (.int (atF q1 q2 q3 q4 q5))) h0) := by
  intro ws
  refine MetFree.of_bodySF (plainFor_of_name pn_6) hisR ?_
  intro p e s m args below meth c s₁ Bd hml0 hP hK
  obtain ⟨rfl, hZ, hh⟩ := hP
  have hx := Bd.exec
  have hby := Bd.bytes
  have hml : c.maxLocals = 5 := hml0
  have hown : s.vm.findClass "com/example/gol_gumbaz/golgumbaz/shh/AdmissionTakesAllPinLaw" = some m.cls := findClass_of_methodNamed Bd.named
  have hnm := (name_of_methodNamed Bd.named Bd.method).1
  have hlk : meth.locks = false := Bd.notSynchronized
  have X0 : Stand p l e ({ frames := 0, cells := 0, slots := 0, locals := 0 } : Room) s m #[(.int q1), (.int q2), (.int q3), (.int q4), (.int q5)] below meth c s₁ [] 0 0 := Stand.of_body Bd
  have e0 : s₁.heap = h0 := by rw [← hh, Bd.state]; rfl
  refine (?_ : OGo p.tables e below (OFin s (OPure (some (.int (atF q1 q2 q3 q4 q5))) h0) 0 0) _)
  refine ogo (fun _ k => castTop (ef_6 m q1 q2 q3 q4 q5) k) ?_
  show OGo _ _ _ _ (s₁.setTop (mkF m 0 #[.val (.int q1), .val (.int q2), .val (.int q3), .val (.int q4), .val (.int q5)] []))
  refine ogo (fun _ k => XS.iloadN X0.here hx rfl (hb hby d6_0) rfl k) ?_
  show OGo _ _ _ _ (s₁.setTop (mkF m 1 #[.val (.int q1), .val (.int q2), .val (.int q3), .val (.int q4), .val (.int q5)] [(.int q1)]))
  refine ogo (fun _ k => XS.iloadN X0.here hx rfl (hb hby d6_1) rfl k) ?_
  show OGo _ _ _ _ (s₁.setTop (mkF m 2 #[.val (.int q1), .val (.int q2), .val (.int q3), .val (.int q4), .val (.int q5)] [(.int q2), (.int q1)]))
  by_cases hc_6_1 : q1 = q2
  · refine ogo (fun _ k => XS.icmpNo X0.here hx rfl (hb hby d6_2) rfl (teq hc_6_1).2 k) ?_
    show OGo _ _ _ _ (s₁.setTop (mkF m 5 #[.val (.int q1), .val (.int q2), .val (.int q3), .val (.int q4), .val (.int q5)] []))
    refine ogo (fun _ k => XS.iloadN X0.here hx rfl (hb hby d6_5) rfl k) ?_
    show OGo _ _ _ _ (s₁.setTop (mkF m 6 #[.val (.int q1), .val (.int q2), .val (.int q3), .val (.int q4), .val (.int q5)] [(.int q3)]))
    refine ogo (fun _ k => XS.sipush X0.here hx rfl (hb hby d6_6) k) ?_
    show OGo _ _ _ _ (s₁.setTop (mkF m 9 #[.val (.int q1), .val (.int q2), .val (.int q3), .val (.int q4), .val (.int q5)] [(.int (255 : Int32)), (.int q3)]))
    refine ogo (fun _ k => XS.iand X0.here hx rfl (hb hby d6_9) rfl k) ?_
    show OGo _ _ _ _ (s₁.setTop (mkF m 10 #[.val (.int q1), .val (.int q2), .val (.int q3), .val (.int q4), .val (.int q5)] [(.int (q3 &&& (255 : Int32)))]))
    exact oret X0 hx hlk Bd.returns rfl (Or.inl ⟨rfl, Or.inl rfl, _, rfl⟩) (hb hby d6_10) (by decide) (by decide) ⟨by simp only [atF, if_pos hc_6_1], rfl, e0⟩
  · refine ogo (fun _ k => XS.icmpYes X0.here hx rfl (pc0 := 2) (pc' := 11) rfl (hb hby d6_2) rfl (feq hc_6_1).2 (by decide) (by decide) k) ?_
    show OGo _ _ _ _ (s₁.setTop (mkF m 11 #[.val (.int q1), .val (.int q2), .val (.int q3), .val (.int q4), .val (.int q5)] []))
    refine ogo (fun _ k => XS.iloadN X0.here hx rfl (hb hby d6_11) rfl k) ?_
    show OGo _ _ _ _ (s₁.setTop (mkF m 12 #[.val (.int q1), .val (.int q2), .val (.int q3), .val (.int q4), .val (.int q5)] [(.int q1)]))
    refine ogo (fun _ k => XS.iloadN X0.here hx rfl (hb hby d6_12) rfl k) ?_
    show OGo _ _ _ _ (s₁.setTop (mkF m 13 #[.val (.int q1), .val (.int q2), .val (.int q3), .val (.int q4), .val (.int q5)] [(.int q4), (.int q1)]))
    by_cases hc_6_2 : q1 = q4
    · refine ogo (fun _ k => XS.icmpNo X0.here hx rfl (hb hby d6_13) rfl (teq hc_6_2).2 k) ?_
      show OGo _ _ _ _ (s₁.setTop (mkF m 16 #[.val (.int q1), .val (.int q2), .val (.int q3), .val (.int q4), .val (.int q5)] []))
      refine ogo (fun _ k => XS.iload X0.here hx rfl (hb hby d6_16) rfl k) ?_
      show OGo _ _ _ _ (s₁.setTop (mkF m 18 #[.val (.int q1), .val (.int q2), .val (.int q3), .val (.int q4), .val (.int q5)] [(.int q5)]))
      refine ogo (fun _ k => XS.sipush X0.here hx rfl (hb hby d6_18) k) ?_
      show OGo _ _ _ _ (s₁.setTop (mkF m 21 #[.val (.int q1), .val (.int q2), .val (.int q3), .val (.int q4), .val (.int q5)] [(.int (255 : Int32)), (.int q5)]))
      refine ogo (fun _ k => XS.iand X0.here hx rfl (hb hby d6_21) rfl k) ?_
      show OGo _ _ _ _ (s₁.setTop (mkF m 22 #[.val (.int q1), .val (.int q2), .val (.int q3), .val (.int q4), .val (.int q5)] [(.int (q5 &&& (255 : Int32)))]))
      exact oret X0 hx hlk Bd.returns rfl (Or.inl ⟨rfl, Or.inl rfl, _, rfl⟩) (hb hby d6_22) (by decide) (by decide) ⟨by simp only [atF, if_neg hc_6_1, if_pos hc_6_2], rfl, e0⟩
    · refine ogo (fun _ k => XS.icmpYes X0.here hx rfl (pc0 := 13) (pc' := 23) rfl (hb hby d6_13) rfl (feq hc_6_2).2 (by decide) (by decide) k) ?_
      show OGo _ _ _ _ (s₁.setTop (mkF m 23 #[.val (.int q1), .val (.int q2), .val (.int q3), .val (.int q4), .val (.int q5)] []))
      refine ogo (fun _ k => XS.iconst X0.here hx rfl (hb hby d6_23) k) ?_
      show OGo _ _ _ _ (s₁.setTop (mkF m 24 #[.val (.int q1), .val (.int q2), .val (.int q3), .val (.int q4), .val (.int q5)] [(.int (0 : Int32))]))
      exact oret X0 hx hlk Bd.returns rfl (Or.inl ⟨rfl, Or.inl rfl, _, rfl⟩) (hb hby d6_24) (by decide) (by decide) ⟨by simp only [atF, if_neg hc_6_1, if_neg hc_6_2], rfl, e0⟩
theorem d7_0 : decode method_4_code 0 = .ok (.iload_n 1, 1) := by decide +kernel
theorem d7_1 : decode method_4_code 1 = .ok (.iload_n 0, 1) := by decide +kernel
theorem d7_2 : decode method_4_code 2 = .ok (.iconst (-1), 1) := by decide +kernel
theorem d7_3 : decode method_4_code 3 = .ok (.ixor, 1) := by decide +kernel
theorem d7_4 : decode method_4_code 4 = .ok (.iand, 1) := by decide +kernel
theorem d7_5 : decode method_4_code 5 = .ok (.ifCond .ne 7, 3) := by decide +kernel
theorem d7_8 : decode method_4_code 8 = .ok (.iconst 1, 1) := by decide +kernel
theorem d7_9 : decode method_4_code 9 = .ok (.goto 4, 3) := by decide +kernel
theorem d7_12 : decode method_4_code 12 = .ok (.iconst 0, 1) := by decide +kernel
theorem d7_13 : decode method_4_code 13 = .ok (.ireturn, 1) := by decide +kernel
theorem pn_7 : plainName "com/example/gol_gumbaz/golgumbaz/shh/AdmissionTakesAllPinLaw" = true := by first | (simp [plainName, overriddenIn]; done) | decide +kernel
theorem ef_7 (m : MethodId) (x0 : Int32) (x1 : Int32) : entryFrame m #[(.int x0), (.int x1)] 2 = mkF m 0 #[.val (.int x0), .val (.int x1)] [] := by first | (simp [entryFrame, mkF, argsToLocals, Value.category]; done) | rfl
def covF (q1 : Int32) (q2 : Int32)  : Int32 := (let w_7_2 : Int32 := (if (q2 &&& (q1 ^^^ (-1 : Int32))) = (0 : Int32) then (1 : Int32) else (0 : Int32)); w_7_2)
set_option maxRecDepth 65536 in
set_option maxHeartbeats 40000000 in
theorem rm7 (l : Launch) (Z : State) (a0 : Array Value) (hw : ∀ d ∈ tables_1, d.before a0 Z = true) (q1 : Int32) (q2 : Int32)  (h0 : Heap)  :
    OMet l Z (⟨"com/example/gol_gumbaz/golgumbaz/shh/AdmissionTakesAllPinLaw", "covers", "(II)Z"⟩ : MethodName) method_4_code 2 (some .boolean) ({ frames := 0, cells := 0, slots := 0, locals := 0 } : Room) #[(.int q1), (.int q2)] h0 (OPure (some (.int (covF q1 q2))) h0) := by
  intro ws
  refine MetFree.of_bodySF (plainFor_of_name pn_7) hisR ?_
  intro p e s m args below meth c s₁ Bd hml0 hP hK
  obtain ⟨rfl, hZ, hh⟩ := hP
  have hx := Bd.exec
  have hby := Bd.bytes
  have hml : c.maxLocals = 2 := hml0
  have hown : s.vm.findClass "com/example/gol_gumbaz/golgumbaz/shh/AdmissionTakesAllPinLaw" = some m.cls := findClass_of_methodNamed Bd.named
  have hnm := (name_of_methodNamed Bd.named Bd.method).1
  have hlk : meth.locks = false := Bd.notSynchronized
  have X0 : Stand p l e ({ frames := 0, cells := 0, slots := 0, locals := 0 } : Room) s m #[(.int q1), (.int q2)] below meth c s₁ [] 0 0 := Stand.of_body Bd
  have e0 : s₁.heap = h0 := by rw [← hh, Bd.state]; rfl
  refine (?_ : OGo p.tables e below (OFin s (OPure (some (.int (covF q1 q2))) h0) 0 0) _)
  refine ogo (fun _ k => castTop (ef_7 m q1 q2) k) ?_
  show OGo _ _ _ _ (s₁.setTop (mkF m 0 #[.val (.int q1), .val (.int q2)] []))
  refine ogo (fun _ k => XS.iloadN X0.here hx rfl (hb hby d7_0) rfl k) ?_
  show OGo _ _ _ _ (s₁.setTop (mkF m 1 #[.val (.int q1), .val (.int q2)] [(.int q2)]))
  refine ogo (fun _ k => XS.iloadN X0.here hx rfl (hb hby d7_1) rfl k) ?_
  show OGo _ _ _ _ (s₁.setTop (mkF m 2 #[.val (.int q1), .val (.int q2)] [(.int q1), (.int q2)]))
  refine ogo (fun _ k => XS.iconst X0.here hx rfl (hb hby d7_2) k) ?_
  show OGo _ _ _ _ (s₁.setTop (mkF m 3 #[.val (.int q1), .val (.int q2)] [(.int (-1 : Int32)), (.int q1), (.int q2)]))
  refine ogo (fun _ k => XS.ixor X0.here hx rfl (hb hby d7_3) rfl k) ?_
  show OGo _ _ _ _ (s₁.setTop (mkF m 4 #[.val (.int q1), .val (.int q2)] [(.int (q1 ^^^ (-1 : Int32))), (.int q2)]))
  refine ogo (fun _ k => XS.iand X0.here hx rfl (hb hby d7_4) rfl k) ?_
  show OGo _ _ _ _ (s₁.setTop (mkF m 5 #[.val (.int q1), .val (.int q2)] [(.int (q2 &&& (q1 ^^^ (-1 : Int32))))]))
  suffices J_7_3 : ∀ (w_7_2 : Int32) (hw_7_2 : w_7_2 = (if (q2 &&& (q1 ^^^ (-1 : Int32))) = (0 : Int32) then (1 : Int32) else (0 : Int32))), OGo p.tables e below (OFin s (OPure (some (.int (covF q1 q2))) h0) 0 0) (s₁.setTop (mkF m 13 #[.val (.int q1), .val (.int q2)] [(.int w_7_2)])) by
    by_cases hc_7_1 : (q2 &&& (q1 ^^^ (-1 : Int32))) = (0 : Int32)
    · refine ogo (fun _ k => XS.ifNo X0.here hx rfl (hb hby d7_5) rfl ((if0 _ _).trans (teq hc_7_1).2) k) ?_
      show OGo _ _ _ _ (s₁.setTop (mkF m 8 #[.val (.int q1), .val (.int q2)] []))
      refine ogo (fun _ k => XS.iconst X0.here hx rfl (hb hby d7_8) k) ?_
      show OGo _ _ _ _ (s₁.setTop (mkF m 9 #[.val (.int q1), .val (.int q2)] [(.int (1 : Int32))]))
      refine ogo (fun _ k => XS.goto X0.here hx rfl (pc0 := 9) (pc' := 13) rfl (hb hby d7_9) (by decide) (by decide) k) ?_
      show OGo _ _ _ _ (s₁.setTop (mkF m 13 #[.val (.int q1), .val (.int q2)] [(.int (1 : Int32))]))
      exact J_7_3 _ (if_pos hc_7_1).symm
    · refine ogo (fun _ k => XS.ifYes X0.here hx rfl (pc0 := 5) (pc' := 12) rfl (hb hby d7_5) rfl ((if0 _ _).trans (feq hc_7_1).2) (by decide) (by decide) k) ?_
      show OGo _ _ _ _ (s₁.setTop (mkF m 12 #[.val (.int q1), .val (.int q2)] []))
      refine ogo (fun _ k => XS.iconst X0.here hx rfl (hb hby d7_12) k) ?_
      show OGo _ _ _ _ (s₁.setTop (mkF m 13 #[.val (.int q1), .val (.int q2)] [(.int (0 : Int32))]))
      exact J_7_3 _ (if_neg hc_7_1).symm
  intro w_7_2 hw_7_2
  exact oret X0 hx hlk Bd.returns (onb (by subst hw_7_2; repeat' first | decide | apply oif01)) (Or.inl ⟨rfl, Or.inr (Or.inl rfl), _, rfl⟩) (hb hby d7_13) (by decide) (by decide) ⟨by subst hw_7_2; rfl, rfl, e0⟩
theorem pn_0 : plainName "com/example/gol_gumbaz/golgumbaz/shh/AdmissionTakesAllPinLaw" = true := by first | (simp [plainName, overriddenIn]; done) | decide +kernel
theorem ef_0 (m : MethodId) (x0 : Int32) (x1 : Int32) (x2 : Int32) (x3 : Int32) : entryFrame m #[(.int x0), (.int x1), (.int x2), (.int x3)] maxLocals = mkF m 0 #[.val (.int x0), .val (.int x1), .val (.int x2), .val (.int x3), .unset, .unset, .unset, .unset, .unset, .unset, .unset, .unset, .unset, .unset, .unset, .unset, .unset, .unset, .unset] [] := by first | (simp [entryFrame, mkF, argsToLocals, Value.category, maxLocals]; done) | rfl
theorem pd___B_V : parseMethodDescriptor "([B)V" = some ⟨[(.array .byte)], none⟩ := by decide +kernel
theorem pd__DLcom_example_gol_gumbaz_golgumbaz_envelope_BloomFilter__V : parseMethodDescriptor "(DLcom/example/gol_gumbaz/golgumbaz/envelope/BloomFilter;)V" = some ⟨[.double, (.object "com/example/gol_gumbaz/golgumbaz/envelope/BloomFilter")], none⟩ := by decide +kernel
theorem pd__IIBIB_I : parseMethodDescriptor "(IIBIB)I" = some ⟨[.int, .int, .byte, .int, .byte], some .int⟩ := by decide +kernel
theorem pd__II_Z : parseMethodDescriptor "(II)Z" = some ⟨[.int, .int], some .boolean⟩ := by decide +kernel
theorem pd__Lcom_example_gol_gumbaz_golgumbaz_shh_Admission__Z : parseMethodDescriptor "(Lcom/example/gol_gumbaz/golgumbaz/shh/Admission;)Z" = some ⟨[(.object "com/example/gol_gumbaz/golgumbaz/shh/Admission")], some .boolean⟩ := by decide +kernel
theorem own_88 (y : Int32) : (y.toInt8.toInt32).toInt8.toInt32 = y.toInt8.toInt32 := by
  apply Int32.toInt_inj.mp
  have h1 := c_i2b y
  have h2 := c_i2b y.toInt8.toInt32
  omega
theorem own_255 (y : Int32) : y &&& (255 : Int32) = y.toInt8.toInt32 &&& (255 : Int32) := by
  apply Int32.toInt_inj.mp
  rw [c_mask y (255 : Int32) 8 (by decide) (by decide), c_mask y.toInt8.toInt32 (255 : Int32) 8 (by decide) (by decide)]
  have h := (c_i2b y).1
  omega
theorem own_i8 (y : Int8) : Int8.ofNat y.toBitVec.toNat = y := by
  apply Int8.toBitVec_inj.mp
  show BitVec.ofNat 8 y.toBitVec.toNat = y.toBitVec
  simp
theorem own_cov8 : ∀ c d : Fin 256, (((Int8.ofNat d.val).toInt32 &&& ((Int8.ofNat c.val).toInt32 ^^^ (-1 : Int32))) = (0 : Int32) ↔ (((Int8.ofNat d.val).toInt32 &&& (255 : Int32)) &&& (((Int8.ofNat c.val).toInt32 &&& (255 : Int32)) ^^^ (-1 : Int32))) = (0 : Int32)) := by decide +kernel
theorem own_cov (x y : Int32) : ((y.toInt8.toInt32 &&& (x.toInt8.toInt32 ^^^ (-1 : Int32))) = (0 : Int32) ↔ ((y &&& (255 : Int32)) &&& ((x &&& (255 : Int32)) ^^^ (-1 : Int32))) = (0 : Int32)) := by
  have h := own_cov8 ⟨x.toInt8.toBitVec.toNat, x.toInt8.toBitVec.isLt⟩ ⟨y.toInt8.toBitVec.toNat, y.toInt8.toBitVec.isLt⟩
  dsimp only at h
  rw [own_i8, own_i8] at h
  rw [own_255 x, own_255 y]
  exact h
theorem own_inj {j k : Int32} (hj : 0 ≤ j.toInt) (hk : 0 ≤ k.toInt) (h : j.toNatClampNeg = k.toNatClampNeg) : j = k := by
  apply Int32.toInt_inj.mp
  simp only [Int32.toNatClampNeg] at h
  omega
theorem own_q64 : ∀ r : Fin 64, (Int32.ofNat r.val).toInt = r.val ∧ (Int32.ofNat r.val).toNatClampNeg = r.val := by decide +kernel
/-- what place k of an array of 64 holds that was written at p1, then at p2 -/
def own_sel (p1 p2 v1 v2 k : Int32) : Int32 := if k = p2 then v2 else if k = p1 then v1 else (0 : Int32)
def own_g (p1 p2 v1 v2 : Int32) : Nat → Int32 := fun i : Nat => if i = (p2).toNatClampNeg then v2.toInt8.toInt32 else (fun i : Nat => if i = (p1).toNatClampNeg then v1.toInt8.toInt32 else (fun _ : Nat => (0 : Int32)) i) i
theorem own_gat (p1 p2 v1 v2 k : Int32) (h1 : 0 ≤ p1.toInt) (h2 : 0 ≤ p2.toInt) (hk : 0 ≤ k.toInt) : own_g p1 p2 v1 v2 k.toNatClampNeg = (own_sel p1 p2 v1 v2 k).toInt8.toInt32 := by
  simp only [own_g, own_sel]
  by_cases a : k = p2
  · rw [if_pos (by rw [a]), if_pos a]
  · rw [if_neg (fun z => a (own_inj hk h2 z)), if_neg a]
    by_cases b : k = p1
    · rw [if_pos (by rw [b]), if_pos b]
    · rw [if_neg (fun z => b (own_inj hk h1 z)), if_neg b]; rfl
theorem own_at (p1 p2 v1 v2 k : Int32) : atF k p2 v2 p1 v1 = own_sel p1 p2 v1 v2 k &&& (255 : Int32) := by
  simp only [atF, own_sel]
  by_cases a : k = p2
  · rw [if_pos a, if_pos a]
  · rw [if_neg a, if_neg a]
    by_cases b : k = p1
    · rw [if_pos b, if_pos b]
    · rw [if_neg b, if_neg b]; rfl
theorem own_c (m t : Int32) : covF m t = if (t &&& (m ^^^ (-1 : Int32))) = (0 : Int32) then (1 : Int32) else (0 : Int32) := rfl
theorem own_badat (i1 i2 x1 x2 j1 j2 y1 y2 k : Int32) (a1 : 0 ≤ i1.toInt) (a2 : 0 ≤ i2.toInt) (b1 : 0 ≤ j1.toInt) (b2 : 0 ≤ j2.toInt) (hk : 0 ≤ k.toInt) :
    own_bad (own_g i1 i2 x1 x2) (own_g j1 j2 y1 y2) k.toNatClampNeg = (0 : Int32) ↔ covF (atF k i2 x2 i1 x1) (atF k j2 y2 j1 y1) = (1 : Int32) := by
  rw [own_bad, own_gat _ _ _ _ _ a1 a2 hk, own_gat _ _ _ _ _ b1 b2 hk, own_cov, own_c, own_at, own_at]
  by_cases q : ((own_sel j1 j2 y1 y2 k &&& (255 : Int32)) &&& ((own_sel i1 i2 x1 x2 k &&& (255 : Int32)) ^^^ (-1 : Int32))) = (0 : Int32)
  · rw [if_pos q]; exact ⟨fun _ => rfl, fun _ => q⟩
  · rw [if_neg q]; exact ⟨fun z => absurd z q, fun z => absurd z (by decide)⟩
theorem own_main (i1 i2 x1 x2 j1 j2 y1 y2 : Int32) (a1 : 0 ≤ i1.toInt) (a2 : 0 ≤ i2.toInt) (b1 : 0 ≤ j1.toInt ∧ j1.toInt < ((64 : Nat) : Int)) (b2 : 0 ≤ j2.toInt ∧ j2.toInt < ((64 : Nat) : Int)) :
    hasAllF (own_g i1 i2 x1 x2) (own_g j1 j2 y1 y2) = (if covF (atF j1 i2 x2 i1 x1) (atF j1 j2 y2 j1 y1) = (0 : Int32) then (0 : Int32) else (if covF (atF j2 i2 x2 i1 x1) (atF j2 j2 y2 j1 y1) = (0 : Int32) then (0 : Int32) else (1 : Int32))) := by
  have B := fun k hk => own_badat i1 i2 x1 x2 j1 j2 y1 y2 k a1 a2 b1.1 b2.1 hk
  have c01 : ∀ m t, covF m t = (0 : Int32) ∨ covF m t = (1 : Int32) := fun m t => by rw [own_c]; split <;> simp
  by_cases q1 : covF (atF j1 i2 x2 i1 x1) (atF j1 j2 y2 j1 y1) = (0 : Int32)
  · rw [if_pos q1]
    refine own_hn fun z => ?_
    have u := (B j1 b1.1).mp (z _ (oidx b1.1 b1.2).2)
    rw [q1] at u; exact absurd u (by decide)
  · rw [if_neg q1]
    by_cases q2 : covF (atF j2 i2 x2 i1 x1) (atF j2 j2 y2 j1 y1) = (0 : Int32)
    · rw [if_pos q2]
      refine own_hn fun z => ?_
      have u := (B j2 b2.1).mp (z _ (oidx b2.1 b2.2).2)
      rw [q2] at u; exact absurd u (by decide)
    · rw [if_neg q2]
      refine own_hp fun q hq => ?_
      have hr := own_q64 ⟨q, hq⟩
      dsimp only at hr
      have h0 : 0 ≤ (Int32.ofNat q).toInt := by omega
      rw [← hr.2]
      by_cases e2 : Int32.ofNat q = j2
      · rw [e2]; exact (B j2 b2.1).mpr ((c01 _ _).resolve_left q2)
      · by_cases e1 : Int32.ofNat q = j1
        · rw [e1]; exact (B j1 b1.1).mpr ((c01 _ _).resolve_left q1)
        · rw [own_bad, own_gat j1 j2 y1 y2 _ b1.1 b2.1 h0, own_sel, if_neg e2, if_neg e1]
          exact Int32.zero_and
theorem plain0 (va : Int32) (vb : Int32) (vc : Int32) (vd : Int32) (w_0_1 : Int32) (hw_0_1 : w_0_1 = (va &&& (2147483647 : Int32))) (w_0_2 : Int32) (hw_0_2 : w_0_2 = (vb &&& (2147483647 : Int32))) (w_0_3 : Int32) (hw_0_3 : w_0_3 = (vc &&& (63 : Int32))) (w_0_4 : Int32) (hw_0_4 : w_0_4 = (((vc.toUInt32 >>> ((6 : Int32) &&& 31).toUInt32).toInt32) &&& (63 : Int32))) (w_0_5 : Int32) (hw_0_5 : w_0_5 = (((vc.toUInt32 >>> ((12 : Int32) &&& 31).toUInt32).toInt32) &&& (63 : Int32))) (w_0_6 : Int32) (hw_0_6 : w_0_6 = (vd.toInt8.toInt32)) (w_0_7 : Int32) (hw_0_7 : w_0_7 = (((vd.toUInt32 >>> ((8 : Int32) &&& 31).toUInt32).toInt32).toInt8.toInt32)) (w_0_8 : Int32) (hw_0_8 : w_0_8 = (((vd.toUInt32 >>> ((16 : Int32) &&& 31).toUInt32).toInt32).toInt8.toInt32)) (w_0_9 : Int32) (hw_0_9 : w_0_9 = (((vd.toUInt32 >>> ((24 : Int32) &&& 31).toUInt32).toInt32).toInt8.toInt32)) (w_0_137 : Int32) (hw_0_137 : w_0_137 = (if (covF (atF w_0_3 w_0_4 w_0_7 w_0_3 w_0_6) (atF w_0_3 w_0_5 w_0_9 w_0_3 w_0_8)) = (0 : Int32) then (0 : Int32) else (if (covF (atF w_0_5 w_0_4 w_0_7 w_0_3 w_0_6) (atF w_0_5 w_0_5 w_0_9 w_0_3 w_0_8)) = (0 : Int32) then (0 : Int32) else (1 : Int32)))) (w_0_145 : Int32) (hw_0_145 : w_0_145 = (if w_0_2 < w_0_1 then (0 : Int32) else (if w_0_137 = (0 : Int32) then (0 : Int32) else (1 : Int32)))) (w_0_150 : Int32) (hw_0_150 : w_0_150 = (if (takesF w_0_1 w_0_2 (fun i : Nat => if i = (w_0_4).toNatClampNeg then w_0_7.toInt8.toInt32 else (fun i : Nat => if i = (w_0_3).toNatClampNeg then w_0_6.toInt8.toInt32 else (fun _ : Nat => (0 : Int32)) i) i) (fun i : Nat => if i = (w_0_5).toNatClampNeg then w_0_9.toInt8.toInt32 else (fun i : Nat => if i = (w_0_3).toNatClampNeg then w_0_8.toInt8.toInt32 else (fun _ : Nat => (0 : Int32)) i) i)) = w_0_145 then (1 : Int32) else (0 : Int32))) : w_0_150 = (1 : Int32) := by
  have r3 := own_j hw_0_3
  have r4 := own_j hw_0_4
  have r5 := own_j hw_0_5
  have f1 := own_main w_0_3 w_0_4 w_0_6 w_0_7 w_0_3 w_0_5 w_0_8 w_0_9 r3.1 r4.1 r3 r5
  rw [← hw_0_137] at f1
  have f2 : takesF w_0_1 w_0_2 (own_g w_0_3 w_0_4 w_0_6 w_0_7) (own_g w_0_3 w_0_5 w_0_8 w_0_9) = w_0_145 := by
    simp only [takesF]
    rw [f1, hw_0_145]
    by_cases q : w_0_2 < w_0_1
    · rw [if_pos q, if_pos (by rw [Int64.lt_iff_toInt_lt, c_i2l, c_i2l]; exact Int32.lt_iff_toInt_lt.mp q)]
    · rw [if_neg q, if_neg (fun z => q (by rw [Int64.lt_iff_toInt_lt, c_i2l, c_i2l] at z; exact Int32.lt_iff_toInt_lt.mpr z))]
  rw [hw_0_150]
  exact if_pos f2
set_option maxRecDepth 65536 in
set_option maxHeartbeats 40000000 in
theorem rm0 (l : Launch) (Z : State) (a0 : Array Value) (hw : ∀ d ∈ tables_1, d.before a0 Z = true) (ws : List Jvm.Cond) (va : Int32) (vb : Int32) (vc : Int32) (vd : Int32) (h0 : Heap) (n0 : Nat) (Z0 : n0 ≤ h0.size)  :
    MetFree l x (head1 (Jvm.Cond.code x code maxLocals ret :: ws) room_1) (fun a U => a = #[(.int va), (.int vb), (.int vc), (.int vd)] ∧ Z.Warmed39 U.vm ∧ U.heap = h0) (fun _ _ _ _ _ => True) (fun _ U o U' => ∃ v L, o = .returned v ∧ (v = some (.int 1) ∧ Fr n0 L) ∧ FrameEnd U o U' L 24 640) := by
  refine MetFree.of_bodySF (plainFor_of_name pn_0) hisR ?_
  intro p e s m args below meth c s₁ Bd hml0 hP hK
  obtain ⟨rfl, hZ, hh⟩ := hP
  have hx := Bd.exec
  have hby := Bd.bytes
  have hml : c.maxLocals = 19 := hml0
  have hown : s.vm.findClass "com/example/gol_gumbaz/golgumbaz/shh/AdmissionTakesAllPinLaw" = some m.cls := findClass_of_methodNamed Bd.named
  have hnm := (name_of_methodNamed Bd.named Bd.method).1
  have hlk : meth.locks = false := Bd.notSynchronized
  have X0 : Stand p l e room_1 s m #[(.int va), (.int vb), (.int vc), (.int vd)] below meth c s₁ [] 0 0 := Stand.of_body Bd
  have e0 : s₁.heap = h0 := by rw [← hh, Bd.state]; rfl
  have N0 := Fr.nil n0
  refine (?_ : OGo p.tables e below (OFin s (fun v _ L => v = some (.int 1) ∧ Fr n0 L) 24 640) _)
  refine ogo (fun _ k => castTop (ef_0 m va vb vc vd) k) ?_
  show OGo _ _ _ _ (s₁.setTop (mkF m 0 #[.val (.int va), .val (.int vb), .val (.int vc), .val (.int vd), .unset, .unset, .unset, .unset, .unset, .unset, .unset, .unset, .unset, .unset, .unset, .unset, .unset, .unset, .unset] []))
  refine ogo (fun _ k => XS.iloadN X0.here hx rfl (hb hby at_0) rfl k) ?_
  show OGo _ _ _ _ (s₁.setTop (mkF m 1 #[.val (.int va), .val (.int vb), .val (.int vc), .val (.int vd), .unset, .unset, .unset, .unset, .unset, .unset, .unset, .unset, .unset, .unset, .unset, .unset, .unset, .unset, .unset] [(.int va)]))
  refine ogo (fun _ k => X0.ldcI hx hown (mvT hZ (hw _ (List.mem_of_getElem? (i := 0) rfl))) rfl (hb hby at_1) k) ?_
  show OGo _ _ _ _ (s₁.setTop (mkF m 3 #[.val (.int va), .val (.int vb), .val (.int vc), .val (.int vd), .unset, .unset, .unset, .unset, .unset, .unset, .unset, .unset, .unset, .unset, .unset, .unset, .unset, .unset, .unset] [(.int (2147483647 : Int32)), (.int va)]))
  refine ogo (fun _ k => XS.iand X0.here hx rfl (hb hby at_3) rfl k) ?_
  show OGo _ _ _ _ (s₁.setTop (mkF m 4 #[.val (.int va), .val (.int vb), .val (.int vc), .val (.int vd), .unset, .unset, .unset, .unset, .unset, .unset, .unset, .unset, .unset, .unset, .unset, .unset, .unset, .unset, .unset] [(.int (va &&& (2147483647 : Int32)))]))
  suffices Nw_0_1 : ∀ w_0_1 : Int32, w_0_1 = (va &&& (2147483647 : Int32)) → OGo p.tables e below (OFin s (fun v _ L => v = some (.int 1) ∧ Fr n0 L) 24 640) (s₁.setTop (mkF m 4 #[.val (.int va), .val (.int vb), .val (.int vc), .val (.int vd), .unset, .unset, .unset, .unset, .unset, .unset, .unset, .unset, .unset, .unset, .unset, .unset, .unset, .unset, .unset] [(.int w_0_1)])) from Nw_0_1 _ rfl
  intro w_0_1 hw_0_1
  refine ogo (fun _ k => XS.istore X0.here hx rfl (hb hby at_4) rfl (l' := #[.val (.int va), .val (.int vb), .val (.int vc), .val (.int vd), .val (.int w_0_1), .unset, .unset, .unset, .unset, .unset, .unset, .unset, .unset, .unset, .unset, .unset, .unset, .unset, .unset]) rfl k) ?_
  show OGo _ _ _ _ (s₁.setTop (mkF m 6 #[.val (.int va), .val (.int vb), .val (.int vc), .val (.int vd), .val (.int w_0_1), .unset, .unset, .unset, .unset, .unset, .unset, .unset, .unset, .unset, .unset, .unset, .unset, .unset, .unset] []))
  refine ogo (fun _ k => XS.iloadN X0.here hx rfl (hb hby at_6) rfl k) ?_
  show OGo _ _ _ _ (s₁.setTop (mkF m 7 #[.val (.int va), .val (.int vb), .val (.int vc), .val (.int vd), .val (.int w_0_1), .unset, .unset, .unset, .unset, .unset, .unset, .unset, .unset, .unset, .unset, .unset, .unset, .unset, .unset] [(.int vb)]))
  refine ogo (fun _ k => X0.ldcI hx hown (mvT hZ (hw _ (List.mem_of_getElem? (i := 0) rfl))) rfl (hb hby at_7) k) ?_
  show OGo _ _ _ _ (s₁.setTop (mkF m 9 #[.val (.int va), .val (.int vb), .val (.int vc), .val (.int vd), .val (.int w_0_1), .unset, .unset, .unset, .unset, .unset, .unset, .unset, .unset, .unset, .unset, .unset, .unset, .unset, .unset] [(.int (2147483647 : Int32)), (.int vb)]))
  refine ogo (fun _ k => XS.iand X0.here hx rfl (hb hby at_9) rfl k) ?_
  show OGo _ _ _ _ (s₁.setTop (mkF m 10 #[.val (.int va), .val (.int vb), .val (.int vc), .val (.int vd), .val (.int w_0_1), .unset, .unset, .unset, .unset, .unset, .unset, .unset, .unset, .unset, .unset, .unset, .unset, .unset, .unset] [(.int (vb &&& (2147483647 : Int32)))]))
  suffices Nw_0_2 : ∀ w_0_2 : Int32, w_0_2 = (vb &&& (2147483647 : Int32)) → OGo p.tables e below (OFin s (fun v _ L => v = some (.int 1) ∧ Fr n0 L) 24 640) (s₁.setTop (mkF m 10 #[.val (.int va), .val (.int vb), .val (.int vc), .val (.int vd), .val (.int w_0_1), .unset, .unset, .unset, .unset, .unset, .unset, .unset, .unset, .unset, .unset, .unset, .unset, .unset, .unset] [(.int w_0_2)])) from Nw_0_2 _ rfl
  intro w_0_2 hw_0_2
  refine ogo (fun _ k => XS.istore X0.here hx rfl (hb hby at_10) rfl (l' := #[.val (.int va), .val (.int vb), .val (.int vc), .val (.int vd), .val (.int w_0_1), .val (.int w_0_2), .unset, .unset, .unset, .unset, .unset, .unset, .unset, .unset, .unset, .unset, .unset, .unset, .unset]) rfl k) ?_
  show OGo _ _ _ _ (s₁.setTop (mkF m 12 #[.val (.int va), .val (.int vb), .val (.int vc), .val (.int vd), .val (.int w_0_1), .val (.int w_0_2), .unset, .unset, .unset, .unset, .unset, .unset, .unset, .unset, .unset, .unset, .unset, .unset, .unset] []))
  refine ogo (fun _ k => XS.iloadN X0.here hx rfl (hb hby at_12) rfl k) ?_
  show OGo _ _ _ _ (s₁.setTop (mkF m 13 #[.val (.int va), .val (.int vb), .val (.int vc), .val (.int vd), .val (.int w_0_1), .val (.int w_0_2), .unset, .unset, .unset, .unset, .unset, .unset, .unset, .unset, .unset, .unset, .unset, .unset, .unset] [(.int vc)]))
  refine ogo (fun _ k => XS.bipush X0.here hx rfl (hb hby at_13) k) ?_
  show OGo _ _ _ _ (s₁.setTop (mkF m 15 #[.val (.int va), .val (.int vb), .val (.int vc), .val (.int vd), .val (.int w_0_1), .val (.int w_0_2), .unset, .unset, .unset, .unset, .unset, .unset, .unset, .unset, .unset, .unset, .unset, .unset, .unset] [(.int (63 : Int32)), (.int vc)]))
  refine ogo (fun _ k => XS.iand X0.here hx rfl (hb hby at_15) rfl k) ?_
  show OGo _ _ _ _ (s₁.setTop (mkF m 16 #[.val (.int va), .val (.int vb), .val (.int vc), .val (.int vd), .val (.int w_0_1), .val (.int w_0_2), .unset, .unset, .unset, .unset, .unset, .unset, .unset, .unset, .unset, .unset, .unset, .unset, .unset] [(.int (vc &&& (63 : Int32)))]))
  suffices Nw_0_3 : ∀ w_0_3 : Int32, w_0_3 = (vc &&& (63 : Int32)) → OGo p.tables e below (OFin s (fun v _ L => v = some (.int 1) ∧ Fr n0 L) 24 640) (s₁.setTop (mkF m 16 #[.val (.int va), .val (.int vb), .val (.int vc), .val (.int vd), .val (.int w_0_1), .val (.int w_0_2), .unset, .unset, .unset, .unset, .unset, .unset, .unset, .unset, .unset, .unset, .unset, .unset, .unset] [(.int w_0_3)])) from Nw_0_3 _ rfl
  intro w_0_3 hw_0_3
  refine ogo (fun _ k => XS.istore X0.here hx rfl (hb hby at_16) rfl (l' := #[.val (.int va), .val (.int vb), .val (.int vc), .val (.int vd), .val (.int w_0_1), .val (.int w_0_2), .val (.int w_0_3), .unset, .unset, .unset, .unset, .unset, .unset, .unset, .unset, .unset, .unset, .unset, .unset]) rfl k) ?_
  show OGo _ _ _ _ (s₁.setTop (mkF m 18 #[.val (.int va), .val (.int vb), .val (.int vc), .val (.int vd), .val (.int w_0_1), .val (.int w_0_2), .val (.int w_0_3), .unset, .unset, .unset, .unset, .unset, .unset, .unset, .unset, .unset, .unset, .unset, .unset] []))
  refine ogo (fun _ k => XS.iloadN X0.here hx rfl (hb hby at_18) rfl k) ?_
  show OGo _ _ _ _ (s₁.setTop (mkF m 19 #[.val (.int va), .val (.int vb), .val (.int vc), .val (.int vd), .val (.int w_0_1), .val (.int w_0_2), .val (.int w_0_3), .unset, .unset, .unset, .unset, .unset, .unset, .unset, .unset, .unset, .unset, .unset, .unset] [(.int vc)]))
  refine ogo (fun _ k => XS.bipush X0.here hx rfl (hb hby at_19) k) ?_
  show OGo _ _ _ _ (s₁.setTop (mkF m 21 #[.val (.int va), .val (.int vb), .val (.int vc), .val (.int vd), .val (.int w_0_1), .val (.int w_0_2), .val (.int w_0_3), .unset, .unset, .unset, .unset, .unset, .unset, .unset, .unset, .unset, .unset, .unset, .unset] [(.int (6 : Int32)), (.int vc)]))
  refine ogo (fun _ k => XS.iushr X0.here hx rfl (hb hby at_21) rfl k) ?_
  show OGo _ _ _ _ (s₁.setTop (mkF m 22 #[.val (.int va), .val (.int vb), .val (.int vc), .val (.int vd), .val (.int w_0_1), .val (.int w_0_2), .val (.int w_0_3), .unset, .unset, .unset, .unset, .unset, .unset, .unset, .unset, .unset, .unset, .unset, .unset] [(.int ((vc.toUInt32 >>> ((6 : Int32) &&& 31).toUInt32).toInt32))]))
  refine ogo (fun _ k => XS.bipush X0.here hx rfl (hb hby at_22) k) ?_
  show OGo _ _ _ _ (s₁.setTop (mkF m 24 #[.val (.int va), .val (.int vb), .val (.int vc), .val (.int vd), .val (.int w_0_1), .val (.int w_0_2), .val (.int w_0_3), .unset, .unset, .unset, .unset, .unset, .unset, .unset, .unset, .unset, .unset, .unset, .unset] [(.int (63 : Int32)), (.int ((vc.toUInt32 >>> ((6 : Int32) &&& 31).toUInt32).toInt32))]))
  refine ogo (fun _ k => XS.iand X0.here hx rfl (hb hby at_24) rfl k) ?_
  show OGo _ _ _ _ (s₁.setTop (mkF m 25 #[.val (.int va), .val (.int vb), .val (.int vc), .val (.int vd), .val (.int w_0_1), .val (.int w_0_2), .val (.int w_0_3), .unset, .unset, .unset, .unset, .unset, .unset, .unset, .unset, .unset, .unset, .unset, .unset] [(.int (((vc.toUInt32 >>> ((6 : Int32) &&& 31).toUInt32).toInt32) &&& (63 : Int32)))]))
  suffices Nw_0_4 : ∀ w_0_4 : Int32, w_0_4 = (((vc.toUInt32 >>> ((6 : Int32) &&& 31).toUInt32).toInt32) &&& (63 : Int32)) → OGo p.tables e below (OFin s (fun v _ L => v = some (.int 1) ∧ Fr n0 L) 24 640) (s₁.setTop (mkF m 25 #[.val (.int va), .val (.int vb), .val (.int vc), .val (.int vd), .val (.int w_0_1), .val (.int w_0_2), .val (.int w_0_3), .unset, .unset, .unset, .unset, .unset, .unset, .unset, .unset, .unset, .unset, .unset, .unset] [(.int w_0_4)])) from Nw_0_4 _ rfl
  intro w_0_4 hw_0_4
  refine ogo (fun _ k => XS.istore X0.here hx rfl (hb hby at_25) rfl (l' := #[.val (.int va), .val (.int vb), .val (.int vc), .val (.int vd), .val (.int w_0_1), .val (.int w_0_2), .val (.int w_0_3), .val (.int w_0_4), .unset, .unset, .unset, .unset, .unset, .unset, .unset, .unset, .unset, .unset, .unset]) rfl k) ?_
  show OGo _ _ _ _ (s₁.setTop (mkF m 27 #[.val (.int va), .val (.int vb), .val (.int vc), .val (.int vd), .val (.int w_0_1), .val (.int w_0_2), .val (.int w_0_3), .val (.int w_0_4), .unset, .unset, .unset, .unset, .unset, .unset, .unset, .unset, .unset, .unset, .unset] []))
  refine ogo (fun _ k => XS.iloadN X0.here hx rfl (hb hby at_27) rfl k) ?_
  show OGo _ _ _ _ (s₁.setTop (mkF m 28 #[.val (.int va), .val (.int vb), .val (.int vc), .val (.int vd), .val (.int w_0_1), .val (.int w_0_2), .val (.int w_0_3), .val (.int w_0_4), .unset, .unset, .unset, .unset, .unset, .unset, .unset, .unset, .unset, .unset, .unset] [(.int vc)]))
  refine ogo (fun _ k => XS.bipush X0.here hx rfl (hb hby at_28) k) ?_
  show OGo _ _ _ _ (s₁.setTop (mkF m 30 #[.val (.int va), .val (.int vb), .val (.int vc), .val (.int vd), .val (.int w_0_1), .val (.int w_0_2), .val (.int w_0_3), .val (.int w_0_4), .unset, .unset, .unset, .unset, .unset, .unset, .unset, .unset, .unset, .unset, .unset] [(.int (12 : Int32)), (.int vc)]))
  refine ogo (fun _ k => XS.iushr X0.here hx rfl (hb hby at_30) rfl k) ?_
  show OGo _ _ _ _ (s₁.setTop (mkF m 31 #[.val (.int va), .val (.int vb), .val (.int vc), .val (.int vd), .val (.int w_0_1), .val (.int w_0_2), .val (.int w_0_3), .val (.int w_0_4), .unset, .unset, .unset, .unset, .unset, .unset, .unset, .unset, .unset, .unset, .unset] [(.int ((vc.toUInt32 >>> ((12 : Int32) &&& 31).toUInt32).toInt32))]))
  refine ogo (fun _ k => XS.bipush X0.here hx rfl (hb hby at_31) k) ?_
  show OGo _ _ _ _ (s₁.setTop (mkF m 33 #[.val (.int va), .val (.int vb), .val (.int vc), .val (.int vd), .val (.int w_0_1), .val (.int w_0_2), .val (.int w_0_3), .val (.int w_0_4), .unset, .unset, .unset, .unset, .unset, .unset, .unset, .unset, .unset, .unset, .unset] [(.int (63 : Int32)), (.int ((vc.toUInt32 >>> ((12 : Int32) &&& 31).toUInt32).toInt32))]))
  refine ogo (fun _ k => XS.iand X0.here hx rfl (hb hby at_33) rfl k) ?_
  show OGo _ _ _ _ (s₁.setTop (mkF m 34 #[.val (.int va), .val (.int vb), .val (.int vc), .val (.int vd), .val (.int w_0_1), .val (.int w_0_2), .val (.int w_0_3), .val (.int w_0_4), .unset, .unset, .unset, .unset, .unset, .unset, .unset, .unset, .unset, .unset, .unset] [(.int (((vc.toUInt32 >>> ((12 : Int32) &&& 31).toUInt32).toInt32) &&& (63 : Int32)))]))
  suffices Nw_0_5 : ∀ w_0_5 : Int32, w_0_5 = (((vc.toUInt32 >>> ((12 : Int32) &&& 31).toUInt32).toInt32) &&& (63 : Int32)) → OGo p.tables e below (OFin s (fun v _ L => v = some (.int 1) ∧ Fr n0 L) 24 640) (s₁.setTop (mkF m 34 #[.val (.int va), .val (.int vb), .val (.int vc), .val (.int vd), .val (.int w_0_1), .val (.int w_0_2), .val (.int w_0_3), .val (.int w_0_4), .unset, .unset, .unset, .unset, .unset, .unset, .unset, .unset, .unset, .unset, .unset] [(.int w_0_5)])) from Nw_0_5 _ rfl
  intro w_0_5 hw_0_5
  refine ogo (fun _ k => XS.istore X0.here hx rfl (hb hby at_34) rfl (l' := #[.val (.int va), .val (.int vb), .val (.int vc), .val (.int vd), .val (.int w_0_1), .val (.int w_0_2), .val (.int w_0_3), .val (.int w_0_4), .val (.int w_0_5), .unset, .unset, .unset, .unset, .unset, .unset, .unset, .unset, .unset, .unset]) rfl k) ?_
  show OGo _ _ _ _ (s₁.setTop (mkF m 36 #[.val (.int va), .val (.int vb), .val (.int vc), .val (.int vd), .val (.int w_0_1), .val (.int w_0_2), .val (.int w_0_3), .val (.int w_0_4), .val (.int w_0_5), .unset, .unset, .unset, .unset, .unset, .unset, .unset, .unset, .unset, .unset] []))
  refine ogo (fun _ k => XS.iloadN X0.here hx rfl (hb hby at_36) rfl k) ?_
  show OGo _ _ _ _ (s₁.setTop (mkF m 37 #[.val (.int va), .val (.int vb), .val (.int vc), .val (.int vd), .val (.int w_0_1), .val (.int w_0_2), .val (.int w_0_3), .val (.int w_0_4), .val (.int w_0_5), .unset, .unset, .unset, .unset, .unset, .unset, .unset, .unset, .unset, .unset] [(.int vd)]))
  refine ogo (fun _ k => XS.i2b X0.here hx rfl (hb hby at_37) rfl k) ?_
  show OGo _ _ _ _ (s₁.setTop (mkF m 38 #[.val (.int va), .val (.int vb), .val (.int vc), .val (.int vd), .val (.int w_0_1), .val (.int w_0_2), .val (.int w_0_3), .val (.int w_0_4), .val (.int w_0_5), .unset, .unset, .unset, .unset, .unset, .unset, .unset, .unset, .unset, .unset] [(.int (vd.toInt8.toInt32))]))
  suffices Nw_0_6 : ∀ w_0_6 : Int32, w_0_6 = (vd.toInt8.toInt32) → OGo p.tables e below (OFin s (fun v _ L => v = some (.int 1) ∧ Fr n0 L) 24 640) (s₁.setTop (mkF m 38 #[.val (.int va), .val (.int vb), .val (.int vc), .val (.int vd), .val (.int w_0_1), .val (.int w_0_2), .val (.int w_0_3), .val (.int w_0_4), .val (.int w_0_5), .unset, .unset, .unset, .unset, .unset, .unset, .unset, .unset, .unset, .unset] [(.int w_0_6)])) from Nw_0_6 _ rfl
  intro w_0_6 hw_0_6
  refine ogo (fun _ k => XS.istore X0.here hx rfl (hb hby at_38) rfl (l' := #[.val (.int va), .val (.int vb), .val (.int vc), .val (.int vd), .val (.int w_0_1), .val (.int w_0_2), .val (.int w_0_3), .val (.int w_0_4), .val (.int w_0_5), .val (.int w_0_6), .unset, .unset, .unset, .unset, .unset, .unset, .unset, .unset, .unset]) rfl k) ?_
  show OGo _ _ _ _ (s₁.setTop (mkF m 40 #[.val (.int va), .val (.int vb), .val (.int vc), .val (.int vd), .val (.int w_0_1), .val (.int w_0_2), .val (.int w_0_3), .val (.int w_0_4), .val (.int w_0_5), .val (.int w_0_6), .unset, .unset, .unset, .unset, .unset, .unset, .unset, .unset, .unset] []))
  refine ogo (fun _ k => XS.iloadN X0.here hx rfl (hb hby at_40) rfl k) ?_
  show OGo _ _ _ _ (s₁.setTop (mkF m 41 #[.val (.int va), .val (.int vb), .val (.int vc), .val (.int vd), .val (.int w_0_1), .val (.int w_0_2), .val (.int w_0_3), .val (.int w_0_4), .val (.int w_0_5), .val (.int w_0_6), .unset, .unset, .unset, .unset, .unset, .unset, .unset, .unset, .unset] [(.int vd)]))
  refine ogo (fun _ k => XS.bipush X0.here hx rfl (hb hby at_41) k) ?_
  show OGo _ _ _ _ (s₁.setTop (mkF m 43 #[.val (.int va), .val (.int vb), .val (.int vc), .val (.int vd), .val (.int w_0_1), .val (.int w_0_2), .val (.int w_0_3), .val (.int w_0_4), .val (.int w_0_5), .val (.int w_0_6), .unset, .unset, .unset, .unset, .unset, .unset, .unset, .unset, .unset] [(.int (8 : Int32)), (.int vd)]))
  refine ogo (fun _ k => XS.iushr X0.here hx rfl (hb hby at_43) rfl k) ?_
  show OGo _ _ _ _ (s₁.setTop (mkF m 44 #[.val (.int va), .val (.int vb), .val (.int vc), .val (.int vd), .val (.int w_0_1), .val (.int w_0_2), .val (.int w_0_3), .val (.int w_0_4), .val (.int w_0_5), .val (.int w_0_6), .unset, .unset, .unset, .unset, .unset, .unset, .unset, .unset, .unset] [(.int ((vd.toUInt32 >>> ((8 : Int32) &&& 31).toUInt32).toInt32))]))
  refine ogo (fun _ k => XS.i2b X0.here hx rfl (hb hby at_44) rfl k) ?_
  show OGo _ _ _ _ (s₁.setTop (mkF m 45 #[.val (.int va), .val (.int vb), .val (.int vc), .val (.int vd), .val (.int w_0_1), .val (.int w_0_2), .val (.int w_0_3), .val (.int w_0_4), .val (.int w_0_5), .val (.int w_0_6), .unset, .unset, .unset, .unset, .unset, .unset, .unset, .unset, .unset] [(.int (((vd.toUInt32 >>> ((8 : Int32) &&& 31).toUInt32).toInt32).toInt8.toInt32))]))
  suffices Nw_0_7 : ∀ w_0_7 : Int32, w_0_7 = (((vd.toUInt32 >>> ((8 : Int32) &&& 31).toUInt32).toInt32).toInt8.toInt32) → OGo p.tables e below (OFin s (fun v _ L => v = some (.int 1) ∧ Fr n0 L) 24 640) (s₁.setTop (mkF m 45 #[.val (.int va), .val (.int vb), .val (.int vc), .val (.int vd), .val (.int w_0_1), .val (.int w_0_2), .val (.int w_0_3), .val (.int w_0_4), .val (.int w_0_5), .val (.int w_0_6), .unset, .unset, .unset, .unset, .unset, .unset, .unset, .unset, .unset] [(.int w_0_7)])) from Nw_0_7 _ rfl
  intro w_0_7 hw_0_7
  refine ogo (fun _ k => XS.istore X0.here hx rfl (hb hby at_45) rfl (l' := #[.val (.int va), .val (.int vb), .val (.int vc), .val (.int vd), .val (.int w_0_1), .val (.int w_0_2), .val (.int w_0_3), .val (.int w_0_4), .val (.int w_0_5), .val (.int w_0_6), .val (.int w_0_7), .unset, .unset, .unset, .unset, .unset, .unset, .unset, .unset]) rfl k) ?_
  show OGo _ _ _ _ (s₁.setTop (mkF m 47 #[.val (.int va), .val (.int vb), .val (.int vc), .val (.int vd), .val (.int w_0_1), .val (.int w_0_2), .val (.int w_0_3), .val (.int w_0_4), .val (.int w_0_5), .val (.int w_0_6), .val (.int w_0_7), .unset, .unset, .unset, .unset, .unset, .unset, .unset, .unset] []))
  refine ogo (fun _ k => XS.iloadN X0.here hx rfl (hb hby at_47) rfl k) ?_
  show OGo _ _ _ _ (s₁.setTop (mkF m 48 #[.val (.int va), .val (.int vb), .val (.int vc), .val (.int vd), .val (.int w_0_1), .val (.int w_0_2), .val (.int w_0_3), .val (.int w_0_4), .val (.int w_0_5), .val (.int w_0_6), .val (.int w_0_7), .unset, .unset, .unset, .unset, .unset, .unset, .unset, .unset] [(.int vd)]))
  refine ogo (fun _ k => XS.bipush X0.here hx rfl (hb hby at_48) k) ?_
  show OGo _ _ _ _ (s₁.setTop (mkF m 50 #[.val (.int va), .val (.int vb), .val (.int vc), .val (.int vd), .val (.int w_0_1), .val (.int w_0_2), .val (.int w_0_3), .val (.int w_0_4), .val (.int w_0_5), .val (.int w_0_6), .val (.int w_0_7), .unset, .unset, .unset, .unset, .unset, .unset, .unset, .unset] [(.int (16 : Int32)), (.int vd)]))
  refine ogo (fun _ k => XS.iushr X0.here hx rfl (hb hby at_50) rfl k) ?_
  show OGo _ _ _ _ (s₁.setTop (mkF m 51 #[.val (.int va), .val (.int vb), .val (.int vc), .val (.int vd), .val (.int w_0_1), .val (.int w_0_2), .val (.int w_0_3), .val (.int w_0_4), .val (.int w_0_5), .val (.int w_0_6), .val (.int w_0_7), .unset, .unset, .unset, .unset, .unset, .unset, .unset, .unset] [(.int ((vd.toUInt32 >>> ((16 : Int32) &&& 31).toUInt32).toInt32))]))
  refine ogo (fun _ k => XS.i2b X0.here hx rfl (hb hby at_51) rfl k) ?_
  show OGo _ _ _ _ (s₁.setTop (mkF m 52 #[.val (.int va), .val (.int vb), .val (.int vc), .val (.int vd), .val (.int w_0_1), .val (.int w_0_2), .val (.int w_0_3), .val (.int w_0_4), .val (.int w_0_5), .val (.int w_0_6), .val (.int w_0_7), .unset, .unset, .unset, .unset, .unset, .unset, .unset, .unset] [(.int (((vd.toUInt32 >>> ((16 : Int32) &&& 31).toUInt32).toInt32).toInt8.toInt32))]))
  suffices Nw_0_8 : ∀ w_0_8 : Int32, w_0_8 = (((vd.toUInt32 >>> ((16 : Int32) &&& 31).toUInt32).toInt32).toInt8.toInt32) → OGo p.tables e below (OFin s (fun v _ L => v = some (.int 1) ∧ Fr n0 L) 24 640) (s₁.setTop (mkF m 52 #[.val (.int va), .val (.int vb), .val (.int vc), .val (.int vd), .val (.int w_0_1), .val (.int w_0_2), .val (.int w_0_3), .val (.int w_0_4), .val (.int w_0_5), .val (.int w_0_6), .val (.int w_0_7), .unset, .unset, .unset, .unset, .unset, .unset, .unset, .unset] [(.int w_0_8)])) from Nw_0_8 _ rfl
  intro w_0_8 hw_0_8
  refine ogo (fun _ k => XS.istore X0.here hx rfl (hb hby at_52) rfl (l' := #[.val (.int va), .val (.int vb), .val (.int vc), .val (.int vd), .val (.int w_0_1), .val (.int w_0_2), .val (.int w_0_3), .val (.int w_0_4), .val (.int w_0_5), .val (.int w_0_6), .val (.int w_0_7), .val (.int w_0_8), .unset, .unset, .unset, .unset, .unset, .unset, .unset]) rfl k) ?_
  show OGo _ _ _ _ (s₁.setTop (mkF m 54 #[.val (.int va), .val (.int vb), .val (.int vc), .val (.int vd), .val (.int w_0_1), .val (.int w_0_2), .val (.int w_0_3), .val (.int w_0_4), .val (.int w_0_5), .val (.int w_0_6), .val (.int w_0_7), .val (.int w_0_8), .unset, .unset, .unset, .unset, .unset, .unset, .unset] []))
  refine ogo (fun _ k => XS.iloadN X0.here hx rfl (hb hby at_54) rfl k) ?_
  show OGo _ _ _ _ (s₁.setTop (mkF m 55 #[.val (.int va), .val (.int vb), .val (.int vc), .val (.int vd), .val (.int w_0_1), .val (.int w_0_2), .val (.int w_0_3), .val (.int w_0_4), .val (.int w_0_5), .val (.int w_0_6), .val (.int w_0_7), .val (.int w_0_8), .unset, .unset, .unset, .unset, .unset, .unset, .unset] [(.int vd)]))
  refine ogo (fun _ k => XS.bipush X0.here hx rfl (hb hby at_55) k) ?_
  show OGo _ _ _ _ (s₁.setTop (mkF m 57 #[.val (.int va), .val (.int vb), .val (.int vc), .val (.int vd), .val (.int w_0_1), .val (.int w_0_2), .val (.int w_0_3), .val (.int w_0_4), .val (.int w_0_5), .val (.int w_0_6), .val (.int w_0_7), .val (.int w_0_8), .unset, .unset, .unset, .unset, .unset, .unset, .unset] [(.int (24 : Int32)), (.int vd)]))
  refine ogo (fun _ k => XS.iushr X0.here hx rfl (hb hby at_57) rfl k) ?_
  show OGo _ _ _ _ (s₁.setTop (mkF m 58 #[.val (.int va), .val (.int vb), .val (.int vc), .val (.int vd), .val (.int w_0_1), .val (.int w_0_2), .val (.int w_0_3), .val (.int w_0_4), .val (.int w_0_5), .val (.int w_0_6), .val (.int w_0_7), .val (.int w_0_8), .unset, .unset, .unset, .unset, .unset, .unset, .unset] [(.int ((vd.toUInt32 >>> ((24 : Int32) &&& 31).toUInt32).toInt32))]))
  refine ogo (fun _ k => XS.i2b X0.here hx rfl (hb hby at_58) rfl k) ?_
  show OGo _ _ _ _ (s₁.setTop (mkF m 59 #[.val (.int va), .val (.int vb), .val (.int vc), .val (.int vd), .val (.int w_0_1), .val (.int w_0_2), .val (.int w_0_3), .val (.int w_0_4), .val (.int w_0_5), .val (.int w_0_6), .val (.int w_0_7), .val (.int w_0_8), .unset, .unset, .unset, .unset, .unset, .unset, .unset] [(.int (((vd.toUInt32 >>> ((24 : Int32) &&& 31).toUInt32).toInt32).toInt8.toInt32))]))
  suffices Nw_0_9 : ∀ w_0_9 : Int32, w_0_9 = (((vd.toUInt32 >>> ((24 : Int32) &&& 31).toUInt32).toInt32).toInt8.toInt32) → OGo p.tables e below (OFin s (fun v _ L => v = some (.int 1) ∧ Fr n0 L) 24 640) (s₁.setTop (mkF m 59 #[.val (.int va), .val (.int vb), .val (.int vc), .val (.int vd), .val (.int w_0_1), .val (.int w_0_2), .val (.int w_0_3), .val (.int w_0_4), .val (.int w_0_5), .val (.int w_0_6), .val (.int w_0_7), .val (.int w_0_8), .unset, .unset, .unset, .unset, .unset, .unset, .unset] [(.int w_0_9)])) from Nw_0_9 _ rfl
  intro w_0_9 hw_0_9
  refine ogo (fun _ k => XS.istore X0.here hx rfl (hb hby at_59) rfl (l' := #[.val (.int va), .val (.int vb), .val (.int vc), .val (.int vd), .val (.int w_0_1), .val (.int w_0_2), .val (.int w_0_3), .val (.int w_0_4), .val (.int w_0_5), .val (.int w_0_6), .val (.int w_0_7), .val (.int w_0_8), .val (.int w_0_9), .unset, .unset, .unset, .unset, .unset, .unset]) rfl k) ?_
  show OGo _ _ _ _ (s₁.setTop (mkF m 61 #[.val (.int va), .val (.int vb), .val (.int vc), .val (.int vd), .val (.int w_0_1), .val (.int w_0_2), .val (.int w_0_3), .val (.int w_0_4), .val (.int w_0_5), .val (.int w_0_6), .val (.int w_0_7), .val (.int w_0_8), .val (.int w_0_9), .unset, .unset, .unset, .unset, .unset, .unset] []))
  refine ogo (fun _ k => XS.bipush X0.here hx rfl (hb hby at_61) k) ?_
  show OGo _ _ _ _ (s₁.setTop (mkF m 63 #[.val (.int va), .val (.int vb), .val (.int vc), .val (.int vd), .val (.int w_0_1), .val (.int w_0_2), .val (.int w_0_3), .val (.int w_0_4), .val (.int w_0_5), .val (.int w_0_6), .val (.int w_0_7), .val (.int w_0_8), .val (.int w_0_9), .unset, .unset, .unset, .unset, .unset, .unset] [(.int (64 : Int32))]))
  obtain ⟨T_0_10, h_0_10, k_0_10, X_0_10, e_0_10, E_0_10, A_0_10, Ex_0_10, st_0_10⟩ := newPE X0 hx hZ (hw _ (List.mem_of_getElem? (i := 1) rfl)) e0 (g := (mkF m 63 #[.val (.int va), .val (.int vb), .val (.int vc), .val (.int vd), .val (.int w_0_1), .val (.int w_0_2), .val (.int w_0_3), .val (.int w_0_4), .val (.int w_0_5), .val (.int w_0_6), .val (.int w_0_7), .val (.int w_0_8), .val (.int w_0_9), .unset, .unset, .unset, .unset, .unset, .unset] [(.int (64 : Int32))])) rfl (hb hby at_63) rfl (by decide) (cap := 64) (by decide) (by decide) (by decide) (by decide) (ad := "[B") (by first | rfl | decide +kernel)
  obtain ⟨b_0_10, g_0_10⟩ : ∃ z, z = h0.size := ⟨_, rfl⟩
  rw [← g_0_10] at A_0_10 Ex_0_10 st_0_10
  have g_b_0_10 : n0 ≤ b_0_10 := Nat.le_trans Z0 (Nat.le_of_eq g_0_10.symm)
  have Z_0_10 : n0 ≤ h_0_10.size := Nat.le_trans Z0 E_0_10.1
  have V_0_10 : OAr Z h_0_10 b_0_10 .byte 64 (fun i => .int ((fun _ : Nat => (0 : Int32)) i)) := OAr.new A_0_10 (by decide)
  obtain ⟨lc_0_10, N_0_10, X_0_10⟩ : ∃ L, Fr n0 L ∧ Stand p l e room_1 s m #[(.int va), (.int vb), (.int vc), (.int vd)] below meth c T_0_10 L 1 64 := ⟨_, N0, X_0_10⟩
  refine ogo (fun _ k => st_0_10 _ k) ?_
  show OGo _ _ _ _ (T_0_10.setTop (mkF m 65 #[.val (.int va), .val (.int vb), .val (.int vc), .val (.int vd), .val (.int w_0_1), .val (.int w_0_2), .val (.int w_0_3), .val (.int w_0_4), .val (.int w_0_5), .val (.int w_0_6), .val (.int w_0_7), .val (.int w_0_8), .val (.int w_0_9), .unset, .unset, .unset, .unset, .unset, .unset] [(.ref b_0_10)]))
  refine ogo (fun _ k => XS.astore X_0_10.here hx rfl (hb hby at_65) rfl rfl (l' := #[.val (.int va), .val (.int vb), .val (.int vc), .val (.int vd), .val (.int w_0_1), .val (.int w_0_2), .val (.int w_0_3), .val (.int w_0_4), .val (.int w_0_5), .val (.int w_0_6), .val (.int w_0_7), .val (.int w_0_8), .val (.int w_0_9), .val (.ref b_0_10), .unset, .unset, .unset, .unset, .unset]) rfl k) ?_
  show OGo _ _ _ _ (T_0_10.setTop (mkF m 67 #[.val (.int va), .val (.int vb), .val (.int vc), .val (.int vd), .val (.int w_0_1), .val (.int w_0_2), .val (.int w_0_3), .val (.int w_0_4), .val (.int w_0_5), .val (.int w_0_6), .val (.int w_0_7), .val (.int w_0_8), .val (.int w_0_9), .val (.ref b_0_10), .unset, .unset, .unset, .unset, .unset] []))
  refine ogo (fun _ k => XS.aload X_0_10.here hx rfl (hb hby at_67) rfl rfl k) ?_
  show OGo _ _ _ _ (T_0_10.setTop (mkF m 69 #[.val (.int va), .val (.int vb), .val (.int vc), .val (.int vd), .val (.int w_0_1), .val (.int w_0_2), .val (.int w_0_3), .val (.int w_0_4), .val (.int w_0_5), .val (.int w_0_6), .val (.int w_0_7), .val (.int w_0_8), .val (.int w_0_9), .val (.ref b_0_10), .unset, .unset, .unset, .unset, .unset] [(.ref b_0_10)]))
  refine ogo (fun _ k => XS.iload X_0_10.here hx rfl (hb hby at_69) rfl k) ?_
  show OGo _ _ _ _ (T_0_10.setTop (mkF m 71 #[.val (.int va), .val (.int vb), .val (.int vc), .val (.int vd), .val (.int w_0_1), .val (.int w_0_2), .val (.int w_0_3), .val (.int w_0_4), .val (.int w_0_5), .val (.int w_0_6), .val (.int w_0_7), .val (.int w_0_8), .val (.int w_0_9), .val (.ref b_0_10), .unset, .unset, .unset, .unset, .unset] [(.int w_0_3), (.ref b_0_10)]))
  refine ogo (fun _ k => XS.iload X_0_10.here hx rfl (hb hby at_71) rfl k) ?_
  show OGo _ _ _ _ (T_0_10.setTop (mkF m 73 #[.val (.int va), .val (.int vb), .val (.int vc), .val (.int vd), .val (.int w_0_1), .val (.int w_0_2), .val (.int w_0_3), .val (.int w_0_4), .val (.int w_0_5), .val (.int w_0_6), .val (.int w_0_7), .val (.int w_0_8), .val (.int w_0_9), .val (.ref b_0_10), .unset, .unset, .unset, .unset, .unset] [(.int w_0_6), (.int w_0_3), (.ref b_0_10)]))
  obtain ⟨T_0_11, h_0_11, X_0_11, e_0_11, W_0_11, V_0_11, st_0_11⟩ := ostB X_0_10 hx hZ e_0_10 V_0_10 (own_j hw_0_3).1 (own_j hw_0_3).2 (g := (mkF m 73 #[.val (.int va), .val (.int vb), .val (.int vc), .val (.int vd), .val (.int w_0_1), .val (.int w_0_2), .val (.int w_0_3), .val (.int w_0_4), .val (.int w_0_5), .val (.int w_0_6), .val (.int w_0_7), .val (.int w_0_8), .val (.int w_0_9), .val (.ref b_0_10), .unset, .unset, .unset, .unset, .unset] [(.int w_0_6), (.int w_0_3), (.ref b_0_10)])) rfl rfl (hb hby at_73)
  have Y_0_11 : OAr Z h_0_11 b_0_10 .byte 64 (fun i => .int ((fun i : Nat => if i = (w_0_3).toNatClampNeg then w_0_6.toInt8.toInt32 else (fun _ : Nat => (0 : Int32)) i) i)) := V_0_11.conv (fun i _ => by dsimp only; split <;> rfl)
  have f_0_12 := Ex_0_10.wr W_0_11
  have Z_0_11 : n0 ≤ h_0_11.size := Nat.le_trans Z_0_10 (Keep.of_wr W_0_11).1
  obtain ⟨lc_0_11, N_0_11, X_0_11⟩ : ∃ L, Fr n0 L ∧ Stand p l e room_1 s m #[(.int va), (.int vb), (.int vc), (.int vd)] below meth c T_0_11 L 1 64 := ⟨_, Fr.snoc X_0_11 N_0_10 g_b_0_10, X_0_11⟩
  refine ogo (fun _ k => st_0_11 _ k) ?_
  show OGo _ _ _ _ (T_0_11.setTop (mkF m 74 #[.val (.int va), .val (.int vb), .val (.int vc), .val (.int vd), .val (.int w_0_1), .val (.int w_0_2), .val (.int w_0_3), .val (.int w_0_4), .val (.int w_0_5), .val (.int w_0_6), .val (.int w_0_7), .val (.int w_0_8), .val (.int w_0_9), .val (.ref b_0_10), .unset, .unset, .unset, .unset, .unset] []))
  refine ogo (fun _ k => XS.aload X_0_11.here hx rfl (hb hby at_74) rfl rfl k) ?_
  show OGo _ _ _ _ (T_0_11.setTop (mkF m 76 #[.val (.int va), .val (.int vb), .val (.int vc), .val (.int vd), .val (.int w_0_1), .val (.int w_0_2), .val (.int w_0_3), .val (.int w_0_4), .val (.int w_0_5), .val (.int w_0_6), .val (.int w_0_7), .val (.int w_0_8), .val (.int w_0_9), .val (.ref b_0_10), .unset, .unset, .unset, .unset, .unset] [(.ref b_0_10)]))
  refine ogo (fun _ k => XS.iload X_0_11.here hx rfl (hb hby at_76) rfl k) ?_
  show OGo _ _ _ _ (T_0_11.setTop (mkF m 78 #[.val (.int va), .val (.int vb), .val (.int vc), .val (.int vd), .val (.int w_0_1), .val (.int w_0_2), .val (.int w_0_3), .val (.int w_0_4), .val (.int w_0_5), .val (.int w_0_6), .val (.int w_0_7), .val (.int w_0_8), .val (.int w_0_9), .val (.ref b_0_10), .unset, .unset, .unset, .unset, .unset] [(.int w_0_4), (.ref b_0_10)]))
  refine ogo (fun _ k => XS.iload X_0_11.here hx rfl (hb hby at_78) rfl k) ?_
  show OGo _ _ _ _ (T_0_11.setTop (mkF m 80 #[.val (.int va), .val (.int vb), .val (.int vc), .val (.int vd), .val (.int w_0_1), .val (.int w_0_2), .val (.int w_0_3), .val (.int w_0_4), .val (.int w_0_5), .val (.int w_0_6), .val (.int w_0_7), .val (.int w_0_8), .val (.int w_0_9), .val (.ref b_0_10), .unset, .unset, .unset, .unset, .unset] [(.int w_0_7), (.int w_0_4), (.ref b_0_10)]))
  obtain ⟨T_0_13, h_0_13, X_0_13, e_0_13, W_0_13, V_0_13, st_0_13⟩ := ostB X_0_11 hx hZ e_0_11 Y_0_11 (own_j hw_0_4).1 (own_j hw_0_4).2 (g := (mkF m 80 #[.val (.int va), .val (.int vb), .val (.int vc), .val (.int vd), .val (.int w_0_1), .val (.int w_0_2), .val (.int w_0_3), .val (.int w_0_4), .val (.int w_0_5), .val (.int w_0_6), .val (.int w_0_7), .val (.int w_0_8), .val (.int w_0_9), .val (.ref b_0_10), .unset, .unset, .unset, .unset, .unset] [(.int w_0_7), (.int w_0_4), (.ref b_0_10)])) rfl rfl (hb hby at_80)
  have Y_0_13 : OAr Z h_0_13 b_0_10 .byte 64 (fun i => .int ((fun i : Nat => if i = (w_0_4).toNatClampNeg then w_0_7.toInt8.toInt32 else (fun i : Nat => if i = (w_0_3).toNatClampNeg then w_0_6.toInt8.toInt32 else (fun _ : Nat => (0 : Int32)) i) i) i)) := V_0_13.conv (fun i _ => by dsimp only; split <;> rfl)
  have f_0_14 := f_0_12.wr W_0_13
  have Z_0_13 : n0 ≤ h_0_13.size := Nat.le_trans Z_0_11 (Keep.of_wr W_0_13).1
  obtain ⟨lc_0_13, N_0_13, X_0_13⟩ : ∃ L, Fr n0 L ∧ Stand p l e room_1 s m #[(.int va), (.int vb), (.int vc), (.int vd)] below meth c T_0_13 L 1 64 := ⟨_, Fr.snoc X_0_13 N_0_11 g_b_0_10, X_0_13⟩
  refine ogo (fun _ k => st_0_13 _ k) ?_
  show OGo _ _ _ _ (T_0_13.setTop (mkF m 81 #[.val (.int va), .val (.int vb), .val (.int vc), .val (.int vd), .val (.int w_0_1), .val (.int w_0_2), .val (.int w_0_3), .val (.int w_0_4), .val (.int w_0_5), .val (.int w_0_6), .val (.int w_0_7), .val (.int w_0_8), .val (.int w_0_9), .val (.ref b_0_10), .unset, .unset, .unset, .unset, .unset] []))
  refine ogo (fun _ k => XS.bipush X_0_13.here hx rfl (hb hby at_81) k) ?_
  show OGo _ _ _ _ (T_0_13.setTop (mkF m 83 #[.val (.int va), .val (.int vb), .val (.int vc), .val (.int vd), .val (.int w_0_1), .val (.int w_0_2), .val (.int w_0_3), .val (.int w_0_4), .val (.int w_0_5), .val (.int w_0_6), .val (.int w_0_7), .val (.int w_0_8), .val (.int w_0_9), .val (.ref b_0_10), .unset, .unset, .unset, .unset, .unset] [(.int (64 : Int32))]))
  obtain ⟨T_0_15, h_0_15, k_0_15, X_0_15, e_0_15, E_0_15, A_0_15, Ex_0_15, st_0_15⟩ := newPE X_0_13 hx hZ (hw _ (List.mem_of_getElem? (i := 1) rfl)) e_0_13 (g := (mkF m 83 #[.val (.int va), .val (.int vb), .val (.int vc), .val (.int vd), .val (.int w_0_1), .val (.int w_0_2), .val (.int w_0_3), .val (.int w_0_4), .val (.int w_0_5), .val (.int w_0_6), .val (.int w_0_7), .val (.int w_0_8), .val (.int w_0_9), .val (.ref b_0_10), .unset, .unset, .unset, .unset, .unset] [(.int (64 : Int32))])) rfl (hb hby at_83) rfl (by decide) (cap := 64) (by decide) (by decide) (by decide) (by decide) (ad := "[B") (by first | rfl | decide +kernel)
  obtain ⟨b_0_15, g_0_15⟩ : ∃ z, z = h_0_13.size := ⟨_, rfl⟩
  rw [← g_0_15] at A_0_15 Ex_0_15 st_0_15
  have g_b_0_15 : n0 ≤ b_0_15 := Nat.le_trans Z_0_13 (Nat.le_of_eq g_0_15.symm)
  have ne_b_0_10_b_0_15 : b_0_10 ≠ b_0_15 := Nat.ne_of_lt (Nat.lt_of_lt_of_le Y_0_13.lt (Nat.le_of_eq g_0_15.symm))
  have f_0_16 := f_0_14.ext E_0_15
  have f_0_17 := Y_0_13.ext E_0_15
  have Z_0_15 : n0 ≤ h_0_15.size := Nat.le_trans Z_0_13 E_0_15.1
  have V_0_15 : OAr Z h_0_15 b_0_15 .byte 64 (fun i => .int ((fun _ : Nat => (0 : Int32)) i)) := OAr.new A_0_15 (by decide)
  obtain ⟨lc_0_15, N_0_15, X_0_15⟩ : ∃ L, Fr n0 L ∧ Stand p l e room_1 s m #[(.int va), (.int vb), (.int vc), (.int vd)] below meth c T_0_15 L 2 128 := ⟨_, N_0_13, X_0_15⟩
  refine ogo (fun _ k => st_0_15 _ k) ?_
  show OGo _ _ _ _ (T_0_15.setTop (mkF m 85 #[.val (.int va), .val (.int vb), .val (.int vc), .val (.int vd), .val (.int w_0_1), .val (.int w_0_2), .val (.int w_0_3), .val (.int w_0_4), .val (.int w_0_5), .val (.int w_0_6), .val (.int w_0_7), .val (.int w_0_8), .val (.int w_0_9), .val (.ref b_0_10), .unset, .unset, .unset, .unset, .unset] [(.ref b_0_15)]))
  refine ogo (fun _ k => XS.astore X_0_15.here hx rfl (hb hby at_85) rfl rfl (l' := #[.val (.int va), .val (.int vb), .val (.int vc), .val (.int vd), .val (.int w_0_1), .val (.int w_0_2), .val (.int w_0_3), .val (.int w_0_4), .val (.int w_0_5), .val (.int w_0_6), .val (.int w_0_7), .val (.int w_0_8), .val (.int w_0_9), .val (.ref b_0_10), .val (.ref b_0_15), .unset, .unset, .unset, .unset]) rfl k) ?_
  show OGo _ _ _ _ (T_0_15.setTop (mkF m 87 #[.val (.int va), .val (.int vb), .val (.int vc), .val (.int vd), .val (.int w_0_1), .val (.int w_0_2), .val (.int w_0_3), .val (.int w_0_4), .val (.int w_0_5), .val (.int w_0_6), .val (.int w_0_7), .val (.int w_0_8), .val (.int w_0_9), .val (.ref b_0_10), .val (.ref b_0_15), .unset, .unset, .unset, .unset] []))
  refine ogo (fun _ k => XS.aload X_0_15.here hx rfl (hb hby at_87) rfl rfl k) ?_
  show OGo _ _ _ _ (T_0_15.setTop (mkF m 89 #[.val (.int va), .val (.int vb), .val (.int vc), .val (.int vd), .val (.int w_0_1), .val (.int w_0_2), .val (.int w_0_3), .val (.int w_0_4), .val (.int w_0_5), .val (.int w_0_6), .val (.int w_0_7), .val (.int w_0_8), .val (.int w_0_9), .val (.ref b_0_10), .val (.ref b_0_15), .unset, .unset, .unset, .unset] [(.ref b_0_15)]))
  refine ogo (fun _ k => XS.iload X_0_15.here hx rfl (hb hby at_89) rfl k) ?_
  show OGo _ _ _ _ (T_0_15.setTop (mkF m 91 #[.val (.int va), .val (.int vb), .val (.int vc), .val (.int vd), .val (.int w_0_1), .val (.int w_0_2), .val (.int w_0_3), .val (.int w_0_4), .val (.int w_0_5), .val (.int w_0_6), .val (.int w_0_7), .val (.int w_0_8), .val (.int w_0_9), .val (.ref b_0_10), .val (.ref b_0_15), .unset, .unset, .unset, .unset] [(.int w_0_3), (.ref b_0_15)]))
  refine ogo (fun _ k => XS.iload X_0_15.here hx rfl (hb hby at_91) rfl k) ?_
  show OGo _ _ _ _ (T_0_15.setTop (mkF m 93 #[.val (.int va), .val (.int vb), .val (.int vc), .val (.int vd), .val (.int w_0_1), .val (.int w_0_2), .val (.int w_0_3), .val (.int w_0_4), .val (.int w_0_5), .val (.int w_0_6), .val (.int w_0_7), .val (.int w_0_8), .val (.int w_0_9), .val (.ref b_0_10), .val (.ref b_0_15), .unset, .unset, .unset, .unset] [(.int w_0_8), (.int w_0_3), (.ref b_0_15)]))
  obtain ⟨T_0_18, h_0_18, X_0_18, e_0_18, W_0_18, V_0_18, st_0_18⟩ := ostB X_0_15 hx hZ e_0_15 V_0_15 (own_j hw_0_3).1 (own_j hw_0_3).2 (g := (mkF m 93 #[.val (.int va), .val (.int vb), .val (.int vc), .val (.int vd), .val (.int w_0_1), .val (.int w_0_2), .val (.int w_0_3), .val (.int w_0_4), .val (.int w_0_5), .val (.int w_0_6), .val (.int w_0_7), .val (.int w_0_8), .val (.int w_0_9), .val (.ref b_0_10), .val (.ref b_0_15), .unset, .unset, .unset, .unset] [(.int w_0_8), (.int w_0_3), (.ref b_0_15)])) rfl rfl (hb hby at_93)
  have Y_0_18 : OAr Z h_0_18 b_0_15 .byte 64 (fun i => .int ((fun i : Nat => if i = (w_0_3).toNatClampNeg then w_0_8.toInt8.toInt32 else (fun _ : Nat => (0 : Int32)) i) i)) := V_0_18.conv (fun i _ => by dsimp only; split <;> rfl)
  have f_0_19 := f_0_16.wr W_0_18
  have f_0_20 := f_0_17.other W_0_18 ne_b_0_10_b_0_15
  have f_0_21 := Ex_0_15.wr W_0_18
  have Z_0_18 : n0 ≤ h_0_18.size := Nat.le_trans Z_0_15 (Keep.of_wr W_0_18).1
  obtain ⟨lc_0_18, N_0_18, X_0_18⟩ : ∃ L, Fr n0 L ∧ Stand p l e room_1 s m #[(.int va), (.int vb), (.int vc), (.int vd)] below meth c T_0_18 L 2 128 := ⟨_, Fr.snoc X_0_18 N_0_15 g_b_0_15, X_0_18⟩
  refine ogo (fun _ k => st_0_18 _ k) ?_
  show OGo _ _ _ _ (T_0_18.setTop (mkF m 94 #[.val (.int va), .val (.int vb), .val (.int vc), .val (.int vd), .val (.int w_0_1), .val (.int w_0_2), .val (.int w_0_3), .val (.int w_0_4), .val (.int w_0_5), .val (.int w_0_6), .val (.int w_0_7), .val (.int w_0_8), .val (.int w_0_9), .val (.ref b_0_10), .val (.ref b_0_15), .unset, .unset, .unset, .unset] []))
  refine ogo (fun _ k => XS.aload X_0_18.here hx rfl (hb hby at_94) rfl rfl k) ?_
  show OGo _ _ _ _ (T_0_18.setTop (mkF m 96 #[.val (.int va), .val (.int vb), .val (.int vc), .val (.int vd), .val (.int w_0_1), .val (.int w_0_2), .val (.int w_0_3), .val (.int w_0_4), .val (.int w_0_5), .val (.int w_0_6), .val (.int w_0_7), .val (.int w_0_8), .val (.int w_0_9), .val (.ref b_0_10), .val (.ref b_0_15), .unset, .unset, .unset, .unset] [(.ref b_0_15)]))
  refine ogo (fun _ k => XS.iload X_0_18.here hx rfl (hb hby at_96) rfl k) ?_
  show OGo _ _ _ _ (T_0_18.setTop (mkF m 98 #[.val (.int va), .val (.int vb), .val (.int vc), .val (.int vd), .val (.int w_0_1), .val (.int w_0_2), .val (.int w_0_3), .val (.int w_0_4), .val (.int w_0_5), .val (.int w_0_6), .val (.int w_0_7), .val (.int w_0_8), .val (.int w_0_9), .val (.ref b_0_10), .val (.ref b_0_15), .unset, .unset, .unset, .unset] [(.int w_0_5), (.ref b_0_15)]))
  refine ogo (fun _ k => XS.iload X_0_18.here hx rfl (hb hby at_98) rfl k) ?_
  show OGo _ _ _ _ (T_0_18.setTop (mkF m 100 #[.val (.int va), .val (.int vb), .val (.int vc), .val (.int vd), .val (.int w_0_1), .val (.int w_0_2), .val (.int w_0_3), .val (.int w_0_4), .val (.int w_0_5), .val (.int w_0_6), .val (.int w_0_7), .val (.int w_0_8), .val (.int w_0_9), .val (.ref b_0_10), .val (.ref b_0_15), .unset, .unset, .unset, .unset] [(.int w_0_9), (.int w_0_5), (.ref b_0_15)]))
  obtain ⟨T_0_22, h_0_22, X_0_22, e_0_22, W_0_22, V_0_22, st_0_22⟩ := ostB X_0_18 hx hZ e_0_18 Y_0_18 (own_j hw_0_5).1 (own_j hw_0_5).2 (g := (mkF m 100 #[.val (.int va), .val (.int vb), .val (.int vc), .val (.int vd), .val (.int w_0_1), .val (.int w_0_2), .val (.int w_0_3), .val (.int w_0_4), .val (.int w_0_5), .val (.int w_0_6), .val (.int w_0_7), .val (.int w_0_8), .val (.int w_0_9), .val (.ref b_0_10), .val (.ref b_0_15), .unset, .unset, .unset, .unset] [(.int w_0_9), (.int w_0_5), (.ref b_0_15)])) rfl rfl (hb hby at_100)
  have Y_0_22 : OAr Z h_0_22 b_0_15 .byte 64 (fun i => .int ((fun i : Nat => if i = (w_0_5).toNatClampNeg then w_0_9.toInt8.toInt32 else (fun i : Nat => if i = (w_0_3).toNatClampNeg then w_0_8.toInt8.toInt32 else (fun _ : Nat => (0 : Int32)) i) i) i)) := V_0_22.conv (fun i _ => by dsimp only; split <;> rfl)
  have f_0_23 := f_0_19.wr W_0_22
  have f_0_24 := f_0_20.other W_0_22 ne_b_0_10_b_0_15
  have f_0_25 := f_0_21.wr W_0_22
  have Z_0_22 : n0 ≤ h_0_22.size := Nat.le_trans Z_0_18 (Keep.of_wr W_0_22).1
  obtain ⟨lc_0_22, N_0_22, X_0_22⟩ : ∃ L, Fr n0 L ∧ Stand p l e room_1 s m #[(.int va), (.int vb), (.int vc), (.int vd)] below meth c T_0_22 L 2 128 := ⟨_, Fr.snoc X_0_22 N_0_18 g_b_0_15, X_0_22⟩
  refine ogo (fun _ k => st_0_22 _ k) ?_
  show OGo _ _ _ _ (T_0_22.setTop (mkF m 101 #[.val (.int va), .val (.int vb), .val (.int vc), .val (.int vd), .val (.int w_0_1), .val (.int w_0_2), .val (.int w_0_3), .val (.int w_0_4), .val (.int w_0_5), .val (.int w_0_6), .val (.int w_0_7), .val (.int w_0_8), .val (.int w_0_9), .val (.ref b_0_10), .val (.ref b_0_15), .unset, .unset, .unset, .unset] []))
  obtain ⟨T_0_26, h_0_26, X_0_26, e_0_26, E_0_26, A_0_26, D_0_26, -, st_0_26⟩ := newO X_0_22 hx hZ hown (hw _ (List.mem_of_getElem? (i := 2) rfl)) (hw _ (List.mem_of_getElem? (i := 3) rfl)) (hw _ (List.mem_of_getElem? (i := 4) rfl)) e_0_22 (g := (mkF m 101 #[.val (.int va), .val (.int vb), .val (.int vc), .val (.int vd), .val (.int w_0_1), .val (.int w_0_2), .val (.int w_0_3), .val (.int w_0_4), .val (.int w_0_5), .val (.int w_0_6), .val (.int w_0_7), .val (.int w_0_8), .val (.int w_0_9), .val (.ref b_0_10), .val (.ref b_0_15), .unset, .unset, .unset, .unset] [])) rfl (hb hby at_101) (by decide) (by decide)
  obtain ⟨b_0_26, g_0_26⟩ : ∃ z, z = h_0_22.size := ⟨_, rfl⟩
  rw [← g_0_26] at A_0_26 D_0_26 st_0_26
  have g_b_0_26 : n0 ≤ b_0_26 := Nat.le_trans Z_0_22 (Nat.le_of_eq g_0_26.symm)
  have ne_b_0_10_b_0_26 : b_0_10 ≠ b_0_26 := Nat.ne_of_lt (Nat.lt_of_lt_of_le f_0_24.lt (Nat.le_of_eq g_0_26.symm))
  have ne_b_0_15_b_0_26 : b_0_15 ≠ b_0_26 := Nat.ne_of_lt (Nat.lt_of_lt_of_le Y_0_22.lt (Nat.le_of_eq g_0_26.symm))
  have f_0_27 := f_0_23.ext E_0_26
  have f_0_28 := f_0_24.ext E_0_26
  have f_0_29 := f_0_25.ext E_0_26
  have f_0_30 := Y_0_22.ext E_0_26
  have Z_0_26 : n0 ≤ h_0_26.size := Nat.le_trans Z_0_22 E_0_26.1
  have f_0_31 : Fld Z h_0_26 b_0_26 "com/example/gol_gumbaz/golgumbaz/shh/Admission" "minPow" "D" (.double (0 : UInt64)) := D_0_26 (Or.inr (hw _ (List.mem_of_getElem? (i := 39) rfl))) (ty := .double) (by decide)
  have f_0_32 : Fld Z h_0_26 b_0_26 "com/example/gol_gumbaz/golgumbaz/shh/Admission" "filter" "Lcom/example/gol_gumbaz/golgumbaz/envelope/BloomFilter;" .null := D_0_26 (Or.inr (hw _ (List.mem_of_getElem? (i := 41) rfl))) (ty := (.object "com/example/gol_gumbaz/golgumbaz/envelope/BloomFilter")) (by decide)
  obtain ⟨lc_0_26, N_0_26, X_0_26⟩ : ∃ L, Fr n0 L ∧ Stand p l e room_1 s m #[(.int va), (.int vb), (.int vc), (.int vd)] below meth c T_0_26 L 3 130 := ⟨_, N_0_22, X_0_26⟩
  refine ogo (fun _ k => st_0_26 _ k) ?_
  show OGo _ _ _ _ (T_0_26.setTop (mkF m 104 #[.val (.int va), .val (.int vb), .val (.int vc), .val (.int vd), .val (.int w_0_1), .val (.int w_0_2), .val (.int w_0_3), .val (.int w_0_4), .val (.int w_0_5), .val (.int w_0_6), .val (.int w_0_7), .val (.int w_0_8), .val (.int w_0_9), .val (.ref b_0_10), .val (.ref b_0_15), .unset, .unset, .unset, .unset] [(.ref b_0_26)]))
  refine ogo (fun _ k => XS.dup X_0_26.here hx rfl (hb hby at_104) rfl rfl k) ?_
  show OGo _ _ _ _ (T_0_26.setTop (mkF m 105 #[.val (.int va), .val (.int vb), .val (.int vc), .val (.int vd), .val (.int w_0_1), .val (.int w_0_2), .val (.int w_0_3), .val (.int w_0_4), .val (.int w_0_5), .val (.int w_0_6), .val (.int w_0_7), .val (.int w_0_8), .val (.int w_0_9), .val (.ref b_0_10), .val (.ref b_0_15), .unset, .unset, .unset, .unset] [(.ref b_0_26), (.ref b_0_26)]))
  refine ogo (fun _ k => XS.iload X_0_26.here hx rfl (hb hby at_105) rfl k) ?_
  show OGo _ _ _ _ (T_0_26.setTop (mkF m 107 #[.val (.int va), .val (.int vb), .val (.int vc), .val (.int vd), .val (.int w_0_1), .val (.int w_0_2), .val (.int w_0_3), .val (.int w_0_4), .val (.int w_0_5), .val (.int w_0_6), .val (.int w_0_7), .val (.int w_0_8), .val (.int w_0_9), .val (.ref b_0_10), .val (.ref b_0_15), .unset, .unset, .unset, .unset] [(.int w_0_1), (.ref b_0_26), (.ref b_0_26)]))
  refine ogo (fun _ k => XS.i2dS X_0_26.here hx rfl (hb hby at_107) rfl rfl k) ?_
  show OGo _ _ _ _ (T_0_26.setTop (mkF m 108 #[.val (.int va), .val (.int vb), .val (.int vc), .val (.int vd), .val (.int w_0_1), .val (.int w_0_2), .val (.int w_0_3), .val (.int w_0_4), .val (.int w_0_5), .val (.int w_0_6), .val (.int w_0_7), .val (.int w_0_8), .val (.int w_0_9), .val (.ref b_0_10), .val (.ref b_0_15), .unset, .unset, .unset, .unset] [(.double (FP.i2d w_0_1)), (.ref b_0_26), (.ref b_0_26)]))
  obtain ⟨T_0_33, h_0_33, X_0_33, e_0_33, E_0_33, A_0_33, D_0_33, -, st_0_33⟩ := newO X_0_26 hx hZ hown (hw _ (List.mem_of_getElem? (i := 5) rfl)) (hw _ (List.mem_of_getElem? (i := 6) rfl)) (hw _ (List.mem_of_getElem? (i := 7) rfl)) e_0_26 (g := (mkF m 108 #[.val (.int va), .val (.int vb), .val (.int vc), .val (.int vd), .val (.int w_0_1), .val (.int w_0_2), .val (.int w_0_3), .val (.int w_0_4), .val (.int w_0_5), .val (.int w_0_6), .val (.int w_0_7), .val (.int w_0_8), .val (.int w_0_9), .val (.ref b_0_10), .val (.ref b_0_15), .unset, .unset, .unset, .unset] [(.double (FP.i2d w_0_1)), (.ref b_0_26), (.ref b_0_26)])) rfl (hb hby at_108) (by decide) (by decide)
  obtain ⟨b_0_33, g_0_33⟩ : ∃ z, z = h_0_26.size := ⟨_, rfl⟩
  rw [← g_0_33] at A_0_33 D_0_33 st_0_33
  have g_b_0_33 : n0 ≤ b_0_33 := Nat.le_trans Z_0_26 (Nat.le_of_eq g_0_33.symm)
  have ne_b_0_10_b_0_33 : b_0_10 ≠ b_0_33 := Nat.ne_of_lt (Nat.lt_of_lt_of_le f_0_28.lt (Nat.le_of_eq g_0_33.symm))
  have ne_b_0_15_b_0_33 : b_0_15 ≠ b_0_33 := Nat.ne_of_lt (Nat.lt_of_lt_of_le f_0_30.lt (Nat.le_of_eq g_0_33.symm))
  have ne_b_0_26_b_0_33 : b_0_26 ≠ b_0_33 := Nat.ne_of_lt (Nat.lt_of_lt_of_le f_0_32.lt (Nat.le_of_eq g_0_33.symm))
  have f_0_34 := f_0_27.ext E_0_33
  have f_0_35 := f_0_28.ext E_0_33
  have f_0_36 := f_0_29.ext E_0_33
  have f_0_37 := f_0_30.ext E_0_33
  have f_0_38 := A_0_26.ext E_0_33
  have f_0_39 := f_0_31.ext E_0_33
  have f_0_40 := f_0_32.ext E_0_33
  have Z_0_33 : n0 ≤ h_0_33.size := Nat.le_trans Z_0_26 E_0_33.1
  have f_0_41 : Fld Z h_0_33 b_0_33 "com/example/gol_gumbaz/golgumbaz/envelope/BloomFilter" "bytes" "[B" .null := D_0_33 (Or.inr (hw _ (List.mem_of_getElem? (i := 24) rfl))) (ty := (.array .byte)) (by decide)
  obtain ⟨lc_0_33, N_0_33, X_0_33⟩ : ∃ L, Fr n0 L ∧ Stand p l e room_1 s m #[(.int va), (.int vb), (.int vc), (.int vd)] below meth c T_0_33 L 4 131 := ⟨_, N_0_26, X_0_33⟩
  refine ogo (fun _ k => st_0_33 _ k) ?_
  show OGo _ _ _ _ (T_0_33.setTop (mkF m 111 #[.val (.int va), .val (.int vb), .val (.int vc), .val (.int vd), .val (.int w_0_1), .val (.int w_0_2), .val (.int w_0_3), .val (.int w_0_4), .val (.int w_0_5), .val (.int w_0_6), .val (.int w_0_7), .val (.int w_0_8), .val (.int w_0_9), .val (.ref b_0_10), .val (.ref b_0_15), .unset, .unset, .unset, .unset] [(.ref b_0_33), (.double (FP.i2d w_0_1)), (.ref b_0_26), (.ref b_0_26)]))
  refine ogo (fun _ k => XS.dup X_0_33.here hx rfl (hb hby at_111) rfl rfl k) ?_
  show OGo _ _ _ _ (T_0_33.setTop (mkF m 112 #[.val (.int va), .val (.int vb), .val (.int vc), .val (.int vd), .val (.int w_0_1), .val (.int w_0_2), .val (.int w_0_3), .val (.int w_0_4), .val (.int w_0_5), .val (.int w_0_6), .val (.int w_0_7), .val (.int w_0_8), .val (.int w_0_9), .val (.ref b_0_10), .val (.ref b_0_15), .unset, .unset, .unset, .unset] [(.ref b_0_33), (.ref b_0_33), (.double (FP.i2d w_0_1)), (.ref b_0_26), (.ref b_0_26)]))
  refine ogo (fun _ k => XS.aload X_0_33.here hx rfl (hb hby at_112) rfl rfl k) ?_
  show OGo _ _ _ _ (T_0_33.setTop (mkF m 114 #[.val (.int va), .val (.int vb), .val (.int vc), .val (.int vd), .val (.int w_0_1), .val (.int w_0_2), .val (.int w_0_3), .val (.int w_0_4), .val (.int w_0_5), .val (.int w_0_6), .val (.int w_0_7), .val (.int w_0_8), .val (.int w_0_9), .val (.ref b_0_10), .val (.ref b_0_15), .unset, .unset, .unset, .unset] [(.ref b_0_10), (.ref b_0_33), (.ref b_0_33), (.double (FP.i2d w_0_1)), (.ref b_0_26), (.ref b_0_26)]))
  obtain ⟨v_0_42, T_0_42, h_0_42, L_0_42, e_0_42, hQ_0_42, X_0_42, st_0_42⟩ := ospecQ X_0_33 hx hZ e_0_33 (rm1 l Z a0 hw b_0_33 b_0_10 (fun i : Nat => if i = (w_0_4).toNatClampNeg then w_0_7.toInt8.toInt32 else (fun i : Nat => if i = (w_0_3).toNatClampNeg then w_0_6.toInt8.toInt32 else (fun _ : Nat => (0 : Int32)) i) i) h_0_33 n0 Z_0_33 A_0_33 f_0_41 f_0_34 f_0_35 g_b_0_33 (Ne.symm ne_b_0_10_b_0_33)) rfl hown (hw _ (List.mem_of_getElem? (i := 8) rfl)) (hw _ (List.mem_of_getElem? (i := 9) rfl)) (hw _ (List.mem_of_getElem? (i := 7) rfl)) (hw _ (List.mem_of_getElem? (i := 10) rfl)) (by decide) (b := b_0_33) (g := (mkF m 114 #[.val (.int va), .val (.int vb), .val (.int vc), .val (.int vd), .val (.int w_0_1), .val (.int w_0_2), .val (.int w_0_3), .val (.int w_0_4), .val (.int w_0_5), .val (.int w_0_6), .val (.int w_0_7), .val (.int w_0_8), .val (.int w_0_9), .val (.ref b_0_10), .val (.ref b_0_15), .unset, .unset, .unset, .unset] [(.ref b_0_10), (.ref b_0_33), (.ref b_0_33), (.double (FP.i2d w_0_1)), (.ref b_0_26), (.ref b_0_26)])) rfl (by rw [hml]; rfl) [(.ref b_0_10)] [(.ref b_0_33), (.double (FP.i2d w_0_1)), (.ref b_0_26), (.ref b_0_26)] rfl (lenOf pd___B_V rfl) rfl (hb hby at_114) 5 (by show 2 * 0 + _ ≤ _; exact Nat.le_of_eq rfl) (by decide) (by decide) (by decide) (by decide)
  obtain ⟨cb_0_42, rfl, Nq_0_42, Kc_0_42, f_0_43, f_0_44, g_cb_0_42, ne_1_0_42, sq_0_42⟩ := hQ_0_42
  have ne_b_0_10_cb_0_42 : b_0_10 ≠ cb_0_42 := Nat.ne_of_lt (Nat.lt_of_lt_of_le f_0_35.lt sq_0_42)
  have ne_b_0_15_cb_0_42 : b_0_15 ≠ cb_0_42 := Nat.ne_of_lt (Nat.lt_of_lt_of_le f_0_37.lt sq_0_42)
  have ne_b_0_26_cb_0_42 : b_0_26 ≠ cb_0_42 := Nat.ne_of_lt (Nat.lt_of_lt_of_le f_0_40.lt sq_0_42)
  have f_0_45 := f_0_34.keep Kc_0_42
  have f_0_46 := f_0_35.keep Kc_0_42 (ninS ne_b_0_10_b_0_33 nin0)
  have f_0_47 := f_0_36.keep Kc_0_42
  have f_0_48 := f_0_37.keep Kc_0_42 (ninS ne_b_0_15_b_0_33 nin0)
  have f_0_49 := f_0_38.keep Kc_0_42
  have f_0_50 := f_0_39.keep Kc_0_42 (ninS ne_b_0_26_b_0_33 nin0)
  have f_0_51 := f_0_40.keep Kc_0_42 (ninS ne_b_0_26_b_0_33 nin0)
  have f_0_52 := A_0_33.keep Kc_0_42
  have Z_0_42 : n0 ≤ h_0_42.size := Nat.le_trans Z_0_33 Kc_0_42.1
  obtain ⟨lc_0_42, N_0_42, X_0_42⟩ : ∃ L, Fr n0 L ∧ Stand p l e room_1 s m #[(.int va), (.int vb), (.int vc), (.int vd)] below meth c T_0_42 L 5 195 := ⟨_, Fr.app N_0_33 Nq_0_42, X_0_42⟩
  refine ogo (fun _ k => st_0_42 _ k) ?_
  show OGo _ _ _ _ (T_0_42.setTop (mkF m 117 #[.val (.int va), .val (.int vb), .val (.int vc), .val (.int vd), .val (.int w_0_1), .val (.int w_0_2), .val (.int w_0_3), .val (.int w_0_4), .val (.int w_0_5), .val (.int w_0_6), .val (.int w_0_7), .val (.int w_0_8), .val (.int w_0_9), .val (.ref b_0_10), .val (.ref b_0_15), .unset, .unset, .unset, .unset] [(.ref b_0_33), (.double (FP.i2d w_0_1)), (.ref b_0_26), (.ref b_0_26)]))
  obtain ⟨v_0_53, T_0_53, h_0_53, L_0_53, e_0_53, hQ_0_53, X_0_53, st_0_53⟩ := ospecQ X_0_42 hx hZ e_0_42 (rm3 l Z a0 hw b_0_26 w_0_1 b_0_33  h_0_42 n0 Z_0_42 f_0_49 f_0_50 f_0_51 g_b_0_26 (own_nn hw_0_1)) rfl hown (hw _ (List.mem_of_getElem? (i := 25) rfl)) (hw _ (List.mem_of_getElem? (i := 26) rfl)) (hw _ (List.mem_of_getElem? (i := 4) rfl)) (hw _ (List.mem_of_getElem? (i := 27) rfl)) (by decide) (b := b_0_26) (g := (mkF m 117 #[.val (.int va), .val (.int vb), .val (.int vc), .val (.int vd), .val (.int w_0_1), .val (.int w_0_2), .val (.int w_0_3), .val (.int w_0_4), .val (.int w_0_5), .val (.int w_0_6), .val (.int w_0_7), .val (.int w_0_8), .val (.int w_0_9), .val (.ref b_0_10), .val (.ref b_0_15), .unset, .unset, .unset, .unset] [(.ref b_0_33), (.double (FP.i2d w_0_1)), (.ref b_0_26), (.ref b_0_26)])) rfl (by rw [hml]; rfl) [(.double (FP.i2d w_0_1)), (.ref b_0_33)] [(.ref b_0_26)] rfl (lenOf pd__DLcom_example_gol_gumbaz_golgumbaz_envelope_BloomFilter__V rfl) rfl (hb hby at_117) 1 (by show 2 * 0 + _ ≤ _; exact Nat.le_of_eq rfl) (by decide) (by decide) (by decide) (by decide)
  obtain ⟨rfl, Nq_0_53, Kc_0_53, f_0_54, f_0_55⟩ := hQ_0_53
  have f_0_56 := f_0_45.keep Kc_0_53
  have f_0_57 := f_0_46.keep Kc_0_53 (ninS ne_b_0_10_b_0_26 nin0)
  have f_0_58 := f_0_47.keep Kc_0_53
  have f_0_59 := f_0_48.keep Kc_0_53 (ninS ne_b_0_15_b_0_26 nin0)
  have f_0_60 := f_0_49.keep Kc_0_53
  have f_0_61 := f_0_52.keep Kc_0_53
  have f_0_62 := f_0_43.keep Kc_0_53 (ninS (Ne.symm ne_b_0_26_b_0_33) nin0)
  have f_0_63 := f_0_44.keep Kc_0_53 (ninS (Ne.symm ne_b_0_26_cb_0_42) nin0)
  have Z_0_53 : n0 ≤ h_0_53.size := Nat.le_trans Z_0_42 Kc_0_53.1
  obtain ⟨lc_0_53, N_0_53, X_0_53⟩ : ∃ L, Fr n0 L ∧ Stand p l e room_1 s m #[(.int va), (.int vb), (.int vc), (.int vd)] below meth c T_0_53 L 5 195 := ⟨_, Fr.app N_0_42 Nq_0_53, X_0_53⟩
  refine ogo (fun _ k => st_0_53 _ k) ?_
  show OGo _ _ _ _ (T_0_53.setTop (mkF m 120 #[.val (.int va), .val (.int vb), .val (.int vc), .val (.int vd), .val (.int w_0_1), .val (.int w_0_2), .val (.int w_0_3), .val (.int w_0_4), .val (.int w_0_5), .val (.int w_0_6), .val (.int w_0_7), .val (.int w_0_8), .val (.int w_0_9), .val (.ref b_0_10), .val (.ref b_0_15), .unset, .unset, .unset, .unset] [(.ref b_0_26)]))
  refine ogo (fun _ k => XS.astore X_0_53.here hx rfl (hb hby at_120) rfl rfl (l' := #[.val (.int va), .val (.int vb), .val (.int vc), .val (.int vd), .val (.int w_0_1), .val (.int w_0_2), .val (.int w_0_3), .val (.int w_0_4), .val (.int w_0_5), .val (.int w_0_6), .val (.int w_0_7), .val (.int w_0_8), .val (.int w_0_9), .val (.ref b_0_10), .val (.ref b_0_15), .val (.ref b_0_26), .unset, .unset, .unset]) rfl k) ?_
  show OGo _ _ _ _ (T_0_53.setTop (mkF m 122 #[.val (.int va), .val (.int vb), .val (.int vc), .val (.int vd), .val (.int w_0_1), .val (.int w_0_2), .val (.int w_0_3), .val (.int w_0_4), .val (.int w_0_5), .val (.int w_0_6), .val (.int w_0_7), .val (.int w_0_8), .val (.int w_0_9), .val (.ref b_0_10), .val (.ref b_0_15), .val (.ref b_0_26), .unset, .unset, .unset] []))
  obtain ⟨T_0_64, h_0_64, X_0_64, e_0_64, E_0_64, A_0_64, D_0_64, -, st_0_64⟩ := newO X_0_53 hx hZ hown (hw _ (List.mem_of_getElem? (i := 2) rfl)) (hw _ (List.mem_of_getElem? (i := 3) rfl)) (hw _ (List.mem_of_getElem? (i := 4) rfl)) e_0_53 (g := (mkF m 122 #[.val (.int va), .val (.int vb), .val (.int vc), .val (.int vd), .val (.int w_0_1), .val (.int w_0_2), .val (.int w_0_3), .val (.int w_0_4), .val (.int w_0_5), .val (.int w_0_6), .val (.int w_0_7), .val (.int w_0_8), .val (.int w_0_9), .val (.ref b_0_10), .val (.ref b_0_15), .val (.ref b_0_26), .unset, .unset, .unset] [])) rfl (hb hby at_122) (by decide) (by decide)
  obtain ⟨b_0_64, g_0_64⟩ : ∃ z, z = h_0_53.size := ⟨_, rfl⟩
  rw [← g_0_64] at A_0_64 D_0_64 st_0_64
  have g_b_0_64 : n0 ≤ b_0_64 := Nat.le_trans Z_0_53 (Nat.le_of_eq g_0_64.symm)
  have ne_b_0_10_b_0_64 : b_0_10 ≠ b_0_64 := Nat.ne_of_lt (Nat.lt_of_lt_of_le f_0_57.lt (Nat.le_of_eq g_0_64.symm))
  have ne_b_0_15_b_0_64 : b_0_15 ≠ b_0_64 := Nat.ne_of_lt (Nat.lt_of_lt_of_le f_0_59.lt (Nat.le_of_eq g_0_64.symm))
  have ne_b_0_26_b_0_64 : b_0_26 ≠ b_0_64 := Nat.ne_of_lt (Nat.lt_of_lt_of_le f_0_55.lt (Nat.le_of_eq g_0_64.symm))
  have ne_b_0_33_b_0_64 : b_0_33 ≠ b_0_64 := Nat.ne_of_lt (Nat.lt_of_lt_of_le f_0_62.lt (Nat.le_of_eq g_0_64.symm))
  have ne_cb_0_42_b_0_64 : cb_0_42 ≠ b_0_64 := Nat.ne_of_lt (Nat.lt_of_lt_of_le f_0_63.lt (Nat.le_of_eq g_0_64.symm))
  have f_0_65 := f_0_56.ext E_0_64
  have f_0_66 := f_0_57.ext E_0_64
  have f_0_67 := f_0_58.ext E_0_64
  have f_0_68 := f_0_59.ext E_0_64
  have f_0_69 := f_0_60.ext E_0_64
  have f_0_70 := f_0_54.ext E_0_64
  have f_0_71 := f_0_55.ext E_0_64
  have f_0_72 := f_0_61.ext E_0_64
  have f_0_73 := f_0_62.ext E_0_64
  have f_0_74 := f_0_63.ext E_0_64
  have Z_0_64 : n0 ≤ h_0_64.size := Nat.le_trans Z_0_53 E_0_64.1
  have f_0_75 : Fld Z h_0_64 b_0_64 "com/example/gol_gumbaz/golgumbaz/shh/Admission" "minPow" "D" (.double (0 : UInt64)) := D_0_64 (Or.inr (hw _ (List.mem_of_getElem? (i := 39) rfl))) (ty := .double) (by decide)
  have f_0_76 : Fld Z h_0_64 b_0_64 "com/example/gol_gumbaz/golgumbaz/shh/Admission" "filter" "Lcom/example/gol_gumbaz/golgumbaz/envelope/BloomFilter;" .null := D_0_64 (Or.inr (hw _ (List.mem_of_getElem? (i := 41) rfl))) (ty := (.object "com/example/gol_gumbaz/golgumbaz/envelope/BloomFilter")) (by decide)
  obtain ⟨lc_0_64, N_0_64, X_0_64⟩ : ∃ L, Fr n0 L ∧ Stand p l e room_1 s m #[(.int va), (.int vb), (.int vc), (.int vd)] below meth c T_0_64 L 6 197 := ⟨_, N_0_53, X_0_64⟩
  refine ogo (fun _ k => st_0_64 _ k) ?_
  show OGo _ _ _ _ (T_0_64.setTop (mkF m 125 #[.val (.int va), .val (.int vb), .val (.int vc), .val (.int vd), .val (.int w_0_1), .val (.int w_0_2), .val (.int w_0_3), .val (.int w_0_4), .val (.int w_0_5), .val (.int w_0_6), .val (.int w_0_7), .val (.int w_0_8), .val (.int w_0_9), .val (.ref b_0_10), .val (.ref b_0_15), .val (.ref b_0_26), .unset, .unset, .unset] [(.ref b_0_64)]))
  refine ogo (fun _ k => XS.dup X_0_64.here hx rfl (hb hby at_125) rfl rfl k) ?_
  show OGo _ _ _ _ (T_0_64.setTop (mkF m 126 #[.val (.int va), .val (.int vb), .val (.int vc), .val (.int vd), .val (.int w_0_1), .val (.int w_0_2), .val (.int w_0_3), .val (.int w_0_4), .val (.int w_0_5), .val (.int w_0_6), .val (.int w_0_7), .val (.int w_0_8), .val (.int w_0_9), .val (.ref b_0_10), .val (.ref b_0_15), .val (.ref b_0_26), .unset, .unset, .unset] [(.ref b_0_64), (.ref b_0_64)]))
  refine ogo (fun _ k => XS.iload X_0_64.here hx rfl (hb hby at_126) rfl k) ?_
  show OGo _ _ _ _ (T_0_64.setTop (mkF m 128 #[.val (.int va), .val (.int vb), .val (.int vc), .val (.int vd), .val (.int w_0_1), .val (.int w_0_2), .val (.int w_0_3), .val (.int w_0_4), .val (.int w_0_5), .val (.int w_0_6), .val (.int w_0_7), .val (.int w_0_8), .val (.int w_0_9), .val (.ref b_0_10), .val (.ref b_0_15), .val (.ref b_0_26), .unset, .unset, .unset] [(.int w_0_2), (.ref b_0_64), (.ref b_0_64)]))
  refine ogo (fun _ k => XS.i2dS X_0_64.here hx rfl (hb hby at_128) rfl rfl k) ?_
  show OGo _ _ _ _ (T_0_64.setTop (mkF m 129 #[.val (.int va), .val (.int vb), .val (.int vc), .val (.int vd), .val (.int w_0_1), .val (.int w_0_2), .val (.int w_0_3), .val (.int w_0_4), .val (.int w_0_5), .val (.int w_0_6), .val (.int w_0_7), .val (.int w_0_8), .val (.int w_0_9), .val (.ref b_0_10), .val (.ref b_0_15), .val (.ref b_0_26), .unset, .unset, .unset] [(.double (FP.i2d w_0_2)), (.ref b_0_64), (.ref b_0_64)]))
  obtain ⟨T_0_77, h_0_77, X_0_77, e_0_77, E_0_77, A_0_77, D_0_77, -, st_0_77⟩ := newO X_0_64 hx hZ hown (hw _ (List.mem_of_getElem? (i := 5) rfl)) (hw _ (List.mem_of_getElem? (i := 6) rfl)) (hw _ (List.mem_of_getElem? (i := 7) rfl)) e_0_64 (g := (mkF m 129 #[.val (.int va), .val (.int vb), .val (.int vc), .val (.int vd), .val (.int w_0_1), .val (.int w_0_2), .val (.int w_0_3), .val (.int w_0_4), .val (.int w_0_5), .val (.int w_0_6), .val (.int w_0_7), .val (.int w_0_8), .val (.int w_0_9), .val (.ref b_0_10), .val (.ref b_0_15), .val (.ref b_0_26), .unset, .unset, .unset] [(.double (FP.i2d w_0_2)), (.ref b_0_64), (.ref b_0_64)])) rfl (hb hby at_129) (by decide) (by decide)
  obtain ⟨b_0_77, g_0_77⟩ : ∃ z, z = h_0_64.size := ⟨_, rfl⟩
  rw [← g_0_77] at A_0_77 D_0_77 st_0_77
  have g_b_0_77 : n0 ≤ b_0_77 := Nat.le_trans Z_0_64 (Nat.le_of_eq g_0_77.symm)
  have ne_b_0_10_b_0_77 : b_0_10 ≠ b_0_77 := Nat.ne_of_lt (Nat.lt_of_lt_of_le f_0_66.lt (Nat.le_of_eq g_0_77.symm))
  have ne_b_0_15_b_0_77 : b_0_15 ≠ b_0_77 := Nat.ne_of_lt (Nat.lt_of_lt_of_le f_0_68.lt (Nat.le_of_eq g_0_77.symm))
  have ne_b_0_26_b_0_77 : b_0_26 ≠ b_0_77 := Nat.ne_of_lt (Nat.lt_of_lt_of_le f_0_71.lt (Nat.le_of_eq g_0_77.symm))
  have ne_b_0_33_b_0_77 : b_0_33 ≠ b_0_77 := Nat.ne_of_lt (Nat.lt_of_lt_of_le f_0_73.lt (Nat.le_of_eq g_0_77.symm))
  have ne_cb_0_42_b_0_77 : cb_0_42 ≠ b_0_77 := Nat.ne_of_lt (Nat.lt_of_lt_of_le f_0_74.lt (Nat.le_of_eq g_0_77.symm))
  have ne_b_0_64_b_0_77 : b_0_64 ≠ b_0_77 := Nat.ne_of_lt (Nat.lt_of_lt_of_le f_0_76.lt (Nat.le_of_eq g_0_77.symm))
  have f_0_78 := f_0_65.ext E_0_77
  have f_0_79 := f_0_66.ext E_0_77
  have f_0_80 := f_0_67.ext E_0_77
  have f_0_81 := f_0_68.ext E_0_77
  have f_0_82 := f_0_69.ext E_0_77
  have f_0_83 := f_0_70.ext E_0_77
  have f_0_84 := f_0_71.ext E_0_77
  have f_0_85 := f_0_72.ext E_0_77
  have f_0_86 := f_0_73.ext E_0_77
  have f_0_87 := f_0_74.ext E_0_77
  have f_0_88 := A_0_64.ext E_0_77
  have f_0_89 := f_0_75.ext E_0_77
  have f_0_90 := f_0_76.ext E_0_77
  have Z_0_77 : n0 ≤ h_0_77.size := Nat.le_trans Z_0_64 E_0_77.1
  have f_0_91 : Fld Z h_0_77 b_0_77 "com/example/gol_gumbaz/golgumbaz/envelope/BloomFilter" "bytes" "[B" .null := D_0_77 (Or.inr (hw _ (List.mem_of_getElem? (i := 24) rfl))) (ty := (.array .byte)) (by decide)
  obtain ⟨lc_0_77, N_0_77, X_0_77⟩ : ∃ L, Fr n0 L ∧ Stand p l e room_1 s m #[(.int va), (.int vb), (.int vc), (.int vd)] below meth c T_0_77 L 7 198 := ⟨_, N_0_64, X_0_77⟩
  refine ogo (fun _ k => st_0_77 _ k) ?_
  show OGo _ _ _ _ (T_0_77.setTop (mkF m 132 #[.val (.int va), .val (.int vb), .val (.int vc), .val (.int vd), .val (.int w_0_1), .val (.int w_0_2), .val (.int w_0_3), .val (.int w_0_4), .val (.int w_0_5), .val (.int w_0_6), .val (.int w_0_7), .val (.int w_0_8), .val (.int w_0_9), .val (.ref b_0_10), .val (.ref b_0_15), .val (.ref b_0_26), .unset, .unset, .unset] [(.ref b_0_77), (.double (FP.i2d w_0_2)), (.ref b_0_64), (.ref b_0_64)]))
  refine ogo (fun _ k => XS.dup X_0_77.here hx rfl (hb hby at_132) rfl rfl k) ?_
  show OGo _ _ _ _ (T_0_77.setTop (mkF m 133 #[.val (.int va), .val (.int vb), .val (.int vc), .val (.int vd), .val (.int w_0_1), .val (.int w_0_2), .val (.int w_0_3), .val (.int w_0_4), .val (.int w_0_5), .val (.int w_0_6), .val (.int w_0_7), .val (.int w_0_8), .val (.int w_0_9), .val (.ref b_0_10), .val (.ref b_0_15), .val (.ref b_0_26), .unset, .unset, .unset] [(.ref b_0_77), (.ref b_0_77), (.double (FP.i2d w_0_2)), (.ref b_0_64), (.ref b_0_64)]))
  refine ogo (fun _ k => XS.aload X_0_77.here hx rfl (hb hby at_133) rfl rfl k) ?_
  show OGo _ _ _ _ (T_0_77.setTop (mkF m 135 #[.val (.int va), .val (.int vb), .val (.int vc), .val (.int vd), .val (.int w_0_1), .val (.int w_0_2), .val (.int w_0_3), .val (.int w_0_4), .val (.int w_0_5), .val (.int w_0_6), .val (.int w_0_7), .val (.int w_0_8), .val (.int w_0_9), .val (.ref b_0_10), .val (.ref b_0_15), .val (.ref b_0_26), .unset, .unset, .unset] [(.ref b_0_15), (.ref b_0_77), (.ref b_0_77), (.double (FP.i2d w_0_2)), (.ref b_0_64), (.ref b_0_64)]))
  obtain ⟨v_0_92, T_0_92, h_0_92, L_0_92, e_0_92, hQ_0_92, X_0_92, st_0_92⟩ := ospecQ X_0_77 hx hZ e_0_77 (rm1 l Z a0 hw b_0_77 b_0_15 (fun i : Nat => if i = (w_0_5).toNatClampNeg then w_0_9.toInt8.toInt32 else (fun i : Nat => if i = (w_0_3).toNatClampNeg then w_0_8.toInt8.toInt32 else (fun _ : Nat => (0 : Int32)) i) i) h_0_77 n0 Z_0_77 A_0_77 f_0_91 f_0_80 f_0_81 g_b_0_77 (Ne.symm ne_b_0_15_b_0_77)) rfl hown (hw _ (List.mem_of_getElem? (i := 8) rfl)) (hw _ (List.mem_of_getElem? (i := 9) rfl)) (hw _ (List.mem_of_getElem? (i := 7) rfl)) (hw _ (List.mem_of_getElem? (i := 10) rfl)) (by decide) (b := b_0_77) (g := (mkF m 135 #[.val (.int va), .val (.int vb), .val (.int vc), .val (.int vd), .val (.int w_0_1), .val (.int w_0_2), .val (.int w_0_3), .val (.int w_0_4), .val (.int w_0_5), .val (.int w_0_6), .val (.int w_0_7), .val (.int w_0_8), .val (.int w_0_9), .val (.ref b_0_10), .val (.ref b_0_15), .val (.ref b_0_26), .unset, .unset, .unset] [(.ref b_0_15), (.ref b_0_77), (.ref b_0_77), (.double (FP.i2d w_0_2)), (.ref b_0_64), (.ref b_0_64)])) rfl (by rw [hml]; rfl) [(.ref b_0_15)] [(.ref b_0_77), (.double (FP.i2d w_0_2)), (.ref b_0_64), (.ref b_0_64)] rfl (lenOf pd___B_V rfl) rfl (hb hby at_135) 5 (by show 2 * 0 + _ ≤ _; exact Nat.le_of_eq rfl) (by decide) (by decide) (by decide) (by decide)
  obtain ⟨cb_0_92, rfl, Nq_0_92, Kc_0_92, f_0_93, f_0_94, g_cb_0_92, ne_1_0_92, sq_0_92⟩ := hQ_0_92
  have ne_b_0_10_cb_0_92 : b_0_10 ≠ cb_0_92 := Nat.ne_of_lt (Nat.lt_of_lt_of_le f_0_79.lt sq_0_92)
  have ne_b_0_15_cb_0_92 : b_0_15 ≠ cb_0_92 := Nat.ne_of_lt (Nat.lt_of_lt_of_le f_0_81.lt sq_0_92)
  have ne_b_0_26_cb_0_92 : b_0_26 ≠ cb_0_92 := Nat.ne_of_lt (Nat.lt_of_lt_of_le f_0_84.lt sq_0_92)
  have ne_b_0_33_cb_0_92 : b_0_33 ≠ cb_0_92 := Nat.ne_of_lt (Nat.lt_of_lt_of_le f_0_86.lt sq_0_92)
  have ne_cb_0_42_cb_0_92 : cb_0_42 ≠ cb_0_92 := Nat.ne_of_lt (Nat.lt_of_lt_of_le f_0_87.lt sq_0_92)
  have ne_b_0_64_cb_0_92 : b_0_64 ≠ cb_0_92 := Nat.ne_of_lt (Nat.lt_of_lt_of_le f_0_90.lt sq_0_92)
  have f_0_95 := f_0_78.keep Kc_0_92
  have f_0_96 := f_0_79.keep Kc_0_92 (ninS ne_b_0_10_b_0_77 nin0)
  have f_0_97 := f_0_80.keep Kc_0_92
  have f_0_98 := f_0_81.keep Kc_0_92 (ninS ne_b_0_15_b_0_77 nin0)
  have f_0_99 := f_0_82.keep Kc_0_92
  have f_0_100 := f_0_83.keep Kc_0_92 (ninS ne_b_0_26_b_0_77 nin0)
  have f_0_101 := f_0_84.keep Kc_0_92 (ninS ne_b_0_26_b_0_77 nin0)
  have f_0_102 := f_0_85.keep Kc_0_92
  have f_0_103 := f_0_86.keep Kc_0_92 (ninS ne_b_0_33_b_0_77 nin0)
  have f_0_104 := f_0_87.keep Kc_0_92 (ninS ne_cb_0_42_b_0_77 nin0)
  have f_0_105 := f_0_88.keep Kc_0_92
  have f_0_106 := f_0_89.keep Kc_0_92 (ninS ne_b_0_64_b_0_77 nin0)
  have f_0_107 := f_0_90.keep Kc_0_92 (ninS ne_b_0_64_b_0_77 nin0)
  have f_0_108 := A_0_77.keep Kc_0_92
  have Z_0_92 : n0 ≤ h_0_92.size := Nat.le_trans Z_0_77 Kc_0_92.1
  obtain ⟨lc_0_92, N_0_92, X_0_92⟩ : ∃ L, Fr n0 L ∧ Stand p l e room_1 s m #[(.int va), (.int vb), (.int vc), (.int vd)] below meth c T_0_92 L 8 262 := ⟨_, Fr.app N_0_77 Nq_0_92, X_0_92⟩
  refine ogo (fun _ k => st_0_92 _ k) ?_
  show OGo _ _ _ _ (T_0_92.setTop (mkF m 138 #[.val (.int va), .val (.int vb), .val (.int vc), .val (.int vd), .val (.int w_0_1), .val (.int w_0_2), .val (.int w_0_3), .val (.int w_0_4), .val (.int w_0_5), .val (.int w_0_6), .val (.int w_0_7), .val (.int w_0_8), .val (.int w_0_9), .val (.ref b_0_10), .val (.ref b_0_15), .val (.ref b_0_26), .unset, .unset, .unset] [(.ref b_0_77), (.double (FP.i2d w_0_2)), (.ref b_0_64), (.ref b_0_64)]))
  obtain ⟨v_0_109, T_0_109, h_0_109, L_0_109, e_0_109, hQ_0_109, X_0_109, st_0_109⟩ := ospecQ X_0_92 hx hZ e_0_92 (rm3 l Z a0 hw b_0_64 w_0_2 b_0_77  h_0_92 n0 Z_0_92 f_0_105 f_0_106 f_0_107 g_b_0_64 (own_nn hw_0_2)) rfl hown (hw _ (List.mem_of_getElem? (i := 25) rfl)) (hw _ (List.mem_of_getElem? (i := 26) rfl)) (hw _ (List.mem_of_getElem? (i := 4) rfl)) (hw _ (List.mem_of_getElem? (i := 27) rfl)) (by decide) (b := b_0_64) (g := (mkF m 138 #[.val (.int va), .val (.int vb), .val (.int vc), .val (.int vd), .val (.int w_0_1), .val (.int w_0_2), .val (.int w_0_3), .val (.int w_0_4), .val (.int w_0_5), .val (.int w_0_6), .val (.int w_0_7), .val (.int w_0_8), .val (.int w_0_9), .val (.ref b_0_10), .val (.ref b_0_15), .val (.ref b_0_26), .unset, .unset, .unset] [(.ref b_0_77), (.double (FP.i2d w_0_2)), (.ref b_0_64), (.ref b_0_64)])) rfl (by rw [hml]; rfl) [(.double (FP.i2d w_0_2)), (.ref b_0_77)] [(.ref b_0_64)] rfl (lenOf pd__DLcom_example_gol_gumbaz_golgumbaz_envelope_BloomFilter__V rfl) rfl (hb hby at_138) 1 (by show 2 * 0 + _ ≤ _; exact Nat.le_of_eq rfl) (by decide) (by decide) (by decide) (by decide)
  obtain ⟨rfl, Nq_0_109, Kc_0_109, f_0_110, f_0_111⟩ := hQ_0_109
  have f_0_112 := f_0_95.keep Kc_0_109
  have f_0_113 := f_0_96.keep Kc_0_109 (ninS ne_b_0_10_b_0_64 nin0)
  have f_0_114 := f_0_97.keep Kc_0_109
  have f_0_115 := f_0_98.keep Kc_0_109 (ninS ne_b_0_15_b_0_64 nin0)
  have f_0_116 := f_0_99.keep Kc_0_109
  have f_0_117 := f_0_100.keep Kc_0_109 (ninS ne_b_0_26_b_0_64 nin0)
  have f_0_118 := f_0_101.keep Kc_0_109 (ninS ne_b_0_26_b_0_64 nin0)
  have f_0_119 := f_0_102.keep Kc_0_109
  have f_0_120 := f_0_103.keep Kc_0_109 (ninS ne_b_0_33_b_0_64 nin0)
  have f_0_121 := f_0_104.keep Kc_0_109 (ninS ne_cb_0_42_b_0_64 nin0)
  have f_0_122 := f_0_105.keep Kc_0_109
  have f_0_123 := f_0_108.keep Kc_0_109
  have f_0_124 := f_0_93.keep Kc_0_109 (ninS (Ne.symm ne_b_0_64_b_0_77) nin0)
  have f_0_125 := f_0_94.keep Kc_0_109 (ninS (Ne.symm ne_b_0_64_cb_0_92) nin0)
  have Z_0_109 : n0 ≤ h_0_109.size := Nat.le_trans Z_0_92 Kc_0_109.1
  obtain ⟨lc_0_109, N_0_109, X_0_109⟩ : ∃ L, Fr n0 L ∧ Stand p l e room_1 s m #[(.int va), (.int vb), (.int vc), (.int vd)] below meth c T_0_109 L 8 262 := ⟨_, Fr.app N_0_92 Nq_0_109, X_0_109⟩
  refine ogo (fun _ k => st_0_109 _ k) ?_
  show OGo _ _ _ _ (T_0_109.setTop (mkF m 141 #[.val (.int va), .val (.int vb), .val (.int vc), .val (.int vd), .val (.int w_0_1), .val (.int w_0_2), .val (.int w_0_3), .val (.int w_0_4), .val (.int w_0_5), .val (.int w_0_6), .val (.int w_0_7), .val (.int w_0_8), .val (.int w_0_9), .val (.ref b_0_10), .val (.ref b_0_15), .val (.ref b_0_26), .unset, .unset, .unset] [(.ref b_0_64)]))
  refine ogo (fun _ k => XS.astore X_0_109.here hx rfl (hb hby at_141) rfl rfl (l' := #[.val (.int va), .val (.int vb), .val (.int vc), .val (.int vd), .val (.int w_0_1), .val (.int w_0_2), .val (.int w_0_3), .val (.int w_0_4), .val (.int w_0_5), .val (.int w_0_6), .val (.int w_0_7), .val (.int w_0_8), .val (.int w_0_9), .val (.ref b_0_10), .val (.ref b_0_15), .val (.ref b_0_26), .val (.ref b_0_64), .unset, .unset]) rfl k) ?_
  show OGo _ _ _ _ (T_0_109.setTop (mkF m 143 #[.val (.int va), .val (.int vb), .val (.int vc), .val (.int vd), .val (.int w_0_1), .val (.int w_0_2), .val (.int w_0_3), .val (.int w_0_4), .val (.int w_0_5), .val (.int w_0_6), .val (.int w_0_7), .val (.int w_0_8), .val (.int w_0_9), .val (.ref b_0_10), .val (.ref b_0_15), .val (.ref b_0_26), .val (.ref b_0_64), .unset, .unset] []))
  refine ogo (fun _ k => XS.iload X_0_109.here hx rfl (hb hby at_143) rfl k) ?_
  show OGo _ _ _ _ (T_0_109.setTop (mkF m 145 #[.val (.int va), .val (.int vb), .val (.int vc), .val (.int vd), .val (.int w_0_1), .val (.int w_0_2), .val (.int w_0_3), .val (.int w_0_4), .val (.int w_0_5), .val (.int w_0_6), .val (.int w_0_7), .val (.int w_0_8), .val (.int w_0_9), .val (.ref b_0_10), .val (.ref b_0_15), .val (.ref b_0_26), .val (.ref b_0_64), .unset, .unset] [(.int w_0_3)]))
  refine ogo (fun _ k => XS.iload X_0_109.here hx rfl (hb hby at_145) rfl k) ?_
  show OGo _ _ _ _ (T_0_109.setTop (mkF m 147 #[.val (.int va), .val (.int vb), .val (.int vc), .val (.int vd), .val (.int w_0_1), .val (.int w_0_2), .val (.int w_0_3), .val (.int w_0_4), .val (.int w_0_5), .val (.int w_0_6), .val (.int w_0_7), .val (.int w_0_8), .val (.int w_0_9), .val (.ref b_0_10), .val (.ref b_0_15), .val (.ref b_0_26), .val (.ref b_0_64), .unset, .unset] [(.int w_0_4), (.int w_0_3)]))
  refine ogo (fun _ k => XS.iload X_0_109.here hx rfl (hb hby at_147) rfl k) ?_
  show OGo _ _ _ _ (T_0_109.setTop (mkF m 149 #[.val (.int va), .val (.int vb), .val (.int vc), .val (.int vd), .val (.int w_0_1), .val (.int w_0_2), .val (.int w_0_3), .val (.int w_0_4), .val (.int w_0_5), .val (.int w_0_6), .val (.int w_0_7), .val (.int w_0_8), .val (.int w_0_9), .val (.ref b_0_10), .val (.ref b_0_15), .val (.ref b_0_26), .val (.ref b_0_64), .unset, .unset] [(.int w_0_7), (.int w_0_4), (.int w_0_3)]))
  refine ogo (fun _ k => XS.iload X_0_109.here hx rfl (hb hby at_149) rfl k) ?_
  show OGo _ _ _ _ (T_0_109.setTop (mkF m 151 #[.val (.int va), .val (.int vb), .val (.int vc), .val (.int vd), .val (.int w_0_1), .val (.int w_0_2), .val (.int w_0_3), .val (.int w_0_4), .val (.int w_0_5), .val (.int w_0_6), .val (.int w_0_7), .val (.int w_0_8), .val (.int w_0_9), .val (.ref b_0_10), .val (.ref b_0_15), .val (.ref b_0_26), .val (.ref b_0_64), .unset, .unset] [(.int w_0_3), (.int w_0_7), (.int w_0_4), (.int w_0_3)]))
  refine ogo (fun _ k => XS.iload X_0_109.here hx rfl (hb hby at_151) rfl k) ?_
  show OGo _ _ _ _ (T_0_109.setTop (mkF m 153 #[.val (.int va), .val (.int vb), .val (.int vc), .val (.int vd), .val (.int w_0_1), .val (.int w_0_2), .val (.int w_0_3), .val (.int w_0_4), .val (.int w_0_5), .val (.int w_0_6), .val (.int w_0_7), .val (.int w_0_8), .val (.int w_0_9), .val (.ref b_0_10), .val (.ref b_0_15), .val (.ref b_0_26), .val (.ref b_0_64), .unset, .unset] [(.int w_0_6), (.int w_0_3), (.int w_0_7), (.int w_0_4), (.int w_0_3)]))
  obtain ⟨T_0_126, X_0_126, e_0_126, st_0_126⟩ := ocallP X_0_109 hx hZ e_0_109 (rm6 l Z a0 hw w_0_3 w_0_4 w_0_7 w_0_3 w_0_6  h_0_109 ) hown (hw _ (List.mem_of_getElem? (i := 42) rfl)) (hw _ (List.mem_of_getElem? (i := 43) rfl)) (hw _ (List.mem_of_getElem? (i := 44) rfl)) (hw _ (List.mem_of_getElem? (i := 45) rfl)) (by decide) (g := (mkF m 153 #[.val (.int va), .val (.int vb), .val (.int vc), .val (.int vd), .val (.int w_0_1), .val (.int w_0_2), .val (.int w_0_3), .val (.int w_0_4), .val (.int w_0_5), .val (.int w_0_6), .val (.int w_0_7), .val (.int w_0_8), .val (.int w_0_9), .val (.ref b_0_10), .val (.ref b_0_15), .val (.ref b_0_26), .val (.ref b_0_64), .unset, .unset] [(.int w_0_6), (.int w_0_3), (.int w_0_7), (.int w_0_4), (.int w_0_3)])) rfl (by rw [hml]; rfl) [(.int w_0_3), (.int w_0_4), (.int w_0_7), (.int w_0_3), (.int w_0_6)] [] rfl (lenOf pd__IIBIB_I rfl) rfl (hb hby at_153) 0 (by show 2 * 0 + _ ≤ _; exact Nat.le_of_eq rfl) (by decide) (by decide) (by decide) (by decide) rfl rfl
  refine ogo (fun _ k => st_0_126 _ k) ?_
  show OGo _ _ _ _ (T_0_126.setTop (mkF m 156 #[.val (.int va), .val (.int vb), .val (.int vc), .val (.int vd), .val (.int w_0_1), .val (.int w_0_2), .val (.int w_0_3), .val (.int w_0_4), .val (.int w_0_5), .val (.int w_0_6), .val (.int w_0_7), .val (.int w_0_8), .val (.int w_0_9), .val (.ref b_0_10), .val (.ref b_0_15), .val (.ref b_0_26), .val (.ref b_0_64), .unset, .unset] [(.int (atF w_0_3 w_0_4 w_0_7 w_0_3 w_0_6))]))
  refine ogo (fun _ k => XS.iload X_0_126.here hx rfl (hb hby at_156) rfl k) ?_
  show OGo _ _ _ _ (T_0_126.setTop (mkF m 158 #[.val (.int va), .val (.int vb), .val (.int vc), .val (.int vd), .val (.int w_0_1), .val (.int w_0_2), .val (.int w_0_3), .val (.int w_0_4), .val (.int w_0_5), .val (.int w_0_6), .val (.int w_0_7), .val (.int w_0_8), .val (.int w_0_9), .val (.ref b_0_10), .val (.ref b_0_15), .val (.ref b_0_26), .val (.ref b_0_64), .unset, .unset] [(.int w_0_3), (.int (atF w_0_3 w_0_4 w_0_7 w_0_3 w_0_6))]))
  refine ogo (fun _ k => XS.iload X_0_126.here hx rfl (hb hby at_158) rfl k) ?_
  show OGo _ _ _ _ (T_0_126.setTop (mkF m 160 #[.val (.int va), .val (.int vb), .val (.int vc), .val (.int vd), .val (.int w_0_1), .val (.int w_0_2), .val (.int w_0_3), .val (.int w_0_4), .val (.int w_0_5), .val (.int w_0_6), .val (.int w_0_7), .val (.int w_0_8), .val (.int w_0_9), .val (.ref b_0_10), .val (.ref b_0_15), .val (.ref b_0_26), .val (.ref b_0_64), .unset, .unset] [(.int w_0_5), (.int w_0_3), (.int (atF w_0_3 w_0_4 w_0_7 w_0_3 w_0_6))]))
  refine ogo (fun _ k => XS.iload X_0_126.here hx rfl (hb hby at_160) rfl k) ?_
  show OGo _ _ _ _ (T_0_126.setTop (mkF m 162 #[.val (.int va), .val (.int vb), .val (.int vc), .val (.int vd), .val (.int w_0_1), .val (.int w_0_2), .val (.int w_0_3), .val (.int w_0_4), .val (.int w_0_5), .val (.int w_0_6), .val (.int w_0_7), .val (.int w_0_8), .val (.int w_0_9), .val (.ref b_0_10), .val (.ref b_0_15), .val (.ref b_0_26), .val (.ref b_0_64), .unset, .unset] [(.int w_0_9), (.int w_0_5), (.int w_0_3), (.int (atF w_0_3 w_0_4 w_0_7 w_0_3 w_0_6))]))
  refine ogo (fun _ k => XS.iload X_0_126.here hx rfl (hb hby at_162) rfl k) ?_
  show OGo _ _ _ _ (T_0_126.setTop (mkF m 164 #[.val (.int va), .val (.int vb), .val (.int vc), .val (.int vd), .val (.int w_0_1), .val (.int w_0_2), .val (.int w_0_3), .val (.int w_0_4), .val (.int w_0_5), .val (.int w_0_6), .val (.int w_0_7), .val (.int w_0_8), .val (.int w_0_9), .val (.ref b_0_10), .val (.ref b_0_15), .val (.ref b_0_26), .val (.ref b_0_64), .unset, .unset] [(.int w_0_3), (.int w_0_9), (.int w_0_5), (.int w_0_3), (.int (atF w_0_3 w_0_4 w_0_7 w_0_3 w_0_6))]))
  refine ogo (fun _ k => XS.iload X_0_126.here hx rfl (hb hby at_164) rfl k) ?_
  show OGo _ _ _ _ (T_0_126.setTop (mkF m 166 #[.val (.int va), .val (.int vb), .val (.int vc), .val (.int vd), .val (.int w_0_1), .val (.int w_0_2), .val (.int w_0_3), .val (.int w_0_4), .val (.int w_0_5), .val (.int w_0_6), .val (.int w_0_7), .val (.int w_0_8), .val (.int w_0_9), .val (.ref b_0_10), .val (.ref b_0_15), .val (.ref b_0_26), .val (.ref b_0_64), .unset, .unset] [(.int w_0_8), (.int w_0_3), (.int w_0_9), (.int w_0_5), (.int w_0_3), (.int (atF w_0_3 w_0_4 w_0_7 w_0_3 w_0_6))]))
  obtain ⟨T_0_127, X_0_127, e_0_127, st_0_127⟩ := ocallP X_0_126 hx hZ e_0_126 (rm6 l Z a0 hw w_0_3 w_0_5 w_0_9 w_0_3 w_0_8  h_0_109 ) hown (hw _ (List.mem_of_getElem? (i := 42) rfl)) (hw _ (List.mem_of_getElem? (i := 43) rfl)) (hw _ (List.mem_of_getElem? (i := 44) rfl)) (hw _ (List.mem_of_getElem? (i := 45) rfl)) (by decide) (g := (mkF m 166 #[.val (.int va), .val (.int vb), .val (.int vc), .val (.int vd), .val (.int w_0_1), .val (.int w_0_2), .val (.int w_0_3), .val (.int w_0_4), .val (.int w_0_5), .val (.int w_0_6), .val (.int w_0_7), .val (.int w_0_8), .val (.int w_0_9), .val (.ref b_0_10), .val (.ref b_0_15), .val (.ref b_0_26), .val (.ref b_0_64), .unset, .unset] [(.int w_0_8), (.int w_0_3), (.int w_0_9), (.int w_0_5), (.int w_0_3), (.int (atF w_0_3 w_0_4 w_0_7 w_0_3 w_0_6))])) rfl (by rw [hml]; rfl) [(.int w_0_3), (.int w_0_5), (.int w_0_9), (.int w_0_3), (.int w_0_8)] [(.int (atF w_0_3 w_0_4 w_0_7 w_0_3 w_0_6))] rfl (lenOf pd__IIBIB_I rfl) rfl (hb hby at_166) 1 (by show 2 * 0 + _ ≤ _; exact Nat.le_of_eq rfl) (by decide) (by decide) (by decide) (by decide) rfl rfl
  refine ogo (fun _ k => st_0_127 _ k) ?_
  show OGo _ _ _ _ (T_0_127.setTop (mkF m 169 #[.val (.int va), .val (.int vb), .val (.int vc), .val (.int vd), .val (.int w_0_1), .val (.int w_0_2), .val (.int w_0_3), .val (.int w_0_4), .val (.int w_0_5), .val (.int w_0_6), .val (.int w_0_7), .val (.int w_0_8), .val (.int w_0_9), .val (.ref b_0_10), .val (.ref b_0_15), .val (.ref b_0_26), .val (.ref b_0_64), .unset, .unset] [(.int (atF w_0_3 w_0_5 w_0_9 w_0_3 w_0_8)), (.int (atF w_0_3 w_0_4 w_0_7 w_0_3 w_0_6))]))
  obtain ⟨T_0_128, X_0_128, e_0_128, st_0_128⟩ := ocallP X_0_127 hx hZ e_0_127 (rm7 l Z a0 hw (atF w_0_3 w_0_4 w_0_7 w_0_3 w_0_6) (atF w_0_3 w_0_5 w_0_9 w_0_3 w_0_8)  h_0_109 ) hown (hw _ (List.mem_of_getElem? (i := 46) rfl)) (hw _ (List.mem_of_getElem? (i := 47) rfl)) (hw _ (List.mem_of_getElem? (i := 44) rfl)) (hw _ (List.mem_of_getElem? (i := 48) rfl)) (by decide) (g := (mkF m 169 #[.val (.int va), .val (.int vb), .val (.int vc), .val (.int vd), .val (.int w_0_1), .val (.int w_0_2), .val (.int w_0_3), .val (.int w_0_4), .val (.int w_0_5), .val (.int w_0_6), .val (.int w_0_7), .val (.int w_0_8), .val (.int w_0_9), .val (.ref b_0_10), .val (.ref b_0_15), .val (.ref b_0_26), .val (.ref b_0_64), .unset, .unset] [(.int (atF w_0_3 w_0_5 w_0_9 w_0_3 w_0_8)), (.int (atF w_0_3 w_0_4 w_0_7 w_0_3 w_0_6))])) rfl (by rw [hml]; rfl) [(.int (atF w_0_3 w_0_4 w_0_7 w_0_3 w_0_6)), (.int (atF w_0_3 w_0_5 w_0_9 w_0_3 w_0_8))] [] rfl (lenOf pd__II_Z rfl) rfl (hb hby at_169) 0 (by show 2 * 0 + _ ≤ _; exact Nat.le_of_eq rfl) (by decide) (by decide) (by decide) (by decide) rfl rfl
  refine ogo (fun _ k => st_0_128 _ k) ?_
  show OGo _ _ _ _ (T_0_128.setTop (mkF m 172 #[.val (.int va), .val (.int vb), .val (.int vc), .val (.int vd), .val (.int w_0_1), .val (.int w_0_2), .val (.int w_0_3), .val (.int w_0_4), .val (.int w_0_5), .val (.int w_0_6), .val (.int w_0_7), .val (.int w_0_8), .val (.int w_0_9), .val (.ref b_0_10), .val (.ref b_0_15), .val (.ref b_0_26), .val (.ref b_0_64), .unset, .unset] [(.int (covF (atF w_0_3 w_0_4 w_0_7 w_0_3 w_0_6) (atF w_0_3 w_0_5 w_0_9 w_0_3 w_0_8)))]))
  suffices J_0_138 : ∀ (w_0_137 : Int32) (hw_0_137 : w_0_137 = (if (covF (atF w_0_3 w_0_4 w_0_7 w_0_3 w_0_6) (atF w_0_3 w_0_5 w_0_9 w_0_3 w_0_8)) = (0 : Int32) then (0 : Int32) else (if (covF (atF w_0_5 w_0_4 w_0_7 w_0_3 w_0_6) (atF w_0_5 w_0_5 w_0_9 w_0_3 w_0_8)) = (0 : Int32) then (0 : Int32) else (1 : Int32)))) (T_0_139 : State) (X_0_139 : Stand p l e room_1 s m #[(.int va), (.int vb), (.int vc), (.int vd)] below meth c T_0_139 lc_0_109 8 262) (e_0_139 : T_0_139.heap = h_0_109), OGo p.tables e below (OFin s (fun v _ L => v = some (.int 1) ∧ Fr n0 L) 24 640) (T_0_139.setTop (mkF m 212 #[.val (.int va), .val (.int vb), .val (.int vc), .val (.int vd), .val (.int w_0_1), .val (.int w_0_2), .val (.int w_0_3), .val (.int w_0_4), .val (.int w_0_5), .val (.int w_0_6), .val (.int w_0_7), .val (.int w_0_8), .val (.int w_0_9), .val (.ref b_0_10), .val (.ref b_0_15), .val (.ref b_0_26), .val (.ref b_0_64), .unset, .unset] [(.int w_0_137)])) by
    by_cases hc_0_129 : (covF (atF w_0_3 w_0_4 w_0_7 w_0_3 w_0_6) (atF w_0_3 w_0_5 w_0_9 w_0_3 w_0_8)) = (0 : Int32)
    · refine ogo (fun _ k => XS.ifYes X_0_128.here hx rfl (pc0 := 172) (pc' := 211) rfl (hb hby at_172) rfl ((if0 _ _).trans (teq hc_0_129).1) (by decide) (by decide) k) ?_
      show OGo _ _ _ _ (T_0_128.setTop (mkF m 211 #[.val (.int va), .val (.int vb), .val (.int vc), .val (.int vd), .val (.int w_0_1), .val (.int w_0_2), .val (.int w_0_3), .val (.int w_0_4), .val (.int w_0_5), .val (.int w_0_6), .val (.int w_0_7), .val (.int w_0_8), .val (.int w_0_9), .val (.ref b_0_10), .val (.ref b_0_15), .val (.ref b_0_26), .val (.ref b_0_64), .unset, .unset] []))
      refine ogo (fun _ k => XS.iconst X_0_128.here hx rfl (hb hby at_211) k) ?_
      show OGo _ _ _ _ (T_0_128.setTop (mkF m 212 #[.val (.int va), .val (.int vb), .val (.int vc), .val (.int vd), .val (.int w_0_1), .val (.int w_0_2), .val (.int w_0_3), .val (.int w_0_4), .val (.int w_0_5), .val (.int w_0_6), .val (.int w_0_7), .val (.int w_0_8), .val (.int w_0_9), .val (.ref b_0_10), .val (.ref b_0_15), .val (.ref b_0_26), .val (.ref b_0_64), .unset, .unset] [(.int (0 : Int32))]))
      exact J_0_138 _ (if_pos hc_0_129).symm _ X_0_128 e_0_128
    · refine ogo (fun _ k => XS.ifNo X_0_128.here hx rfl (hb hby at_172) rfl ((if0 _ _).trans (feq hc_0_129).1) k) ?_
      show OGo _ _ _ _ (T_0_128.setTop (mkF m 175 #[.val (.int va), .val (.int vb), .val (.int vc), .val (.int vd), .val (.int w_0_1), .val (.int w_0_2), .val (.int w_0_3), .val (.int w_0_4), .val (.int w_0_5), .val (.int w_0_6), .val (.int w_0_7), .val (.int w_0_8), .val (.int w_0_9), .val (.ref b_0_10), .val (.ref b_0_15), .val (.ref b_0_26), .val (.ref b_0_64), .unset, .unset] []))
      refine ogo (fun _ k => XS.iload X_0_128.here hx rfl (hb hby at_175) rfl k) ?_
      show OGo _ _ _ _ (T_0_128.setTop (mkF m 177 #[.val (.int va), .val (.int vb), .val (.int vc), .val (.int vd), .val (.int w_0_1), .val (.int w_0_2), .val (.int w_0_3), .val (.int w_0_4), .val (.int w_0_5), .val (.int w_0_6), .val (.int w_0_7), .val (.int w_0_8), .val (.int w_0_9), .val (.ref b_0_10), .val (.ref b_0_15), .val (.ref b_0_26), .val (.ref b_0_64), .unset, .unset] [(.int w_0_5)]))
      refine ogo (fun _ k => XS.iload X_0_128.here hx rfl (hb hby at_177) rfl k) ?_
      show OGo _ _ _ _ (T_0_128.setTop (mkF m 179 #[.val (.int va), .val (.int vb), .val (.int vc), .val (.int vd), .val (.int w_0_1), .val (.int w_0_2), .val (.int w_0_3), .val (.int w_0_4), .val (.int w_0_5), .val (.int w_0_6), .val (.int w_0_7), .val (.int w_0_8), .val (.int w_0_9), .val (.ref b_0_10), .val (.ref b_0_15), .val (.ref b_0_26), .val (.ref b_0_64), .unset, .unset] [(.int w_0_4), (.int w_0_5)]))
      refine ogo (fun _ k => XS.iload X_0_128.here hx rfl (hb hby at_179) rfl k) ?_
      show OGo _ _ _ _ (T_0_128.setTop (mkF m 181 #[.val (.int va), .val (.int vb), .val (.int vc), .val (.int vd), .val (.int w_0_1), .val (.int w_0_2), .val (.int w_0_3), .val (.int w_0_4), .val (.int w_0_5), .val (.int w_0_6), .val (.int w_0_7), .val (.int w_0_8), .val (.int w_0_9), .val (.ref b_0_10), .val (.ref b_0_15), .val (.ref b_0_26), .val (.ref b_0_64), .unset, .unset] [(.int w_0_7), (.int w_0_4), (.int w_0_5)]))
      refine ogo (fun _ k => XS.iload X_0_128.here hx rfl (hb hby at_181) rfl k) ?_
      show OGo _ _ _ _ (T_0_128.setTop (mkF m 183 #[.val (.int va), .val (.int vb), .val (.int vc), .val (.int vd), .val (.int w_0_1), .val (.int w_0_2), .val (.int w_0_3), .val (.int w_0_4), .val (.int w_0_5), .val (.int w_0_6), .val (.int w_0_7), .val (.int w_0_8), .val (.int w_0_9), .val (.ref b_0_10), .val (.ref b_0_15), .val (.ref b_0_26), .val (.ref b_0_64), .unset, .unset] [(.int w_0_3), (.int w_0_7), (.int w_0_4), (.int w_0_5)]))
      refine ogo (fun _ k => XS.iload X_0_128.here hx rfl (hb hby at_183) rfl k) ?_
      show OGo _ _ _ _ (T_0_128.setTop (mkF m 185 #[.val (.int va), .val (.int vb), .val (.int vc), .val (.int vd), .val (.int w_0_1), .val (.int w_0_2), .val (.int w_0_3), .val (.int w_0_4), .val (.int w_0_5), .val (.int w_0_6), .val (.int w_0_7), .val (.int w_0_8), .val (.int w_0_9), .val (.ref b_0_10), .val (.ref b_0_15), .val (.ref b_0_26), .val (.ref b_0_64), .unset, .unset] [(.int w_0_6), (.int w_0_3), (.int w_0_7), (.int w_0_4), (.int w_0_5)]))
      obtain ⟨T_0_130, X_0_130, e_0_130, st_0_130⟩ := ocallP X_0_128 hx hZ e_0_128 (rm6 l Z a0 hw w_0_5 w_0_4 w_0_7 w_0_3 w_0_6  h_0_109 ) hown (hw _ (List.mem_of_getElem? (i := 42) rfl)) (hw _ (List.mem_of_getElem? (i := 43) rfl)) (hw _ (List.mem_of_getElem? (i := 44) rfl)) (hw _ (List.mem_of_getElem? (i := 45) rfl)) (by decide) (g := (mkF m 185 #[.val (.int va), .val (.int vb), .val (.int vc), .val (.int vd), .val (.int w_0_1), .val (.int w_0_2), .val (.int w_0_3), .val (.int w_0_4), .val (.int w_0_5), .val (.int w_0_6), .val (.int w_0_7), .val (.int w_0_8), .val (.int w_0_9), .val (.ref b_0_10), .val (.ref b_0_15), .val (.ref b_0_26), .val (.ref b_0_64), .unset, .unset] [(.int w_0_6), (.int w_0_3), (.int w_0_7), (.int w_0_4), (.int w_0_5)])) rfl (by rw [hml]; rfl) [(.int w_0_5), (.int w_0_4), (.int w_0_7), (.int w_0_3), (.int w_0_6)] [] rfl (lenOf pd__IIBIB_I rfl) rfl (hb hby at_185) 0 (by show 2 * 0 + _ ≤ _; exact Nat.le_of_eq rfl) (by decide) (by decide) (by decide) (by decide) rfl rfl
      refine ogo (fun _ k => st_0_130 _ k) ?_
      show OGo _ _ _ _ (T_0_130.setTop (mkF m 188 #[.val (.int va), .val (.int vb), .val (.int vc), .val (.int vd), .val (.int w_0_1), .val (.int w_0_2), .val (.int w_0_3), .val (.int w_0_4), .val (.int w_0_5), .val (.int w_0_6), .val (.int w_0_7), .val (.int w_0_8), .val (.int w_0_9), .val (.ref b_0_10), .val (.ref b_0_15), .val (.ref b_0_26), .val (.ref b_0_64), .unset, .unset] [(.int (atF w_0_5 w_0_4 w_0_7 w_0_3 w_0_6))]))
      refine ogo (fun _ k => XS.iload X_0_130.here hx rfl (hb hby at_188) rfl k) ?_
      show OGo _ _ _ _ (T_0_130.setTop (mkF m 190 #[.val (.int va), .val (.int vb), .val (.int vc), .val (.int vd), .val (.int w_0_1), .val (.int w_0_2), .val (.int w_0_3), .val (.int w_0_4), .val (.int w_0_5), .val (.int w_0_6), .val (.int w_0_7), .val (.int w_0_8), .val (.int w_0_9), .val (.ref b_0_10), .val (.ref b_0_15), .val (.ref b_0_26), .val (.ref b_0_64), .unset, .unset] [(.int w_0_5), (.int (atF w_0_5 w_0_4 w_0_7 w_0_3 w_0_6))]))
      refine ogo (fun _ k => XS.iload X_0_130.here hx rfl (hb hby at_190) rfl k) ?_
      show OGo _ _ _ _ (T_0_130.setTop (mkF m 192 #[.val (.int va), .val (.int vb), .val (.int vc), .val (.int vd), .val (.int w_0_1), .val (.int w_0_2), .val (.int w_0_3), .val (.int w_0_4), .val (.int w_0_5), .val (.int w_0_6), .val (.int w_0_7), .val (.int w_0_8), .val (.int w_0_9), .val (.ref b_0_10), .val (.ref b_0_15), .val (.ref b_0_26), .val (.ref b_0_64), .unset, .unset] [(.int w_0_5), (.int w_0_5), (.int (atF w_0_5 w_0_4 w_0_7 w_0_3 w_0_6))]))
      refine ogo (fun _ k => XS.iload X_0_130.here hx rfl (hb hby at_192) rfl k) ?_
      show OGo _ _ _ _ (T_0_130.setTop (mkF m 194 #[.val (.int va), .val (.int vb), .val (.int vc), .val (.int vd), .val (.int w_0_1), .val (.int w_0_2), .val (.int w_0_3), .val (.int w_0_4), .val (.int w_0_5), .val (.int w_0_6), .val (.int w_0_7), .val (.int w_0_8), .val (.int w_0_9), .val (.ref b_0_10), .val (.ref b_0_15), .val (.ref b_0_26), .val (.ref b_0_64), .unset, .unset] [(.int w_0_9), (.int w_0_5), (.int w_0_5), (.int (atF w_0_5 w_0_4 w_0_7 w_0_3 w_0_6))]))
      refine ogo (fun _ k => XS.iload X_0_130.here hx rfl (hb hby at_194) rfl k) ?_
      show OGo _ _ _ _ (T_0_130.setTop (mkF m 196 #[.val (.int va), .val (.int vb), .val (.int vc), .val (.int vd), .val (.int w_0_1), .val (.int w_0_2), .val (.int w_0_3), .val (.int w_0_4), .val (.int w_0_5), .val (.int w_0_6), .val (.int w_0_7), .val (.int w_0_8), .val (.int w_0_9), .val (.ref b_0_10), .val (.ref b_0_15), .val (.ref b_0_26), .val (.ref b_0_64), .unset, .unset] [(.int w_0_3), (.int w_0_9), (.int w_0_5), (.int w_0_5), (.int (atF w_0_5 w_0_4 w_0_7 w_0_3 w_0_6))]))
      refine ogo (fun _ k => XS.iload X_0_130.here hx rfl (hb hby at_196) rfl k) ?_
      show OGo _ _ _ _ (T_0_130.setTop (mkF m 198 #[.val (.int va), .val (.int vb), .val (.int vc), .val (.int vd), .val (.int w_0_1), .val (.int w_0_2), .val (.int w_0_3), .val (.int w_0_4), .val (.int w_0_5), .val (.int w_0_6), .val (.int w_0_7), .val (.int w_0_8), .val (.int w_0_9), .val (.ref b_0_10), .val (.ref b_0_15), .val (.ref b_0_26), .val (.ref b_0_64), .unset, .unset] [(.int w_0_8), (.int w_0_3), (.int w_0_9), (.int w_0_5), (.int w_0_5), (.int (atF w_0_5 w_0_4 w_0_7 w_0_3 w_0_6))]))
      obtain ⟨T_0_131, X_0_131, e_0_131, st_0_131⟩ := ocallP X_0_130 hx hZ e_0_130 (rm6 l Z a0 hw w_0_5 w_0_5 w_0_9 w_0_3 w_0_8  h_0_109 ) hown (hw _ (List.mem_of_getElem? (i := 42) rfl)) (hw _ (List.mem_of_getElem? (i := 43) rfl)) (hw _ (List.mem_of_getElem? (i := 44) rfl)) (hw _ (List.mem_of_getElem? (i := 45) rfl)) (by decide) (g := (mkF m 198 #[.val (.int va), .val (.int vb), .val (.int vc), .val (.int vd), .val (.int w_0_1), .val (.int w_0_2), .val (.int w_0_3), .val (.int w_0_4), .val (.int w_0_5), .val (.int w_0_6), .val (.int w_0_7), .val (.int w_0_8), .val (.int w_0_9), .val (.ref b_0_10), .val (.ref b_0_15), .val (.ref b_0_26), .val (.ref b_0_64), .unset, .unset] [(.int w_0_8), (.int w_0_3), (.int w_0_9), (.int w_0_5), (.int w_0_5), (.int (atF w_0_5 w_0_4 w_0_7 w_0_3 w_0_6))])) rfl (by rw [hml]; rfl) [(.int w_0_5), (.int w_0_5), (.int w_0_9), (.int w_0_3), (.int w_0_8)] [(.int (atF w_0_5 w_0_4 w_0_7 w_0_3 w_0_6))] rfl (lenOf pd__IIBIB_I rfl) rfl (hb hby at_198) 1 (by show 2 * 0 + _ ≤ _; exact Nat.le_of_eq rfl) (by decide) (by decide) (by decide) (by decide) rfl rfl
      refine ogo (fun _ k => st_0_131 _ k) ?_
      show OGo _ _ _ _ (T_0_131.setTop (mkF m 201 #[.val (.int va), .val (.int vb), .val (.int vc), .val (.int vd), .val (.int w_0_1), .val (.int w_0_2), .val (.int w_0_3), .val (.int w_0_4), .val (.int w_0_5), .val (.int w_0_6), .val (.int w_0_7), .val (.int w_0_8), .val (.int w_0_9), .val (.ref b_0_10), .val (.ref b_0_15), .val (.ref b_0_26), .val (.ref b_0_64), .unset, .unset] [(.int (atF w_0_5 w_0_5 w_0_9 w_0_3 w_0_8)), (.int (atF w_0_5 w_0_4 w_0_7 w_0_3 w_0_6))]))
      obtain ⟨T_0_132, X_0_132, e_0_132, st_0_132⟩ := ocallP X_0_131 hx hZ e_0_131 (rm7 l Z a0 hw (atF w_0_5 w_0_4 w_0_7 w_0_3 w_0_6) (atF w_0_5 w_0_5 w_0_9 w_0_3 w_0_8)  h_0_109 ) hown (hw _ (List.mem_of_getElem? (i := 46) rfl)) (hw _ (List.mem_of_getElem? (i := 47) rfl)) (hw _ (List.mem_of_getElem? (i := 44) rfl)) (hw _ (List.mem_of_getElem? (i := 48) rfl)) (by decide) (g := (mkF m 201 #[.val (.int va), .val (.int vb), .val (.int vc), .val (.int vd), .val (.int w_0_1), .val (.int w_0_2), .val (.int w_0_3), .val (.int w_0_4), .val (.int w_0_5), .val (.int w_0_6), .val (.int w_0_7), .val (.int w_0_8), .val (.int w_0_9), .val (.ref b_0_10), .val (.ref b_0_15), .val (.ref b_0_26), .val (.ref b_0_64), .unset, .unset] [(.int (atF w_0_5 w_0_5 w_0_9 w_0_3 w_0_8)), (.int (atF w_0_5 w_0_4 w_0_7 w_0_3 w_0_6))])) rfl (by rw [hml]; rfl) [(.int (atF w_0_5 w_0_4 w_0_7 w_0_3 w_0_6)), (.int (atF w_0_5 w_0_5 w_0_9 w_0_3 w_0_8))] [] rfl (lenOf pd__II_Z rfl) rfl (hb hby at_201) 0 (by show 2 * 0 + _ ≤ _; exact Nat.le_of_eq rfl) (by decide) (by decide) (by decide) (by decide) rfl rfl
      refine ogo (fun _ k => st_0_132 _ k) ?_
      show OGo _ _ _ _ (T_0_132.setTop (mkF m 204 #[.val (.int va), .val (.int vb), .val (.int vc), .val (.int vd), .val (.int w_0_1), .val (.int w_0_2), .val (.int w_0_3), .val (.int w_0_4), .val (.int w_0_5), .val (.int w_0_6), .val (.int w_0_7), .val (.int w_0_8), .val (.int w_0_9), .val (.ref b_0_10), .val (.ref b_0_15), .val (.ref b_0_26), .val (.ref b_0_64), .unset, .unset] [(.int (covF (atF w_0_5 w_0_4 w_0_7 w_0_3 w_0_6) (atF w_0_5 w_0_5 w_0_9 w_0_3 w_0_8)))]))
      suffices J_0_135 : ∀ (w_0_134 : Int32) (hw_0_134 : w_0_134 = (if (covF (atF w_0_5 w_0_4 w_0_7 w_0_3 w_0_6) (atF w_0_5 w_0_5 w_0_9 w_0_3 w_0_8)) = (0 : Int32) then (0 : Int32) else (1 : Int32))), OGo p.tables e below (OFin s (fun v _ L => v = some (.int 1) ∧ Fr n0 L) 24 640) (T_0_132.setTop (mkF m 212 #[.val (.int va), .val (.int vb), .val (.int vc), .val (.int vd), .val (.int w_0_1), .val (.int w_0_2), .val (.int w_0_3), .val (.int w_0_4), .val (.int w_0_5), .val (.int w_0_6), .val (.int w_0_7), .val (.int w_0_8), .val (.int w_0_9), .val (.ref b_0_10), .val (.ref b_0_15), .val (.ref b_0_26), .val (.ref b_0_64), .unset, .unset] [(.int w_0_134)])) by
        by_cases hc_0_133 : (covF (atF w_0_5 w_0_4 w_0_7 w_0_3 w_0_6) (atF w_0_5 w_0_5 w_0_9 w_0_3 w_0_8)) = (0 : Int32)
        · refine ogo (fun _ k => XS.ifYes X_0_132.here hx rfl (pc0 := 204) (pc' := 211) rfl (hb hby at_204) rfl ((if0 _ _).trans (teq hc_0_133).1) (by decide) (by decide) k) ?_
          show OGo _ _ _ _ (T_0_132.setTop (mkF m 211 #[.val (.int va), .val (.int vb), .val (.int vc), .val (.int vd), .val (.int w_0_1), .val (.int w_0_2), .val (.int w_0_3), .val (.int w_0_4), .val (.int w_0_5), .val (.int w_0_6), .val (.int w_0_7), .val (.int w_0_8), .val (.int w_0_9), .val (.ref b_0_10), .val (.ref b_0_15), .val (.ref b_0_26), .val (.ref b_0_64), .unset, .unset] []))
          refine ogo (fun _ k => XS.iconst X_0_132.here hx rfl (hb hby at_211) k) ?_
          show OGo _ _ _ _ (T_0_132.setTop (mkF m 212 #[.val (.int va), .val (.int vb), .val (.int vc), .val (.int vd), .val (.int w_0_1), .val (.int w_0_2), .val (.int w_0_3), .val (.int w_0_4), .val (.int w_0_5), .val (.int w_0_6), .val (.int w_0_7), .val (.int w_0_8), .val (.int w_0_9), .val (.ref b_0_10), .val (.ref b_0_15), .val (.ref b_0_26), .val (.ref b_0_64), .unset, .unset] [(.int (0 : Int32))]))
          exact J_0_135 _ (if_pos hc_0_133).symm
        · refine ogo (fun _ k => XS.ifNo X_0_132.here hx rfl (hb hby at_204) rfl ((if0 _ _).trans (feq hc_0_133).1) k) ?_
          show OGo _ _ _ _ (T_0_132.setTop (mkF m 207 #[.val (.int va), .val (.int vb), .val (.int vc), .val (.int vd), .val (.int w_0_1), .val (.int w_0_2), .val (.int w_0_3), .val (.int w_0_4), .val (.int w_0_5), .val (.int w_0_6), .val (.int w_0_7), .val (.int w_0_8), .val (.int w_0_9), .val (.ref b_0_10), .val (.ref b_0_15), .val (.ref b_0_26), .val (.ref b_0_64), .unset, .unset] []))
          refine ogo (fun _ k => XS.iconst X_0_132.here hx rfl (hb hby at_207) k) ?_
          show OGo _ _ _ _ (T_0_132.setTop (mkF m 208 #[.val (.int va), .val (.int vb), .val (.int vc), .val (.int vd), .val (.int w_0_1), .val (.int w_0_2), .val (.int w_0_3), .val (.int w_0_4), .val (.int w_0_5), .val (.int w_0_6), .val (.int w_0_7), .val (.int w_0_8), .val (.int w_0_9), .val (.ref b_0_10), .val (.ref b_0_15), .val (.ref b_0_26), .val (.ref b_0_64), .unset, .unset] [(.int (1 : Int32))]))
          refine ogo (fun _ k => XS.goto X_0_132.here hx rfl (pc0 := 208) (pc' := 212) rfl (hb hby at_208) (by decide) (by decide) k) ?_
          show OGo _ _ _ _ (T_0_132.setTop (mkF m 212 #[.val (.int va), .val (.int vb), .val (.int vc), .val (.int vd), .val (.int w_0_1), .val (.int w_0_2), .val (.int w_0_3), .val (.int w_0_4), .val (.int w_0_5), .val (.int w_0_6), .val (.int w_0_7), .val (.int w_0_8), .val (.int w_0_9), .val (.ref b_0_10), .val (.ref b_0_15), .val (.ref b_0_26), .val (.ref b_0_64), .unset, .unset] [(.int (1 : Int32))]))
          exact J_0_135 _ (if_neg hc_0_133).symm
      intro w_0_134 hw_0_134
      subst hw_0_134
      exact J_0_138 _ (if_neg hc_0_129).symm _ X_0_132 e_0_132
  intro w_0_137 hw_0_137 T_0_139 X_0_139 e_0_139
  refine ogo (fun _ k => XS.istore X_0_139.here hx rfl (hb hby at_212) rfl (l' := #[.val (.int va), .val (.int vb), .val (.int vc), .val (.int vd), .val (.int w_0_1), .val (.int w_0_2), .val (.int w_0_3), .val (.int w_0_4), .val (.int w_0_5), .val (.int w_0_6), .val (.int w_0_7), .val (.int w_0_8), .val (.int w_0_9), .val (.ref b_0_10), .val (.ref b_0_15), .val (.ref b_0_26), .val (.ref b_0_64), .val (.int w_0_137), .unset]) rfl k) ?_
  show OGo _ _ _ _ (T_0_139.setTop (mkF m 214 #[.val (.int va), .val (.int vb), .val (.int vc), .val (.int vd), .val (.int w_0_1), .val (.int w_0_2), .val (.int w_0_3), .val (.int w_0_4), .val (.int w_0_5), .val (.int w_0_6), .val (.int w_0_7), .val (.int w_0_8), .val (.int w_0_9), .val (.ref b_0_10), .val (.ref b_0_15), .val (.ref b_0_26), .val (.ref b_0_64), .val (.int w_0_137), .unset] []))
  refine ogo (fun _ k => XS.iload X_0_139.here hx rfl (hb hby at_214) rfl k) ?_
  show OGo _ _ _ _ (T_0_139.setTop (mkF m 216 #[.val (.int va), .val (.int vb), .val (.int vc), .val (.int vd), .val (.int w_0_1), .val (.int w_0_2), .val (.int w_0_3), .val (.int w_0_4), .val (.int w_0_5), .val (.int w_0_6), .val (.int w_0_7), .val (.int w_0_8), .val (.int w_0_9), .val (.ref b_0_10), .val (.ref b_0_15), .val (.ref b_0_26), .val (.ref b_0_64), .val (.int w_0_137), .unset] [(.int w_0_1)]))
  refine ogo (fun _ k => XS.iload X_0_139.here hx rfl (hb hby at_216) rfl k) ?_
  show OGo _ _ _ _ (T_0_139.setTop (mkF m 218 #[.val (.int va), .val (.int vb), .val (.int vc), .val (.int vd), .val (.int w_0_1), .val (.int w_0_2), .val (.int w_0_3), .val (.int w_0_4), .val (.int w_0_5), .val (.int w_0_6), .val (.int w_0_7), .val (.int w_0_8), .val (.int w_0_9), .val (.ref b_0_10), .val (.ref b_0_15), .val (.ref b_0_26), .val (.ref b_0_64), .val (.int w_0_137), .unset] [(.int w_0_2), (.int w_0_1)]))
  suffices J_0_146 : ∀ (w_0_145 : Int32) (hw_0_145 : w_0_145 = (if w_0_2 < w_0_1 then (0 : Int32) else (if w_0_137 = (0 : Int32) then (0 : Int32) else (1 : Int32)))), OGo p.tables e below (OFin s (fun v _ L => v = some (.int 1) ∧ Fr n0 L) 24 640) (T_0_139.setTop (mkF m 231 #[.val (.int va), .val (.int vb), .val (.int vc), .val (.int vd), .val (.int w_0_1), .val (.int w_0_2), .val (.int w_0_3), .val (.int w_0_4), .val (.int w_0_5), .val (.int w_0_6), .val (.int w_0_7), .val (.int w_0_8), .val (.int w_0_9), .val (.ref b_0_10), .val (.ref b_0_15), .val (.ref b_0_26), .val (.ref b_0_64), .val (.int w_0_137), .unset] [(.int w_0_145)])) by
    by_cases hc_0_140 : w_0_2 < w_0_1
    · refine ogo (fun _ k => XS.icmpYes X_0_139.here hx rfl (pc0 := 218) (pc' := 230) rfl (hb hby at_218) rfl (tlt hc_0_140).2.2.1 (by decide) (by decide) k) ?_
      show OGo _ _ _ _ (T_0_139.setTop (mkF m 230 #[.val (.int va), .val (.int vb), .val (.int vc), .val (.int vd), .val (.int w_0_1), .val (.int w_0_2), .val (.int w_0_3), .val (.int w_0_4), .val (.int w_0_5), .val (.int w_0_6), .val (.int w_0_7), .val (.int w_0_8), .val (.int w_0_9), .val (.ref b_0_10), .val (.ref b_0_15), .val (.ref b_0_26), .val (.ref b_0_64), .val (.int w_0_137), .unset] []))
      refine ogo (fun _ k => XS.iconst X_0_139.here hx rfl (hb hby at_230) k) ?_
      show OGo _ _ _ _ (T_0_139.setTop (mkF m 231 #[.val (.int va), .val (.int vb), .val (.int vc), .val (.int vd), .val (.int w_0_1), .val (.int w_0_2), .val (.int w_0_3), .val (.int w_0_4), .val (.int w_0_5), .val (.int w_0_6), .val (.int w_0_7), .val (.int w_0_8), .val (.int w_0_9), .val (.ref b_0_10), .val (.ref b_0_15), .val (.ref b_0_26), .val (.ref b_0_64), .val (.int w_0_137), .unset] [(.int (0 : Int32))]))
      exact J_0_146 _ (if_pos hc_0_140).symm
    · refine ogo (fun _ k => XS.icmpNo X_0_139.here hx rfl (hb hby at_218) rfl (flt hc_0_140).2.2.1 k) ?_
      show OGo _ _ _ _ (T_0_139.setTop (mkF m 221 #[.val (.int va), .val (.int vb), .val (.int vc), .val (.int vd), .val (.int w_0_1), .val (.int w_0_2), .val (.int w_0_3), .val (.int w_0_4), .val (.int w_0_5), .val (.int w_0_6), .val (.int w_0_7), .val (.int w_0_8), .val (.int w_0_9), .val (.ref b_0_10), .val (.ref b_0_15), .val (.ref b_0_26), .val (.ref b_0_64), .val (.int w_0_137), .unset] []))
      refine ogo (fun _ k => XS.iload X_0_139.here hx rfl (hb hby at_221) rfl k) ?_
      show OGo _ _ _ _ (T_0_139.setTop (mkF m 223 #[.val (.int va), .val (.int vb), .val (.int vc), .val (.int vd), .val (.int w_0_1), .val (.int w_0_2), .val (.int w_0_3), .val (.int w_0_4), .val (.int w_0_5), .val (.int w_0_6), .val (.int w_0_7), .val (.int w_0_8), .val (.int w_0_9), .val (.ref b_0_10), .val (.ref b_0_15), .val (.ref b_0_26), .val (.ref b_0_64), .val (.int w_0_137), .unset] [(.int w_0_137)]))
      suffices J_0_143 : ∀ (w_0_142 : Int32) (hw_0_142 : w_0_142 = (if w_0_137 = (0 : Int32) then (0 : Int32) else (1 : Int32))), OGo p.tables e below (OFin s (fun v _ L => v = some (.int 1) ∧ Fr n0 L) 24 640) (T_0_139.setTop (mkF m 231 #[.val (.int va), .val (.int vb), .val (.int vc), .val (.int vd), .val (.int w_0_1), .val (.int w_0_2), .val (.int w_0_3), .val (.int w_0_4), .val (.int w_0_5), .val (.int w_0_6), .val (.int w_0_7), .val (.int w_0_8), .val (.int w_0_9), .val (.ref b_0_10), .val (.ref b_0_15), .val (.ref b_0_26), .val (.ref b_0_64), .val (.int w_0_137), .unset] [(.int w_0_142)])) by
        by_cases hc_0_141 : w_0_137 = (0 : Int32)
        · refine ogo (fun _ k => XS.ifYes X_0_139.here hx rfl (pc0 := 223) (pc' := 230) rfl (hb hby at_223) rfl ((if0 _ _).trans (teq hc_0_141).1) (by decide) (by decide) k) ?_
          show OGo _ _ _ _ (T_0_139.setTop (mkF m 230 #[.val (.int va), .val (.int vb), .val (.int vc), .val (.int vd), .val (.int w_0_1), .val (.int w_0_2), .val (.int w_0_3), .val (.int w_0_4), .val (.int w_0_5), .val (.int w_0_6), .val (.int w_0_7), .val (.int w_0_8), .val (.int w_0_9), .val (.ref b_0_10), .val (.ref b_0_15), .val (.ref b_0_26), .val (.ref b_0_64), .val (.int w_0_137), .unset] []))
          refine ogo (fun _ k => XS.iconst X_0_139.here hx rfl (hb hby at_230) k) ?_
          show OGo _ _ _ _ (T_0_139.setTop (mkF m 231 #[.val (.int va), .val (.int vb), .val (.int vc), .val (.int vd), .val (.int w_0_1), .val (.int w_0_2), .val (.int w_0_3), .val (.int w_0_4), .val (.int w_0_5), .val (.int w_0_6), .val (.int w_0_7), .val (.int w_0_8), .val (.int w_0_9), .val (.ref b_0_10), .val (.ref b_0_15), .val (.ref b_0_26), .val (.ref b_0_64), .val (.int w_0_137), .unset] [(.int (0 : Int32))]))
          exact J_0_143 _ (if_pos hc_0_141).symm
        · refine ogo (fun _ k => XS.ifNo X_0_139.here hx rfl (hb hby at_223) rfl ((if0 _ _).trans (feq hc_0_141).1) k) ?_
          show OGo _ _ _ _ (T_0_139.setTop (mkF m 226 #[.val (.int va), .val (.int vb), .val (.int vc), .val (.int vd), .val (.int w_0_1), .val (.int w_0_2), .val (.int w_0_3), .val (.int w_0_4), .val (.int w_0_5), .val (.int w_0_6), .val (.int w_0_7), .val (.int w_0_8), .val (.int w_0_9), .val (.ref b_0_10), .val (.ref b_0_15), .val (.ref b_0_26), .val (.ref b_0_64), .val (.int w_0_137), .unset] []))
          refine ogo (fun _ k => XS.iconst X_0_139.here hx rfl (hb hby at_226) k) ?_
          show OGo _ _ _ _ (T_0_139.setTop (mkF m 227 #[.val (.int va), .val (.int vb), .val (.int vc), .val (.int vd), .val (.int w_0_1), .val (.int w_0_2), .val (.int w_0_3), .val (.int w_0_4), .val (.int w_0_5), .val (.int w_0_6), .val (.int w_0_7), .val (.int w_0_8), .val (.int w_0_9), .val (.ref b_0_10), .val (.ref b_0_15), .val (.ref b_0_26), .val (.ref b_0_64), .val (.int w_0_137), .unset] [(.int (1 : Int32))]))
          refine ogo (fun _ k => XS.goto X_0_139.here hx rfl (pc0 := 227) (pc' := 231) rfl (hb hby at_227) (by decide) (by decide) k) ?_
          show OGo _ _ _ _ (T_0_139.setTop (mkF m 231 #[.val (.int va), .val (.int vb), .val (.int vc), .val (.int vd), .val (.int w_0_1), .val (.int w_0_2), .val (.int w_0_3), .val (.int w_0_4), .val (.int w_0_5), .val (.int w_0_6), .val (.int w_0_7), .val (.int w_0_8), .val (.int w_0_9), .val (.ref b_0_10), .val (.ref b_0_15), .val (.ref b_0_26), .val (.ref b_0_64), .val (.int w_0_137), .unset] [(.int (1 : Int32))]))
          exact J_0_143 _ (if_neg hc_0_141).symm
      intro w_0_142 hw_0_142
      subst hw_0_142
      exact J_0_146 _ (if_neg hc_0_140).symm
  intro w_0_145 hw_0_145
  refine ogo (fun _ k => XS.istore X_0_139.here hx rfl (hb hby at_231) rfl (l' := #[.val (.int va), .val (.int vb), .val (.int vc), .val (.int vd), .val (.int w_0_1), .val (.int w_0_2), .val (.int w_0_3), .val (.int w_0_4), .val (.int w_0_5), .val (.int w_0_6), .val (.int w_0_7), .val (.int w_0_8), .val (.int w_0_9), .val (.ref b_0_10), .val (.ref b_0_15), .val (.ref b_0_26), .val (.ref b_0_64), .val (.int w_0_137), .val (.int w_0_145)]) rfl k) ?_
  show OGo _ _ _ _ (T_0_139.setTop (mkF m 233 #[.val (.int va), .val (.int vb), .val (.int vc), .val (.int vd), .val (.int w_0_1), .val (.int w_0_2), .val (.int w_0_3), .val (.int w_0_4), .val (.int w_0_5), .val (.int w_0_6), .val (.int w_0_7), .val (.int w_0_8), .val (.int w_0_9), .val (.ref b_0_10), .val (.ref b_0_15), .val (.ref b_0_26), .val (.ref b_0_64), .val (.int w_0_137), .val (.int w_0_145)] []))
  refine ogo (fun _ k => XS.aload X_0_139.here hx rfl (hb hby at_233) rfl rfl k) ?_
  show OGo _ _ _ _ (T_0_139.setTop (mkF m 235 #[.val (.int va), .val (.int vb), .val (.int vc), .val (.int vd), .val (.int w_0_1), .val (.int w_0_2), .val (.int w_0_3), .val (.int w_0_4), .val (.int w_0_5), .val (.int w_0_6), .val (.int w_0_7), .val (.int w_0_8), .val (.int w_0_9), .val (.ref b_0_10), .val (.ref b_0_15), .val (.ref b_0_26), .val (.ref b_0_64), .val (.int w_0_137), .val (.int w_0_145)] [(.ref b_0_26)]))
  refine ogo (fun _ k => XS.aload X_0_139.here hx rfl (hb hby at_235) rfl rfl k) ?_
  show OGo _ _ _ _ (T_0_139.setTop (mkF m 237 #[.val (.int va), .val (.int vb), .val (.int vc), .val (.int vd), .val (.int w_0_1), .val (.int w_0_2), .val (.int w_0_3), .val (.int w_0_4), .val (.int w_0_5), .val (.int w_0_6), .val (.int w_0_7), .val (.int w_0_8), .val (.int w_0_9), .val (.ref b_0_10), .val (.ref b_0_15), .val (.ref b_0_26), .val (.ref b_0_64), .val (.int w_0_137), .val (.int w_0_145)] [(.ref b_0_64), (.ref b_0_26)]))
  obtain ⟨T_0_148, X_0_148, e_0_148, st_0_148⟩ := ovirtP X_0_139 hx hZ e_0_139 (rm8 l Z a0 hw b_0_26 b_0_64 w_0_1 w_0_2 b_0_33 b_0_77 cb_0_42 cb_0_92 ((fun i : Nat => if i = (w_0_4).toNatClampNeg then w_0_7.toInt8.toInt32 else (fun i : Nat => if i = (w_0_3).toNatClampNeg then w_0_6.toInt8.toInt32 else (fun _ : Nat => (0 : Int32)) i) i)) ((fun i : Nat => if i = (w_0_5).toNatClampNeg then w_0_9.toInt8.toInt32 else (fun i : Nat => if i = (w_0_3).toNatClampNeg then w_0_8.toInt8.toInt32 else (fun _ : Nat => (0 : Int32)) i) i)) h_0_109 f_0_117 f_0_110 f_0_118 f_0_111 f_0_119 f_0_120 f_0_124 f_0_121 f_0_125) hown (hw _ (List.mem_of_getElem? (i := 49) rfl)) (hw _ (List.mem_of_getElem? (i := 50) rfl)) (hw _ (List.mem_of_getElem? (i := 52) rfl)) (hw _ (List.mem_of_getElem? (i := 51) rfl)) (hw _ (List.mem_of_getElem? (i := 4) rfl)) (hw _ (List.mem_of_getElem? (i := 53) rfl)) (by decide) f_0_116 (g := (mkF m 237 #[.val (.int va), .val (.int vb), .val (.int vc), .val (.int vd), .val (.int w_0_1), .val (.int w_0_2), .val (.int w_0_3), .val (.int w_0_4), .val (.int w_0_5), .val (.int w_0_6), .val (.int w_0_7), .val (.int w_0_8), .val (.int w_0_9), .val (.ref b_0_10), .val (.ref b_0_15), .val (.ref b_0_26), .val (.ref b_0_64), .val (.int w_0_137), .val (.int w_0_145)] [(.ref b_0_64), (.ref b_0_26)])) rfl (by rw [hml]; rfl) [(.ref b_0_64)] [] rfl (lenOf pd__Lcom_example_gol_gumbaz_golgumbaz_shh_Admission__Z rfl) rfl (hb hby at_237) 0 (by show 2 * 0 + _ ≤ _; exact Nat.le_of_eq rfl) (by decide) (by decide) (by decide) (by decide) rfl rfl
  refine ogo (fun _ k => st_0_148 _ k) ?_
  show OGo _ _ _ _ (T_0_148.setTop (mkF m 240 #[.val (.int va), .val (.int vb), .val (.int vc), .val (.int vd), .val (.int w_0_1), .val (.int w_0_2), .val (.int w_0_3), .val (.int w_0_4), .val (.int w_0_5), .val (.int w_0_6), .val (.int w_0_7), .val (.int w_0_8), .val (.int w_0_9), .val (.ref b_0_10), .val (.ref b_0_15), .val (.ref b_0_26), .val (.ref b_0_64), .val (.int w_0_137), .val (.int w_0_145)] [(.int (takesF w_0_1 w_0_2 (fun i : Nat => if i = (w_0_4).toNatClampNeg then w_0_7.toInt8.toInt32 else (fun i : Nat => if i = (w_0_3).toNatClampNeg then w_0_6.toInt8.toInt32 else (fun _ : Nat => (0 : Int32)) i) i) (fun i : Nat => if i = (w_0_5).toNatClampNeg then w_0_9.toInt8.toInt32 else (fun i : Nat => if i = (w_0_3).toNatClampNeg then w_0_8.toInt8.toInt32 else (fun _ : Nat => (0 : Int32)) i) i)))]))
  refine ogo (fun _ k => XS.iload X_0_148.here hx rfl (hb hby at_240) rfl k) ?_
  show OGo _ _ _ _ (T_0_148.setTop (mkF m 242 #[.val (.int va), .val (.int vb), .val (.int vc), .val (.int vd), .val (.int w_0_1), .val (.int w_0_2), .val (.int w_0_3), .val (.int w_0_4), .val (.int w_0_5), .val (.int w_0_6), .val (.int w_0_7), .val (.int w_0_8), .val (.int w_0_9), .val (.ref b_0_10), .val (.ref b_0_15), .val (.ref b_0_26), .val (.ref b_0_64), .val (.int w_0_137), .val (.int w_0_145)] [(.int w_0_145), (.int (takesF w_0_1 w_0_2 (fun i : Nat => if i = (w_0_4).toNatClampNeg then w_0_7.toInt8.toInt32 else (fun i : Nat => if i = (w_0_3).toNatClampNeg then w_0_6.toInt8.toInt32 else (fun _ : Nat => (0 : Int32)) i) i) (fun i : Nat => if i = (w_0_5).toNatClampNeg then w_0_9.toInt8.toInt32 else (fun i : Nat => if i = (w_0_3).toNatClampNeg then w_0_8.toInt8.toInt32 else (fun _ : Nat => (0 : Int32)) i) i)))]))
  suffices J_0_151 : ∀ (w_0_150 : Int32) (hw_0_150 : w_0_150 = (if (takesF w_0_1 w_0_2 (fun i : Nat => if i = (w_0_4).toNatClampNeg then w_0_7.toInt8.toInt32 else (fun i : Nat => if i = (w_0_3).toNatClampNeg then w_0_6.toInt8.toInt32 else (fun _ : Nat => (0 : Int32)) i) i) (fun i : Nat => if i = (w_0_5).toNatClampNeg then w_0_9.toInt8.toInt32 else (fun i : Nat => if i = (w_0_3).toNatClampNeg then w_0_8.toInt8.toInt32 else (fun _ : Nat => (0 : Int32)) i) i)) = w_0_145 then (1 : Int32) else (0 : Int32))), OGo p.tables e below (OFin s (fun v _ L => v = some (.int 1) ∧ Fr n0 L) 24 640) (T_0_148.setTop (mkF m 250 #[.val (.int va), .val (.int vb), .val (.int vc), .val (.int vd), .val (.int w_0_1), .val (.int w_0_2), .val (.int w_0_3), .val (.int w_0_4), .val (.int w_0_5), .val (.int w_0_6), .val (.int w_0_7), .val (.int w_0_8), .val (.int w_0_9), .val (.ref b_0_10), .val (.ref b_0_15), .val (.ref b_0_26), .val (.ref b_0_64), .val (.int w_0_137), .val (.int w_0_145)] [(.int w_0_150)])) by
    by_cases hc_0_149 : (takesF w_0_1 w_0_2 (fun i : Nat => if i = (w_0_4).toNatClampNeg then w_0_7.toInt8.toInt32 else (fun i : Nat => if i = (w_0_3).toNatClampNeg then w_0_6.toInt8.toInt32 else (fun _ : Nat => (0 : Int32)) i) i) (fun i : Nat => if i = (w_0_5).toNatClampNeg then w_0_9.toInt8.toInt32 else (fun i : Nat => if i = (w_0_3).toNatClampNeg then w_0_8.toInt8.toInt32 else (fun _ : Nat => (0 : Int32)) i) i)) = w_0_145
    · refine ogo (fun _ k => XS.icmpNo X_0_148.here hx rfl (hb hby at_242) rfl (teq hc_0_149).2 k) ?_
      show OGo _ _ _ _ (T_0_148.setTop (mkF m 245 #[.val (.int va), .val (.int vb), .val (.int vc), .val (.int vd), .val (.int w_0_1), .val (.int w_0_2), .val (.int w_0_3), .val (.int w_0_4), .val (.int w_0_5), .val (.int w_0_6), .val (.int w_0_7), .val (.int w_0_8), .val (.int w_0_9), .val (.ref b_0_10), .val (.ref b_0_15), .val (.ref b_0_26), .val (.ref b_0_64), .val (.int w_0_137), .val (.int w_0_145)] []))
      refine ogo (fun _ k => XS.iconst X_0_148.here hx rfl (hb hby at_245) k) ?_
      show OGo _ _ _ _ (T_0_148.setTop (mkF m 246 #[.val (.int va), .val (.int vb), .val (.int vc), .val (.int vd), .val (.int w_0_1), .val (.int w_0_2), .val (.int w_0_3), .val (.int w_0_4), .val (.int w_0_5), .val (.int w_0_6), .val (.int w_0_7), .val (.int w_0_8), .val (.int w_0_9), .val (.ref b_0_10), .val (.ref b_0_15), .val (.ref b_0_26), .val (.ref b_0_64), .val (.int w_0_137), .val (.int w_0_145)] [(.int (1 : Int32))]))
      refine ogo (fun _ k => XS.goto X_0_148.here hx rfl (pc0 := 246) (pc' := 250) rfl (hb hby at_246) (by decide) (by decide) k) ?_
      show OGo _ _ _ _ (T_0_148.setTop (mkF m 250 #[.val (.int va), .val (.int vb), .val (.int vc), .val (.int vd), .val (.int w_0_1), .val (.int w_0_2), .val (.int w_0_3), .val (.int w_0_4), .val (.int w_0_5), .val (.int w_0_6), .val (.int w_0_7), .val (.int w_0_8), .val (.int w_0_9), .val (.ref b_0_10), .val (.ref b_0_15), .val (.ref b_0_26), .val (.ref b_0_64), .val (.int w_0_137), .val (.int w_0_145)] [(.int (1 : Int32))]))
      exact J_0_151 _ (if_pos hc_0_149).symm
    · refine ogo (fun _ k => XS.icmpYes X_0_148.here hx rfl (pc0 := 242) (pc' := 249) rfl (hb hby at_242) rfl (feq hc_0_149).2 (by decide) (by decide) k) ?_
      show OGo _ _ _ _ (T_0_148.setTop (mkF m 249 #[.val (.int va), .val (.int vb), .val (.int vc), .val (.int vd), .val (.int w_0_1), .val (.int w_0_2), .val (.int w_0_3), .val (.int w_0_4), .val (.int w_0_5), .val (.int w_0_6), .val (.int w_0_7), .val (.int w_0_8), .val (.int w_0_9), .val (.ref b_0_10), .val (.ref b_0_15), .val (.ref b_0_26), .val (.ref b_0_64), .val (.int w_0_137), .val (.int w_0_145)] []))
      refine ogo (fun _ k => XS.iconst X_0_148.here hx rfl (hb hby at_249) k) ?_
      show OGo _ _ _ _ (T_0_148.setTop (mkF m 250 #[.val (.int va), .val (.int vb), .val (.int vc), .val (.int vd), .val (.int w_0_1), .val (.int w_0_2), .val (.int w_0_3), .val (.int w_0_4), .val (.int w_0_5), .val (.int w_0_6), .val (.int w_0_7), .val (.int w_0_8), .val (.int w_0_9), .val (.ref b_0_10), .val (.ref b_0_15), .val (.ref b_0_26), .val (.ref b_0_64), .val (.int w_0_137), .val (.int w_0_145)] [(.int (0 : Int32))]))
      exact J_0_151 _ (if_neg hc_0_149).symm
  intro w_0_150 hw_0_150
  have hz : w_0_150 = (1 : Int32) := plain0 va vb vc vd w_0_1 hw_0_1 w_0_2 hw_0_2 w_0_3 hw_0_3 w_0_4 hw_0_4 w_0_5 hw_0_5 w_0_6 hw_0_6 w_0_7 hw_0_7 w_0_8 hw_0_8 w_0_9 hw_0_9 w_0_137 hw_0_137 w_0_145 hw_0_145 w_0_150 hw_0_150
  rw [hz]
  exact oret X_0_148 hx hlk Bd.returns rfl (Or.inl ⟨rfl, Or.inr (Or.inl rfl), _, rfl⟩) (hb hby at_250) (by decide) (by decide) ⟨rfl, N_0_109⟩
set_option maxRecDepth 65536 in
set_option maxHeartbeats 40000000 in
theorem comes_1 {Post : Tables → Env → Array Value → State → Outcome → State → Prop} (hpost : ∀ tb e args s v u, (limb_1_1.after args s (.returned v) u = true ∧ limb_1_2.after args s (.returned v) u = true) → FrameEnd s (.returned v) u (Jvm.fieldLocs frame_1_writes args s ++ Jvm.arrayLocs frame_1_arrays args s ++ Jvm.staticLocs frame_1_statics s) 24 640 → Post tb e args s (.returned v) u) :
    ArmFor flags0 classFile x code maxLocals ret World_1 tables_1 room_1 Calls_1 rest_1 Pre_1 Post := by
  intro l hfl _ _ p e ha hc hk s m args below hf hA hF happ hP
  obtain ⟨hcalls, hrest, hpre⟩ := hP
  obtain ⟨-, -, -, hnamed, -, -, -, hat⟩ := (Spec.applies_iff hf).mp happ
  obtain ⟨hg, hn⟩ := and_e (Cond.before_iff.mp (show (Jvm.Cond.and given_1 narrow_1).before args s = true from hpre))
  obtain ⟨gc, g0⟩ := and_e hg
  obtain ⟨ga0, g1⟩ := and_e g0
  obtain ⟨ga1, g2⟩ := and_e g1
  obtain ⟨ga2, g3⟩ := and_e g2
  obtain ⟨w0, w1, w2, w3, rfl⟩ : ∃ w0 w1 w2 w3 : Value, args = #[w0, w1, w2, w3] := by
    have hs : args.size = 4 := by simpa [Cond.value, given_1] using gc
    obtain ⟨L⟩ := args
    match L, hs with
    | [w0, w1, w2, w3], _ => exact ⟨w0, w1, w2, w3, rfl⟩
  have hw := fun d (hd : d ∈ tables_1) => atoms_spec (ws := Jvm.Cond.code x code maxLocals ret :: tables_1) hat d (List.mem_cons_of_mem _ hd)
  obtain ⟨i0, ei0⟩ := is_v ga0
  obtain rfl : w0 = (.int i0) := Option.some.inj ei0
  obtain ⟨i1, ei1⟩ := is_v ga1
  obtain rfl : w1 = (.int i1) := Option.some.inj ei1
  obtain ⟨i2, ei2⟩ := is_v ga2
  obtain rfl : w2 = (.int i2) := Option.some.inj ei2
  obtain ⟨i3, ei3⟩ := is_v g3
  obtain rfl : w3 = (.int i3) := Option.some.inj ei3
  obtain ⟨n, o, h1, h2, h3, _, L, rfl, ⟨rfl, N⟩, hq⟩ := rm0 l s _ hw tables_1 i0 i1 i2 i3 s.heap s.heap.size (Nat.le_refl _)  p e ha hc hk s m _ below hf ((Spec.applies_iff_loose hf).mp happ).1 ⟨rfl, State.Warmed39.refl s, rfl⟩ trivial
  exact ⟨n, _, h1, h2, h3, hpost _ _ _ _ _ _ ⟨Cond.after_iff.mpr rfl, Cond.after_iff.mpr (eq_i res_at (Term.int_eval (1)) rfl)⟩ ⟨hq.1, hq.2.1, (hq.2.2.sift fun y hy => Or.inr (N y hy)).mono (by decide) (by decide)⟩⟩
theorem main_1_1 : Claimed_1_1 := comes_1 fun _ _ _ _ _ _ h hF => ⟨h.1, hF⟩
theorem main_1_2 : Claimed_1_2 := comes_1 fun _ _ _ _ _ _ h hF => ⟨h.2, hF⟩
end Jvm.Pilot.@@N@@
namespace Jvm.Pilot.@@N@@
open Jvm Jvm.ClassFile Sem Op Lib Jvm.Free Jvm.Stand Jvm.Pilot.@@N@@.Jvm.D
/-! MADE BY PROGRAM (witnessworld.py) out of the Statement's table words and the real class files: 16 classes; the members and pool entries that the words name. The judged class is class 1, her method 1. -/
namespace start1
open Jvm.ClassFile
def u (s : String) : CpInfo := .utf8 (stringToUtf16 s)
/-- a pool by its gaps: so many unusable entries, then the entry; so many at the end -/
def gap : Nat → List CpInfo → List CpInfo
  | 0, r => r
  | n + 1, r => .unusable :: gap n r
def poolList (es : List (Nat × CpInfo)) (last : Nat) : List CpInfo := es.foldr (fun e r => gap e.1 (e.2 :: r)) (gap last [])
def pool (es : List (Nat × CpInfo)) (last : Nat) : Array CpInfo := ⟨poolList es last⟩
def fileOf (pool : Array CpInfo) (this : Nat) (attrs : Array Attribute := #[]) (ms : Array MethodInfo := #[]) (fl : Nat := 33) (sup : Nat := 0) (ifs : Array Nat := #[]) (fds : Array FieldInfo := #[]) : ClassFile where
  minorVersion := 0
  majorVersion := 65
  constantPool := pool
  accessFlags := fl
  thisClass := this
  superClass := sup
  interfaces := ifs
  fields := fds
  methods := ms
  attributes := attrs
def plain (name : String) (sup : Option ClassId) : Class where
  name := name
  kind := .ordinary
  loader := none
  accessFlags := 33
  super := sup
  interfaces := #[]
  cf := none
  fields := #[]
  methods := #[]
  instanceTypes := #[]
  staticTypes := #[]
  resolved := #[]
  callSites := []
  init := .initialized
  statics := none
  mirror := none

def pool0 : Array CpInfo := pool [(5, u "<init>"), (0, u "()V"), (1, .class_ 10), (1, u "java/lang/Object"), (85, u "clone"), (0, u "()Ljava/lang/Object;")] 26

def k0c0 : Code := { maxStack := 0, maxLocals := 1, code := object_method_1_code, exceptionTable := #[], attributes := #[] }
def k0m0 : Method := { name := "<init>", desc := "()V", sig := { parameters := [], returnType := none }, accessFlags := 1, code := some k0c0 }
def k0m1 : Method := { name := "clone", desc := "()Ljava/lang/Object;", sig := { parameters := [], returnType := some (.object "java/lang/Object") }, accessFlags := 260, code := none }
/-- java/lang/Object -/
def k0 : Class := { plain "java/lang/Object" none with
  accessFlags := 33
  interfaces := #[]
  cf := some (fileOf pool0 8 #[] #[{ accessFlags := 1, nameIndex := 5, descriptorIndex := 6, attributes := #[] }, { accessFlags := 260, nameIndex := 96, descriptorIndex := 97, attributes := #[] }] 33 0 #[] #[])
  fields := #[]
  methods := #[k0m0, k0m1]
  instanceTypes := #[]
  staticTypes := #[]
  resolved := Array.replicate 124 none
  statics := none }

def pool1 : Array CpInfo := pool [(2, .class_ 4), (1, u "java/lang/Object"), (0, u "<init>"), (0, u "()V"), (0, .integer 2147483647), (0, .class_ 9), (0, u "com/example/gol_gumbaz/golgumbaz/shh/Admission"), (0, .class_ 11), (0, u "com/example/gol_gumbaz/golgumbaz/envelope/BloomFilter"), (0, .methodref 10 13), (0, .nameAndType 5 14), (0, u "([B)V"), (0, .methodref 8 16), (0, .nameAndType 5 17), (0, u "(DLcom/example/gol_gumbaz/golgumbaz/envelope/BloomFilter;)V"), (0, .methodref 19 20), (0, .class_ 21), (0, .nameAndType 22 23), (0, u "com/example/gol_gumbaz/golgumbaz/shh/AdmissionTakesAllPinLaw"), (0, u "at"), (0, u "(IIBIB)I"), (0, .methodref 19 25), (0, .nameAndType 26 27), (0, u "covers"), (0, u "(II)Z"), (0, .methodref 8 29), (0, .nameAndType 30 31), (0, u "takesAll"), (0, u "(Lcom/example/gol_gumbaz/golgumbaz/shh/Admission;)Z"), (2, u "law"), (0, u "(IIII)Z")] 5

def k1m0 : Method := { name := "<init>", desc := "()V", sig := { parameters := [], returnType := none }, accessFlags := 1, code := none }
def k1c1 : Code := { maxStack := 7, maxLocals := 19, code := code, exceptionTable := #[], attributes := #[] }
def k1m1 : Method := { name := "law", desc := "(IIII)Z", sig := { parameters := [.int, .int, .int, .int], returnType := some .boolean }, accessFlags := 9, code := some k1c1 }
def k1c2 : Code := { maxStack := 2, maxLocals := 5, code := method_3_code, exceptionTable := #[], attributes := #[] }
def k1m2 : Method := { name := "at", desc := "(IIBIB)I", sig := { parameters := [.int, .int, .byte, .int, .byte], returnType := some .int }, accessFlags := 10, code := some k1c2 }
def k1c3 : Code := { maxStack := 3, maxLocals := 2, code := method_4_code, exceptionTable := #[], attributes := #[] }
def k1m3 : Method := { name := "covers", desc := "(II)Z", sig := { parameters := [.int, .int], returnType := some .boolean }, accessFlags := 10, code := some k1c3 }
/-- com/example/gol_gumbaz/golgumbaz/shh/AdmissionTakesAllPinLaw -/
def k1 : Class := { plain "com/example/gol_gumbaz/golgumbaz/shh/AdmissionTakesAllPinLaw" (some 0) with
  accessFlags := 49
  interfaces := #[]
  cf := some (fileOf pool1 19 #[] #[{ accessFlags := 1, nameIndex := 5, descriptorIndex := 6, attributes := #[] }, { accessFlags := 9, nameIndex := 34, descriptorIndex := 35, attributes := #[] }, { accessFlags := 10, nameIndex := 22, descriptorIndex := 23, attributes := #[] }, { accessFlags := 10, nameIndex := 26, descriptorIndex := 27, attributes := #[] }] 49 2 #[] #[])
  fields := #[]
  methods := #[k1m0, k1m1, k1m2, k1m3]
  instanceTypes := #[]
  staticTypes := #[]
  resolved := Array.replicate 41 none
  statics := none }

def pool2 : Array CpInfo := pool [(1, .methodref 2 3), (0, .class_ 4), (0, .nameAndType 5 6), (0, u "java/lang/Object"), (0, u "<init>"), (0, u "()V"), (0, .methodref 8 9), (0, .class_ 10), (0, .nameAndType 11 12), (0, u "java/lang/Double"), (0, u "isFinite"), (0, u "(D)Z"), (17, .fieldref 31 32), (0, .class_ 33), (0, .nameAndType 34 35), (0, u "com/example/gol_gumbaz/golgumbaz/shh/Admission"), (0, u "minPow"), (0, u "D"), (0, .fieldref 31 37), (0, .nameAndType 38 39), (0, u "filter"), (0, u "Lcom/example/gol_gumbaz/golgumbaz/envelope/BloomFilter;"), (2, u "(DLcom/example/gol_gumbaz/golgumbaz/envelope/BloomFilter;)V"), (7, .class_ 52), (1, u "com/example/gol_gumbaz/golgumbaz/envelope/BloomFilter"), (2, .methodref 50 56), (0, .nameAndType 57 58), (0, u "hasAll"), (0, u "(Lcom/example/gol_gumbaz/golgumbaz/envelope/BloomFilter;)Z"), (15, u "takesAll"), (0, u "(Lcom/example/gol_gumbaz/golgumbaz/shh/Admission;)Z")] 4

def k2c0 : Code := { maxStack := 8, maxLocals := 4, code := prog_26_method_1_code, exceptionTable := #[], attributes := #[] }
def k2m0 : Method := { name := "<init>", desc := "(DLcom/example/gol_gumbaz/golgumbaz/envelope/BloomFilter;)V", sig := { parameters := [.double, (.object "com/example/gol_gumbaz/golgumbaz/envelope/BloomFilter")], returnType := none }, accessFlags := 0, code := some k2c0 }
def k2c1 : Code := { maxStack := 4, maxLocals := 2, code := prog_26_method_7_code, exceptionTable := #[], attributes := #[] }
def k2m1 : Method := { name := "takesAll", desc := "(Lcom/example/gol_gumbaz/golgumbaz/shh/Admission;)Z", sig := { parameters := [(.object "com/example/gol_gumbaz/golgumbaz/shh/Admission")], returnType := some .boolean }, accessFlags := 0, code := some k2c1 }
/-- com/example/gol_gumbaz/golgumbaz/shh/Admission -/
def k2 : Class := { plain "com/example/gol_gumbaz/golgumbaz/shh/Admission" (some 0) with
  accessFlags := 48
  interfaces := #[]
  cf := some (fileOf pool2 31 #[] #[{ accessFlags := 0, nameIndex := 5, descriptorIndex := 42, attributes := #[] }, { accessFlags := 0, nameIndex := 74, descriptorIndex := 75, attributes := #[] }] 48 2 #[] #[{ accessFlags := 18, nameIndex := 34, descriptorIndex := 35, attributes := #[] }, { accessFlags := 18, nameIndex := 38, descriptorIndex := 39, attributes := #[] }])
  fields := #[{ name := "minPow", type := .double, accessFlags := 18, slot := 0, constantValue := 0 }, { name := "filter", type := (.object "com/example/gol_gumbaz/golgumbaz/envelope/BloomFilter"), accessFlags := 18, slot := 1, constantValue := 0 }]
  methods := #[k2m0, k2m1]
  instanceTypes := #[.double, (.object "com/example/gol_gumbaz/golgumbaz/envelope/BloomFilter")]
  staticTypes := #[]
  resolved := Array.replicate 80 none
  statics := none }

def pool3 : Array CpInfo := pool [(1, .methodref 2 3), (0, .class_ 4), (0, .nameAndType 5 6), (0, u "java/lang/Object"), (0, u "<init>"), (0, u "()V"), (21, .methodref 29 30), (0, .class_ 31), (0, .nameAndType 32 33), (0, u "[B"), (0, u "clone"), (0, u "()Ljava/lang/Object;"), (0, .fieldref 35 36), (0, .class_ 37), (0, .nameAndType 38 31), (0, u "com/example/gol_gumbaz/golgumbaz/envelope/BloomFilter"), (0, u "bytes"), (8, u "([B)V"), (69, u "ALL_BITS"), (0, u "B"), (13, u "hasAll"), (0, u "(Lcom/example/gol_gumbaz/golgumbaz/envelope/BloomFilter;)Z")] 5

def k3c0 : Code := { maxStack := 7, maxLocals := 2, code := prog_6_method_1_code, exceptionTable := #[], attributes := #[] }
def k3m0 : Method := { name := "<init>", desc := "([B)V", sig := { parameters := [(.array .byte)], returnType := none }, accessFlags := 1, code := some k3c0 }
def k3c1 : Code := { maxStack := 3, maxLocals := 3, code := prog_6_method_8_code, exceptionTable := #[], attributes := #[] }
def k3m1 : Method := { name := "hasAll", desc := "(Lcom/example/gol_gumbaz/golgumbaz/envelope/BloomFilter;)Z", sig := { parameters := [(.object "com/example/gol_gumbaz/golgumbaz/envelope/BloomFilter")], returnType := some .boolean }, accessFlags := 1, code := some k3c1 }
/-- com/example/gol_gumbaz/golgumbaz/envelope/BloomFilter -/
def k3 : Class := { plain "com/example/gol_gumbaz/golgumbaz/envelope/BloomFilter" (some 0) with
  accessFlags := 49
  interfaces := #[]
  cf := some (fileOf pool3 35 #[] #[{ accessFlags := 1, nameIndex := 5, descriptorIndex := 47, attributes := #[] }, { accessFlags := 1, nameIndex := 132, descriptorIndex := 133, attributes := #[] }] 49 2 #[] #[{ accessFlags := 26, nameIndex := 117, descriptorIndex := 118, attributes := #[] }, { accessFlags := 18, nameIndex := 38, descriptorIndex := 31, attributes := #[] }])
  fields := #[{ name := "ALL_BITS", type := .byte, accessFlags := 26, slot := 0, constantValue := 0 }, { name := "bytes", type := (.array .byte), accessFlags := 18, slot := 0, constantValue := 0 }]
  methods := #[k3m0, k3m1]
  instanceTypes := #[(.array .byte)]
  staticTypes := #[.byte]
  resolved := Array.replicate 139 none
  statics := none }

def pool4 : Array CpInfo := pool [(1, .class_ 2), (0, u "java/lang/Cloneable"), (0, .class_ 4), (0, u "java/lang/Object")] 2

/-- java/lang/Cloneable -/
def k4 : Class := { plain "java/lang/Cloneable" (some 0) with
  accessFlags := 1537
  interfaces := #[]
  cf := some (fileOf pool4 1 #[] #[] 1537 3 #[] #[])
  fields := #[]
  methods := #[]
  instanceTypes := #[]
  staticTypes := #[]
  resolved := Array.replicate 7 none
  statics := none }

def pool5 : Array CpInfo := pool [(1, .class_ 2), (0, u "java/io/Serializable"), (0, .class_ 4), (0, u "java/lang/Object")] 2

/-- java/io/Serializable -/
def k5 : Class := { plain "java/io/Serializable" (some 0) with
  accessFlags := 1537
  interfaces := #[]
  cf := some (fileOf pool5 1 #[] #[] 1537 3 #[] #[])
  fields := #[]
  methods := #[]
  instanceTypes := #[]
  staticTypes := #[]
  resolved := Array.replicate 7 none
  statics := none }

def pool6 : Array CpInfo := pool [(2, .class_ 4), (1, u "java/lang/Object"), (0, u "<init>"), (0, u "()V"), (1, .class_ 10), (1, u "java/lang/Number"), (2, .class_ 14), (0, u "java/io/Serializable"), (0, u "serialVersionUID"), (0, u "J")] 20

def k6m0 : Method := { name := "<init>", desc := "()V", sig := { parameters := [], returnType := none }, accessFlags := 1, code := none }
/-- java/lang/Number -/
def k6 : Class := { plain "java/lang/Number" (some 0) with
  accessFlags := 1057
  interfaces := #[5]
  cf := some (fileOf pool6 8 #[] #[{ accessFlags := 1, nameIndex := 5, descriptorIndex := 6, attributes := #[] }] 1057 2 #[13] #[{ accessFlags := 26, nameIndex := 15, descriptorIndex := 16, attributes := #[] }])
  fields := #[{ name := "serialVersionUID", type := .long, accessFlags := 26, slot := 0, constantValue := 0 }]
  methods := #[k6m0]
  instanceTypes := #[]
  staticTypes := #[.long]
  resolved := Array.replicate 37 none
  statics := none }

def pool7 : Array CpInfo := pool [(1, .class_ 2), (0, u "java/lang/Comparable"), (0, .class_ 4), (0, u "java/lang/Object")] 7

/-- java/lang/Comparable -/
def k7 : Class := { plain "java/lang/Comparable" (some 0) with
  accessFlags := 1537
  interfaces := #[]
  cf := some (fileOf pool7 1 #[] #[] 1537 3 #[] #[])
  fields := #[]
  methods := #[]
  instanceTypes := #[]
  staticTypes := #[]
  resolved := Array.replicate 12 none
  statics := none }

def pool8 : Array CpInfo := pool [(1, .class_ 2), (0, u "java/lang/constant/Constable"), (0, .class_ 4), (0, u "java/lang/Object")] 6

/-- java/lang/constant/Constable -/
def k8 : Class := { plain "java/lang/constant/Constable" (some 0) with
  accessFlags := 1537
  interfaces := #[]
  cf := some (fileOf pool8 1 #[] #[] 1537 3 #[] #[])
  fields := #[]
  methods := #[]
  instanceTypes := #[]
  staticTypes := #[]
  resolved := Array.replicate 11 none
  statics := none }

def pool9 : Array CpInfo := pool [(1, .class_ 2), (0, u "java/lang/constant/ConstantDesc"), (0, .class_ 4), (0, u "java/lang/Object")] 32

/-- java/lang/constant/ConstantDesc -/
def k9 : Class := { plain "java/lang/constant/ConstantDesc" (some 0) with
  accessFlags := 1537
  interfaces := #[]
  cf := some (fileOf pool9 1 #[] #[] 1537 3 #[] #[])
  fields := #[]
  methods := #[]
  instanceTypes := #[]
  staticTypes := #[]
  resolved := Array.replicate 37 none
  statics := none }

def pool10 : Array CpInfo := pool [(1, .class_ 2), (0, u "java/lang/Double"), (10, u "isFinite"), (0, u "(D)Z"), (8, .class_ 25), (1, u "java/lang/Math"), (12, .methodref 23 39), (0, .nameAndType 40 41), (0, u "abs"), (0, u "(D)D"), (69, .double 9218868437227405311), (2, .class_ 116), (1, u "java/lang/Number"), (3, u "value"), (0, u "D"), (51, u "TYPE"), (0, u "Ljava/lang/Class;"), (0, .class_ 176), (0, u "java/lang/Comparable"), (0, .class_ 178), (0, u "java/lang/constant/Constable"), (0, .class_ 180), (0, u "java/lang/constant/ConstantDesc"), (0, u "POSITIVE_INFINITY"), (3, u "NEGATIVE_INFINITY"), (2, u "NaN"), (2, u "MAX_VALUE"), (0, u "MIN_NORMAL"), (0, u "MIN_VALUE"), (2, u "SIZE"), (0, u "I"), (1, u "PRECISION"), (1, u "MAX_EXPONENT"), (1, u "MIN_EXPONENT"), (1, u "BYTES"), (3, u "serialVersionUID"), (0, u "J")] 79

def k10c0 : Code := { maxStack := 4, maxLocals := 2, code := jdk_117_method_8_code, exceptionTable := #[], attributes := #[] }
def k10m0 : Method := { name := "isFinite", desc := "(D)Z", sig := { parameters := [.double], returnType := some .boolean }, accessFlags := 9, code := some k10c0 }
/-- java/lang/Double -/
def k10 : Class := { plain "java/lang/Double" (some 6) with
  accessFlags := 49
  interfaces := #[7, 8, 9]
  cf := some (fileOf pool10 1 #[] #[{ accessFlags := 9, nameIndex := 13, descriptorIndex := 14, attributes := #[] }] 49 114 #[175, 177, 179] #[{ accessFlags := 25, nameIndex := 181, descriptorIndex := 121, attributes := #[] }, { accessFlags := 25, nameIndex := 185, descriptorIndex := 121, attributes := #[] }, { accessFlags := 25, nameIndex := 188, descriptorIndex := 121, attributes := #[] }, { accessFlags := 25, nameIndex := 191, descriptorIndex := 121, attributes := #[] }, { accessFlags := 25, nameIndex := 192, descriptorIndex := 121, attributes := #[] }, { accessFlags := 25, nameIndex := 193, descriptorIndex := 121, attributes := #[] }, { accessFlags := 25, nameIndex := 196, descriptorIndex := 197, attributes := #[] }, { accessFlags := 25, nameIndex := 199, descriptorIndex := 197, attributes := #[] }, { accessFlags := 25, nameIndex := 201, descriptorIndex := 197, attributes := #[] }, { accessFlags := 25, nameIndex := 203, descriptorIndex := 197, attributes := #[] }, { accessFlags := 25, nameIndex := 205, descriptorIndex := 197, attributes := #[] }, { accessFlags := 25, nameIndex := 173, descriptorIndex := 174, attributes := #[] }, { accessFlags := 18, nameIndex := 120, descriptorIndex := 121, attributes := #[] }, { accessFlags := 26, nameIndex := 209, descriptorIndex := 210, attributes := #[] }])
  fields := #[{ name := "POSITIVE_INFINITY", type := .double, accessFlags := 25, slot := 0, constantValue := 0 }, { name := "NEGATIVE_INFINITY", type := .double, accessFlags := 25, slot := 1, constantValue := 0 }, { name := "NaN", type := .double, accessFlags := 25, slot := 2, constantValue := 0 }, { name := "MAX_VALUE", type := .double, accessFlags := 25, slot := 3, constantValue := 0 }, { name := "MIN_NORMAL", type := .double, accessFlags := 25, slot := 4, constantValue := 0 }, { name := "MIN_VALUE", type := .double, accessFlags := 25, slot := 5, constantValue := 0 }, { name := "SIZE", type := .int, accessFlags := 25, slot := 6, constantValue := 0 }, { name := "PRECISION", type := .int, accessFlags := 25, slot := 7, constantValue := 0 }, { name := "MAX_EXPONENT", type := .int, accessFlags := 25, slot := 8, constantValue := 0 }, { name := "MIN_EXPONENT", type := .int, accessFlags := 25, slot := 9, constantValue := 0 }, { name := "BYTES", type := .int, accessFlags := 25, slot := 10, constantValue := 0 }, { name := "TYPE", type := (.object "java/lang/Class"), accessFlags := 25, slot := 11, constantValue := 0 }, { name := "value", type := .double, accessFlags := 18, slot := 0, constantValue := 0 }, { name := "serialVersionUID", type := .long, accessFlags := 26, slot := 12, constantValue := 0 }]
  methods := #[k10m0]
  instanceTypes := #[.double]
  staticTypes := #[.double, .double, .double, .double, .double, .double, .int, .int, .int, .int, .int, (.object "java/lang/Class"), .long]
  resolved := Array.replicate 290 none
  statics := none }

def pool11 : Array CpInfo := pool [(1, .class_ 2), (0, u "java/lang/Math"), (1, .class_ 6), (1, u "java/lang/Object"), (0, u "<init>"), (0, u "()V"), (5, u "(D)D"), (83, .class_ 100), (1, u "java/lang/Math$RandomNumberGeneratorHolder"), (23, u "abs"), (47, u "negativeZeroFloatBits"), (0, u "J"), (2, u "negativeZeroDoubleBits"), (68, u "$assertionsDisabled"), (0, u "Z"), (91, u "twoToTheDoubleScaleDown"), (0, u "D"), (4, u "twoToTheDoubleScaleUp"), (9, u "E"), (3, u "PI"), (2, u "TAU"), (2, u "DEGREES_TO_RADIANS"), (0, u "RADIANS_TO_DEGREES")] 94

def k11m0 : Method := { name := "<init>", desc := "()V", sig := { parameters := [], returnType := none }, accessFlags := 2, code := none }
def k11c1 : Code := { maxStack := 4, maxLocals := 2, code := jdk_29_method_64_code, exceptionTable := #[], attributes := #[] }
def k11m1 : Method := { name := "abs", desc := "(D)D", sig := { parameters := [.double], returnType := some .double }, accessFlags := 9, code := some k11c1 }
/-- java/lang/Math -/
def k11 : Class := { plain "java/lang/Math" (some 0) with
  accessFlags := 49
  interfaces := #[]
  cf := some (fileOf pool11 1 #[.nestMembers #[98]] #[{ accessFlags := 2, nameIndex := 7, descriptorIndex := 8, attributes := #[] }, { accessFlags := 9, nameIndex := 124, descriptorIndex := 14, attributes := #[] }] 49 4 #[] #[{ accessFlags := 25, nameIndex := 354, descriptorIndex := 339, attributes := #[] }, { accessFlags := 25, nameIndex := 358, descriptorIndex := 339, attributes := #[] }, { accessFlags := 25, nameIndex := 361, descriptorIndex := 339, attributes := #[] }, { accessFlags := 26, nameIndex := 364, descriptorIndex := 339, attributes := #[] }, { accessFlags := 26, nameIndex := 365, descriptorIndex := 339, attributes := #[] }, { accessFlags := 26, nameIndex := 172, descriptorIndex := 173, attributes := #[] }, { accessFlags := 26, nameIndex := 176, descriptorIndex := 173, attributes := #[] }, { accessFlags := 8, nameIndex := 344, descriptorIndex := 339, attributes := #[] }, { accessFlags := 8, nameIndex := 338, descriptorIndex := 339, attributes := #[] }, { accessFlags := 4120, nameIndex := 245, descriptorIndex := 246, attributes := #[] }])
  fields := #[{ name := "E", type := .double, accessFlags := 25, slot := 0, constantValue := 0 }, { name := "PI", type := .double, accessFlags := 25, slot := 1, constantValue := 0 }, { name := "TAU", type := .double, accessFlags := 25, slot := 2, constantValue := 0 }, { name := "DEGREES_TO_RADIANS", type := .double, accessFlags := 26, slot := 3, constantValue := 0 }, { name := "RADIANS_TO_DEGREES", type := .double, accessFlags := 26, slot := 4, constantValue := 0 }, { name := "negativeZeroFloatBits", type := .long, accessFlags := 26, slot := 5, constantValue := 0 }, { name := "negativeZeroDoubleBits", type := .long, accessFlags := 26, slot := 6, constantValue := 0 }, { name := "twoToTheDoubleScaleUp", type := .double, accessFlags := 8, slot := 7, constantValue := 0 }, { name := "twoToTheDoubleScaleDown", type := .double, accessFlags := 8, slot := 8, constantValue := 0 }, { name := "$assertionsDisabled", type := .boolean, accessFlags := 4120, slot := 9, constantValue := 0 }]
  methods := #[k11m0, k11m1]
  instanceTypes := #[]
  staticTypes := #[.double, .double, .double, .double, .double, .long, .long, .double, .double, .boolean]
  resolved := Array.replicate 460 none
  statics := none }

/-- the primitive byte -/
def k12 : Class := { plain "byte" none with kind := .primitive 'B', accessFlags := 0x411 }
/-- [B -/
def k13 : Class := { plain "[B" (some 0) with kind := .array 12 .byte, interfaces := #[4, 5], accessFlags := 1041 }

/-- the primitive int -/
def k14 : Class := { plain "int" none with kind := .primitive 'I', accessFlags := 0x411 }
/-- [I -/
def k15 : Class := { plain "[I" (some 0) with kind := .array 14 .int, interfaces := #[4, 5], accessFlags := 1041 }

def heap : Heap := #[]
def classes : Array Class := #[k0, k1, k2, k3, k4, k5, k6, k7, k8, k9, k10, k11, k12, k13, k14, k15]
def interned : List (Array UInt16 × Addr) := []
def slotsUsed : Nat := 0
def theMethod : MethodId := ⟨1, 1⟩
def args0 : Array Value := #[.int 3, .int 4, .int 5, .int 6]
def aboutOver (below : List Frame) : State where
  vm := { classes := classes, interned := interned.toArray }
  heap := heap
  slotsUsed := slotsUsed
  threads := #[{ frames := .invoking theMethod args0 :: below }]
def below0 : List Frame := [.native { method := ⟨0, 0⟩, args := #[] }]
def about1 : State := aboutOver below0
def p0 : Program := .bare "" "" ""
def e0 : Env := launch0.env 0 0 0
theorem w_frames : about1.frames = Frame.invoking theMethod args0 :: below0 := rfl
set_option maxRecDepth 65536 in
theorem w_args : argsFit about1.vm theMethod args0 = true := by decide +kernel
set_option maxRecDepth 65536 in
theorem w_heap : heapFits about1 = true := by decide +kernel
set_option maxRecDepth 65536 in
theorem w_runnable : about1.curStatus? = some .runnable := by decide +kernel
set_option maxRecDepth 65536 in
theorem w_alone : about1.alone = true := by decide +kernel
set_option maxRecDepth 65536 in
theorem w_named : about1.methodNamed? x = some theMethod := by decide +kernel
set_option maxRecDepth 65536 in
theorem w_hears : about1.hears theMethod below0 = true := by decide +kernel
set_option maxRecDepth 65536 in
theorem w_ripe : about1.ripe theMethod args0 below0 = true := by decide +kernel
theorem w_running : about1.status = .running := rfl
set_option maxRecDepth 65536 in
theorem w_room : about1.hasRoom e0.platform room_1 = true :=
  launch0.hasRoom_least _ room_1 (by decide +kernel) (by decide +kernel) (by decide +kernel) (by decide +kernel) (by decide +kernel) (by decide +kernel)
theorem allAtoms_all (ts : List Jvm.Cond) (a : Array Jvm.Value) (st : Jvm.State) : (allAtoms ts).before a st = ts.all (fun c => c.before a st) := by
  induction ts with
  | nil => rfl
  | cons c t ih =>
    show (Jvm.Cond.and c (allAtoms t)).before a st = _
    rw [Jvm.Cond.before_and, ih, List.all_cons]
def words1 : List Jvm.Cond := Jvm.Cond.code x code maxLocals ret :: tables_1
/-- a 'code' word, met by the world's own term for the bytes: nothing is compared byte by byte -/
theorem code_word {y : MethodName} {bytes : ByteArray} {mx : Nat} {rt : Option FieldType} {a : Array Value} {s : State} {m : MethodId} {meth : Method} {c : Code} (h1 : s.methodNamed? y = some m) (h2 : s.vm.method? m = some meth) (h3 : meth.code = some c) (h4 : c.code = bytes)
    (h5 : (c.maxLocals == mx && c.exceptionTable.isEmpty && decide (c.maxStack ≤ mostOperands) && decide (meth.sig.returnType = rt) && !meth.locks && decide (parseMethodDescriptor y.desc = some meth.sig)) = true) : (Jvm.Cond.code y bytes mx rt).before a s = true := by
  simp only [Bool.and_eq_true, beq_iff_eq, Bool.not_eq_true', decide_eq_true_eq] at h5
  obtain ⟨⟨⟨⟨⟨g1, g2⟩, g3⟩, g4⟩, g5⟩, g6⟩ := h5
  simp [Cond.before, Cond.holds, Cond.value, h1, h2, h3, h4, g1, g2, g3, g4, g5, g6]
def isCode : Jvm.Cond → Bool
  | .code _ _ _ _ => true
  | _ => false
theorem all_split {L : List Jvm.Cond} {P : Jvm.Cond → Bool} (h1 : L.all (fun c => isCode c || P c) = true) (h2 : ∀ c ∈ L.filter isCode, P c = true) : L.all P = true := by
  refine List.all_eq_true.mpr fun c hc => ?_
  have h := List.all_eq_true.mp h1 c hc
  rcases Bool.eq_false_or_eq_true (isCode c) with hi | hi
  · exact h2 c (List.mem_filter.mpr ⟨hc, hi⟩)
  · simpa [hi] using h
set_option maxRecDepth 65536 in
theorem w_c0 : (Jvm.Cond.code x code maxLocals ret).before args0 about1 = true := code_word (m := ⟨1, 1⟩) (meth := k1m1) (c := k1c1) (by decide +kernel) rfl rfl rfl (by decide +kernel)
set_option maxRecDepth 65536 in
theorem w_c1 : (Jvm.Cond.code ({ cls := "com/example/gol_gumbaz/golgumbaz/envelope/BloomFilter", name := "<init>", desc := "([B)V" } : Jvm.MethodName) prog_6_method_1_code (2 : Nat) (Option.none : Option Jvm.ClassFile.FieldType)).before args0 about1 = true := code_word (m := ⟨3, 0⟩) (meth := k3m0) (c := k3c0) (by decide +kernel) rfl rfl rfl (by decide +kernel)
set_option maxRecDepth 65536 in
theorem w_c2 : (Jvm.Cond.code ({ cls := "java/lang/Object", name := "<init>", desc := "()V" } : Jvm.MethodName) object_method_1_code (1 : Nat) (Option.none : Option Jvm.ClassFile.FieldType)).before args0 about1 = true := code_word (m := ⟨0, 0⟩) (meth := k0m0) (c := k0c0) (by decide +kernel) rfl rfl rfl (by decide +kernel)
set_option maxRecDepth 65536 in
theorem w_c3 : (Jvm.Cond.code ({ cls := "com/example/gol_gumbaz/golgumbaz/shh/Admission", name := "<init>", desc := "(DLcom/example/gol_gumbaz/golgumbaz/envelope/BloomFilter;)V" } : Jvm.MethodName) prog_26_method_1_code (4 : Nat) (Option.none : Option Jvm.ClassFile.FieldType)).before args0 about1 = true := code_word (m := ⟨2, 0⟩) (meth := k2m0) (c := k2c0) (by decide +kernel) rfl rfl rfl (by decide +kernel)
set_option maxRecDepth 65536 in
theorem w_c4 : (Jvm.Cond.code ({ cls := "java/lang/Double", name := "isFinite", desc := "(D)Z" } : Jvm.MethodName) jdk_117_method_8_code (2 : Nat) (Option.some Jvm.ClassFile.FieldType.boolean)).before args0 about1 = true := code_word (m := ⟨10, 0⟩) (meth := k10m0) (c := k10c0) (by decide +kernel) rfl rfl rfl (by decide +kernel)
set_option maxRecDepth 65536 in
theorem w_c5 : (Jvm.Cond.code ({ cls := "java/lang/Math", name := "abs", desc := "(D)D" } : Jvm.MethodName) jdk_29_method_64_code (2 : Nat) (Option.some Jvm.ClassFile.FieldType.double)).before args0 about1 = true := code_word (m := ⟨11, 1⟩) (meth := k11m1) (c := k11c1) (by decide +kernel) rfl rfl rfl (by decide +kernel)
set_option maxRecDepth 65536 in
theorem w_c6 : (Jvm.Cond.code ({ cls := "com/example/gol_gumbaz/golgumbaz/shh/AdmissionTakesAllPinLaw", name := "at", desc := "(IIBIB)I" } : Jvm.MethodName) method_3_code (5 : Nat) (Option.some Jvm.ClassFile.FieldType.int)).before args0 about1 = true := code_word (m := ⟨1, 2⟩) (meth := k1m2) (c := k1c2) (by decide +kernel) rfl rfl rfl (by decide +kernel)
set_option maxRecDepth 65536 in
theorem w_c7 : (Jvm.Cond.code ({ cls := "com/example/gol_gumbaz/golgumbaz/shh/AdmissionTakesAllPinLaw", name := "covers", desc := "(II)Z" } : Jvm.MethodName) method_4_code (2 : Nat) (Option.some Jvm.ClassFile.FieldType.boolean)).before args0 about1 = true := code_word (m := ⟨1, 3⟩) (meth := k1m3) (c := k1c3) (by decide +kernel) rfl rfl rfl (by decide +kernel)
set_option maxRecDepth 65536 in
theorem w_c8 : (Jvm.Cond.code ({ cls := "com/example/gol_gumbaz/golgumbaz/shh/Admission", name := "takesAll", desc := "(Lcom/example/gol_gumbaz/golgumbaz/shh/Admission;)Z" } : Jvm.MethodName) prog_26_method_7_code (2 : Nat) (Option.some Jvm.ClassFile.FieldType.boolean)).before args0 about1 = true := code_word (m := ⟨2, 1⟩) (meth := k2m1) (c := k2c1) (by decide +kernel) rfl rfl rfl (by decide +kernel)
set_option maxRecDepth 65536 in
theorem w_c9 : (Jvm.Cond.code ({ cls := "com/example/gol_gumbaz/golgumbaz/envelope/BloomFilter", name := "hasAll", desc := "(Lcom/example/gol_gumbaz/golgumbaz/envelope/BloomFilter;)Z" } : Jvm.MethodName) prog_6_method_8_code (3 : Nat) (Option.some Jvm.ClassFile.FieldType.boolean)).before args0 about1 = true := code_word (m := ⟨3, 1⟩) (meth := k3m1) (c := k3c1) (by decide +kernel) rfl rfl rfl (by decide +kernel)
def codes1 : List Jvm.Cond := [Jvm.Cond.code x code maxLocals ret, Jvm.Cond.code ({ cls := "com/example/gol_gumbaz/golgumbaz/envelope/BloomFilter", name := "<init>", desc := "([B)V" } : Jvm.MethodName) prog_6_method_1_code (2 : Nat) (Option.none : Option Jvm.ClassFile.FieldType), Jvm.Cond.code ({ cls := "java/lang/Object", name := "<init>", desc := "()V" } : Jvm.MethodName) object_method_1_code (1 : Nat) (Option.none : Option Jvm.ClassFile.FieldType), Jvm.Cond.code ({ cls := "com/example/gol_gumbaz/golgumbaz/shh/Admission", name := "<init>", desc := "(DLcom/example/gol_gumbaz/golgumbaz/envelope/BloomFilter;)V" } : Jvm.MethodName) prog_26_method_1_code (4 : Nat) (Option.none : Option Jvm.ClassFile.FieldType), Jvm.Cond.code ({ cls := "java/lang/Double", name := "isFinite", desc := "(D)Z" } : Jvm.MethodName) jdk_117_method_8_code (2 : Nat) (Option.some Jvm.ClassFile.FieldType.boolean), Jvm.Cond.code ({ cls := "java/lang/Math", name := "abs", desc := "(D)D" } : Jvm.MethodName) jdk_29_method_64_code (2 : Nat) (Option.some Jvm.ClassFile.FieldType.double), Jvm.Cond.code ({ cls := "com/example/gol_gumbaz/golgumbaz/shh/AdmissionTakesAllPinLaw", name := "at", desc := "(IIBIB)I" } : Jvm.MethodName) method_3_code (5 : Nat) (Option.some Jvm.ClassFile.FieldType.int), Jvm.Cond.code ({ cls := "com/example/gol_gumbaz/golgumbaz/shh/AdmissionTakesAllPinLaw", name := "covers", desc := "(II)Z" } : Jvm.MethodName) method_4_code (2 : Nat) (Option.some Jvm.ClassFile.FieldType.boolean), Jvm.Cond.code ({ cls := "com/example/gol_gumbaz/golgumbaz/shh/Admission", name := "takesAll", desc := "(Lcom/example/gol_gumbaz/golgumbaz/shh/Admission;)Z" } : Jvm.MethodName) prog_26_method_7_code (2 : Nat) (Option.some Jvm.ClassFile.FieldType.boolean), Jvm.Cond.code ({ cls := "com/example/gol_gumbaz/golgumbaz/envelope/BloomFilter", name := "hasAll", desc := "(Lcom/example/gol_gumbaz/golgumbaz/envelope/BloomFilter;)Z" } : Jvm.MethodName) prog_6_method_8_code (3 : Nat) (Option.some Jvm.ClassFile.FieldType.boolean)]
set_option maxRecDepth 65536 in
theorem codes_eq : words1.filter isCode = codes1 := rfl
theorem w_codes : ∀ c ∈ words1.filter isCode, c.before args0 about1 = true := by
  rw [codes_eq]
  intro c hc
  simp only [codes1, List.mem_cons, List.not_mem_nil, or_false] at hc
  rcases hc with rfl | rfl | rfl | rfl | rfl | rfl | rfl | rfl | rfl | rfl
  · exact w_c0
  · exact w_c1
  · exact w_c2
  · exact w_c3
  · exact w_c4
  · exact w_c5
  · exact w_c6
  · exact w_c7
  · exact w_c8
  · exact w_c9
set_option maxRecDepth 65536 in
theorem w_t1 : (words1.take 24).all (fun c => isCode c || c.before args0 about1) = true := by decide +kernel
set_option maxRecDepth 65536 in
theorem w_t2 : ((words1.drop 24).take 24).all (fun c => isCode c || c.before args0 about1) = true := by decide +kernel
set_option maxRecDepth 65536 in
theorem w_t3 : ((words1.drop 24).drop 24).all (fun c => isCode c || c.before args0 about1) = true := by decide +kernel
theorem w_tables : (allAtoms (Jvm.Cond.code x code maxLocals ret :: tables_1)).before args0 about1 = true := by
  rw [allAtoms_all]
  show words1.all (fun c => c.before args0 about1) = true
  refine all_split ?_ w_codes
  rw [← List.take_append_drop 24 words1, List.all_append, w_t1, ← List.take_append_drop 24 (words1.drop 24), List.all_append, w_t2, w_t3]
  rfl
set_option maxRecDepth 65536 in
theorem w_case : (Jvm.Cond.and given_1 narrow_1).before args0 about1 = true := by decide +kernel
theorem w_applies : (headSpec (Jvm.Cond.code x code maxLocals ret :: tables_1) room_1).applies x e0.platform about1 = true :=
  (Spec.applies_iff w_frames).mpr ⟨w_running, w_runnable, w_alone, w_named, w_hears, w_ripe, w_room, w_tables⟩
theorem atStart : AtStart classFile x code maxLocals ret World_1 tables_1 room_1 Calls_1 rest_1 Pre_1 launch0 p0 e0 about1 theMethod args0 below0 :=
  ⟨lists_1, trivial, launch0.admits_env _ _ _, launch0.least_env, fairChoices_fair.cas, fairChoices_fair.clock, w_frames, w_args, w_heap, w_applies, trivial, trivial, w_case⟩
end start1
theorem witness_1 : WitnessClaimed_1 := ⟨start1.p0, start1.e0, start1.about1, start1.theMethod, start1.args0, start1.below0, start1.atStart⟩
end Jvm.Pilot.@@N@@
