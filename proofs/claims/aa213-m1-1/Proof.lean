import JvmDerived
import JvmDerived.Pilot.@@N@@Statement
import JvmDerived.Pilot.@@N@@Code
set_option linter.unusedVariables false
set_option linter.unusedSimpArgs false
@@BLOCK:HandJ.lean.txt@@
@@BLOCK:SymMore.lean.txt@@
namespace Jvm.OwnGo
open Jvm Jvm.ClassFile Sem Op Lib Jvm.Free Jvm.Stand Jvm.LawKit Jvm.RoadKit
section Own
variable {p : Program} {l : Launch} {e : Env} {R : Room} {s : State} {m : MethodId} {args : Array Value} {below : List Frame} {meth : Method} {c : Code} {T T' : State} {locs : List Loc} {cells slots : Nat} {Z : State} {a0 : Array Value} {h : Heap} {g g' : JFrame} {P : Outcome → State → Prop}
/-- the run goes on from T with the frame g on top and comes to an end at which P holds -/
def Go (p : Program) (e : Env) (below : List Frame) (P : Outcome → State → Prop) (T : State) (g : JFrame) : Prop := ∃ t o, Steps p.tables e below (T.setTop g) t ∧ t.status = .running ∧ Ended t below o ∧ P o t
theorem Go.of (g' : JFrame) (st : ∀ t, Steps p.tables e below (T'.setTop g') t → Steps p.tables e below (T.setTop g) t) (k : Go p e below P T' g') : Go p e below P T g := by
  obtain ⟨t, o, h1, h2⟩ := k; exact ⟨t, o, st t h1, h2⟩
theorem Go.via (g' : JFrame) (st : Steps p.tables e below (T.setTop g) (T'.setTop g')) (k : Go p e below P T' g') : Go p e below P T g := by
  obtain ⟨t, o, h1, h2⟩ := k; exact ⟨t, o, st.trans h1, h2⟩
theorem Go.cast (q : g = g') (k : Go p e below P T g') : Go p e below P T g := q ▸ k
abbrev EndP (s : State) (rm : Room) (Q : Option Value → Heap → List Loc → Prop) : Outcome → State → Prop := fun o U' => ∃ v L, o = .returned v ∧ Q v U'.heap L ∧ FrameEnd s o U' L rm.cells rm.slots
def Met (l : Launch) (Z : State) (y : MethodName) (bytes : ByteArray) (maxL : Nat) (ret : Option FieldType) (ws : List Cond) (rm : Room) (as' : Array Value) (h0 : Heap) (Q : Option Value → Heap → List Loc → Prop) : Prop :=
  MetFree l y (head1 (Cond.code y bytes maxL ret :: ws) rm) (fun a U => a = as' ∧ Z.Warmed39 U.vm ∧ U.heap = h0) (fun _ _ _ _ _ => True) (fun _ U o U' => ∃ v L, o = .returned v ∧ Q v U'.heap L ∧ FrameEnd U o U' L rm.cells rm.slots)
variable {y : MethodName} {bytes : ByteArray} {maxL : Nat} {ret : Option FieldType} {ws : List Cond} {rm : Room} {as' : Array Value} {h0 : Heap} {Q : Option Value → Heap → List Loc → Prop}
theorem Met.intro (hpl : plainFor y = true)
    (body : ∀ p e s m below meth c s₁, Stand p l e rm s m as' below meth c s₁ [] 0 0 → p.tables.exec = Jvm.exec → Z.Warmed39 s.vm → s.vm.findClass y.cls = some m.cls → c.code = bytes → c.maxLocals = maxL →
      meth.sig.returnType = ret → meth.locks = false → meth.name = y.name → s₁.heap = h0 → Go p e below (EndP s rm Q) s₁ (entryFrame m as' maxL)) : Met l Z y bytes maxL ret ws rm as' h0 Q := by
  refine MetFree.of_bodySF hpl hisR ?_
  intro p e s m args below meth c s₁ Bd hml0 hP hK
  obtain ⟨rfl, hZ, hh⟩ := hP
  exact body p e s m below meth c s₁ (Stand.of_body Bd) Bd.exec hZ (findClass_of_methodNamed Bd.named) Bd.bytes hml0 Bd.returns Bd.notSynchronized (name_of_methodNamed Bd.named Bd.method).1 (by rw [← hh, Bd.state]; rfl)
theorem Met.mono {Q' : Option Value → Heap → List Loc → Prop} (h : Met l Z y bytes maxL ret ws rm as' h0 Q) (q : ∀ v h L, Q v h L → Q' v h L) : Met l Z y bytes maxL ret ws rm as' h0 Q' := by
  intro p e ha hc hk s m args below hf happ hP hK
  obtain ⟨n, o, h1, h2, h3, v, L, h4, h5, h6⟩ := h p e ha hc hk s m args below hf happ hP hK
  exact ⟨n, o, h1, h2, h3, v, L, h4, q _ _ _ h5, h6⟩
theorem Go.fin (X : Stand p l e R s m args below meth c T locs cells slots) {v : Option Value} (hv : meth.sig.returnType = none → v = none) (hlk : meth.locks = false) (hc : cells ≤ rm.cells) (hs : slots ≤ rm.slots)
    (st : ∀ fs, (∀ (f : JFrame) (acts : List Action), f.method = m → f.locked = none → f.entered = [] → (doReturn e (T.setTop f) acts v).1 = T.setFrames fs) → Steps p.tables e below (T.setTop g) (T.setFrames fs)) (hQ : Q v T.heap locs) : Go p e below (EndP s rm Q) T g := by
  obtain ⟨fs, hr, hrun, hended, hW, hsame⟩ := X.leave (v := v) hv hlk
  exact ⟨_, _, st fs hr, hrun, hended, v, locs, rfl, hQ, ⟨v, rfl⟩, hW, hsame.mono hc hs⟩
/-- a value is returned -/
theorem Go.retW (X : Stand p l e R s m args below meth c T locs cells slots) (hx : p.tables.exec = Jvm.exec) {pc : Nat} {Ls : Array Slot} {w : Value} {t : FieldType} {i : Instr} {rest : List Value} (hret : meth.sig.returnType = some t) (hlk : meth.locks = false) (hn : narrow t w = w)
    (hi : (i = .ireturn ∧ (t = .int ∨ t = .boolean ∨ t = .byte ∨ t = .char ∨ t = .short) ∧ ∃ z, w = .int z) ∨ (i = .lreturn ∧ t = .long ∧ ∃ z, w = .long z) ∨ (i = .dreturn ∧ t = .double ∧ ∃ z, w = .double z) ∨ (i = .freturn ∧ t = .float ∧ ∃ z, w = .float z) ∨ (i = .areturn ∧ t.isReference = true ∧ w.isRef = true))
    (hd : decode c.code pc = .ok (i, 1)) (hc : cells ≤ rm.cells) (hs : slots ≤ rm.slots) (hQ : Q (some w) T.heap locs) : Go p e below (EndP s rm Q) T (mkF m pc Ls (w :: rest)) :=
  Go.fin X (fun q => by rw [hret] at q; cases q) hlk hc hs (fun fs hr => retOut X hx hret hn hi hd hr) hQ
/-- nothing is returned -/
theorem Go.retV (X : Stand p l e R s m args below meth c T locs cells slots) (hx : p.tables.exec = Jvm.exec) {pc : Nat} {Ls : Array Slot} (hret : meth.sig.returnType = none) (hlk : meth.locks = false)
    (hd : decode c.code pc = .ok (.return_, 1)) (hc : cells ≤ rm.cells) (hs : slots ≤ rm.slots) (hQ : Q none T.heap locs) : Go p e below (EndP s rm Q) T (mkF m pc Ls []) :=
  Go.fin X (fun _ => rfl) hlk hc hs (fun fs hr => X.returnOut hx hret hd hr) hQ
theorem ri_int {z : Int32} {t : FieldType} (ht : t = .int ∨ t = .boolean ∨ t = .byte ∨ t = .char ∨ t = .short) : ((.ireturn : Instr) = .ireturn ∧ (t = .int ∨ t = .boolean ∨ t = .byte ∨ t = .char ∨ t = .short) ∧ ∃ z', (Value.int z) = .int z') ∨ ((.ireturn : Instr) = .lreturn ∧ t = .long ∧ ∃ z', (Value.int z) = .long z') ∨ ((.ireturn : Instr) = .dreturn ∧ t = .double ∧ ∃ z', (Value.int z) = .double z') ∨ ((.ireturn : Instr) = .freturn ∧ t = .float ∧ ∃ z', (Value.int z) = .float z') ∨ ((.ireturn : Instr) = .areturn ∧ t.isReference = true ∧ (Value.int z).isRef = true) := Or.inl ⟨rfl, ht, z, rfl⟩
/-- a static call, by the callee's contract -/
theorem Go.callS (X : Stand p l e R s m args below meth c T locs cells slots) (hx : p.tables.exec = Jvm.exec) (hZ : Z.Warmed39 s.vm) {own : String} {index W : Nat} {argsL rest : List Value} (hown : s.vm.findClass own = some m.cls)
    (w1 : (Cond.methodLink own index y).before a0 Z = true) (w2 : (Cond.static y).before a0 Z = true) (w3 : (Cond.initialized y.cls).before a0 Z = true) (w4 : (Cond.code y bytes maxL ret).before a0 Z = true)
    (hy : y.cls ≠ "java/lang/invoke/MethodHandle" ∧ y.cls ≠ "java/lang/invoke/VarHandle") (eT : T.heap = h) (hM : Met l Z y bytes maxL ret [] rm argsL.toArray h Q)
    (hg : g.method = m) (hsize : g.locals.size = c.maxLocals) (hlen : ∀ sig, parseMethodDescriptor y.desc = some sig → argsL.length = sig.parameters.length) (hs : g.stack = argsL.reverse ++ rest)
    (hW : 2 * g.monitorRoom + (rest.map fun v => v.category).sum ≤ W) (hd : decode c.code g.pc = .ok (.invokestatic index, 3)) (hf : rm.frames + 1 ≤ R.frames) (hl : W + (maxL + 11) + rm.locals ≤ R.locals) (hc : cells + rm.cells ≤ R.cells) (hsl : slots + rm.slots ≤ R.slots)
    (k : ∀ T' L v, Stand p l e R s m args below meth c T' (locs ++ L) (cells + rm.cells) (slots + rm.slots) → Q v T'.heap L → Go p e below P T' { g with pc := g.pc + 3, stack := v.toList ++ rest }) : Go p e below P T g := by
  obtain ⟨v, _, ⟨U, L, q1, q2⟩, -, X', ⟨Lc, hQ, l1, l2, l3⟩, st⟩ := Jvm.LawKit.callS X hx (y := y) hown (mvT hZ w1) (mvT hZ w2) (mvT hZ w3) (mvT hZ w4) hy (backOf (W := W) hM hZ w4 w3 hf hl) hg hsize hlen hs hW hd (fun _ _ => ⟨rfl, eT, hc, hsl⟩)
  dsimp only [Pt.U, Pt.locs, Pt.cells, Pt.slots] at X' l1 l2 l3 st hQ
  subst l1 l2 l3
  exact Go.of _ st (k _ _ _ X' hQ)
/-- a constructor, by its contract -/
theorem Go.init (X : Stand p l e R s m args below meth c T locs cells slots) (hx : p.tables.exec = Jvm.exec) (hZ : Z.Warmed39 s.vm) {own : String} {index W : Nat} {a : Addr} {argsL rest : List Value} (hown : s.vm.findClass own = some m.cls) (hy1 : y.name = "<init>")
    (w1 : (Cond.methodLink own index y).before a0 Z = true) (w2 : (Cond.instanceMethod y).before a0 Z = true) (w3 : (Cond.initialized y.cls).before a0 Z = true) (w4 : (Cond.code y bytes maxL none).before a0 Z = true)
    (hy : y.cls ≠ "java/lang/invoke/MethodHandle" ∧ y.cls ≠ "java/lang/invoke/VarHandle") (eT : T.heap = h) (hM : Met l Z y bytes maxL none [] rm (.ref a :: argsL).toArray h Q)
    (hg : g.method = m) (hsize : g.locals.size = c.maxLocals) (hlen : ∀ sig, parseMethodDescriptor y.desc = some sig → argsL.length = sig.parameters.length) (hs : g.stack = argsL.reverse ++ .ref a :: rest)
    (hW : 2 * g.monitorRoom + (rest.map fun v => v.category).sum ≤ W) (hd : decode c.code g.pc = .ok (.invokespecial index, 3)) (hf : rm.frames + 1 ≤ R.frames) (hl : W + (maxL + 11) + rm.locals ≤ R.locals) (hc : cells + rm.cells ≤ R.cells) (hsl : slots + rm.slots ≤ R.slots)
    (k : ∀ T' L v, Stand p l e R s m args below meth c T' (locs ++ L) (cells + rm.cells) (slots + rm.slots) → Q v T'.heap L → Go p e below P T' { g with pc := g.pc + 3, stack := v.toList ++ rest }) : Go p e below P T g := by
  obtain ⟨v, _, ⟨U, L, q1, q2⟩, -, X', ⟨Lc, hQ, l1, l2, l3⟩, st⟩ := X.specialBack hx (y := y) hy1 hown (mvT hZ w1) (mvT hZ w2) (mvT hZ w4) hy (backOf (W := W) hM hZ w4 w3 hf hl) hg hsize (Steps.refl _) hlen hs hW hd (fun _ _ => ⟨rfl, eT, hc, hsl⟩)
  dsimp only [Pt.U, Pt.locs, Pt.cells, Pt.slots] at X' l1 l2 l3 st hQ
  subst l1 l2 l3
  exact Go.via _ st (k _ _ _ X' hQ)
/-- an instance method, by the contract of the method that the receiver's class selects -/
theorem Go.virt (X : Stand p l e R s m args below meth c T locs cells slots) (hx : p.tables.exec = Jvm.exec) (hZ : Z.Warmed39 s.vm) {own C : String} {z : MethodName} {index W : Nat} {a : Addr} {argsL rest : List Value} (hown : s.vm.findClass own = some m.cls)
    (w1 : (Cond.methodLink own index z).before a0 Z = true) (w2 : (Cond.declares z).before a0 Z = true) (nf : NotFace s z) (w5 : (Cond.selects C z y).before a0 Z = true) (w6 : (Cond.instanceMethod y).before a0 Z = true) (w3 : (Cond.initialized y.cls).before a0 Z = true) (w4 : (Cond.code y bytes maxL ret).before a0 Z = true)
    (hy : z.cls ≠ "java/lang/invoke/MethodHandle" ∧ z.cls ≠ "java/lang/invoke/VarHandle") (eT : T.heap = h) (E : Exa Z h a C) (hM : Met l Z y bytes maxL ret [] rm (.ref a :: argsL).toArray h Q)
    (hg : g.method = m) (hsize : g.locals.size = c.maxLocals) (hlen : ∀ sig, parseMethodDescriptor z.desc = some sig → argsL.length = sig.parameters.length) (hs : g.stack = argsL.reverse ++ .ref a :: rest)
    (hW : 2 * g.monitorRoom + (rest.map fun v => v.category).sum ≤ W) (hd : decode c.code g.pc = .ok (.invokevirtual index, 3)) (hf : rm.frames + 1 ≤ R.frames) (hl : W + (maxL + 11) + rm.locals ≤ R.locals) (hc : cells + rm.cells ≤ R.cells) (hsl : slots + rm.slots ≤ R.slots)
    (k : ∀ T' L v, Stand p l e R s m args below meth c T' (locs ++ L) (cells + rm.cells) (slots + rm.slots) → Q v T'.heap L → Go p e below P T' { g with pc := g.pc + 3, stack := v.toList ++ rest }) : Go p e below P T g := by
  obtain ⟨cq, kq, qa, qb, qc⟩ := isOf hZ eT E
  obtain ⟨v, _, ⟨U, L, q1, q2⟩, -, X', ⟨Lc, hQ, l1, l2, l3⟩, st⟩ := X.virtualBack hx (y := z) (z := y) hown (mvT hZ w1) (mvT hZ w2) nf (mvT hZ w5) (mvT hZ w6) hy (backOf (W := W) hM hZ w4 w3 hf hl) qa qc hg hsize (Steps.refl _) hlen hs hW hd (fun _ _ => ⟨rfl, eT, hc, hsl⟩)
  dsimp only [Pt.U, Pt.locs, Pt.cells, Pt.slots] at X' l1 l2 l3 st hQ
  subst l1 l2 l3
  exact Go.via _ st (k _ _ _ X' hQ)
/-- a private method (invokevirtual) -/
theorem Go.priv (X : Stand p l e R s m args below meth c T locs cells slots) (hx : p.tables.exec = Jvm.exec) (hZ : Z.Warmed39 s.vm) {own C : String} {index W : Nat} {a : Addr} {argsL rest : List Value} (hown : s.vm.findClass own = some m.cls)
    (w1 : (Cond.methodLink own index y).before a0 Z = true) (w6 : (Cond.instanceMethod y).before a0 Z = true) (w5 : (Cond.selects y.cls y y).before a0 Z = true) (w7 : (Cond.privateMethod y).before a0 Z = true) (w3 : (Cond.initialized y.cls).before a0 Z = true) (w4 : (Cond.code y bytes maxL ret).before a0 Z = true)
    (hy : y.cls ≠ "java/lang/invoke/MethodHandle" ∧ y.cls ≠ "java/lang/invoke/VarHandle") (eT : T.heap = h) (E : Exa Z h a C) (hM : Met l Z y bytes maxL ret [] rm (.ref a :: argsL).toArray h Q)
    (hg : g.method = m) (hsize : g.locals.size = c.maxLocals) (hlen : ∀ sig, parseMethodDescriptor y.desc = some sig → argsL.length = sig.parameters.length) (hs : g.stack = argsL.reverse ++ .ref a :: rest)
    (hW : 2 * g.monitorRoom + (rest.map fun v => v.category).sum ≤ W) (hd : decode c.code g.pc = .ok (.invokevirtual index, 3)) (hf : rm.frames + 1 ≤ R.frames) (hl : W + (maxL + 11) + rm.locals ≤ R.locals) (hc : cells + rm.cells ≤ R.cells) (hsl : slots + rm.slots ≤ R.slots)
    (k : ∀ T' L v, Stand p l e R s m args below meth c T' (locs ++ L) (cells + rm.cells) (slots + rm.slots) → Q v T'.heap L → Go p e below P T' { g with pc := g.pc + 3, stack := v.toList ++ rest }) : Go p e below P T g := by
  obtain ⟨cq, q, q'⟩ := E.cell
  obtain ⟨v, _, ⟨U, L, q1, q2⟩, -, X', ⟨Lc, hQ, l1, l2, l3⟩, st⟩ := X.privateBack hx (y := y) hown (mvT hZ w1) (mvT hZ w6) (mvT hZ w5) (Cond.privateMethod_at (mvP hZ w7 (args := #[]))) (mvT hZ w4) hy (backOf (W := W) hM hZ w4 w3 hf hl) hg hsize (Steps.refl _) (a := a) (by rw [eT]; exact q) q' hlen hs hW hd (fun _ _ => ⟨rfl, eT, hc, hsl⟩)
  dsimp only [Pt.U, Pt.locs, Pt.cells, Pt.slots] at X' l1 l2 l3 st hQ
  subst l1 l2 l3
  exact Go.via _ st (k _ _ _ X' hQ)
/-! arrays by a function of the place -/
def fnup {α : Type} (y : Int32 → α) (j : Int32) (v : α) : Int32 → α := fun i => if i = j then v else y i
theorem fnup_same {α : Type} (y : Int32 → α) (j : Int32) (v : α) : fnup y j v j = v := if_pos rfl
theorem fnup_ne {α : Type} {y : Int32 → α} {i j : Int32} {v : α} (h : ¬ i = j) : fnup y j v i = y i := if_neg h
def Fa (Z : State) (h : Heap) (a : Addr) (ty : FieldType) (n : Int32) (y : Int32 → Value) : Prop :=
  ∃ c : Cell, Arr Z h a c ty ∧ c.slots.size = n.toNatClampNeg ∧ ¬ n < 0 ∧ ∀ j : Int32, ¬ j < 0 → j < n → c.slots[j.toNatClampNeg]? = some (y j) ∧ fits ty (y j) = true
variable {a b : Addr} {ty : FieldType} {n : Int32} {yv : Int32 → Value} {h' : Heap} {j : Int32} {v : Value} {sl : Nat} {hws : List Addr}
theorem Fa.lt (F : Fa Z h a ty n yv) : a < h.size := by obtain ⟨c, A, -⟩ := F; exact A.lt
theorem Fa.ext (F : Fa Z h a ty n yv) (E : Ext h h') : Fa Z h' a ty n yv := by obtain ⟨c, A, r⟩ := F; exact ⟨c, A.ext E, r⟩
theorem Fa.other (F : Fa Z h b ty n yv) (W : Wr h h' a sl v) (q : b ≠ a) : Fa Z h' b ty n yv := by obtain ⟨c, A, r⟩ := F; exact ⟨c, A.other W q, r⟩
theorem Fa.keep (F : Fa Z h a ty n yv) (K : Keep h h' hws) (q : a ∉ hws) : Fa Z h' a ty n yv := by obtain ⟨c, A, r⟩ := F; exact ⟨c, ⟨K.2.1 a c A.1 q, A.2⟩, r⟩
theorem Fa.new {k : ClassId} (A : Arr Z h a (newA k ty n) ty) (q : ¬ n < 0) : Fa Z h a ty n (fun _ => defaultValue ty) :=
  ⟨_, A, sz_new _ _ _, q, fun i h0 h1 => ⟨get_new (by have := inb_of (c := newA k ty n) (sz_new k ty n) ⟨h0, h1⟩; rwa [sz_new] at this), by cases ty <;> rfl⟩⟩
theorem Fa.set (F : Fa Z h a ty n yv) (W : Wr h h' a j.toNatClampNeg v) (hj : ¬ j < 0) (hv : fits ty v = true) : Fa Z h' a ty n (fnup yv j v) := by
  obtain ⟨c, A, S, M, H⟩ := F
  refine ⟨c.setSlot j.toNatClampNeg v, A.same W, by rw [sz_set]; exact S, M, fun i h0 h1 => ?_⟩
  by_cases e : i = j
  · subst e; rw [fnup_same]; exact ⟨get_hit (inb_of S ⟨h0, h1⟩) rfl, hv⟩
  · rw [fnup_ne e, get_miss hj h0 e]; exact H i h0 h1
theorem Fa.congr {yw : Int32 → Value} (F : Fa Z h a ty n yv) (q : ∀ j, ¬ j < 0 → j < n → yw j = yv j) : Fa Z h a ty n yw := by
  obtain ⟨c, A, S, M, H⟩ := F
  exact ⟨c, A, S, M, fun j h0 h1 => by rw [q j h0 h1]; exact H j h0 h1⟩
theorem Fa.pos (F : Fa Z h a ty n yv) : ¬ n < 0 := by obtain ⟨c, A, S, M, H⟩ := F; exact M
theorem Fa.ofArv {k : ClassId} {vs : List Value} {dv : Value} (F : Arv Z h a k ty n vs dv) : Fa Z h a ty n (fun j => vs.getD j.toNatClampNeg dv) := by
  obtain ⟨c, A, q1, S, M, H, G⟩ := F
  exact ⟨c, A, S, M, fun j h0 h1 => by
    have q : j.toNatClampNeg < c.slots.size := Nat.lt_of_not_le fun z => inb_of S ⟨h0, h1⟩ (Or.inr z)
    exact ⟨H _ q, G _ q⟩⟩
theorem fnup_int (y : Int32 → Int32) (j x : Int32) : fnup (fun i => Value.int (y i)) j (.int x) = fun i => Value.int (fnup y j x i) := by funext i; unfold fnup; split <;> rfl
theorem fnup_long (y : Int32 → Int64) (j : Int32) (x : Int64) : fnup (fun i => Value.long (y i)) j (.long x) = fun i => Value.long (fnup y j x i) := by funext i; unfold fnup; split <;> rfl
theorem fnup_dbl (y : Int32 → UInt64) (j : Int32) (x : UInt64) : fnup (fun i => Value.double (y i)) j (.double x) = fun i => Value.double (fnup y j x i) := by funext i; unfold fnup; split <;> rfl
variable {rest : List Value}
theorem Go.arraylength (X : Stand p l e R s m args below meth c T locs cells slots) (hx : p.tables.exec = Jvm.exec) (hZ : Z.Warmed39 s.vm) (eT : T.heap = h) (F : Fa Z h a ty n yv) (hg : g.method = m) (hs : g.stack = .ref a :: rest) (hd : decode c.code g.pc = .ok (.arraylength, 1))
    (k : Go p e below P T { g with pc := g.pc + 1, stack := .int n :: rest }) : Go p e below P T g := by
  obtain ⟨cl, A, S, M, H⟩ := F
  refine Go.of _ (fun t k => X.arraylength hx (by rw [eT]; exact A.1) (State.isArrayOf_alike hZ.alike A.2.1) hg hs hd _ k) ?_
  rw [len_of S M]; exact k
theorem Go.iaload (X : Stand p l e R s m args below meth c T locs cells slots) (hx : p.tables.exec = Jvm.exec) (hZ : Z.Warmed39 s.vm) (eT : T.heap = h) {y : Int32 → Int32} (F : Fa Z h a .int n (fun i => .int (y i))) (h0 : ¬ j < 0) (h1 : j < n) (hg : g.method = m) (hs : g.stack = .int j :: .ref a :: rest) (hd : decode c.code g.pc = .ok (.iaload, 1))
    (k : Go p e below P T { g with pc := g.pc + 1, stack := .int (y j) :: rest }) : Go p e below P T g := by
  obtain ⟨cl, A, S, M, H⟩ := F
  exact Go.of _ (fun t k => X.iaload hx (by rw [eT]; exact A.1) (State.isArrayOf_alike hZ.alike A.2.1) A.2.2 (inb_of S ⟨h0, h1⟩) (H j h0 h1).1 hg hs hd _ k) k
theorem Go.caload (X : Stand p l e R s m args below meth c T locs cells slots) (hx : p.tables.exec = Jvm.exec) (hZ : Z.Warmed39 s.vm) (eT : T.heap = h) {y : Int32 → Int32} (F : Fa Z h a .char n (fun i => .int (y i))) (h0 : ¬ j < 0) (h1 : j < n) (hg : g.method = m) (hs : g.stack = .int j :: .ref a :: rest) (hd : decode c.code g.pc = .ok (.caload, 1))
    (k : Go p e below P T { g with pc := g.pc + 1, stack := .int (y j) :: rest }) : Go p e below P T g := by
  obtain ⟨cl, A, S, M, H⟩ := F
  exact Go.of _ (fun t k => X.caload hx (by rw [eT]; exact A.1) (State.isArrayOf_alike hZ.alike A.2.1) A.2.2 (inb_of S ⟨h0, h1⟩) (H j h0 h1).1 hg hs hd _ k) k
theorem Go.saload (X : Stand p l e R s m args below meth c T locs cells slots) (hx : p.tables.exec = Jvm.exec) (hZ : Z.Warmed39 s.vm) (eT : T.heap = h) {y : Int32 → Int32} (F : Fa Z h a .short n (fun i => .int (y i))) (h0 : ¬ j < 0) (h1 : j < n) (hg : g.method = m) (hs : g.stack = .int j :: .ref a :: rest) (hd : decode c.code g.pc = .ok (.saload, 1))
    (k : Go p e below P T { g with pc := g.pc + 1, stack := .int (y j) :: rest }) : Go p e below P T g := by
  obtain ⟨cl, A, S, M, H⟩ := F
  exact Go.of _ (fun t k => X.saload hx (by rw [eT]; exact A.1) (State.isArrayOf_alike hZ.alike A.2.1) A.2.2 (inb_of S ⟨h0, h1⟩) (H j h0 h1).1 hg hs hd _ k) k
theorem Go.baload (X : Stand p l e R s m args below meth c T locs cells slots) (hx : p.tables.exec = Jvm.exec) (hZ : Z.Warmed39 s.vm) (eT : T.heap = h) {y : Int32 → Int32} (F : Fa Z h a .byte n (fun i => .int (y i))) (h0 : ¬ j < 0) (h1 : j < n) (hg : g.method = m) (hs : g.stack = .int j :: .ref a :: rest) (hd : decode c.code g.pc = .ok (.baload, 1))
    (k : Go p e below P T { g with pc := g.pc + 1, stack := .int (y j) :: rest }) : Go p e below P T g := by
  obtain ⟨cl, A, S, M, H⟩ := F
  exact Go.of _ (fun t k => X.baloadBytes hx (by rw [eT]; exact A.1) (State.isArrayOf_alike hZ.alike A.2.1) A.2.2 (inb_of S ⟨h0, h1⟩) (H j h0 h1).1 hg hs hd _ k) k
theorem Go.zaload (X : Stand p l e R s m args below meth c T locs cells slots) (hx : p.tables.exec = Jvm.exec) (hZ : Z.Warmed39 s.vm) (eT : T.heap = h) {y : Int32 → Int32} (F : Fa Z h a .boolean n (fun i => .int (y i))) (h0 : ¬ j < 0) (h1 : j < n) (hg : g.method = m) (hs : g.stack = .int j :: .ref a :: rest) (hd : decode c.code g.pc = .ok (.baload, 1))
    (k : Go p e below P T { g with pc := g.pc + 1, stack := .int (y j) :: rest }) : Go p e below P T g := by
  obtain ⟨cl, A, S, M, H⟩ := F
  exact Go.of _ (fun t k => X.baloadBooleans hx (by rw [eT]; exact A.1) (State.isArrayOf_alike hZ.alike A.2.1) A.2.2 (inb_of S ⟨h0, h1⟩) (H j h0 h1).1 hg hs hd _ k) k
theorem Go.laload (X : Stand p l e R s m args below meth c T locs cells slots) (hx : p.tables.exec = Jvm.exec) (hZ : Z.Warmed39 s.vm) (eT : T.heap = h) {y : Int32 → Int64} (F : Fa Z h a .long n (fun i => .long (y i))) (h0 : ¬ j < 0) (h1 : j < n) (hg : g.method = m) (hs : g.stack = .int j :: .ref a :: rest) (hd : decode c.code g.pc = .ok (.laload, 1))
    (k : Go p e below P T { g with pc := g.pc + 1, stack := .long (y j) :: rest }) : Go p e below P T g := by
  obtain ⟨cl, A, S, M, H⟩ := F
  exact Go.of _ (fun t k => X.laload hx (by rw [eT]; exact A.1) (State.isArrayOf_alike hZ.alike A.2.1) A.2.2 (inb_of S ⟨h0, h1⟩) (H j h0 h1).1 hg hs hd _ k) k
theorem Go.aaload (X : Stand p l e R s m args below meth c T locs cells slots) (hx : p.tables.exec = Jvm.exec) (hZ : Z.Warmed39 s.vm) (eT : T.heap = h) (F : Fa Z h a ty n yv) (hty : ty.isReference = true) (h0 : ¬ j < 0) (h1 : j < n) (hg : g.method = m) (hs : g.stack = .int j :: .ref a :: rest) (hd : decode c.code g.pc = .ok (.aaload, 1))
    (k : Go p e below P T { g with pc := g.pc + 1, stack := yv j :: rest }) : Go p e below P T g := by
  obtain ⟨cl, A, S, M, H⟩ := F
  exact Go.of _ (fun t k => X.aaload hx (by rw [eT]; exact A.1) (State.isArrayOf_alike hZ.alike A.2.1) hty A.2.2 (inb_of S ⟨h0, h1⟩) (H j h0 h1).1 hg hs hd _ k) k
theorem Go.iastore (X : Stand p l e R s m args below meth c T locs cells slots) (hx : p.tables.exec = Jvm.exec) (hZ : Z.Warmed39 s.vm) (eT : T.heap = h) {y : Int32 → Int32} {x : Int32} (F : Fa Z h a .int n (fun i => .int (y i))) (h0 : ¬ j < 0) (h1 : j < n) (hg : g.method = m) (hs : g.stack = .int x :: .int j :: .ref a :: rest) (hd : decode c.code g.pc = .ok (.iastore, 1))
    (k : ∀ T' h', Stand p l e R s m args below meth c T' (locs ++ [⟨a, j.toNatClampNeg⟩]) cells slots → T'.heap = h' → Wr h h' a j.toNatClampNeg (.int x) → Fa Z h' a .int n (fun i => .int (fnup y j x i)) → Go p e below P T' { g with pc := g.pc + 1, stack := rest }) : Go p e below P T g := by
  obtain ⟨cl, A, S, M, H⟩ := id F
  obtain ⟨T', h', X', e', W, st⟩ := stI X hx hZ eT A (inb_of S ⟨h0, h1⟩) hg hs hd
  exact Go.of _ st (k _ _ X' e' W (by have := F.set W h0 rfl; rwa [fnup_int] at this))
theorem Go.castore (X : Stand p l e R s m args below meth c T locs cells slots) (hx : p.tables.exec = Jvm.exec) (hZ : Z.Warmed39 s.vm) (eT : T.heap = h) {y : Int32 → Int32} {x : Int32} (F : Fa Z h a .char n (fun i => .int (y i))) (h0 : ¬ j < 0) (h1 : j < n) (hg : g.method = m) (hs : g.stack = .int x :: .int j :: .ref a :: rest) (hd : decode c.code g.pc = .ok (.castore, 1))
    (k : ∀ T' h', Stand p l e R s m args below meth c T' (locs ++ [⟨a, j.toNatClampNeg⟩]) cells slots → T'.heap = h' → Wr h h' a j.toNatClampNeg (.int (nar .char x)) → Fa Z h' a .char n (fun i => .int (fnup y j (nar .char x) i)) → Go p e below P T' { g with pc := g.pc + 1, stack := rest }) : Go p e below P T g := by
  obtain ⟨cl, A, S, M, H⟩ := id F
  obtain ⟨T', h', X', e', W, st⟩ := stC X hx hZ eT A (inb_of S ⟨h0, h1⟩) hg hs hd
  exact Go.of _ st (k _ _ X' e' W (by have := F.set W h0 (fits_nar_char _); rwa [fnup_int] at this))
theorem Go.bastore (X : Stand p l e R s m args below meth c T locs cells slots) (hx : p.tables.exec = Jvm.exec) (hZ : Z.Warmed39 s.vm) (eT : T.heap = h) {y : Int32 → Int32} {x : Int32} (F : Fa Z h a .byte n (fun i => .int (y i))) (h0 : ¬ j < 0) (h1 : j < n) (hg : g.method = m) (hs : g.stack = .int x :: .int j :: .ref a :: rest) (hd : decode c.code g.pc = .ok (.bastore, 1))
    (k : ∀ T' h', Stand p l e R s m args below meth c T' (locs ++ [⟨a, j.toNatClampNeg⟩]) cells slots → T'.heap = h' → Wr h h' a j.toNatClampNeg (.int (nar .byte x)) → Fa Z h' a .byte n (fun i => .int (fnup y j (nar .byte x) i)) → Go p e below P T' { g with pc := g.pc + 1, stack := rest }) : Go p e below P T g := by
  obtain ⟨cl, A, S, M, H⟩ := id F
  obtain ⟨T', h', X', e', W, st⟩ := stB X hx hZ eT A (inb_of S ⟨h0, h1⟩) hg hs hd
  exact Go.of _ st (k _ _ X' e' W (by have := F.set W h0 (fits_nar_byte _); rwa [fnup_int] at this))
theorem Go.zastore (X : Stand p l e R s m args below meth c T locs cells slots) (hx : p.tables.exec = Jvm.exec) (hZ : Z.Warmed39 s.vm) (eT : T.heap = h) {y : Int32 → Int32} {x : Int32} (F : Fa Z h a .boolean n (fun i => .int (y i))) (h0 : ¬ j < 0) (h1 : j < n) (hg : g.method = m) (hs : g.stack = .int x :: .int j :: .ref a :: rest) (hd : decode c.code g.pc = .ok (.bastore, 1))
    (k : ∀ T' h', Stand p l e R s m args below meth c T' (locs ++ [⟨a, j.toNatClampNeg⟩]) cells slots → T'.heap = h' → Wr h h' a j.toNatClampNeg (.int (nar .boolean x)) → Fa Z h' a .boolean n (fun i => .int (fnup y j (nar .boolean x) i)) → Go p e below P T' { g with pc := g.pc + 1, stack := rest }) : Go p e below P T g := by
  obtain ⟨cl, A, S, M, H⟩ := id F
  obtain ⟨T', h', X', e', W, st⟩ := stZ X hx hZ eT A (inb_of S ⟨h0, h1⟩) hg hs hd
  exact Go.of _ st (k _ _ X' e' W (by have := F.set W h0 (fits_nar_bool _); rwa [fnup_int] at this))
theorem Go.lastore (X : Stand p l e R s m args below meth c T locs cells slots) (hx : p.tables.exec = Jvm.exec) (hZ : Z.Warmed39 s.vm) (eT : T.heap = h) {y : Int32 → Int64} {x : Int64} (F : Fa Z h a .long n (fun i => .long (y i))) (h0 : ¬ j < 0) (h1 : j < n) (hg : g.method = m) (hs : g.stack = .long x :: .int j :: .ref a :: rest) (hd : decode c.code g.pc = .ok (.lastore, 1))
    (k : ∀ T' h', Stand p l e R s m args below meth c T' (locs ++ [⟨a, j.toNatClampNeg⟩]) cells slots → T'.heap = h' → Wr h h' a j.toNatClampNeg (.long x) → Fa Z h' a .long n (fun i => .long (fnup y j x i)) → Go p e below P T' { g with pc := g.pc + 1, stack := rest }) : Go p e below P T g := by
  obtain ⟨cl, A, S, M, H⟩ := id F
  obtain ⟨T', h', X', e', W, st⟩ := stJ X hx hZ eT A (inb_of S ⟨h0, h1⟩) hg hs hd
  exact Go.of _ st (k _ _ X' e' W (by have := F.set W h0 rfl; rwa [fnup_long] at this))
theorem Go.aastore (X : Stand p l e R s m args below meth c T locs cells slots) (hx : p.tables.exec = Jvm.exec) (hZ : Z.Warmed39 s.vm) (eT : T.heap = h) (F : Fa Z h a ty n yv) (hty : ty.isReference = true) (hf : fits ty v = true) (O : Sto Z h a v) (h0 : ¬ j < 0) (h1 : j < n) (hg : g.method = m) (hs : g.stack = v :: .int j :: .ref a :: rest) (hd : decode c.code g.pc = .ok (.aastore, 1))
    (k : ∀ T' h', Stand p l e R s m args below meth c T' (locs ++ [⟨a, j.toNatClampNeg⟩]) cells slots → T'.heap = h' → Wr h h' a j.toNatClampNeg v → Fa Z h' a ty n (fnup yv j v) → Go p e below P T' { g with pc := g.pc + 1, stack := rest }) : Go p e below P T g := by
  obtain ⟨cl, A, S, M, H⟩ := id F
  obtain ⟨T', h', X', e', W, st⟩ := stR X hx hZ eT A (inb_of S ⟨h0, h1⟩) hty O hg hs hd
  exact Go.of _ st (k _ _ X' e' W (F.set W h0 hf))
/-- the array's class is that of the arrays over C -/
def Uty (Z : State) (h : Heap) (a : Addr) (C : String) : Prop := ∃ c : Cell, h[a]? = some c ∧ Ovr Z c.cls C
theorem Uty.ext {C : String} (F : Uty Z h a C) (E : Ext h h') : Uty Z h' a C := by obtain ⟨c, A, r⟩ := F; exact ⟨c, E.2 _ _ A, r⟩
theorem Uty.wr {C : String} (F : Uty Z h b C) (W : Wr h h' a sl v) : Uty Z h' b C := by
  obtain ⟨c, A, r⟩ := F
  obtain ⟨c', e1, e2, -⟩ := wr_at W A
  exact ⟨c', e1, by rw [e2]; exact r⟩
theorem Uty.keep {C : String} (F : Uty Z h a C) (K : Keep h h' hws) : Uty Z h' a C := by
  obtain ⟨c, A, r⟩ := F
  obtain ⟨c', e1, e2, -⟩ := K.2.2 _ _ A
  exact ⟨c', e1, by rw [e2]; exact r⟩
theorem Fa.sto {C : String} (F : Fa Z h a ty n yv) (U : Uty Z h a C) (I : Ins Z h b C true) : Sto Z h a (.ref b) := by
  obtain ⟨c, A, -⟩ := F
  obtain ⟨c', A', O⟩ := U
  cases A.1.symm.trans A'
  exact Sto.of A O I
theorem nat_back {i : Nat} (hi : i < 2 ^ 31) : i.toInt32.toNatClampNeg = i ∧ ¬ i.toInt32 < 0 := by
  have e : i.toInt32.toInt = i := len_toInt hi
  refine ⟨?_, ?_⟩
  · show i.toInt32.toInt.toNat = i
    rw [e]; rfl
  · rw [Int32.lt_iff_toInt_lt, e]
    have z : (0 : Int32).toInt = 0 := by decide
    omega
theorem lt_of_nat {i : Nat} {z : Int32} (hz : ¬ z < 0) (hi : i < z.toNatClampNeg) : i.toInt32 < z ∧ i < 2 ^ 31 := by
  have q := nat_of hz
  have b := rng32 z
  have hb : i < 2 ^ 31 := by omega
  refine ⟨?_, hb⟩
  rw [Int32.lt_iff_toInt_lt, len_toInt hb]
  omega
theorem Fa.fitC {cl : Cell} (A : Arr Z h a cl ty) (S : cl.slots.size = n.toNatClampNeg) (M : ¬ n < 0) (H : ∀ j : Int32, ¬ j < 0 → j < n → cl.slots[j.toNatClampNeg]? = some (yv j) ∧ fits ty (yv j) = true) : FitC Z cl :=
  fitC_of A fun i hi w hw => by
    have q := lt_of_nat M (S ▸ hi)
    have r := nat_back q.2
    have u := H i.toInt32 r.2 q.1
    rw [r.1] at u
    cases hw.symm.trans u.1
    exact u.2
theorem Go.clone (X : Stand p l e R s m args below meth c T locs cells slots) (hx : p.tables.exec = Jvm.exec) (hZ : Z.Warmed39 s.vm) {own ad : String} {index : Nat} (hown : s.vm.findClass own = some m.cls)
    (w1 : (Cond.methodLink own index ⟨ad, "clone", "()Ljava/lang/Object;"⟩).before a0 Z = true) (w2 : (Cond.sameMethod ad "java/lang/Object" "clone" "()Ljava/lang/Object;").before a0 Z = true) (w3 : (Cond.native ⟨"java/lang/Object", "clone", "()Ljava/lang/Object;"⟩).before a0 Z = true)
    (w4 : (Cond.instanceMethod ⟨"java/lang/Object", "clone", "()Ljava/lang/Object;"⟩).before a0 Z = true) (w5 : (Cond.selects ad ⟨ad, "clone", "()Ljava/lang/Object;"⟩ ⟨"java/lang/Object", "clone", "()Ljava/lang/Object;"⟩).before a0 Z = true) (w6 : (Cond.castable ad "java/lang/Cloneable").before a0 Z = true)
    (eT : T.heap = h) (F : Fa Z h a ty n yv) (E : Exa Z h a ad) (hg : g.method = m) (hsize : g.locals.size = c.maxLocals) (hs : g.stack = .ref a :: rest) (hd : decode c.code g.pc = .ok (.invokevirtual index, 3))
    (hf : 1 ≤ R.frames) {W cap : Nat} (hW : 2 * g.monitorRoom + (rest.map fun v => v.category).sum ≤ W) (hl : W + 14 ≤ R.locals) (hcap : n.toNatClampNeg ≤ cap) (hc : cells + 1 ≤ R.cells) (hsl : slots + cap ≤ R.slots)
    (k : ∀ T' h' b, b = h.size → Stand p l e R s m args below meth c T' locs (cells + 1) (slots + cap) → T'.heap = h' → Ext h h' → Fa Z h' b ty n yv → Exa Z h' b ad → Go p e below P T' { g with pc := g.pc + 3, stack := .ref b :: rest }) : Go p e below P T g := by
  obtain ⟨cl, A, S, M, H⟩ := id F
  obtain ⟨T', h', X', e', ex, A', E', st⟩ := cloneA X hx hZ hown w1 w2 w3 w4 w5 w6 eT A E (Fa.fitC A S M H) hg hsize hs hd hf hW hl (by rw [S]; exact hcap) hc hsl
  exact Go.of _ st (k _ _ _ rfl X' e' ex ⟨cloneOf cl, A', S, M, H⟩ E')
theorem exa_ns {C : String} (E : Exa Z h a C) : ∀ c : Cell, h[a]? = some c → c.vm.isStatics = false := fun c hc => by
  obtain ⟨c', k, h1, -, -, h4, -⟩ := E
  cases h1.symm.trans hc; exact h4
theorem Sta.keep {C nn d : String} (F : Sta Z h C nn d v) (K : Keep h h' hws) (q : ∀ x ∈ hws, ∀ c : Cell, h[x]? = some c → c.vm.isStatics = false) : Sta Z h' C nn d v := by
  obtain ⟨cf, i, k, f, st, cell, h1, h2, h3, h4, h5, h6, h7⟩ := F
  refine ⟨cf, i, k, f, st, cell, h1, h2, h3, h4, K.2.1 _ _ h5 fun z => ?_, h6, h7⟩
  rw [q _ z _ h5] at h6; cases h6
/-- an inherited instance method (the entry names it through the subclass) -/
theorem Go.virtUp (X : Stand p l e R s m args below meth c T locs cells slots) (hx : p.tables.exec = Jvm.exec) (hZ : Z.Warmed39 s.vm) {own C owner : String} {z : MethodName} {index W : Nat} {argsL : List Value} (hown : s.vm.findClass own = some m.cls)
    (w1 : (Cond.methodLink own index z).before a0 Z = true) (w2 : (Cond.sameMethod z.cls owner z.name z.desc).before a0 Z = true) (w8 : (Cond.declares ⟨owner, z.name, z.desc⟩).before a0 Z = true) (hy : owner ≠ "java/lang/invoke/MethodHandle" ∧ owner ≠ "java/lang/invoke/VarHandle") (w5 : (Cond.selects C z y).before a0 Z = true) (w6 : (Cond.instanceMethod y).before a0 Z = true) (w3 : (Cond.initialized y.cls).before a0 Z = true) (w4 : (Cond.code y bytes maxL ret).before a0 Z = true)
    (eT : T.heap = h) (E : Exa Z h a C) (hM : Met l Z y bytes maxL ret [] rm (.ref a :: argsL).toArray h Q)
    (hg : g.method = m) (hsize : g.locals.size = c.maxLocals) (hlen : ∀ sig, parseMethodDescriptor z.desc = some sig → argsL.length = sig.parameters.length) (hs : g.stack = argsL.reverse ++ .ref a :: rest)
    (hW : 2 * g.monitorRoom + (rest.map fun v => v.category).sum ≤ W) (hd : decode c.code g.pc = .ok (.invokevirtual index, 3)) (hf : rm.frames + 1 ≤ R.frames) (hl : W + (maxL + 11) + rm.locals ≤ R.locals) (hc : cells + rm.cells ≤ R.cells) (hsl : slots + rm.slots ≤ R.slots)
    (k : ∀ T' L v, Stand p l e R s m args below meth c T' (locs ++ L) (cells + rm.cells) (slots + rm.slots) → Q v T'.heap L → Go p e below P T' { g with pc := g.pc + 3, stack := v.toList ++ rest }) : Go p e below P T g := by
  obtain ⟨cq, kq, qa, qb, qc⟩ := isOf hZ eT E
  obtain ⟨v, _, ⟨U, L, q1, q2⟩, -, X', ⟨Lc, hQ, l1, l2, l3⟩, st⟩ := X.virtualBackUp hx (x := z) (y := y) hown (mvT hZ w1) (mvT hZ w2) (mvT hZ w8) hy (mvT hZ w5) (mvT hZ w6) (backOf (W := W) hM hZ w4 w3 hf hl) qa qc hg hsize (Steps.refl _) hlen hs hW hd (fun _ _ => ⟨rfl, eT, hc, hsl⟩)
  dsimp only [Pt.U, Pt.locs, Pt.cells, Pt.slots] at X' l1 l2 l3 st hQ
  subst l1 l2 l3
  exact Go.via _ st (k _ _ _ X' hQ)
/-- the two sides of a call as the pasted laws of String have them -/
abbrev BPre (R : Room) (as' : Array Value) (h : Heap) (kc ks : Nat) : Pt → Array Value → Prop := fun P a => a = as' ∧ P.U.heap = h ∧ P.cells + kc ≤ R.cells ∧ P.slots + ks ≤ R.slots
abbrev BPost (Q : Option Value → Heap → List Loc → Prop) (kc ks : Nat) : Pt → Array Value → Option Value → Pt → Prop := fun P _ v B => ∃ L, Q v B.U.heap L ∧ B.locs = P.locs ++ L ∧ B.cells = P.cells + kc ∧ B.slots = P.slots + ks
theorem Go.initB (X : Stand p l e R s m args below meth c T locs cells slots) (hx : p.tables.exec = Jvm.exec) (hZ : Z.Warmed39 s.vm) {own : String} {index W kc ks : Nat} {argsL : List Value} (hown : s.vm.findClass own = some m.cls) (hy1 : y.name = "<init>")
    (w1 : (Cond.methodLink own index y).before a0 Z = true) (w2 : (Cond.instanceMethod y).before a0 Z = true) (w4 : (Cond.code y bytes maxL none).before a0 Z = true)
    (hy : y.cls ≠ "java/lang/invoke/MethodHandle" ∧ y.cls ≠ "java/lang/invoke/VarHandle") (eT : T.heap = h) (hK : Back l R p e below s args y 3 W (BPre R (.ref a :: argsL).toArray h kc ks) (BPost Q kc ks))
    (hg : g.method = m) (hsize : g.locals.size = c.maxLocals) (hlen : ∀ sig, parseMethodDescriptor y.desc = some sig → argsL.length = sig.parameters.length) (hs : g.stack = argsL.reverse ++ .ref a :: rest)
    (hW : 2 * g.monitorRoom + (rest.map fun v => v.category).sum ≤ W) (hd : decode c.code g.pc = .ok (.invokespecial index, 3)) (hc : cells + kc ≤ R.cells) (hsl : slots + ks ≤ R.slots)
    (k : ∀ T' L v, Stand p l e R s m args below meth c T' (locs ++ L) (cells + kc) (slots + ks) → Q v T'.heap L → Go p e below P T' { g with pc := g.pc + 3, stack := v.toList ++ rest }) : Go p e below P T g := by
  obtain ⟨v, _, ⟨U, L, q1, q2⟩, -, X', ⟨Lc, hQ, l1, l2, l3⟩, st⟩ := X.specialBack hx (y := y) hy1 hown (mvT hZ w1) (mvT hZ w2) (mvT hZ w4) hy hK hg hsize (Steps.refl _) hlen hs hW hd (fun _ _ => ⟨rfl, eT, hc, hsl⟩)
  dsimp only [Pt.U, Pt.locs, Pt.cells, Pt.slots] at X' l1 l2 l3 st hQ
  subst l1 l2 l3
  exact Go.via _ st (k _ _ _ X' hQ)
theorem Go.virtB (X : Stand p l e R s m args below meth c T locs cells slots) (hx : p.tables.exec = Jvm.exec) (hZ : Z.Warmed39 s.vm) {own C : String} {z : MethodName} {index W kc ks : Nat} {argsL : List Value} (hown : s.vm.findClass own = some m.cls)
    (w1 : (Cond.methodLink own index z).before a0 Z = true) (w2 : (Cond.declares z).before a0 Z = true) (nf : NotFace s z) (w5 : (Cond.selects C z y).before a0 Z = true) (w6 : (Cond.instanceMethod y).before a0 Z = true)
    (hy : z.cls ≠ "java/lang/invoke/MethodHandle" ∧ z.cls ≠ "java/lang/invoke/VarHandle") (eT : T.heap = h) (E : Exa Z h a C) (hK : Back l R p e below s args y 3 W (BPre R (.ref a :: argsL).toArray h kc ks) (BPost Q kc ks))
    (hg : g.method = m) (hsize : g.locals.size = c.maxLocals) (hlen : ∀ sig, parseMethodDescriptor z.desc = some sig → argsL.length = sig.parameters.length) (hs : g.stack = argsL.reverse ++ .ref a :: rest)
    (hW : 2 * g.monitorRoom + (rest.map fun v => v.category).sum ≤ W) (hd : decode c.code g.pc = .ok (.invokevirtual index, 3)) (hc : cells + kc ≤ R.cells) (hsl : slots + ks ≤ R.slots)
    (k : ∀ T' L v, Stand p l e R s m args below meth c T' (locs ++ L) (cells + kc) (slots + ks) → Q v T'.heap L → Go p e below P T' { g with pc := g.pc + 3, stack := v.toList ++ rest }) : Go p e below P T g := by
  obtain ⟨cq, kq, qa, qb, qc⟩ := isOf hZ eT E
  obtain ⟨v, _, ⟨U, L, q1, q2⟩, -, X', ⟨Lc, hQ, l1, l2, l3⟩, st⟩ := X.virtualBack hx (y := z) (z := y) hown (mvT hZ w1) (mvT hZ w2) nf (mvT hZ w5) (mvT hZ w6) hy hK qa qc hg hsize (Steps.refl _) hlen hs hW hd (fun _ _ => ⟨rfl, eT, hc, hsl⟩)
  dsimp only [Pt.U, Pt.locs, Pt.cells, Pt.slots] at X' l1 l2 l3 st hQ
  subst l1 l2 l3
  exact Go.via _ st (k _ _ _ X' hQ)
theorem Fa.toArv {vs : List Value} {dv : Value} (F : Fa Z h a ty n yv) (q : ∀ i : Nat, i < n.toNatClampNeg → vs.getD i dv = yv i.toInt32) : ∃ k, Arv Z h a k ty n vs dv := by
  obtain ⟨cl, A, S, M, H⟩ := F
  refine ⟨cl.cls, cl, A, rfl, S, M, fun i hi => ?_, fun i hi => ?_⟩
  · rw [S] at hi
    have b := lt_of_nat M hi
    have r := nat_back b.2
    have u := (H _ r.2 b.1).1
    rw [r.1] at u; rw [q i hi]; exact u
  · rw [S] at hi
    have b := lt_of_nat M hi
    have r := nat_back b.2
    rw [q i hi]; exact (H _ r.2 b.1).2
/-- the array's class is that of the arrays over an array class C of components ty -/
def UtA (Z : State) (h : Heap) (a : Addr) (ty : FieldType) (C : String) : Prop := ∃ c : Cell, h[a]? = some c ∧ OvrA Z c.cls ty C
theorem UtA.ext {C : String} (F : UtA Z h a ty C) (E : Ext h h') : UtA Z h' a ty C := by obtain ⟨c, A, r⟩ := F; exact ⟨c, E.2 _ _ A, r⟩
theorem UtA.wr {C : String} (F : UtA Z h b ty C) (W : Wr h h' a sl v) : UtA Z h' b ty C := by
  obtain ⟨c, A, r⟩ := F
  obtain ⟨c', e1, e2, -⟩ := wr_at W A
  exact ⟨c', e1, by rw [e2]; exact r⟩
theorem UtA.keep {C : String} (F : UtA Z h a ty C) (K : Keep h h' hws) : UtA Z h' a ty C := by
  obtain ⟨c, A, r⟩ := F
  obtain ⟨c', e1, e2, -⟩ := K.2.2 _ _ A
  exact ⟨c', e1, by rw [e2]; exact r⟩
theorem Fa.stoA {C : String} {ty' : FieldType} (F : Fa Z h a ty n yv) (U : UtA Z h a ty' C) (I : Ins Z h b C true) : Sto Z h a (.ref b) := by
  obtain ⟨c, A, -⟩ := F
  obtain ⟨c', A', O⟩ := U
  cases A.1.symm.trans A'
  exact Sto.ofVA A rfl O I
theorem Go.daload (X : Stand p l e R s m args below meth c T locs cells slots) (hx : p.tables.exec = Jvm.exec) (hZ : Z.Warmed39 s.vm) (eT : T.heap = h) {y : Int32 → UInt64} (F : Fa Z h a .double n (fun i => .double (y i))) (h0 : ¬ j < 0) (h1 : j < n) (hg : g.method = m) (hs : g.stack = .int j :: .ref a :: rest) (hd : decode c.code g.pc = .ok (.daload, 1))
    (k : Go p e below P T { g with pc := g.pc + 1, stack := .double (y j) :: rest }) : Go p e below P T g := by
  obtain ⟨cl, A, S, M, H⟩ := F
  exact Go.of _ (fun t k => X.daload hx (by rw [eT]; exact A.1) (State.isArrayOf_alike hZ.alike A.2.1) A.2.2 (inb_of S ⟨h0, h1⟩) (H j h0 h1).1 hg hs hd _ k) k
theorem Go.dastore (X : Stand p l e R s m args below meth c T locs cells slots) (hx : p.tables.exec = Jvm.exec) (hZ : Z.Warmed39 s.vm) (eT : T.heap = h) {y : Int32 → UInt64} {x : UInt64} (F : Fa Z h a .double n (fun i => .double (y i))) (h0 : ¬ j < 0) (h1 : j < n) (hg : g.method = m) (hs : g.stack = .double x :: .int j :: .ref a :: rest) (hd : decode c.code g.pc = .ok (.dastore, 1))
    (k : ∀ T' h', Stand p l e R s m args below meth c T' (locs ++ [⟨a, j.toNatClampNeg⟩]) cells slots → T'.heap = h' → Wr h h' a j.toNatClampNeg (.double x) → Fa Z h' a .double n (fun i => .double (fnup y j x i)) → Go p e below P T' { g with pc := g.pc + 1, stack := rest }) : Go p e below P T g := by
  obtain ⟨cl, A, S, M, H⟩ := id F
  obtain ⟨T', h', X', e', W, st⟩ := stD X hx hZ eT A (inb_of S ⟨h0, h1⟩) hg hs hd
  exact Go.of _ st (k _ _ X' e' W (by have := F.set W h0 rfl; rwa [fnup_dbl] at this))
end Own
end Jvm.OwnGo
namespace Jvm.Pilot.@@N@@
open Jvm Jvm.ClassFile Sem Op Lib Jvm.Free Jvm.Stand Jvm.LawKit Jvm.RoadKit Bundle Jvm.OwnGo Jvm.Pilot.@@N@@.Jvm.D Jvm.Free.Fl

def own_mv (f t : Int32) : Int32 := (f + 1) * 2 + t
def own_W (y : Int32 → UInt64) (B : Int) : Prop := ∀ j, ∃ n : Int64, y j = FP.l2d n ∧ 0 ≤ n.toInt ∧ n.toInt ≤ B
theorem own_cases6 {j : Int32} (h0 : ¬ j < 0) (h1 : j < 6) : j = 0 ∨ j = 1 ∨ j = 2 ∨ j = 3 ∨ j = 4 ∨ j = 5 := by
  rw [Int32.lt_iff_toInt_lt] at h0 h1
  have z : (0 : Int32).toInt = 0 := by decide
  have z6 : (6 : Int32).toInt = 6 := by decide
  rcases (by omega : j.toInt = 0 ∨ j.toInt = 1 ∨ j.toInt = 2 ∨ j.toInt = 3 ∨ j.toInt = 4 ∨ j.toInt = 5) with h | h | h | h | h | h
  · left; exact Int32.toInt_inj.mp (h.trans (by decide))
  · right; left; exact Int32.toInt_inj.mp (h.trans (by decide))
  · right; right; left; exact Int32.toInt_inj.mp (h.trans (by decide))
  · right; right; right; left; exact Int32.toInt_inj.mp (h.trans (by decide))
  · right; right; right; right; left; exact Int32.toInt_inj.mp (h.trans (by decide))
  · right; right; right; right; right; exact Int32.toInt_inj.mp (h.trans (by decide))
theorem own_bit (x : Int32) : (x &&& 1) = 0 ∨ (x &&& 1) = 1 := and_one x
theorem own_rng {f t : Int32} (hf : f = -1 ∨ f = 0 ∨ f = 1) (ht : t = 0 ∨ t = 1) : ¬ own_mv f t < 0 ∧ own_mv f t < 6 := by
  rcases hf with rfl | rfl | rfl <;> rcases ht with rfl | rfl <;> decide
theorem own_pos {t : Int32} (ht : t = 0 ∨ t = 1) : ¬ t < 0 := by rcases ht with rfl | rfl <;> decide
theorem own_up {t : Int32} (ht : t = 0 ∨ t = 1) : t = -1 ∨ t = 0 ∨ t = 1 := Or.inr ht
theorem own_addn {y : Int32 → UInt64} {B : Int} (hB : B ≤ 100000) (h : own_W y B) {c : Int64} (hc : 0 ≤ c.toInt ∧ c.toInt ≤ 255) (j : Int32) : ∃ n : Int64, FP.dadd (y j) (FP.l2d c) = FP.l2d n ∧ 0 ≤ n.toInt ∧ n.toInt ≤ B + 255 := by
  obtain ⟨n, e, h1, h2⟩ := h j
  have bn : B53 n := by unfold B53; omega
  have bc : B53 c := by unfold B53; omega
  refine ⟨n + c, by rw [e]; exact dadd_w bn bc, ?_, ?_⟩ <;> rw [add64 bn bc] <;> omega
theorem own_addw {y : Int32 → UInt64} {B : Int} (hB : B ≤ 100000) (h : own_W y B) {c : Int64} (hc : 0 ≤ c.toInt ∧ c.toInt ≤ 255) (j : Int32) : own_W (fnup y j (FP.dadd (y j) (FP.l2d c))) (B + 255) := by
  intro i
  unfold fnup
  by_cases e : i = j
  · rw [if_pos e]; exact own_addn hB h hc j
  · rw [if_neg e]; obtain ⟨n, q, h1, h2⟩ := h i; exact ⟨n, q, h1, by omega⟩
theorem own_nn {y : Int32 → UInt64} {B : Int} (hB : B ≤ 100000) (h : own_W y B) {c : Int64} (hc : 0 ≤ c.toInt ∧ c.toInt ≤ 255) (j : Int32) : NoNaN64 (FP.dadd (y j) (FP.l2d c)) := by
  obtain ⟨n, e, -⟩ := own_addn hB h hc j; exact nn_w e
theorem own_mm {y : Int32 → UInt64} {B : Int} (h : own_W y B) {w : UInt64} (hw : Fin64 w) (j : Int32) : NoNaN64 (FP.dmul (y j) w) := by
  obtain ⟨n, e, -⟩ := h j; rw [e]; exact dmul_out (l2d_fin n) hw
theorem own_mask (x m : Int32) (k : Nat) (hk : k ≤ 31) (hm : m.toBitVec.toNat = 2 ^ k - 1) : ((x &&& m).toInt64).toInt = x.toInt % (2 ^ k : Nat) := by rw [c_i2l]; exact c_mask x m k hk hm
theorem own_sh (x : Int32) : Fin64 (FP.dsub FP.dconst1 (FP.ddiv (FP.i2d ((x &&& 31) - 8)) 4620693217682128896)) ∧ NoNaN64 (FP.ddiv (FP.i2d ((x &&& 31) - 8)) 4620693217682128896) := by
  have e : (x &&& 31).toInt = x.toInt % (2 ^ 5 : Nat) := c_mask x 31 5 (by decide) (by decide)
  have key : ∀ k : Fin 32, Fin64 (FP.dsub FP.dconst1 (FP.ddiv (FP.i2d ((Int32.ofNat k.1) - 8)) 4620693217682128896)) ∧ NoNaN64 (FP.ddiv (FP.i2d ((Int32.ofNat k.1) - 8)) 4620693217682128896) := by unfold Fin64 NoNaN64; decide +kernel
  have q : (x &&& 31) = Int32.ofNat (x.toInt % 32).toNat := by
    refine Int32.toInt_inj.mp ?_
    rw [e, Int32.toInt_ofNat_small (by omega)]
    have : (2 ^ 5 : Nat) = 32 := by decide
    omega
  rw [q]
  exact key ⟨(x.toInt % 32).toNat, by omega⟩
theorem own_from (x : Int32) : (((x &&& 3) % 3) - 1) = -1 ∨ (((x &&& 3) % 3) - 1) = 0 ∨ (((x &&& 3) % 3) - 1) = 1 := by
  have e : (x &&& 3).toInt = x.toInt % (2 ^ 2 : Nat) := c_mask x 3 2 (by decide) (by decide)
  rcases (by omega : (x &&& 3).toInt = 0 ∨ (x &&& 3).toInt = 1 ∨ (x &&& 3).toInt = 2 ∨ (x &&& 3).toInt = 3) with h | h | h | h
  · have q : (x &&& 3) = 0 := Int32.toInt_inj.mp (h.trans (by decide)); rw [q]; decide
  · have q : (x &&& 3) = 1 := Int32.toInt_inj.mp (h.trans (by decide)); rw [q]; decide
  · have q : (x &&& 3) = 2 := Int32.toInt_inj.mp (h.trans (by decide)); rw [q]; decide
  · have q : (x &&& 3) = 3 := Int32.toInt_inj.mp (h.trans (by decide)); rw [q]; decide
theorem tw0 {Z : State} {a0 : Array Value} (hw : ∀ d ∈ tables_1, d.before a0 Z = true) : (Jvm.Cond.constantDouble "com/example/quench/quench/PheromonesEvaporatePinLaw" (7 : Nat) (4620693217682128896 : UInt64)).before a0 Z = true := hw _ (List.mem_of_getElem? (i := 0) rfl)
theorem tw1 {Z : State} {a0 : Array Value} (hw : ∀ d ∈ tables_1, d.before a0 Z = true) : (Jvm.Cond.classLink "com/example/quench/quench/PheromonesEvaporatePinLaw" (9 : Nat) "[I").before a0 Z = true := hw _ (List.mem_of_getElem? (i := 1) rfl)
theorem tw2 {Z : State} {a0 : Array Value} (hw : ∀ d ∈ tables_1, d.before a0 Z = true) : (Jvm.Cond.arrayOver (Jvm.ClassFile.FieldType.array Jvm.ClassFile.FieldType.int)).before a0 Z = true := hw _ (List.mem_of_getElem? (i := 2) rfl)
theorem tw3 {Z : State} {a0 : Array Value} (hw : ∀ d ∈ tables_1, d.before a0 Z = true) : (Jvm.Cond.arrayClass Jvm.ClassFile.FieldType.int).before a0 Z = true := hw _ (List.mem_of_getElem? (i := 3) rfl)
theorem tw5 {Z : State} {a0 : Array Value} (hw : ∀ d ∈ tables_1, d.before a0 Z = true) : (Jvm.Cond.classLink "com/example/quench/quench/PheromonesEvaporatePinLaw" (11 : Nat) "com/example/quench/quench/Pheromones").before a0 Z = true := hw _ (List.mem_of_getElem? (i := 5) rfl)
theorem tw6 {Z : State} {a0 : Array Value} (hw : ∀ d ∈ tables_1, d.before a0 Z = true) : (Jvm.Cond.instantiable "com/example/quench/quench/Pheromones" (2 : Nat)).before a0 Z = true := hw _ (List.mem_of_getElem? (i := 6) rfl)
theorem tw7 {Z : State} {a0 : Array Value} (hw : ∀ d ∈ tables_1, d.before a0 Z = true) : (Jvm.Cond.initialized "com/example/quench/quench/Pheromones").before a0 Z = true := hw _ (List.mem_of_getElem? (i := 7) rfl)
theorem tw8 {Z : State} {a0 : Array Value} (hw : ∀ d ∈ tables_1, d.before a0 Z = true) : (Jvm.Cond.methodLink "com/example/quench/quench/PheromonesEvaporatePinLaw" (13 : Nat) ({ cls := "com/example/quench/quench/Pheromones", name := "<init>", desc := "(IID)V" } : Jvm.MethodName)).before a0 Z = true := hw _ (List.mem_of_getElem? (i := 8) rfl)
theorem tw9 {Z : State} {a0 : Array Value} (hw : ∀ d ∈ tables_1, d.before a0 Z = true) : (Jvm.Cond.instanceMethod ({ cls := "com/example/quench/quench/Pheromones", name := "<init>", desc := "(IID)V" } : Jvm.MethodName)).before a0 Z = true := hw _ (List.mem_of_getElem? (i := 9) rfl)
theorem tw10 {Z : State} {a0 : Array Value} (hw : ∀ d ∈ tables_1, d.before a0 Z = true) : (Jvm.Cond.code ({ cls := "com/example/quench/quench/Pheromones", name := "<init>", desc := "(IID)V" } : Jvm.MethodName) prog_40_method_1_code (9 : Nat) (Option.none : Option Jvm.ClassFile.FieldType)).before a0 Z = true := hw _ (List.mem_of_getElem? (i := 10) rfl)
theorem tw11 {Z : State} {a0 : Array Value} (hw : ∀ d ∈ tables_1, d.before a0 Z = true) : (Jvm.Cond.methodLink "com/example/quench/quench/Pheromones" (1 : Nat) ({ cls := "java/lang/Object", name := "<init>", desc := "()V" } : Jvm.MethodName)).before a0 Z = true := hw _ (List.mem_of_getElem? (i := 11) rfl)
theorem tw12 {Z : State} {a0 : Array Value} (hw : ∀ d ∈ tables_1, d.before a0 Z = true) : (Jvm.Cond.instanceMethod ({ cls := "java/lang/Object", name := "<init>", desc := "()V" } : Jvm.MethodName)).before a0 Z = true := hw _ (List.mem_of_getElem? (i := 12) rfl)
theorem tw13 {Z : State} {a0 : Array Value} (hw : ∀ d ∈ tables_1, d.before a0 Z = true) : (Jvm.Cond.code ({ cls := "java/lang/Object", name := "<init>", desc := "()V" } : Jvm.MethodName) object_method_1_code (1 : Nat) (Option.none : Option Jvm.ClassFile.FieldType)).before a0 Z = true := hw _ (List.mem_of_getElem? (i := 13) rfl)
theorem tw14 {Z : State} {a0 : Array Value} (hw : ∀ d ∈ tables_1, d.before a0 Z = true) : (Jvm.Cond.fieldLink "com/example/quench/quench/Pheromones" (7 : Nat) "com/example/quench/quench/Pheromones" "tasks" "I").before a0 Z = true := hw _ (List.mem_of_getElem? (i := 14) rfl)
theorem tw15 {Z : State} {a0 : Array Value} (hw : ∀ d ∈ tables_1, d.before a0 Z = true) : (Jvm.Cond.laysFinal "com/example/quench/quench/Pheromones" "com/example/quench/quench/Pheromones" "tasks" "I").before a0 Z = true := hw _ (List.mem_of_getElem? (i := 15) rfl)
theorem tw16 {Z : State} {a0 : Array Value} (hw : ∀ d ∈ tables_1, d.before a0 Z = true) : (Jvm.Cond.classLink "com/example/quench/quench/Pheromones" (13 : Nat) "[[D").before a0 Z = true := hw _ (List.mem_of_getElem? (i := 16) rfl)
theorem tw17 {Z : State} {a0 : Array Value} (hw : ∀ d ∈ tables_1, d.before a0 Z = true) : (Jvm.Cond.arrayOver (Jvm.ClassFile.FieldType.array Jvm.ClassFile.FieldType.double)).before a0 Z = true := hw _ (List.mem_of_getElem? (i := 17) rfl)
theorem tw18 {Z : State} {a0 : Array Value} (hw : ∀ d ∈ tables_1, d.before a0 Z = true) : (Jvm.Cond.arrayClass Jvm.ClassFile.FieldType.double).before a0 Z = true := hw _ (List.mem_of_getElem? (i := 18) rfl)
theorem tw19 {Z : State} {a0 : Array Value} (hw : ∀ d ∈ tables_1, d.before a0 Z = true) : (Jvm.Cond.fieldLink "com/example/quench/quench/Pheromones" (15 : Nat) "com/example/quench/quench/Pheromones" "trails" "[[D").before a0 Z = true := hw _ (List.mem_of_getElem? (i := 19) rfl)
theorem tw20 {Z : State} {a0 : Array Value} (hw : ∀ d ∈ tables_1, d.before a0 Z = true) : (Jvm.Cond.laysFinal "com/example/quench/quench/Pheromones" "com/example/quench/quench/Pheromones" "trails" "[[D").before a0 Z = true := hw _ (List.mem_of_getElem? (i := 20) rfl)
theorem tw21 {Z : State} {a0 : Array Value} (hw : ∀ d ∈ tables_1, d.before a0 Z = true) : (Jvm.Cond.methodLink "com/example/quench/quench/Pheromones" (18 : Nat) ({ cls := "java/util/Arrays", name := "fill", desc := "([DD)V" } : Jvm.MethodName)).before a0 Z = true := hw _ (List.mem_of_getElem? (i := 21) rfl)
theorem tw22 {Z : State} {a0 : Array Value} (hw : ∀ d ∈ tables_1, d.before a0 Z = true) : (Jvm.Cond.static ({ cls := "java/util/Arrays", name := "fill", desc := "([DD)V" } : Jvm.MethodName)).before a0 Z = true := hw _ (List.mem_of_getElem? (i := 22) rfl)
theorem tw23 {Z : State} {a0 : Array Value} (hw : ∀ d ∈ tables_1, d.before a0 Z = true) : (Jvm.Cond.initialized "java/util/Arrays").before a0 Z = true := hw _ (List.mem_of_getElem? (i := 23) rfl)
theorem tw24 {Z : State} {a0 : Array Value} (hw : ∀ d ∈ tables_1, d.before a0 Z = true) : (Jvm.Cond.code ({ cls := "java/util/Arrays", name := "fill", desc := "([DD)V" } : Jvm.MethodName) jdk_65_method_113_code (5 : Nat) (Option.none : Option Jvm.ClassFile.FieldType)).before a0 Z = true := hw _ (List.mem_of_getElem? (i := 24) rfl)
theorem tw25 {Z : State} {a0 : Array Value} (hw : ∀ d ∈ tables_1, d.before a0 Z = true) : (Jvm.Cond.classLink "com/example/quench/quench/PheromonesEvaporatePinLaw" (16 : Nat) "com/example/quench/quench/Plan").before a0 Z = true := hw _ (List.mem_of_getElem? (i := 25) rfl)
theorem tw26 {Z : State} {a0 : Array Value} (hw : ∀ d ∈ tables_1, d.before a0 Z = true) : (Jvm.Cond.instantiable "com/example/quench/quench/Plan" (1 : Nat)).before a0 Z = true := hw _ (List.mem_of_getElem? (i := 26) rfl)
theorem tw27 {Z : State} {a0 : Array Value} (hw : ∀ d ∈ tables_1, d.before a0 Z = true) : (Jvm.Cond.initialized "com/example/quench/quench/Plan").before a0 Z = true := hw _ (List.mem_of_getElem? (i := 27) rfl)
theorem tw28 {Z : State} {a0 : Array Value} (hw : ∀ d ∈ tables_1, d.before a0 Z = true) : (Jvm.Cond.methodLink "com/example/quench/quench/PheromonesEvaporatePinLaw" (18 : Nat) ({ cls := "com/example/quench/quench/Plan", name := "<init>", desc := "([[I)V" } : Jvm.MethodName)).before a0 Z = true := hw _ (List.mem_of_getElem? (i := 28) rfl)
theorem tw29 {Z : State} {a0 : Array Value} (hw : ∀ d ∈ tables_1, d.before a0 Z = true) : (Jvm.Cond.instanceMethod ({ cls := "com/example/quench/quench/Plan", name := "<init>", desc := "([[I)V" } : Jvm.MethodName)).before a0 Z = true := hw _ (List.mem_of_getElem? (i := 29) rfl)
theorem tw30 {Z : State} {a0 : Array Value} (hw : ∀ d ∈ tables_1, d.before a0 Z = true) : (Jvm.Cond.code ({ cls := "com/example/quench/quench/Plan", name := "<init>", desc := "([[I)V" } : Jvm.MethodName) prog_42_method_1_code (7 : Nat) (Option.none : Option Jvm.ClassFile.FieldType)).before a0 Z = true := hw _ (List.mem_of_getElem? (i := 30) rfl)
theorem tw31 {Z : State} {a0 : Array Value} (hw : ∀ d ∈ tables_1, d.before a0 Z = true) : (Jvm.Cond.methodLink "com/example/quench/quench/Plan" (1 : Nat) ({ cls := "java/lang/Object", name := "<init>", desc := "()V" } : Jvm.MethodName)).before a0 Z = true := hw _ (List.mem_of_getElem? (i := 31) rfl)
theorem tw32 {Z : State} {a0 : Array Value} (hw : ∀ d ∈ tables_1, d.before a0 Z = true) : (Jvm.Cond.classLink "com/example/quench/quench/Plan" (7 : Nat) "[I").before a0 Z = true := hw _ (List.mem_of_getElem? (i := 32) rfl)
theorem tw33 {Z : State} {a0 : Array Value} (hw : ∀ d ∈ tables_1, d.before a0 Z = true) : (Jvm.Cond.fieldLink "com/example/quench/quench/Plan" (9 : Nat) "com/example/quench/quench/Plan" "routes" "[[I").before a0 Z = true := hw _ (List.mem_of_getElem? (i := 33) rfl)
theorem tw34 {Z : State} {a0 : Array Value} (hw : ∀ d ∈ tables_1, d.before a0 Z = true) : (Jvm.Cond.laysFinal "com/example/quench/quench/Plan" "com/example/quench/quench/Plan" "routes" "[[I").before a0 Z = true := hw _ (List.mem_of_getElem? (i := 34) rfl)
theorem tw35 {Z : State} {a0 : Array Value} (hw : ∀ d ∈ tables_1, d.before a0 Z = true) : (Jvm.Cond.methodLink "com/example/quench/quench/Plan" (21 : Nat) ({ cls := "[I", name := "clone", desc := "()Ljava/lang/Object;" } : Jvm.MethodName)).before a0 Z = true := hw _ (List.mem_of_getElem? (i := 35) rfl)
theorem tw36 {Z : State} {a0 : Array Value} (hw : ∀ d ∈ tables_1, d.before a0 Z = true) : (Jvm.Cond.sameMethod "[I" "java/lang/Object" "clone" "()Ljava/lang/Object;").before a0 Z = true := hw _ (List.mem_of_getElem? (i := 36) rfl)
theorem tw38 {Z : State} {a0 : Array Value} (hw : ∀ d ∈ tables_1, d.before a0 Z = true) : (Jvm.Cond.instanceMethod ({ cls := "java/lang/Object", name := "clone", desc := "()Ljava/lang/Object;" } : Jvm.MethodName)).before a0 Z = true := hw _ (List.mem_of_getElem? (i := 38) rfl)
theorem tw39 {Z : State} {a0 : Array Value} (hw : ∀ d ∈ tables_1, d.before a0 Z = true) : (Jvm.Cond.selects "[I" ({ cls := "[I", name := "clone", desc := "()Ljava/lang/Object;" } : Jvm.MethodName) ({ cls := "java/lang/Object", name := "clone", desc := "()Ljava/lang/Object;" } : Jvm.MethodName)).before a0 Z = true := hw _ (List.mem_of_getElem? (i := 39) rfl)
theorem tw40 {Z : State} {a0 : Array Value} (hw : ∀ d ∈ tables_1, d.before a0 Z = true) : (Jvm.Cond.native ({ cls := "java/lang/Object", name := "clone", desc := "()Ljava/lang/Object;" } : Jvm.MethodName)).before a0 Z = true := hw _ (List.mem_of_getElem? (i := 40) rfl)
theorem tw41 {Z : State} {a0 : Array Value} (hw : ∀ d ∈ tables_1, d.before a0 Z = true) : (Jvm.Cond.castable "[I" "java/lang/Cloneable").before a0 Z = true := hw _ (List.mem_of_getElem? (i := 41) rfl)
theorem tw42 {Z : State} {a0 : Array Value} (hw : ∀ d ∈ tables_1, d.before a0 Z = true) : (Jvm.Cond.methodLink "com/example/quench/quench/PheromonesEvaporatePinLaw" (21 : Nat) ({ cls := "com/example/quench/quench/Pheromones", name := "deposit", desc := "(Lcom/example/quench/quench/Plan;D)V" } : Jvm.MethodName)).before a0 Z = true := hw _ (List.mem_of_getElem? (i := 42) rfl)
theorem tw43 {Z : State} {a0 : Array Value} (hw : ∀ d ∈ tables_1, d.before a0 Z = true) : (Jvm.Cond.declares ({ cls := "com/example/quench/quench/Pheromones", name := "deposit", desc := "(Lcom/example/quench/quench/Plan;D)V" } : Jvm.MethodName)).before a0 Z = true := hw _ (List.mem_of_getElem? (i := 43) rfl)
theorem tw44 {Z : State} {a0 : Array Value} (hw : ∀ d ∈ tables_1, d.before a0 Z = true) : (Jvm.Cond.instanceMethod ({ cls := "com/example/quench/quench/Pheromones", name := "deposit", desc := "(Lcom/example/quench/quench/Plan;D)V" } : Jvm.MethodName)).before a0 Z = true := hw _ (List.mem_of_getElem? (i := 44) rfl)
theorem tw45 {Z : State} {a0 : Array Value} (hw : ∀ d ∈ tables_1, d.before a0 Z = true) : (Jvm.Cond.selects "com/example/quench/quench/Pheromones" ({ cls := "com/example/quench/quench/Pheromones", name := "deposit", desc := "(Lcom/example/quench/quench/Plan;D)V" } : Jvm.MethodName) ({ cls := "com/example/quench/quench/Pheromones", name := "deposit", desc := "(Lcom/example/quench/quench/Plan;D)V" } : Jvm.MethodName)).before a0 Z = true := hw _ (List.mem_of_getElem? (i := 45) rfl)
theorem tw46 {Z : State} {a0 : Array Value} (hw : ∀ d ∈ tables_1, d.before a0 Z = true) : (Jvm.Cond.code ({ cls := "com/example/quench/quench/Pheromones", name := "deposit", desc := "(Lcom/example/quench/quench/Plan;D)V" } : Jvm.MethodName) prog_40_method_5_code (8 : Nat) (Option.none : Option Jvm.ClassFile.FieldType)).before a0 Z = true := hw _ (List.mem_of_getElem? (i := 46) rfl)
theorem tw47 {Z : State} {a0 : Array Value} (hw : ∀ d ∈ tables_1, d.before a0 Z = true) : (Jvm.Cond.methodLink "com/example/quench/quench/Pheromones" (28 : Nat) ({ cls := "com/example/quench/quench/Plan", name := "robots", desc := "()I" } : Jvm.MethodName)).before a0 Z = true := hw _ (List.mem_of_getElem? (i := 47) rfl)
theorem tw48 {Z : State} {a0 : Array Value} (hw : ∀ d ∈ tables_1, d.before a0 Z = true) : (Jvm.Cond.declares ({ cls := "com/example/quench/quench/Plan", name := "robots", desc := "()I" } : Jvm.MethodName)).before a0 Z = true := hw _ (List.mem_of_getElem? (i := 48) rfl)
theorem tw49 {Z : State} {a0 : Array Value} (hw : ∀ d ∈ tables_1, d.before a0 Z = true) : (Jvm.Cond.instanceMethod ({ cls := "com/example/quench/quench/Plan", name := "robots", desc := "()I" } : Jvm.MethodName)).before a0 Z = true := hw _ (List.mem_of_getElem? (i := 49) rfl)
theorem tw50 {Z : State} {a0 : Array Value} (hw : ∀ d ∈ tables_1, d.before a0 Z = true) : (Jvm.Cond.selects "com/example/quench/quench/Plan" ({ cls := "com/example/quench/quench/Plan", name := "robots", desc := "()I" } : Jvm.MethodName) ({ cls := "com/example/quench/quench/Plan", name := "robots", desc := "()I" } : Jvm.MethodName)).before a0 Z = true := hw _ (List.mem_of_getElem? (i := 50) rfl)
theorem tw51 {Z : State} {a0 : Array Value} (hw : ∀ d ∈ tables_1, d.before a0 Z = true) : (Jvm.Cond.code ({ cls := "com/example/quench/quench/Plan", name := "robots", desc := "()I" } : Jvm.MethodName) prog_42_method_2_code (1 : Nat) (Option.some Jvm.ClassFile.FieldType.int)).before a0 Z = true := hw _ (List.mem_of_getElem? (i := 51) rfl)
theorem tw52 {Z : State} {a0 : Array Value} (hw : ∀ d ∈ tables_1, d.before a0 Z = true) : (Jvm.Cond.methodLink "com/example/quench/quench/Pheromones" (34 : Nat) ({ cls := "com/example/quench/quench/Plan", name := "routeLength", desc := "(I)I" } : Jvm.MethodName)).before a0 Z = true := hw _ (List.mem_of_getElem? (i := 52) rfl)
theorem tw53 {Z : State} {a0 : Array Value} (hw : ∀ d ∈ tables_1, d.before a0 Z = true) : (Jvm.Cond.declares ({ cls := "com/example/quench/quench/Plan", name := "routeLength", desc := "(I)I" } : Jvm.MethodName)).before a0 Z = true := hw _ (List.mem_of_getElem? (i := 53) rfl)
theorem tw54 {Z : State} {a0 : Array Value} (hw : ∀ d ∈ tables_1, d.before a0 Z = true) : (Jvm.Cond.instanceMethod ({ cls := "com/example/quench/quench/Plan", name := "routeLength", desc := "(I)I" } : Jvm.MethodName)).before a0 Z = true := hw _ (List.mem_of_getElem? (i := 54) rfl)
theorem tw55 {Z : State} {a0 : Array Value} (hw : ∀ d ∈ tables_1, d.before a0 Z = true) : (Jvm.Cond.selects "com/example/quench/quench/Plan" ({ cls := "com/example/quench/quench/Plan", name := "routeLength", desc := "(I)I" } : Jvm.MethodName) ({ cls := "com/example/quench/quench/Plan", name := "routeLength", desc := "(I)I" } : Jvm.MethodName)).before a0 Z = true := hw _ (List.mem_of_getElem? (i := 55) rfl)
theorem tw56 {Z : State} {a0 : Array Value} (hw : ∀ d ∈ tables_1, d.before a0 Z = true) : (Jvm.Cond.code ({ cls := "com/example/quench/quench/Plan", name := "routeLength", desc := "(I)I" } : Jvm.MethodName) prog_42_method_3_code (2 : Nat) (Option.some Jvm.ClassFile.FieldType.int)).before a0 Z = true := hw _ (List.mem_of_getElem? (i := 56) rfl)
theorem tw57 {Z : State} {a0 : Array Value} (hw : ∀ d ∈ tables_1, d.before a0 Z = true) : (Jvm.Cond.methodLink "com/example/quench/quench/Pheromones" (38 : Nat) ({ cls := "com/example/quench/quench/Plan", name := "task", desc := "(II)I" } : Jvm.MethodName)).before a0 Z = true := hw _ (List.mem_of_getElem? (i := 57) rfl)
theorem tw58 {Z : State} {a0 : Array Value} (hw : ∀ d ∈ tables_1, d.before a0 Z = true) : (Jvm.Cond.declares ({ cls := "com/example/quench/quench/Plan", name := "task", desc := "(II)I" } : Jvm.MethodName)).before a0 Z = true := hw _ (List.mem_of_getElem? (i := 58) rfl)
theorem tw59 {Z : State} {a0 : Array Value} (hw : ∀ d ∈ tables_1, d.before a0 Z = true) : (Jvm.Cond.instanceMethod ({ cls := "com/example/quench/quench/Plan", name := "task", desc := "(II)I" } : Jvm.MethodName)).before a0 Z = true := hw _ (List.mem_of_getElem? (i := 59) rfl)
theorem tw60 {Z : State} {a0 : Array Value} (hw : ∀ d ∈ tables_1, d.before a0 Z = true) : (Jvm.Cond.selects "com/example/quench/quench/Plan" ({ cls := "com/example/quench/quench/Plan", name := "task", desc := "(II)I" } : Jvm.MethodName) ({ cls := "com/example/quench/quench/Plan", name := "task", desc := "(II)I" } : Jvm.MethodName)).before a0 Z = true := hw _ (List.mem_of_getElem? (i := 60) rfl)
theorem tw61 {Z : State} {a0 : Array Value} (hw : ∀ d ∈ tables_1, d.before a0 Z = true) : (Jvm.Cond.code ({ cls := "com/example/quench/quench/Plan", name := "task", desc := "(II)I" } : Jvm.MethodName) prog_42_method_4_code (3 : Nat) (Option.some Jvm.ClassFile.FieldType.int)).before a0 Z = true := hw _ (List.mem_of_getElem? (i := 61) rfl)
theorem tw62 {Z : State} {a0 : Array Value} (hw : ∀ d ∈ tables_1, d.before a0 Z = true) : (Jvm.Cond.methodLink "com/example/quench/quench/Pheromones" (24 : Nat) ({ cls := "com/example/quench/quench/Pheromones", name := "move", desc := "(II)I" } : Jvm.MethodName)).before a0 Z = true := hw _ (List.mem_of_getElem? (i := 62) rfl)
theorem tw63 {Z : State} {a0 : Array Value} (hw : ∀ d ∈ tables_1, d.before a0 Z = true) : (Jvm.Cond.instanceMethod ({ cls := "com/example/quench/quench/Pheromones", name := "move", desc := "(II)I" } : Jvm.MethodName)).before a0 Z = true := hw _ (List.mem_of_getElem? (i := 63) rfl)
theorem tw64 {Z : State} {a0 : Array Value} (hw : ∀ d ∈ tables_1, d.before a0 Z = true) : (Jvm.Cond.privateMethod ({ cls := "com/example/quench/quench/Pheromones", name := "move", desc := "(II)I" } : Jvm.MethodName)).before a0 Z = true := hw _ (List.mem_of_getElem? (i := 64) rfl)
theorem tw65 {Z : State} {a0 : Array Value} (hw : ∀ d ∈ tables_1, d.before a0 Z = true) : (Jvm.Cond.code ({ cls := "com/example/quench/quench/Pheromones", name := "move", desc := "(II)I" } : Jvm.MethodName) prog_40_method_3_code (3 : Nat) (Option.some Jvm.ClassFile.FieldType.int)).before a0 Z = true := hw _ (List.mem_of_getElem? (i := 65) rfl)
theorem tw66 {Z : State} {a0 : Array Value} (hw : ∀ d ∈ tables_1, d.before a0 Z = true) : (Jvm.Cond.methodLink "com/example/quench/quench/PheromonesEvaporatePinLaw" (25 : Nat) ({ cls := "com/example/quench/quench/Pheromones", name := "on", desc := "(III)D" } : Jvm.MethodName)).before a0 Z = true := hw _ (List.mem_of_getElem? (i := 66) rfl)
theorem tw67 {Z : State} {a0 : Array Value} (hw : ∀ d ∈ tables_1, d.before a0 Z = true) : (Jvm.Cond.declares ({ cls := "com/example/quench/quench/Pheromones", name := "on", desc := "(III)D" } : Jvm.MethodName)).before a0 Z = true := hw _ (List.mem_of_getElem? (i := 67) rfl)
theorem tw68 {Z : State} {a0 : Array Value} (hw : ∀ d ∈ tables_1, d.before a0 Z = true) : (Jvm.Cond.instanceMethod ({ cls := "com/example/quench/quench/Pheromones", name := "on", desc := "(III)D" } : Jvm.MethodName)).before a0 Z = true := hw _ (List.mem_of_getElem? (i := 68) rfl)
theorem tw69 {Z : State} {a0 : Array Value} (hw : ∀ d ∈ tables_1, d.before a0 Z = true) : (Jvm.Cond.selects "com/example/quench/quench/Pheromones" ({ cls := "com/example/quench/quench/Pheromones", name := "on", desc := "(III)D" } : Jvm.MethodName) ({ cls := "com/example/quench/quench/Pheromones", name := "on", desc := "(III)D" } : Jvm.MethodName)).before a0 Z = true := hw _ (List.mem_of_getElem? (i := 69) rfl)
theorem tw70 {Z : State} {a0 : Array Value} (hw : ∀ d ∈ tables_1, d.before a0 Z = true) : (Jvm.Cond.code ({ cls := "com/example/quench/quench/Pheromones", name := "on", desc := "(III)D" } : Jvm.MethodName) prog_40_method_2_code (4 : Nat) (Option.some Jvm.ClassFile.FieldType.double)).before a0 Z = true := hw _ (List.mem_of_getElem? (i := 70) rfl)
theorem tw71 {Z : State} {a0 : Array Value} (hw : ∀ d ∈ tables_1, d.before a0 Z = true) : (Jvm.Cond.methodLink "com/example/quench/quench/PheromonesEvaporatePinLaw" (29 : Nat) ({ cls := "com/example/quench/quench/Pheromones", name := "evaporate", desc := "(D)V" } : Jvm.MethodName)).before a0 Z = true := hw _ (List.mem_of_getElem? (i := 71) rfl)
theorem tw72 {Z : State} {a0 : Array Value} (hw : ∀ d ∈ tables_1, d.before a0 Z = true) : (Jvm.Cond.declares ({ cls := "com/example/quench/quench/Pheromones", name := "evaporate", desc := "(D)V" } : Jvm.MethodName)).before a0 Z = true := hw _ (List.mem_of_getElem? (i := 72) rfl)
theorem tw73 {Z : State} {a0 : Array Value} (hw : ∀ d ∈ tables_1, d.before a0 Z = true) : (Jvm.Cond.instanceMethod ({ cls := "com/example/quench/quench/Pheromones", name := "evaporate", desc := "(D)V" } : Jvm.MethodName)).before a0 Z = true := hw _ (List.mem_of_getElem? (i := 73) rfl)
theorem tw74 {Z : State} {a0 : Array Value} (hw : ∀ d ∈ tables_1, d.before a0 Z = true) : (Jvm.Cond.selects "com/example/quench/quench/Pheromones" ({ cls := "com/example/quench/quench/Pheromones", name := "evaporate", desc := "(D)V" } : Jvm.MethodName) ({ cls := "com/example/quench/quench/Pheromones", name := "evaporate", desc := "(D)V" } : Jvm.MethodName)).before a0 Z = true := hw _ (List.mem_of_getElem? (i := 74) rfl)
theorem tw75 {Z : State} {a0 : Array Value} (hw : ∀ d ∈ tables_1, d.before a0 Z = true) : (Jvm.Cond.code ({ cls := "com/example/quench/quench/Pheromones", name := "evaporate", desc := "(D)V" } : Jvm.MethodName) prog_40_method_4_code (8 : Nat) (Option.none : Option Jvm.ClassFile.FieldType)).before a0 Z = true := hw _ (List.mem_of_getElem? (i := 75) rfl)
theorem pn0 : plainFor (⟨"java/util/Arrays", "fill", "([DD)V"⟩ : MethodName) = true := plainFor_of_name (by first | (simp [plainName, overriddenIn]; done) | decide +kernel)
theorem d3_0 : decode jdk_65_method_113_code 0 = .ok (.iconst 0, 1) := by decide +kernel
theorem d3_1 : decode jdk_65_method_113_code 1 = .ok (.istore_n 3, 1) := by decide +kernel
theorem d3_2 : decode jdk_65_method_113_code 2 = .ok (.aload_n 0, 1) := by decide +kernel
theorem d3_3 : decode jdk_65_method_113_code 3 = .ok (.arraylength, 1) := by decide +kernel
theorem d3_4 : decode jdk_65_method_113_code 4 = .ok (.istore 4, 2) := by decide +kernel
theorem d3_6 : decode jdk_65_method_113_code 6 = .ok (.iload_n 3, 1) := by decide +kernel
theorem d3_7 : decode jdk_65_method_113_code 7 = .ok (.iload 4, 2) := by decide +kernel
theorem d3_9 : decode jdk_65_method_113_code 9 = .ok (.if_icmp .ge 13, 3) := by decide +kernel
theorem d3_12 : decode jdk_65_method_113_code 12 = .ok (.aload_n 0, 1) := by decide +kernel
theorem d3_13 : decode jdk_65_method_113_code 13 = .ok (.iload_n 3, 1) := by decide +kernel
theorem d3_14 : decode jdk_65_method_113_code 14 = .ok (.dload_n 1, 1) := by decide +kernel
theorem d3_15 : decode jdk_65_method_113_code 15 = .ok (.dastore, 1) := by decide +kernel
theorem d3_16 : decode jdk_65_method_113_code 16 = .ok (.iinc 3 1, 3) := by decide +kernel
theorem d3_19 : decode jdk_65_method_113_code 19 = .ok (.goto (-13), 3) := by decide +kernel
theorem d3_22 : decode jdk_65_method_113_code 22 = .ok (.return_, 1) := by decide +kernel
theorem pn1 : plainFor (⟨"com/example/quench/quench/Pheromones", "<init>", "(IID)V"⟩ : MethodName) = true := plainFor_of_name (by first | (simp [plainName, overriddenIn]; done) | decide +kernel)
theorem d1_0 : decode prog_40_method_1_code 0 = .ok (.aload_n 0, 1) := by decide +kernel
theorem d1_1 : decode prog_40_method_1_code 1 = .ok (.invokespecial 1, 3) := by decide +kernel
theorem d1_4 : decode prog_40_method_1_code 4 = .ok (.aload_n 0, 1) := by decide +kernel
theorem d1_5 : decode prog_40_method_1_code 5 = .ok (.iload_n 2, 1) := by decide +kernel
theorem d1_6 : decode prog_40_method_1_code 6 = .ok (.putfield 7, 3) := by decide +kernel
theorem d1_9 : decode prog_40_method_1_code 9 = .ok (.aload_n 0, 1) := by decide +kernel
theorem d1_10 : decode prog_40_method_1_code 10 = .ok (.iload_n 1, 1) := by decide +kernel
theorem d1_11 : decode prog_40_method_1_code 11 = .ok (.iload_n 2, 1) := by decide +kernel
theorem d1_12 : decode prog_40_method_1_code 12 = .ok (.iconst 1, 1) := by decide +kernel
theorem d1_13 : decode prog_40_method_1_code 13 = .ok (.iadd, 1) := by decide +kernel
theorem d1_14 : decode prog_40_method_1_code 14 = .ok (.iload_n 2, 1) := by decide +kernel
theorem d1_15 : decode prog_40_method_1_code 15 = .ok (.imul, 1) := by decide +kernel
theorem d1_16 : decode prog_40_method_1_code 16 = .ok (.multianewarray 13 2, 4) := by decide +kernel
theorem d1_20 : decode prog_40_method_1_code 20 = .ok (.putfield 15, 3) := by decide +kernel
theorem d1_23 : decode prog_40_method_1_code 23 = .ok (.aload_n 0, 1) := by decide +kernel
theorem d1_24 : decode prog_40_method_1_code 24 = .ok (.getfield 15, 3) := by decide +kernel
theorem d1_27 : decode prog_40_method_1_code 27 = .ok (.astore 5, 2) := by decide +kernel
theorem d1_29 : decode prog_40_method_1_code 29 = .ok (.aload 5, 2) := by decide +kernel
theorem d1_31 : decode prog_40_method_1_code 31 = .ok (.arraylength, 1) := by decide +kernel
theorem d1_32 : decode prog_40_method_1_code 32 = .ok (.istore 6, 2) := by decide +kernel
theorem d1_34 : decode prog_40_method_1_code 34 = .ok (.iconst 0, 1) := by decide +kernel
theorem d1_35 : decode prog_40_method_1_code 35 = .ok (.istore 7, 2) := by decide +kernel
theorem d1_37 : decode prog_40_method_1_code 37 = .ok (.iload 7, 2) := by decide +kernel
theorem d1_39 : decode prog_40_method_1_code 39 = .ok (.iload 6, 2) := by decide +kernel
theorem d1_41 : decode prog_40_method_1_code 41 = .ok (.if_icmp .ge 22, 3) := by decide +kernel
theorem d1_44 : decode prog_40_method_1_code 44 = .ok (.aload 5, 2) := by decide +kernel
theorem d1_46 : decode prog_40_method_1_code 46 = .ok (.iload 7, 2) := by decide +kernel
theorem d1_48 : decode prog_40_method_1_code 48 = .ok (.aaload, 1) := by decide +kernel
theorem d1_49 : decode prog_40_method_1_code 49 = .ok (.astore 8, 2) := by decide +kernel
theorem d1_51 : decode prog_40_method_1_code 51 = .ok (.aload 8, 2) := by decide +kernel
theorem d1_53 : decode prog_40_method_1_code 53 = .ok (.dload_n 3, 1) := by decide +kernel
theorem d1_54 : decode prog_40_method_1_code 54 = .ok (.invokestatic 18, 3) := by decide +kernel
theorem pd2 : parseMethodDescriptor "([DD)V" = some ⟨[(.array .double), .double], none⟩ := by decide +kernel
theorem d1_57 : decode prog_40_method_1_code 57 = .ok (.iinc 7 1, 3) := by decide +kernel
theorem d1_60 : decode prog_40_method_1_code 60 = .ok (.goto (-23), 3) := by decide +kernel
theorem d1_63 : decode prog_40_method_1_code 63 = .ok (.return_, 1) := by decide +kernel
theorem pn3 : plainFor (⟨"com/example/quench/quench/Plan", "<init>", "([[I)V"⟩ : MethodName) = true := plainFor_of_name (by first | (simp [plainName, overriddenIn]; done) | decide +kernel)
theorem d4_0 : decode prog_42_method_1_code 0 = .ok (.aload_n 0, 1) := by decide +kernel
theorem d4_1 : decode prog_42_method_1_code 1 = .ok (.invokespecial 1, 3) := by decide +kernel
theorem d4_4 : decode prog_42_method_1_code 4 = .ok (.aload_n 0, 1) := by decide +kernel
theorem d4_5 : decode prog_42_method_1_code 5 = .ok (.aload_n 1, 1) := by decide +kernel
theorem d4_6 : decode prog_42_method_1_code 6 = .ok (.arraylength, 1) := by decide +kernel
theorem d4_7 : decode prog_42_method_1_code 7 = .ok (.anewarray 7, 3) := by decide +kernel
theorem d4_10 : decode prog_42_method_1_code 10 = .ok (.putfield 9, 3) := by decide +kernel
theorem d4_13 : decode prog_42_method_1_code 13 = .ok (.iconst 0, 1) := by decide +kernel
theorem d4_14 : decode prog_42_method_1_code 14 = .ok (.istore_n 2, 1) := by decide +kernel
theorem d4_15 : decode prog_42_method_1_code 15 = .ok (.iload_n 2, 1) := by decide +kernel
theorem d4_16 : decode prog_42_method_1_code 16 = .ok (.aload_n 1, 1) := by decide +kernel
theorem d4_17 : decode prog_42_method_1_code 17 = .ok (.arraylength, 1) := by decide +kernel
theorem d4_18 : decode prog_42_method_1_code 18 = .ok (.if_icmp .ge 68, 3) := by decide +kernel
theorem d4_21 : decode prog_42_method_1_code 21 = .ok (.aload_n 1, 1) := by decide +kernel
theorem d4_22 : decode prog_42_method_1_code 22 = .ok (.iload_n 2, 1) := by decide +kernel
theorem d4_23 : decode prog_42_method_1_code 23 = .ok (.aaload, 1) := by decide +kernel
theorem d4_24 : decode prog_42_method_1_code 24 = .ok (.astore_n 3, 1) := by decide +kernel
theorem d4_25 : decode prog_42_method_1_code 25 = .ok (.aload_n 3, 1) := by decide +kernel
theorem d4_26 : decode prog_42_method_1_code 26 = .ok (.arraylength, 1) := by decide +kernel
theorem d4_27 : decode prog_42_method_1_code 27 = .ok (.istore 4, 2) := by decide +kernel
theorem d4_29 : decode prog_42_method_1_code 29 = .ok (.iconst 0, 1) := by decide +kernel
theorem d4_30 : decode prog_42_method_1_code 30 = .ok (.istore 5, 2) := by decide +kernel
theorem d4_32 : decode prog_42_method_1_code 32 = .ok (.iload 5, 2) := by decide +kernel
theorem d4_34 : decode prog_42_method_1_code 34 = .ok (.iload 4, 2) := by decide +kernel
theorem d4_36 : decode prog_42_method_1_code 36 = .ok (.if_icmp .ge 29, 3) := by decide +kernel
theorem d4_39 : decode prog_42_method_1_code 39 = .ok (.aload_n 3, 1) := by decide +kernel
theorem d4_40 : decode prog_42_method_1_code 40 = .ok (.iload 5, 2) := by decide +kernel
theorem d4_42 : decode prog_42_method_1_code 42 = .ok (.iaload, 1) := by decide +kernel
theorem d4_43 : decode prog_42_method_1_code 43 = .ok (.istore 6, 2) := by decide +kernel
theorem d4_45 : decode prog_42_method_1_code 45 = .ok (.iload 6, 2) := by decide +kernel
theorem d4_47 : decode prog_42_method_1_code 47 = .ok (.ifCond .ge 12, 3) := by decide +kernel
theorem d4_59 : decode prog_42_method_1_code 59 = .ok (.iinc 5 1, 3) := by decide +kernel
theorem d4_62 : decode prog_42_method_1_code 62 = .ok (.goto (-30), 3) := by decide +kernel
theorem d4_65 : decode prog_42_method_1_code 65 = .ok (.aload_n 0, 1) := by decide +kernel
theorem d4_66 : decode prog_42_method_1_code 66 = .ok (.getfield 9, 3) := by decide +kernel
theorem d4_69 : decode prog_42_method_1_code 69 = .ok (.iload_n 2, 1) := by decide +kernel
theorem d4_70 : decode prog_42_method_1_code 70 = .ok (.aload_n 1, 1) := by decide +kernel
theorem d4_71 : decode prog_42_method_1_code 71 = .ok (.iload_n 2, 1) := by decide +kernel
theorem d4_72 : decode prog_42_method_1_code 72 = .ok (.aaload, 1) := by decide +kernel
theorem d4_73 : decode prog_42_method_1_code 73 = .ok (.invokevirtual 21, 3) := by decide +kernel
theorem d4_76 : decode prog_42_method_1_code 76 = .ok (.checkcast 7, 3) := by decide +kernel
theorem d4_79 : decode prog_42_method_1_code 79 = .ok (.aastore, 1) := by decide +kernel
theorem d4_80 : decode prog_42_method_1_code 80 = .ok (.iinc 2 1, 3) := by decide +kernel
theorem d4_83 : decode prog_42_method_1_code 83 = .ok (.goto (-68), 3) := by decide +kernel
theorem d4_86 : decode prog_42_method_1_code 86 = .ok (.return_, 1) := by decide +kernel
theorem pn4 : plainFor (⟨"com/example/quench/quench/Plan", "robots", "()I"⟩ : MethodName) = true := plainFor_of_name (by first | (simp [plainName, overriddenIn]; done) | decide +kernel)
theorem d6_0 : decode prog_42_method_2_code 0 = .ok (.aload_n 0, 1) := by decide +kernel
theorem d6_1 : decode prog_42_method_2_code 1 = .ok (.getfield 9, 3) := by decide +kernel
theorem d6_4 : decode prog_42_method_2_code 4 = .ok (.arraylength, 1) := by decide +kernel
theorem d6_5 : decode prog_42_method_2_code 5 = .ok (.ireturn, 1) := by decide +kernel
theorem pn5 : plainFor (⟨"com/example/quench/quench/Plan", "routeLength", "(I)I"⟩ : MethodName) = true := plainFor_of_name (by first | (simp [plainName, overriddenIn]; done) | decide +kernel)
theorem d7_0 : decode prog_42_method_3_code 0 = .ok (.aload_n 0, 1) := by decide +kernel
theorem d7_1 : decode prog_42_method_3_code 1 = .ok (.getfield 9, 3) := by decide +kernel
theorem d7_4 : decode prog_42_method_3_code 4 = .ok (.iload_n 1, 1) := by decide +kernel
theorem d7_5 : decode prog_42_method_3_code 5 = .ok (.aaload, 1) := by decide +kernel
theorem d7_6 : decode prog_42_method_3_code 6 = .ok (.arraylength, 1) := by decide +kernel
theorem d7_7 : decode prog_42_method_3_code 7 = .ok (.ireturn, 1) := by decide +kernel
theorem pn6 : plainFor (⟨"com/example/quench/quench/Plan", "task", "(II)I"⟩ : MethodName) = true := plainFor_of_name (by first | (simp [plainName, overriddenIn]; done) | decide +kernel)
theorem d8_0 : decode prog_42_method_4_code 0 = .ok (.aload_n 0, 1) := by decide +kernel
theorem d8_1 : decode prog_42_method_4_code 1 = .ok (.getfield 9, 3) := by decide +kernel
theorem d8_4 : decode prog_42_method_4_code 4 = .ok (.iload_n 1, 1) := by decide +kernel
theorem d8_5 : decode prog_42_method_4_code 5 = .ok (.aaload, 1) := by decide +kernel
theorem d8_6 : decode prog_42_method_4_code 6 = .ok (.iload_n 2, 1) := by decide +kernel
theorem d8_7 : decode prog_42_method_4_code 7 = .ok (.iaload, 1) := by decide +kernel
theorem d8_8 : decode prog_42_method_4_code 8 = .ok (.ireturn, 1) := by decide +kernel
theorem pn7 : plainFor (⟨"com/example/quench/quench/Pheromones", "move", "(II)I"⟩ : MethodName) = true := plainFor_of_name (by first | (simp [plainName, overriddenIn]; done) | decide +kernel)
theorem d9_0 : decode prog_40_method_3_code 0 = .ok (.iload_n 1, 1) := by decide +kernel
theorem d9_1 : decode prog_40_method_3_code 1 = .ok (.iconst 1, 1) := by decide +kernel
theorem d9_2 : decode prog_40_method_3_code 2 = .ok (.iadd, 1) := by decide +kernel
theorem d9_3 : decode prog_40_method_3_code 3 = .ok (.aload_n 0, 1) := by decide +kernel
theorem d9_4 : decode prog_40_method_3_code 4 = .ok (.getfield 7, 3) := by decide +kernel
theorem d9_7 : decode prog_40_method_3_code 7 = .ok (.imul, 1) := by decide +kernel
theorem d9_8 : decode prog_40_method_3_code 8 = .ok (.iload_n 2, 1) := by decide +kernel
theorem d9_9 : decode prog_40_method_3_code 9 = .ok (.iadd, 1) := by decide +kernel
theorem d9_10 : decode prog_40_method_3_code 10 = .ok (.ireturn, 1) := by decide +kernel
theorem pn8 : plainFor (⟨"com/example/quench/quench/Pheromones", "on", "(III)D"⟩ : MethodName) = true := plainFor_of_name (by first | (simp [plainName, overriddenIn]; done) | decide +kernel)
theorem d10_0 : decode prog_40_method_2_code 0 = .ok (.aload_n 0, 1) := by decide +kernel
theorem d10_1 : decode prog_40_method_2_code 1 = .ok (.getfield 15, 3) := by decide +kernel
theorem d10_4 : decode prog_40_method_2_code 4 = .ok (.iload_n 1, 1) := by decide +kernel
theorem d10_5 : decode prog_40_method_2_code 5 = .ok (.aaload, 1) := by decide +kernel
theorem d10_6 : decode prog_40_method_2_code 6 = .ok (.aload_n 0, 1) := by decide +kernel
theorem d10_7 : decode prog_40_method_2_code 7 = .ok (.iload_n 2, 1) := by decide +kernel
theorem d10_8 : decode prog_40_method_2_code 8 = .ok (.iload_n 3, 1) := by decide +kernel
theorem d10_9 : decode prog_40_method_2_code 9 = .ok (.invokevirtual 24, 3) := by decide +kernel
theorem pd9 : parseMethodDescriptor "(II)I" = some ⟨[.int, .int], some .int⟩ := by decide +kernel
theorem d10_12 : decode prog_40_method_2_code 12 = .ok (.daload, 1) := by decide +kernel
theorem d10_13 : decode prog_40_method_2_code 13 = .ok (.dreturn, 1) := by decide +kernel
theorem pn10 : plainFor (⟨"com/example/quench/quench/Pheromones", "evaporate", "(D)V"⟩ : MethodName) = true := plainFor_of_name (by first | (simp [plainName, overriddenIn]; done) | decide +kernel)
theorem d11_0 : decode prog_40_method_4_code 0 = .ok (.aload_n 0, 1) := by decide +kernel
theorem d11_1 : decode prog_40_method_4_code 1 = .ok (.getfield 15, 3) := by decide +kernel
theorem d11_4 : decode prog_40_method_4_code 4 = .ok (.astore_n 3, 1) := by decide +kernel
theorem d11_5 : decode prog_40_method_4_code 5 = .ok (.aload_n 3, 1) := by decide +kernel
theorem d11_6 : decode prog_40_method_4_code 6 = .ok (.arraylength, 1) := by decide +kernel
theorem d11_7 : decode prog_40_method_4_code 7 = .ok (.istore 4, 2) := by decide +kernel
theorem d11_9 : decode prog_40_method_4_code 9 = .ok (.iconst 0, 1) := by decide +kernel
theorem d11_10 : decode prog_40_method_4_code 10 = .ok (.istore 5, 2) := by decide +kernel
theorem d11_12 : decode prog_40_method_4_code 12 = .ok (.iload 5, 2) := by decide +kernel
theorem d11_14 : decode prog_40_method_4_code 14 = .ok (.iload 4, 2) := by decide +kernel
theorem d11_16 : decode prog_40_method_4_code 16 = .ok (.if_icmp .ge 43, 3) := by decide +kernel
theorem d11_19 : decode prog_40_method_4_code 19 = .ok (.aload_n 3, 1) := by decide +kernel
theorem d11_20 : decode prog_40_method_4_code 20 = .ok (.iload 5, 2) := by decide +kernel
theorem d11_22 : decode prog_40_method_4_code 22 = .ok (.aaload, 1) := by decide +kernel
theorem d11_23 : decode prog_40_method_4_code 23 = .ok (.astore 6, 2) := by decide +kernel
theorem d11_25 : decode prog_40_method_4_code 25 = .ok (.iconst 0, 1) := by decide +kernel
theorem d11_26 : decode prog_40_method_4_code 26 = .ok (.istore 7, 2) := by decide +kernel
theorem d11_28 : decode prog_40_method_4_code 28 = .ok (.iload 7, 2) := by decide +kernel
theorem d11_30 : decode prog_40_method_4_code 30 = .ok (.aload 6, 2) := by decide +kernel
theorem d11_32 : decode prog_40_method_4_code 32 = .ok (.arraylength, 1) := by decide +kernel
theorem d11_33 : decode prog_40_method_4_code 33 = .ok (.if_icmp .ge 20, 3) := by decide +kernel
theorem d11_36 : decode prog_40_method_4_code 36 = .ok (.aload 6, 2) := by decide +kernel
theorem d11_38 : decode prog_40_method_4_code 38 = .ok (.iload 7, 2) := by decide +kernel
theorem d11_40 : decode prog_40_method_4_code 40 = .ok (.dup2, 1) := by decide +kernel
theorem d11_41 : decode prog_40_method_4_code 41 = .ok (.daload, 1) := by decide +kernel
theorem d11_42 : decode prog_40_method_4_code 42 = .ok (.dconst 1, 1) := by decide +kernel
theorem d11_43 : decode prog_40_method_4_code 43 = .ok (.dload_n 1, 1) := by decide +kernel
theorem d11_44 : decode prog_40_method_4_code 44 = .ok (.dsub, 1) := by decide +kernel
theorem d11_45 : decode prog_40_method_4_code 45 = .ok (.dmul, 1) := by decide +kernel
theorem d11_46 : decode prog_40_method_4_code 46 = .ok (.dastore, 1) := by decide +kernel
theorem d11_47 : decode prog_40_method_4_code 47 = .ok (.iinc 7 1, 3) := by decide +kernel
theorem d11_50 : decode prog_40_method_4_code 50 = .ok (.goto (-22), 3) := by decide +kernel
theorem d11_53 : decode prog_40_method_4_code 53 = .ok (.iinc 5 1, 3) := by decide +kernel
theorem d11_56 : decode prog_40_method_4_code 56 = .ok (.goto (-44), 3) := by decide +kernel
theorem d11_59 : decode prog_40_method_4_code 59 = .ok (.return_, 1) := by decide +kernel
theorem pn11 : plainFor (⟨"com/example/quench/quench/Pheromones", "deposit", "(Lcom/example/quench/quench/Plan;D)V"⟩ : MethodName) = true := plainFor_of_name (by first | (simp [plainName, overriddenIn]; done) | decide +kernel)
theorem d5_0 : decode prog_40_method_5_code 0 = .ok (.iconst 0, 1) := by decide +kernel
theorem d5_1 : decode prog_40_method_5_code 1 = .ok (.istore 4, 2) := by decide +kernel
theorem d5_3 : decode prog_40_method_5_code 3 = .ok (.iload 4, 2) := by decide +kernel
theorem d5_5 : decode prog_40_method_5_code 5 = .ok (.aload_n 1, 1) := by decide +kernel
theorem d5_6 : decode prog_40_method_5_code 6 = .ok (.invokevirtual 28, 3) := by decide +kernel
theorem pd12 : parseMethodDescriptor "()I" = some ⟨[], some .int⟩ := by decide +kernel
theorem d5_9 : decode prog_40_method_5_code 9 = .ok (.if_icmp .ge 66, 3) := by decide +kernel
theorem d5_12 : decode prog_40_method_5_code 12 = .ok (.iconst (-1), 1) := by decide +kernel
theorem d5_13 : decode prog_40_method_5_code 13 = .ok (.istore 5, 2) := by decide +kernel
theorem d5_15 : decode prog_40_method_5_code 15 = .ok (.iconst 0, 1) := by decide +kernel
theorem d5_16 : decode prog_40_method_5_code 16 = .ok (.istore 6, 2) := by decide +kernel
theorem d5_18 : decode prog_40_method_5_code 18 = .ok (.iload 6, 2) := by decide +kernel
theorem d5_20 : decode prog_40_method_5_code 20 = .ok (.aload_n 1, 1) := by decide +kernel
theorem d5_21 : decode prog_40_method_5_code 21 = .ok (.iload 4, 2) := by decide +kernel
theorem d5_23 : decode prog_40_method_5_code 23 = .ok (.invokevirtual 34, 3) := by decide +kernel
theorem pd13 : parseMethodDescriptor "(I)I" = some ⟨[.int], some .int⟩ := by decide +kernel
theorem d5_26 : decode prog_40_method_5_code 26 = .ok (.if_icmp .ge 43, 3) := by decide +kernel
theorem d5_29 : decode prog_40_method_5_code 29 = .ok (.aload_n 1, 1) := by decide +kernel
theorem d5_30 : decode prog_40_method_5_code 30 = .ok (.iload 4, 2) := by decide +kernel
theorem d5_32 : decode prog_40_method_5_code 32 = .ok (.iload 6, 2) := by decide +kernel
theorem d5_34 : decode prog_40_method_5_code 34 = .ok (.invokevirtual 38, 3) := by decide +kernel
theorem d5_37 : decode prog_40_method_5_code 37 = .ok (.istore 7, 2) := by decide +kernel
theorem d5_39 : decode prog_40_method_5_code 39 = .ok (.aload_n 0, 1) := by decide +kernel
theorem d5_40 : decode prog_40_method_5_code 40 = .ok (.getfield 15, 3) := by decide +kernel
theorem d5_43 : decode prog_40_method_5_code 43 = .ok (.iload 4, 2) := by decide +kernel
theorem d5_45 : decode prog_40_method_5_code 45 = .ok (.aaload, 1) := by decide +kernel
theorem d5_46 : decode prog_40_method_5_code 46 = .ok (.aload_n 0, 1) := by decide +kernel
theorem d5_47 : decode prog_40_method_5_code 47 = .ok (.iload 5, 2) := by decide +kernel
theorem d5_49 : decode prog_40_method_5_code 49 = .ok (.iload 7, 2) := by decide +kernel
theorem d5_51 : decode prog_40_method_5_code 51 = .ok (.invokevirtual 24, 3) := by decide +kernel
theorem d5_54 : decode prog_40_method_5_code 54 = .ok (.dup2, 1) := by decide +kernel
theorem d5_55 : decode prog_40_method_5_code 55 = .ok (.daload, 1) := by decide +kernel
theorem d5_56 : decode prog_40_method_5_code 56 = .ok (.dload_n 2, 1) := by decide +kernel
theorem d5_57 : decode prog_40_method_5_code 57 = .ok (.dadd, 1) := by decide +kernel
theorem d5_58 : decode prog_40_method_5_code 58 = .ok (.dastore, 1) := by decide +kernel
theorem d5_59 : decode prog_40_method_5_code 59 = .ok (.iload 7, 2) := by decide +kernel
theorem d5_61 : decode prog_40_method_5_code 61 = .ok (.istore 5, 2) := by decide +kernel
theorem d5_63 : decode prog_40_method_5_code 63 = .ok (.iinc 6 1, 3) := by decide +kernel
theorem d5_66 : decode prog_40_method_5_code 66 = .ok (.goto (-48), 3) := by decide +kernel
theorem d5_69 : decode prog_40_method_5_code 69 = .ok (.iinc 4 1, 3) := by decide +kernel
theorem d5_72 : decode prog_40_method_5_code 72 = .ok (.goto (-69), 3) := by decide +kernel
theorem d5_75 : decode prog_40_method_5_code 75 = .ok (.return_, 1) := by decide +kernel
theorem pn14 : plainFor (⟨"com/example/quench/quench/PheromonesEvaporatePinLaw", "law", "(IIIII)Z"⟩ : MethodName) = true := plainFor_of_name (by first | (simp [plainName, overriddenIn]; done) | decide +kernel)
theorem pd15 : parseMethodDescriptor "(IID)V" = some ⟨[.int, .int, .double], none⟩ := by decide +kernel
theorem pd16 : parseMethodDescriptor "([[I)V" = some ⟨[(.array (.array .int))], none⟩ := by decide +kernel
theorem pd17 : parseMethodDescriptor "(Lcom/example/quench/quench/Plan;D)V" = some ⟨[(.object "com/example/quench/quench/Plan"), .double], none⟩ := by decide +kernel
theorem pd18 : parseMethodDescriptor "(III)D" = some ⟨[.int, .int, .int], some .double⟩ := by decide +kernel
theorem pd19 : parseMethodDescriptor "(D)V" = some ⟨[.double], none⟩ := by decide +kernel
theorem ef_rmFill (m : MethodId) (x0 : Addr) (x1 : UInt64) : entryFrame m #[(.ref x0), (.double x1)] 5 = mkF m 0 #[.val (.ref x0), .val (.double x1), .second, .unset, .unset] [] := by first | (simp [entryFrame, mkF, argsToLocals, Value.category]; done) | rfl
set_option maxRecDepth 65536 in
set_option maxHeartbeats 40000000 in
theorem rmFill (l : Launch) (Z : State) (a0 : Array Value) (hw : ∀ d ∈ tables_1, d.before a0 Z = true) (ws : List Jvm.Cond) (d : Addr) (u : UInt64) (y : Int32 → UInt64) (h0 : Heap) (n0 : Nat) (hz0 : n0 ≤ h0.size) (gd : n0 ≤ d) (V : Fa Z h0 d .double 6 (fun i => .double (y i))) :
    Met l Z (⟨"java/util/Arrays", "fill", "([DD)V"⟩ : MethodName) jdk_65_method_113_code 5 none ws ({ frames := 0, cells := 0, slots := 0, locals := 0 } : Room) #[(.ref d), (.double u)] h0 (fun v h L => v = none ∧ Fr n0 L ∧ Keep h0 h [d] ∧ Fa Z h d .double 6 (fun i => .double ((fun _ => u) i))) := by
  refine Met.intro pn0 ?_
  intro pr ev s m below meth c T0 X0 hx hZ hown hby hml hret hlk hnm e0
  refine Go.cast (ef_rmFill m d u) ?_
  have N0 := Fr.nil n0
  have hz := hz0
  have K0 : Keep h0 h0 [d] := Keep.refl h0 _
  refine Go.of (mkF m 1 #[.val (.ref d), .val (.double u), .second, .unset, .unset] [(.int (0 : Int32))]) (fun tt0 kk0 => XS.iconst X0.here hx rfl (hb hby d3_0) kk0) ?_
  refine Go.of (mkF m 2 #[.val (.ref d), .val (.double u), .second, .val (.int (0 : Int32)), .unset] []) (fun tt0 kk0 => XS.istoreN X0.here hx rfl (hb hby d3_1) rfl (l' := #[.val (.ref d), .val (.double u), .second, .val (.int (0 : Int32)), .unset]) rfl kk0) ?_
  refine Go.of (mkF m 3 #[.val (.ref d), .val (.double u), .second, .val (.int (0 : Int32)), .unset] [(.ref d)]) (fun tt0 kk0 => XS.aloadN X0.here hx rfl (hb hby d3_2) rfl rfl kk0) ?_
  refine Go.arraylength X0 hx hZ e0 V (g := (mkF m 3 #[.val (.ref d), .val (.double u), .second, .val (.int (0 : Int32)), .unset] [(.ref d)])) rfl rfl (hb hby d3_3) ?_
  show Go pr ev below _ T0 (mkF m 4 #[.val (.ref d), .val (.double u), .second, .val (.int (0 : Int32)), .unset] [(.int (6 : Int32))])
  refine Go.of (mkF m 6 #[.val (.ref d), .val (.double u), .second, .val (.int (0 : Int32)), .val (.int (6 : Int32))] []) (fun tt0 kk0 => XS.istore X0.here hx rfl (hb hby d3_4) rfl (l' := #[.val (.ref d), .val (.double u), .second, .val (.int (0 : Int32)), .val (.int (6 : Int32))]) rfl kk0) ?_
  refine Go.of (mkF m 7 #[.val (.ref d), .val (.double u), .second, .val (.int (0 : Int32)), .val (.int (6 : Int32))] [(.int (0 : Int32))]) (fun tt0 kk0 => XS.iloadN X0.here hx rfl (hb hby d3_6) rfl kk0) ?_
  refine Go.of (mkF m 9 #[.val (.ref d), .val (.double u), .second, .val (.int (0 : Int32)), .val (.int (6 : Int32))] [(.int (6 : Int32)), (.int (0 : Int32))]) (fun tt0 kk0 => XS.iload X0.here hx rfl (hb hby d3_7) rfl kk0) ?_
  refine Go.of (mkF m 12 #[.val (.ref d), .val (.double u), .second, .val (.int (0 : Int32)), .val (.int (6 : Int32))] []) (fun tt0 kk0 => XS.icmpNo X0.here hx rfl (hb hby d3_9) rfl (tlt (by decide)).2.1 kk0) ?_
  refine Go.of (mkF m 13 #[.val (.ref d), .val (.double u), .second, .val (.int (0 : Int32)), .val (.int (6 : Int32))] [(.ref d)]) (fun tt0 kk0 => XS.aloadN X0.here hx rfl (hb hby d3_12) rfl rfl kk0) ?_
  refine Go.of (mkF m 14 #[.val (.ref d), .val (.double u), .second, .val (.int (0 : Int32)), .val (.int (6 : Int32))] [(.int (0 : Int32)), (.ref d)]) (fun tt0 kk0 => XS.iloadN X0.here hx rfl (hb hby d3_13) rfl kk0) ?_
  refine Go.of (mkF m 15 #[.val (.ref d), .val (.double u), .second, .val (.int (0 : Int32)), .val (.int (6 : Int32))] [(.double u), (.int (0 : Int32)), (.ref d)]) (fun tt0 kk0 => XS.dloadN X0.here hx rfl (hb hby d3_14) rfl kk0) ?_
  refine Go.dastore X0 hx hZ e0 V (by decide) (by decide) (g := (mkF m 15 #[.val (.ref d), .val (.double u), .second, .val (.int (0 : Int32)), .val (.int (6 : Int32))] [(.double u), (.int (0 : Int32)), (.ref d)])) rfl rfl (hb hby d3_15) ?_
  rintro T1 h1 X1 e1 W1 V1
  replace hz := Nat.le_trans hz (Nat.le_of_eq W1.size.symm)
  replace K0 := K0.wr W1 (Or.inl (by simp))
  replace V := V1
  have N1 := Fr.snoc X1 N0 gd
  show Go pr ev below _ T1 (mkF m 16 #[.val (.ref d), .val (.double u), .second, .val (.int (0 : Int32)), .val (.int (6 : Int32))] [])
  refine Go.of (mkF m 19 #[.val (.ref d), .val (.double u), .second, .val (.int ((0 : Int32) + (1 : Int32))), .val (.int (6 : Int32))] []) (fun tt0 kk0 => XS.iinc X1.here hx rfl (hb hby d3_16) rfl (l' := #[.val (.ref d), .val (.double u), .second, .val (.int ((0 : Int32) + (1 : Int32))), .val (.int (6 : Int32))]) rfl kk0) ?_
  rw [show ((0 : Int32) + (1 : Int32)) = (1 : Int32) from by decide]
  refine Go.of (mkF m 6 #[.val (.ref d), .val (.double u), .second, .val (.int (1 : Int32)), .val (.int (6 : Int32))] []) (fun tt0 kk0 => XS.goto X1.here hx rfl (pc0 := 19) (pc' := 6) rfl (hb hby d3_19) (by decide) (by decide) kk0) ?_
  refine Go.of (mkF m 7 #[.val (.ref d), .val (.double u), .second, .val (.int (1 : Int32)), .val (.int (6 : Int32))] [(.int (1 : Int32))]) (fun tt0 kk0 => XS.iloadN X1.here hx rfl (hb hby d3_6) rfl kk0) ?_
  refine Go.of (mkF m 9 #[.val (.ref d), .val (.double u), .second, .val (.int (1 : Int32)), .val (.int (6 : Int32))] [(.int (6 : Int32)), (.int (1 : Int32))]) (fun tt0 kk0 => XS.iload X1.here hx rfl (hb hby d3_7) rfl kk0) ?_
  refine Go.of (mkF m 12 #[.val (.ref d), .val (.double u), .second, .val (.int (1 : Int32)), .val (.int (6 : Int32))] []) (fun tt0 kk0 => XS.icmpNo X1.here hx rfl (hb hby d3_9) rfl (tlt (by decide)).2.1 kk0) ?_
  refine Go.of (mkF m 13 #[.val (.ref d), .val (.double u), .second, .val (.int (1 : Int32)), .val (.int (6 : Int32))] [(.ref d)]) (fun tt0 kk0 => XS.aloadN X1.here hx rfl (hb hby d3_12) rfl rfl kk0) ?_
  refine Go.of (mkF m 14 #[.val (.ref d), .val (.double u), .second, .val (.int (1 : Int32)), .val (.int (6 : Int32))] [(.int (1 : Int32)), (.ref d)]) (fun tt0 kk0 => XS.iloadN X1.here hx rfl (hb hby d3_13) rfl kk0) ?_
  refine Go.of (mkF m 15 #[.val (.ref d), .val (.double u), .second, .val (.int (1 : Int32)), .val (.int (6 : Int32))] [(.double u), (.int (1 : Int32)), (.ref d)]) (fun tt0 kk0 => XS.dloadN X1.here hx rfl (hb hby d3_14) rfl kk0) ?_
  refine Go.dastore X1 hx hZ e1 V (by decide) (by decide) (g := (mkF m 15 #[.val (.ref d), .val (.double u), .second, .val (.int (1 : Int32)), .val (.int (6 : Int32))] [(.double u), (.int (1 : Int32)), (.ref d)])) rfl rfl (hb hby d3_15) ?_
  rintro T2 h2 X2 e2 W2 V2
  replace hz := Nat.le_trans hz (Nat.le_of_eq W2.size.symm)
  replace K0 := K0.wr W2 (Or.inl (by simp))
  replace V := V2
  have N2 := Fr.snoc X2 N1 gd
  show Go pr ev below _ T2 (mkF m 16 #[.val (.ref d), .val (.double u), .second, .val (.int (1 : Int32)), .val (.int (6 : Int32))] [])
  refine Go.of (mkF m 19 #[.val (.ref d), .val (.double u), .second, .val (.int ((1 : Int32) + (1 : Int32))), .val (.int (6 : Int32))] []) (fun tt0 kk0 => XS.iinc X2.here hx rfl (hb hby d3_16) rfl (l' := #[.val (.ref d), .val (.double u), .second, .val (.int ((1 : Int32) + (1 : Int32))), .val (.int (6 : Int32))]) rfl kk0) ?_
  rw [show ((1 : Int32) + (1 : Int32)) = (2 : Int32) from by decide]
  refine Go.of (mkF m 6 #[.val (.ref d), .val (.double u), .second, .val (.int (2 : Int32)), .val (.int (6 : Int32))] []) (fun tt0 kk0 => XS.goto X2.here hx rfl (pc0 := 19) (pc' := 6) rfl (hb hby d3_19) (by decide) (by decide) kk0) ?_
  refine Go.of (mkF m 7 #[.val (.ref d), .val (.double u), .second, .val (.int (2 : Int32)), .val (.int (6 : Int32))] [(.int (2 : Int32))]) (fun tt0 kk0 => XS.iloadN X2.here hx rfl (hb hby d3_6) rfl kk0) ?_
  refine Go.of (mkF m 9 #[.val (.ref d), .val (.double u), .second, .val (.int (2 : Int32)), .val (.int (6 : Int32))] [(.int (6 : Int32)), (.int (2 : Int32))]) (fun tt0 kk0 => XS.iload X2.here hx rfl (hb hby d3_7) rfl kk0) ?_
  refine Go.of (mkF m 12 #[.val (.ref d), .val (.double u), .second, .val (.int (2 : Int32)), .val (.int (6 : Int32))] []) (fun tt0 kk0 => XS.icmpNo X2.here hx rfl (hb hby d3_9) rfl (tlt (by decide)).2.1 kk0) ?_
  refine Go.of (mkF m 13 #[.val (.ref d), .val (.double u), .second, .val (.int (2 : Int32)), .val (.int (6 : Int32))] [(.ref d)]) (fun tt0 kk0 => XS.aloadN X2.here hx rfl (hb hby d3_12) rfl rfl kk0) ?_
  refine Go.of (mkF m 14 #[.val (.ref d), .val (.double u), .second, .val (.int (2 : Int32)), .val (.int (6 : Int32))] [(.int (2 : Int32)), (.ref d)]) (fun tt0 kk0 => XS.iloadN X2.here hx rfl (hb hby d3_13) rfl kk0) ?_
  refine Go.of (mkF m 15 #[.val (.ref d), .val (.double u), .second, .val (.int (2 : Int32)), .val (.int (6 : Int32))] [(.double u), (.int (2 : Int32)), (.ref d)]) (fun tt0 kk0 => XS.dloadN X2.here hx rfl (hb hby d3_14) rfl kk0) ?_
  refine Go.dastore X2 hx hZ e2 V (by decide) (by decide) (g := (mkF m 15 #[.val (.ref d), .val (.double u), .second, .val (.int (2 : Int32)), .val (.int (6 : Int32))] [(.double u), (.int (2 : Int32)), (.ref d)])) rfl rfl (hb hby d3_15) ?_
  rintro T3 h3 X3 e3 W3 V3
  replace hz := Nat.le_trans hz (Nat.le_of_eq W3.size.symm)
  replace K0 := K0.wr W3 (Or.inl (by simp))
  replace V := V3
  have N3 := Fr.snoc X3 N2 gd
  show Go pr ev below _ T3 (mkF m 16 #[.val (.ref d), .val (.double u), .second, .val (.int (2 : Int32)), .val (.int (6 : Int32))] [])
  refine Go.of (mkF m 19 #[.val (.ref d), .val (.double u), .second, .val (.int ((2 : Int32) + (1 : Int32))), .val (.int (6 : Int32))] []) (fun tt0 kk0 => XS.iinc X3.here hx rfl (hb hby d3_16) rfl (l' := #[.val (.ref d), .val (.double u), .second, .val (.int ((2 : Int32) + (1 : Int32))), .val (.int (6 : Int32))]) rfl kk0) ?_
  rw [show ((2 : Int32) + (1 : Int32)) = (3 : Int32) from by decide]
  refine Go.of (mkF m 6 #[.val (.ref d), .val (.double u), .second, .val (.int (3 : Int32)), .val (.int (6 : Int32))] []) (fun tt0 kk0 => XS.goto X3.here hx rfl (pc0 := 19) (pc' := 6) rfl (hb hby d3_19) (by decide) (by decide) kk0) ?_
  refine Go.of (mkF m 7 #[.val (.ref d), .val (.double u), .second, .val (.int (3 : Int32)), .val (.int (6 : Int32))] [(.int (3 : Int32))]) (fun tt0 kk0 => XS.iloadN X3.here hx rfl (hb hby d3_6) rfl kk0) ?_
  refine Go.of (mkF m 9 #[.val (.ref d), .val (.double u), .second, .val (.int (3 : Int32)), .val (.int (6 : Int32))] [(.int (6 : Int32)), (.int (3 : Int32))]) (fun tt0 kk0 => XS.iload X3.here hx rfl (hb hby d3_7) rfl kk0) ?_
  refine Go.of (mkF m 12 #[.val (.ref d), .val (.double u), .second, .val (.int (3 : Int32)), .val (.int (6 : Int32))] []) (fun tt0 kk0 => XS.icmpNo X3.here hx rfl (hb hby d3_9) rfl (tlt (by decide)).2.1 kk0) ?_
  refine Go.of (mkF m 13 #[.val (.ref d), .val (.double u), .second, .val (.int (3 : Int32)), .val (.int (6 : Int32))] [(.ref d)]) (fun tt0 kk0 => XS.aloadN X3.here hx rfl (hb hby d3_12) rfl rfl kk0) ?_
  refine Go.of (mkF m 14 #[.val (.ref d), .val (.double u), .second, .val (.int (3 : Int32)), .val (.int (6 : Int32))] [(.int (3 : Int32)), (.ref d)]) (fun tt0 kk0 => XS.iloadN X3.here hx rfl (hb hby d3_13) rfl kk0) ?_
  refine Go.of (mkF m 15 #[.val (.ref d), .val (.double u), .second, .val (.int (3 : Int32)), .val (.int (6 : Int32))] [(.double u), (.int (3 : Int32)), (.ref d)]) (fun tt0 kk0 => XS.dloadN X3.here hx rfl (hb hby d3_14) rfl kk0) ?_
  refine Go.dastore X3 hx hZ e3 V (by decide) (by decide) (g := (mkF m 15 #[.val (.ref d), .val (.double u), .second, .val (.int (3 : Int32)), .val (.int (6 : Int32))] [(.double u), (.int (3 : Int32)), (.ref d)])) rfl rfl (hb hby d3_15) ?_
  rintro T4 h4 X4 e4 W4 V4
  replace hz := Nat.le_trans hz (Nat.le_of_eq W4.size.symm)
  replace K0 := K0.wr W4 (Or.inl (by simp))
  replace V := V4
  have N4 := Fr.snoc X4 N3 gd
  show Go pr ev below _ T4 (mkF m 16 #[.val (.ref d), .val (.double u), .second, .val (.int (3 : Int32)), .val (.int (6 : Int32))] [])
  refine Go.of (mkF m 19 #[.val (.ref d), .val (.double u), .second, .val (.int ((3 : Int32) + (1 : Int32))), .val (.int (6 : Int32))] []) (fun tt0 kk0 => XS.iinc X4.here hx rfl (hb hby d3_16) rfl (l' := #[.val (.ref d), .val (.double u), .second, .val (.int ((3 : Int32) + (1 : Int32))), .val (.int (6 : Int32))]) rfl kk0) ?_
  rw [show ((3 : Int32) + (1 : Int32)) = (4 : Int32) from by decide]
  refine Go.of (mkF m 6 #[.val (.ref d), .val (.double u), .second, .val (.int (4 : Int32)), .val (.int (6 : Int32))] []) (fun tt0 kk0 => XS.goto X4.here hx rfl (pc0 := 19) (pc' := 6) rfl (hb hby d3_19) (by decide) (by decide) kk0) ?_
  refine Go.of (mkF m 7 #[.val (.ref d), .val (.double u), .second, .val (.int (4 : Int32)), .val (.int (6 : Int32))] [(.int (4 : Int32))]) (fun tt0 kk0 => XS.iloadN X4.here hx rfl (hb hby d3_6) rfl kk0) ?_
  refine Go.of (mkF m 9 #[.val (.ref d), .val (.double u), .second, .val (.int (4 : Int32)), .val (.int (6 : Int32))] [(.int (6 : Int32)), (.int (4 : Int32))]) (fun tt0 kk0 => XS.iload X4.here hx rfl (hb hby d3_7) rfl kk0) ?_
  refine Go.of (mkF m 12 #[.val (.ref d), .val (.double u), .second, .val (.int (4 : Int32)), .val (.int (6 : Int32))] []) (fun tt0 kk0 => XS.icmpNo X4.here hx rfl (hb hby d3_9) rfl (tlt (by decide)).2.1 kk0) ?_
  refine Go.of (mkF m 13 #[.val (.ref d), .val (.double u), .second, .val (.int (4 : Int32)), .val (.int (6 : Int32))] [(.ref d)]) (fun tt0 kk0 => XS.aloadN X4.here hx rfl (hb hby d3_12) rfl rfl kk0) ?_
  refine Go.of (mkF m 14 #[.val (.ref d), .val (.double u), .second, .val (.int (4 : Int32)), .val (.int (6 : Int32))] [(.int (4 : Int32)), (.ref d)]) (fun tt0 kk0 => XS.iloadN X4.here hx rfl (hb hby d3_13) rfl kk0) ?_
  refine Go.of (mkF m 15 #[.val (.ref d), .val (.double u), .second, .val (.int (4 : Int32)), .val (.int (6 : Int32))] [(.double u), (.int (4 : Int32)), (.ref d)]) (fun tt0 kk0 => XS.dloadN X4.here hx rfl (hb hby d3_14) rfl kk0) ?_
  refine Go.dastore X4 hx hZ e4 V (by decide) (by decide) (g := (mkF m 15 #[.val (.ref d), .val (.double u), .second, .val (.int (4 : Int32)), .val (.int (6 : Int32))] [(.double u), (.int (4 : Int32)), (.ref d)])) rfl rfl (hb hby d3_15) ?_
  rintro T5 h5 X5 e5 W5 V5
  replace hz := Nat.le_trans hz (Nat.le_of_eq W5.size.symm)
  replace K0 := K0.wr W5 (Or.inl (by simp))
  replace V := V5
  have N5 := Fr.snoc X5 N4 gd
  show Go pr ev below _ T5 (mkF m 16 #[.val (.ref d), .val (.double u), .second, .val (.int (4 : Int32)), .val (.int (6 : Int32))] [])
  refine Go.of (mkF m 19 #[.val (.ref d), .val (.double u), .second, .val (.int ((4 : Int32) + (1 : Int32))), .val (.int (6 : Int32))] []) (fun tt0 kk0 => XS.iinc X5.here hx rfl (hb hby d3_16) rfl (l' := #[.val (.ref d), .val (.double u), .second, .val (.int ((4 : Int32) + (1 : Int32))), .val (.int (6 : Int32))]) rfl kk0) ?_
  rw [show ((4 : Int32) + (1 : Int32)) = (5 : Int32) from by decide]
  refine Go.of (mkF m 6 #[.val (.ref d), .val (.double u), .second, .val (.int (5 : Int32)), .val (.int (6 : Int32))] []) (fun tt0 kk0 => XS.goto X5.here hx rfl (pc0 := 19) (pc' := 6) rfl (hb hby d3_19) (by decide) (by decide) kk0) ?_
  refine Go.of (mkF m 7 #[.val (.ref d), .val (.double u), .second, .val (.int (5 : Int32)), .val (.int (6 : Int32))] [(.int (5 : Int32))]) (fun tt0 kk0 => XS.iloadN X5.here hx rfl (hb hby d3_6) rfl kk0) ?_
  refine Go.of (mkF m 9 #[.val (.ref d), .val (.double u), .second, .val (.int (5 : Int32)), .val (.int (6 : Int32))] [(.int (6 : Int32)), (.int (5 : Int32))]) (fun tt0 kk0 => XS.iload X5.here hx rfl (hb hby d3_7) rfl kk0) ?_
  refine Go.of (mkF m 12 #[.val (.ref d), .val (.double u), .second, .val (.int (5 : Int32)), .val (.int (6 : Int32))] []) (fun tt0 kk0 => XS.icmpNo X5.here hx rfl (hb hby d3_9) rfl (tlt (by decide)).2.1 kk0) ?_
  refine Go.of (mkF m 13 #[.val (.ref d), .val (.double u), .second, .val (.int (5 : Int32)), .val (.int (6 : Int32))] [(.ref d)]) (fun tt0 kk0 => XS.aloadN X5.here hx rfl (hb hby d3_12) rfl rfl kk0) ?_
  refine Go.of (mkF m 14 #[.val (.ref d), .val (.double u), .second, .val (.int (5 : Int32)), .val (.int (6 : Int32))] [(.int (5 : Int32)), (.ref d)]) (fun tt0 kk0 => XS.iloadN X5.here hx rfl (hb hby d3_13) rfl kk0) ?_
  refine Go.of (mkF m 15 #[.val (.ref d), .val (.double u), .second, .val (.int (5 : Int32)), .val (.int (6 : Int32))] [(.double u), (.int (5 : Int32)), (.ref d)]) (fun tt0 kk0 => XS.dloadN X5.here hx rfl (hb hby d3_14) rfl kk0) ?_
  refine Go.dastore X5 hx hZ e5 V (by decide) (by decide) (g := (mkF m 15 #[.val (.ref d), .val (.double u), .second, .val (.int (5 : Int32)), .val (.int (6 : Int32))] [(.double u), (.int (5 : Int32)), (.ref d)])) rfl rfl (hb hby d3_15) ?_
  rintro T6 h6 X6 e6 W6 V6
  replace hz := Nat.le_trans hz (Nat.le_of_eq W6.size.symm)
  replace K0 := K0.wr W6 (Or.inl (by simp))
  replace V := V6
  have N6 := Fr.snoc X6 N5 gd
  show Go pr ev below _ T6 (mkF m 16 #[.val (.ref d), .val (.double u), .second, .val (.int (5 : Int32)), .val (.int (6 : Int32))] [])
  refine Go.of (mkF m 19 #[.val (.ref d), .val (.double u), .second, .val (.int ((5 : Int32) + (1 : Int32))), .val (.int (6 : Int32))] []) (fun tt0 kk0 => XS.iinc X6.here hx rfl (hb hby d3_16) rfl (l' := #[.val (.ref d), .val (.double u), .second, .val (.int ((5 : Int32) + (1 : Int32))), .val (.int (6 : Int32))]) rfl kk0) ?_
  rw [show ((5 : Int32) + (1 : Int32)) = (6 : Int32) from by decide]
  refine Go.of (mkF m 6 #[.val (.ref d), .val (.double u), .second, .val (.int (6 : Int32)), .val (.int (6 : Int32))] []) (fun tt0 kk0 => XS.goto X6.here hx rfl (pc0 := 19) (pc' := 6) rfl (hb hby d3_19) (by decide) (by decide) kk0) ?_
  refine Go.of (mkF m 7 #[.val (.ref d), .val (.double u), .second, .val (.int (6 : Int32)), .val (.int (6 : Int32))] [(.int (6 : Int32))]) (fun tt0 kk0 => XS.iloadN X6.here hx rfl (hb hby d3_6) rfl kk0) ?_
  refine Go.of (mkF m 9 #[.val (.ref d), .val (.double u), .second, .val (.int (6 : Int32)), .val (.int (6 : Int32))] [(.int (6 : Int32)), (.int (6 : Int32))]) (fun tt0 kk0 => XS.iload X6.here hx rfl (hb hby d3_7) rfl kk0) ?_
  refine Go.of (mkF m 22 #[.val (.ref d), .val (.double u), .second, .val (.int (6 : Int32)), .val (.int (6 : Int32))] []) (fun tt0 kk0 => XS.icmpYes X6.here hx rfl (pc0 := 9) (pc' := 22) rfl (hb hby d3_9) rfl (flt (by decide)).2.1 (by decide) (by decide) kk0) ?_
  exact Go.retV X6 hx hret hlk (hb hby d3_22) (by decide) (by decide) (by rw [e6]; exact ⟨rfl, N6, K0, V.congr fun j q0 q1 => by rcases own_cases6 q0 q1 with rfl | rfl | rfl | rfl | rfl | rfl <;> simp [fnup]⟩)
theorem ef_rmPI (m : MethodId) (x0 : Addr) (x1 : Int32) (x2 : Int32) (x3 : UInt64) : entryFrame m #[(.ref x0), (.int x1), (.int x2), (.double x3)] 9 = mkF m 0 #[.val (.ref x0), .val (.int x1), .val (.int x2), .val (.double x3), .second, .unset, .unset, .unset, .unset] [] := by first | (simp [entryFrame, mkF, argsToLocals, Value.category]; done) | rfl
set_option maxRecDepth 65536 in
set_option maxHeartbeats 40000000 in
theorem rmPI (l : Launch) (Z : State) (a0 : Array Value) (hw : ∀ d ∈ tables_1, d.before a0 Z = true) (ws : List Jvm.Cond) (a : Addr) (u : UInt64) (h0 : Heap) (n0 : Nat) (hz0 : n0 ≤ h0.size) (E : Exa Z h0 a "com/example/quench/quench/Pheromones") (ga : n0 ≤ a) (Ft : Fld Z h0 a "com/example/quench/quench/Pheromones" "tasks" "I" (.int (0 : Int32))) (Fr0 : Fld Z h0 a "com/example/quench/quench/Pheromones" "trails" "[[D" .null) :
    Met l Z (⟨"com/example/quench/quench/Pheromones", "<init>", "(IID)V"⟩ : MethodName) prog_40_method_1_code 9 none ws ({ frames := 1, cells := 3, slots := 14, locals := 16 } : Room) #[(.ref a), (.int (2 : Int32)), (.int (2 : Int32)), (.double u)] h0 (fun v h L => ∃ (t r0 r1 : Nat) (yt : Int32 → Value), v = none ∧ Fr n0 L ∧ Keep h0 h [a] ∧ h0.size ≤ t ∧ t < r0 ∧ r0 < r1 ∧ Fld Z h a "com/example/quench/quench/Pheromones" "tasks" "I" (.int (2 : Int32)) ∧ Fld Z h a "com/example/quench/quench/Pheromones" "trails" "[[D" (.ref t) ∧ Fa Z h t (.array .double) 2 yt ∧ yt 0 = .ref r0 ∧ yt 1 = .ref r1 ∧ Fa Z h r0 .double 6 (fun i => .double ((fun _ => u) i)) ∧ Fa Z h r1 .double 6 (fun i => .double ((fun _ => u) i))) := by
  refine Met.intro pn1 ?_
  intro pr ev s m below meth c T0 X0 hx hZ hown hby hml hret hlk hnm e0
  refine Go.cast (ef_rmPI m a (2 : Int32) (2 : Int32) u) ?_
  have N0 := Fr.nil n0
  have hz := hz0
  have K0 : Keep h0 h0 [a] := Keep.refl h0 _
  refine Go.of (mkF m 1 #[.val (.ref a), .val (.int (2 : Int32)), .val (.int (2 : Int32)), .val (.double u), .second, .unset, .unset, .unset, .unset] [(.ref a)]) (fun tt0 kk0 => XS.aloadN X0.here hx rfl (hb hby d1_0) rfl rfl kk0) ?_
  obtain ⟨T1, X1, e1, st1⟩ := initO X0 hx hZ hown (tw11 hw) (tw12 hw) (tw13 hw) e0 (g := (mkF m 1 #[.val (.ref a), .val (.int (2 : Int32)), .val (.int (2 : Int32)), .val (.double u), .second, .unset, .unset, .unset, .unset] [(.ref a)])) rfl (by rw [hml]; rfl) rfl (hb hby d1_1) (by decide) (W := 0) (by show 2 * 0 + _ ≤ _; exact Nat.le_of_eq rfl) (by decide)
  refine Go.of (mkF m 4 #[.val (.ref a), .val (.int (2 : Int32)), .val (.int (2 : Int32)), .val (.double u), .second, .unset, .unset, .unset, .unset] []) (st1) ?_
  refine Go.of (mkF m 5 #[.val (.ref a), .val (.int (2 : Int32)), .val (.int (2 : Int32)), .val (.double u), .second, .unset, .unset, .unset, .unset] [(.ref a)]) (fun tt0 kk0 => XS.aloadN X1.here hx rfl (hb hby d1_4) rfl rfl kk0) ?_
  refine Go.of (mkF m 6 #[.val (.ref a), .val (.int (2 : Int32)), .val (.int (2 : Int32)), .val (.double u), .second, .unset, .unset, .unset, .unset] [(.int (2 : Int32)), (.ref a)]) (fun tt0 kk0 => XS.iloadN X1.here hx rfl (hb hby d1_5) rfl kk0) ?_
  obtain ⟨T2, h2, X2, e2, W2, st2⟩ := putF X1 hx hZ hown (host := "") (Or.inl (tw14 hw)) Via.refl e1 Ft E (Or.inr ⟨(tw15 hw), rfl, hnm⟩) (tw6 hw) (ty := .int) (by decide) rfl rfl (g := (mkF m 6 #[.val (.ref a), .val (.int (2 : Int32)), .val (.int (2 : Int32)), .val (.double u), .second, .unset, .unset, .unset, .unset] [(.int (2 : Int32)), (.ref a)])) rfl rfl (hb hby d1_6)
  replace Ft := Ft.same W2
  replace Fr0 := Fr0.other W2 (Or.inr (slot_ne (Or.inr (tw20 hw)) (Or.inr (tw15 hw)) (by decide) (t := (.array (.array .double))) (t' := .int) (by decide) (by decide)))
  replace E := E.wr W2
  replace hz := Nat.le_trans hz (Nat.le_of_eq W2.size.symm)
  replace K0 := K0.wr W2 (Or.inl (by simp))
  have N2 := Fr.snoc X2 N0 ga
  refine Go.of (mkF m 9 #[.val (.ref a), .val (.int (2 : Int32)), .val (.int (2 : Int32)), .val (.double u), .second, .unset, .unset, .unset, .unset] []) (st2) ?_
  refine Go.of (mkF m 10 #[.val (.ref a), .val (.int (2 : Int32)), .val (.int (2 : Int32)), .val (.double u), .second, .unset, .unset, .unset, .unset] [(.ref a)]) (fun tt0 kk0 => XS.aloadN X2.here hx rfl (hb hby d1_9) rfl rfl kk0) ?_
  refine Go.of (mkF m 11 #[.val (.ref a), .val (.int (2 : Int32)), .val (.int (2 : Int32)), .val (.double u), .second, .unset, .unset, .unset, .unset] [(.int (2 : Int32)), (.ref a)]) (fun tt0 kk0 => XS.iloadN X2.here hx rfl (hb hby d1_10) rfl kk0) ?_
  refine Go.of (mkF m 12 #[.val (.ref a), .val (.int (2 : Int32)), .val (.int (2 : Int32)), .val (.double u), .second, .unset, .unset, .unset, .unset] [(.int (2 : Int32)), (.int (2 : Int32)), (.ref a)]) (fun tt0 kk0 => XS.iloadN X2.here hx rfl (hb hby d1_11) rfl kk0) ?_
  refine Go.of (mkF m 13 #[.val (.ref a), .val (.int (2 : Int32)), .val (.int (2 : Int32)), .val (.double u), .second, .unset, .unset, .unset, .unset] [(.int (1 : Int32)), (.int (2 : Int32)), (.int (2 : Int32)), (.ref a)]) (fun tt0 kk0 => XS.iconst X2.here hx rfl (hb hby d1_12) kk0) ?_
  refine Go.of (mkF m 14 #[.val (.ref a), .val (.int (2 : Int32)), .val (.int (2 : Int32)), .val (.double u), .second, .unset, .unset, .unset, .unset] [(.int ((2 : Int32) + (1 : Int32))), (.int (2 : Int32)), (.ref a)]) (fun tt0 kk0 => XS.iadd X2.here hx rfl (hb hby d1_13) rfl kk0) ?_
  rw [show ((2 : Int32) + (1 : Int32)) = (3 : Int32) from by decide]
  refine Go.of (mkF m 15 #[.val (.ref a), .val (.int (2 : Int32)), .val (.int (2 : Int32)), .val (.double u), .second, .unset, .unset, .unset, .unset] [(.int (2 : Int32)), (.int (3 : Int32)), (.int (2 : Int32)), (.ref a)]) (fun tt0 kk0 => XS.iloadN X2.here hx rfl (hb hby d1_14) rfl kk0) ?_
  refine Go.of (mkF m 16 #[.val (.ref a), .val (.int (2 : Int32)), .val (.int (2 : Int32)), .val (.double u), .second, .unset, .unset, .unset, .unset] [(.int ((3 : Int32) * (2 : Int32))), (.int (2 : Int32)), (.ref a)]) (fun tt0 kk0 => XS.imul X2.here hx rfl (hb hby d1_15) rfl kk0) ?_
  rw [show ((3 : Int32) * (2 : Int32)) = (6 : Int32) from by decide]
  obtain ⟨T3, h3, kA, kc, X3, e3, E3, A3, O3, Q3, RR, st3⟩ := gridM X2 hx hZ (ty := .double) (C := "[D") (ad := "[[D") hown (by decide +kernel) (by decide +kernel) (tw16 hw) (tw17 hw) (tw18 hw) e2 (g := (mkF m 16 #[.val (.ref a), .val (.int (2 : Int32)), .val (.int (2 : Int32)), .val (.double u), .second, .unset, .unset, .unset, .unset] [(.int (6 : Int32)), (.int (2 : Int32)), (.ref a)])) rfl (hb hby d1_16) rfl (by decide) (by decide) (xs := [h2.size + 1 + 0, h2.size + 1 + 1]) (N := 2) rfl rfl (cap := 6) (by decide) (by decide) (by decide) rfl rfl (by decide) (by decide)
  obtain ⟨AR0, QR0⟩ := RR 0 _ rfl
  obtain ⟨AR1, QR1⟩ := RR 1 _ rfl
  obtain ⟨r0, gr0⟩ : ∃ z, z = h2.size + 1 + 0 := ⟨_, rfl⟩
  obtain ⟨r1, gr1⟩ : ∃ z, z = h2.size + 1 + 1 := ⟨_, rfl⟩
  rw [← gr1] at AR1 QR1 A3
  rw [← gr0] at AR0 QR0 A3
  obtain ⟨t, gt⟩ : ∃ z, z = h2.size := ⟨_, rfl⟩
  rw [← gt] at A3 Q3 st3 gr0 gr1
  have hsz : h0.size ≤ t := Nat.le_trans K0.1 (Nat.le_of_eq gt.symm)
  have hat : a < t := Nat.lt_of_lt_of_le E.lt (Nat.le_of_eq gt.symm)
  have gbt : n0 ≤ t := Nat.le_trans hz (Nat.le_of_eq gt.symm)
  have gb_t : n0 ≤ t := by omega
  have sz_t : h0.size ≤ t := by omega
  have gb_r0 : n0 ≤ r0 := by omega
  have sz_r0 : h0.size ≤ r0 := by omega
  have gb_r1 : n0 ≤ r1 := by omega
  have sz_r1 : h0.size ≤ r1 := by omega
  have ne_a_t : a ≠ t := Nat.ne_of_lt (Nat.lt_of_lt_of_le hat (by omega))
  have ne_a_r0 : a ≠ r0 := Nat.ne_of_lt (Nat.lt_of_lt_of_le hat (by omega))
  have ne_a_r1 : a ≠ r1 := Nat.ne_of_lt (Nat.lt_of_lt_of_le hat (by omega))
  have ne_t_r0 : t ≠ r0 := by omega
  have ne_t_r1 : t ≠ r1 := by omega
  have ne_r0_r1 : r0 ≠ r1 := by omega
  replace Ft := Ft.ext E3
  replace Fr0 := Fr0.ext E3
  replace E := E.ext E3
  replace hz := Nat.le_trans hz E3.1
  replace K0 := K0.ext E3
  obtain ⟨yt, VT, hy0, hy1⟩ : ∃ yt : Int32 → Value, Fa Z h3 t (.array .double) 2 yt ∧ yt 0 = .ref r0 ∧ yt 1 = .ref r1 := ⟨_, Fa.ofArv A3, rfl, rfl⟩
  have V0r : Fa Z h3 r0 .double 6 (fun i => .double ((fun _ => (0 : UInt64)) i)) := Fa.new AR0 (by decide)
  have V1r : Fa Z h3 r1 .double 6 (fun i => .double ((fun _ => (0 : UInt64)) i)) := Fa.new AR1 (by decide)
  refine Go.of (mkF m 20 #[.val (.ref a), .val (.int (2 : Int32)), .val (.int (2 : Int32)), .val (.double u), .second, .unset, .unset, .unset, .unset] [(.ref t), (.ref a)]) (st3) ?_
  obtain ⟨T4, h4, X4, e4, W4, st4⟩ := putF X3 hx hZ hown (host := "") (Or.inl (tw19 hw)) Via.refl e3 Fr0 E (Or.inr ⟨(tw20 hw), rfl, hnm⟩) (tw6 hw) (ty := (.array (.array .double))) (by decide) rfl rfl (g := (mkF m 20 #[.val (.ref a), .val (.int (2 : Int32)), .val (.int (2 : Int32)), .val (.double u), .second, .unset, .unset, .unset, .unset] [(.ref t), (.ref a)])) rfl rfl (hb hby d1_20)
  replace Ft := Ft.other W4 (Or.inr (slot_ne (Or.inr (tw15 hw)) (Or.inr (tw20 hw)) (by decide) (t := .int) (t' := (.array (.array .double))) (by decide) (by decide)))
  replace Fr0 := Fr0.same W4
  replace E := E.wr W4
  replace V0r := V0r.other W4 (Ne.symm ne_a_r0)
  replace V1r := V1r.other W4 (Ne.symm ne_a_r1)
  replace VT := VT.other W4 (Ne.symm ne_a_t)
  replace hz := Nat.le_trans hz (Nat.le_of_eq W4.size.symm)
  replace K0 := K0.wr W4 (Or.inl (by simp))
  have N4 := Fr.snoc X4 N2 ga
  refine Go.of (mkF m 23 #[.val (.ref a), .val (.int (2 : Int32)), .val (.int (2 : Int32)), .val (.double u), .second, .unset, .unset, .unset, .unset] []) (st4) ?_
  refine Go.of (mkF m 24 #[.val (.ref a), .val (.int (2 : Int32)), .val (.int (2 : Int32)), .val (.double u), .second, .unset, .unset, .unset, .unset] [(.ref a)]) (fun tt0 kk0 => XS.aloadN X4.here hx rfl (hb hby d1_23) rfl rfl kk0) ?_
  obtain ⟨T5, X5, e5, st5⟩ := getF X4 hx hZ hown (host := "") (Or.inl (tw19 hw)) Via.refl e4 Fr0 (g := (mkF m 24 #[.val (.ref a), .val (.int (2 : Int32)), .val (.int (2 : Int32)), .val (.double u), .second, .unset, .unset, .unset, .unset] [(.ref a)])) rfl rfl (hb hby d1_24)
  refine Go.of (mkF m 27 #[.val (.ref a), .val (.int (2 : Int32)), .val (.int (2 : Int32)), .val (.double u), .second, .unset, .unset, .unset, .unset] [(.ref t)]) (st5) ?_
  refine Go.of (mkF m 29 #[.val (.ref a), .val (.int (2 : Int32)), .val (.int (2 : Int32)), .val (.double u), .second, .val (.ref t), .unset, .unset, .unset] []) (fun tt0 kk0 => XS.astore X5.here hx rfl (hb hby d1_27) rfl rfl (l' := #[.val (.ref a), .val (.int (2 : Int32)), .val (.int (2 : Int32)), .val (.double u), .second, .val (.ref t), .unset, .unset, .unset]) rfl kk0) ?_
  refine Go.of (mkF m 31 #[.val (.ref a), .val (.int (2 : Int32)), .val (.int (2 : Int32)), .val (.double u), .second, .val (.ref t), .unset, .unset, .unset] [(.ref t)]) (fun tt0 kk0 => XS.aload X5.here hx rfl (hb hby d1_29) rfl rfl kk0) ?_
  refine Go.arraylength X5 hx hZ e5 VT (g := (mkF m 31 #[.val (.ref a), .val (.int (2 : Int32)), .val (.int (2 : Int32)), .val (.double u), .second, .val (.ref t), .unset, .unset, .unset] [(.ref t)])) rfl rfl (hb hby d1_31) ?_
  show Go pr ev below _ T5 (mkF m 32 #[.val (.ref a), .val (.int (2 : Int32)), .val (.int (2 : Int32)), .val (.double u), .second, .val (.ref t), .unset, .unset, .unset] [(.int (2 : Int32))])
  refine Go.of (mkF m 34 #[.val (.ref a), .val (.int (2 : Int32)), .val (.int (2 : Int32)), .val (.double u), .second, .val (.ref t), .val (.int (2 : Int32)), .unset, .unset] []) (fun tt0 kk0 => XS.istore X5.here hx rfl (hb hby d1_32) rfl (l' := #[.val (.ref a), .val (.int (2 : Int32)), .val (.int (2 : Int32)), .val (.double u), .second, .val (.ref t), .val (.int (2 : Int32)), .unset, .unset]) rfl kk0) ?_
  refine Go.of (mkF m 35 #[.val (.ref a), .val (.int (2 : Int32)), .val (.int (2 : Int32)), .val (.double u), .second, .val (.ref t), .val (.int (2 : Int32)), .unset, .unset] [(.int (0 : Int32))]) (fun tt0 kk0 => XS.iconst X5.here hx rfl (hb hby d1_34) kk0) ?_
  refine Go.of (mkF m 37 #[.val (.ref a), .val (.int (2 : Int32)), .val (.int (2 : Int32)), .val (.double u), .second, .val (.ref t), .val (.int (2 : Int32)), .val (.int (0 : Int32)), .unset] []) (fun tt0 kk0 => XS.istore X5.here hx rfl (hb hby d1_35) rfl (l' := #[.val (.ref a), .val (.int (2 : Int32)), .val (.int (2 : Int32)), .val (.double u), .second, .val (.ref t), .val (.int (2 : Int32)), .val (.int (0 : Int32)), .unset]) rfl kk0) ?_
  refine Go.of (mkF m 39 #[.val (.ref a), .val (.int (2 : Int32)), .val (.int (2 : Int32)), .val (.double u), .second, .val (.ref t), .val (.int (2 : Int32)), .val (.int (0 : Int32)), .unset] [(.int (0 : Int32))]) (fun tt0 kk0 => XS.iload X5.here hx rfl (hb hby d1_37) rfl kk0) ?_
  refine Go.of (mkF m 41 #[.val (.ref a), .val (.int (2 : Int32)), .val (.int (2 : Int32)), .val (.double u), .second, .val (.ref t), .val (.int (2 : Int32)), .val (.int (0 : Int32)), .unset] [(.int (2 : Int32)), (.int (0 : Int32))]) (fun tt0 kk0 => XS.iload X5.here hx rfl (hb hby d1_39) rfl kk0) ?_
  refine Go.of (mkF m 44 #[.val (.ref a), .val (.int (2 : Int32)), .val (.int (2 : Int32)), .val (.double u), .second, .val (.ref t), .val (.int (2 : Int32)), .val (.int (0 : Int32)), .unset] []) (fun tt0 kk0 => XS.icmpNo X5.here hx rfl (hb hby d1_41) rfl (tlt (by decide)).2.1 kk0) ?_
  refine Go.of (mkF m 46 #[.val (.ref a), .val (.int (2 : Int32)), .val (.int (2 : Int32)), .val (.double u), .second, .val (.ref t), .val (.int (2 : Int32)), .val (.int (0 : Int32)), .unset] [(.ref t)]) (fun tt0 kk0 => XS.aload X5.here hx rfl (hb hby d1_44) rfl rfl kk0) ?_
  refine Go.of (mkF m 48 #[.val (.ref a), .val (.int (2 : Int32)), .val (.int (2 : Int32)), .val (.double u), .second, .val (.ref t), .val (.int (2 : Int32)), .val (.int (0 : Int32)), .unset] [(.int (0 : Int32)), (.ref t)]) (fun tt0 kk0 => XS.iload X5.here hx rfl (hb hby d1_46) rfl kk0) ?_
  refine Go.aaload X5 hx hZ e5 VT rfl (by decide) (by decide) (g := (mkF m 48 #[.val (.ref a), .val (.int (2 : Int32)), .val (.int (2 : Int32)), .val (.double u), .second, .val (.ref t), .val (.int (2 : Int32)), .val (.int (0 : Int32)), .unset] [(.int (0 : Int32)), (.ref t)])) rfl rfl (hb hby d1_48) ?_
  show Go pr ev below _ T5 (mkF m 49 #[.val (.ref a), .val (.int (2 : Int32)), .val (.int (2 : Int32)), .val (.double u), .second, .val (.ref t), .val (.int (2 : Int32)), .val (.int (0 : Int32)), .unset] [(yt (0 : Int32))])
  rw [show (yt (0 : Int32)) = (.ref r0) from hy0]
  show Go pr ev below _ T5 (mkF m 49 #[.val (.ref a), .val (.int (2 : Int32)), .val (.int (2 : Int32)), .val (.double u), .second, .val (.ref t), .val (.int (2 : Int32)), .val (.int (0 : Int32)), .unset] [(.ref r0)])
  refine Go.of (mkF m 51 #[.val (.ref a), .val (.int (2 : Int32)), .val (.int (2 : Int32)), .val (.double u), .second, .val (.ref t), .val (.int (2 : Int32)), .val (.int (0 : Int32)), .val (.ref r0)] []) (fun tt0 kk0 => XS.astore X5.here hx rfl (hb hby d1_49) rfl rfl (l' := #[.val (.ref a), .val (.int (2 : Int32)), .val (.int (2 : Int32)), .val (.double u), .second, .val (.ref t), .val (.int (2 : Int32)), .val (.int (0 : Int32)), .val (.ref r0)]) rfl kk0) ?_
  refine Go.of (mkF m 53 #[.val (.ref a), .val (.int (2 : Int32)), .val (.int (2 : Int32)), .val (.double u), .second, .val (.ref t), .val (.int (2 : Int32)), .val (.int (0 : Int32)), .val (.ref r0)] [(.ref r0)]) (fun tt0 kk0 => XS.aload X5.here hx rfl (hb hby d1_51) rfl rfl kk0) ?_
  refine Go.of (mkF m 54 #[.val (.ref a), .val (.int (2 : Int32)), .val (.int (2 : Int32)), .val (.double u), .second, .val (.ref t), .val (.int (2 : Int32)), .val (.int (0 : Int32)), .val (.ref r0)] [(.double u), (.ref r0)]) (fun tt0 kk0 => XS.dloadN X5.here hx rfl (hb hby d1_53) rfl kk0) ?_
  refine Go.callS X5 hx hZ (y := (⟨"java/util/Arrays", "fill", "([DD)V"⟩ : MethodName)) (argsL := [(.ref r0), (.double u)]) (rest := []) hown (tw21 hw) (tw22 hw) (tw23 hw) (tw24 hw) (by decide) e5 (rmFill l Z a0 hw [] r0 u (fun _ => (0 : UInt64)) h4 n0 hz gb_r0 V0r) (g := (mkF m 54 #[.val (.ref a), .val (.int (2 : Int32)), .val (.int (2 : Int32)), .val (.double u), .second, .val (.ref t), .val (.int (2 : Int32)), .val (.int (0 : Int32)), .val (.ref r0)] [(.double u), (.ref r0)])) rfl (by rw [hml]; rfl) (lenOf pd2 rfl) rfl (W := 0) (by show 2 * 0 + _ ≤ _; exact Nat.le_of_eq rfl) (hb hby d1_54) (by decide) (by decide) (by decide) (by decide) ?_
  rintro T6 L6 v6 X6 ⟨rfl, NL6, K6, Vf6⟩
  have N6 := Fr.app N4 NL6
  replace Ft := Ft.keep K6 (ninS ne_a_r0 nin0)
  replace Fr0 := Fr0.keep K6 (ninS ne_a_r0 nin0)
  replace E := E.keep K6
  replace V1r := V1r.keep K6 (ninS (Ne.symm ne_r0_r1) nin0)
  replace VT := VT.keep K6 (ninS ne_t_r0 nin0)
  replace hz := Nat.le_trans hz K6.1
  replace K0 := K0.trans K6 (((allS (Or.inr sz_r0) all0)))
  show Go pr ev below _ T6 (mkF m 57 #[.val (.ref a), .val (.int (2 : Int32)), .val (.int (2 : Int32)), .val (.double u), .second, .val (.ref t), .val (.int (2 : Int32)), .val (.int (0 : Int32)), .val (.ref r0)] [])
  refine Go.of (mkF m 60 #[.val (.ref a), .val (.int (2 : Int32)), .val (.int (2 : Int32)), .val (.double u), .second, .val (.ref t), .val (.int (2 : Int32)), .val (.int ((0 : Int32) + (1 : Int32))), .val (.ref r0)] []) (fun tt0 kk0 => XS.iinc X6.here hx rfl (hb hby d1_57) rfl (l' := #[.val (.ref a), .val (.int (2 : Int32)), .val (.int (2 : Int32)), .val (.double u), .second, .val (.ref t), .val (.int (2 : Int32)), .val (.int ((0 : Int32) + (1 : Int32))), .val (.ref r0)]) rfl kk0) ?_
  rw [show ((0 : Int32) + (1 : Int32)) = (1 : Int32) from by decide]
  refine Go.of (mkF m 37 #[.val (.ref a), .val (.int (2 : Int32)), .val (.int (2 : Int32)), .val (.double u), .second, .val (.ref t), .val (.int (2 : Int32)), .val (.int (1 : Int32)), .val (.ref r0)] []) (fun tt0 kk0 => XS.goto X6.here hx rfl (pc0 := 60) (pc' := 37) rfl (hb hby d1_60) (by decide) (by decide) kk0) ?_
  refine Go.of (mkF m 39 #[.val (.ref a), .val (.int (2 : Int32)), .val (.int (2 : Int32)), .val (.double u), .second, .val (.ref t), .val (.int (2 : Int32)), .val (.int (1 : Int32)), .val (.ref r0)] [(.int (1 : Int32))]) (fun tt0 kk0 => XS.iload X6.here hx rfl (hb hby d1_37) rfl kk0) ?_
  refine Go.of (mkF m 41 #[.val (.ref a), .val (.int (2 : Int32)), .val (.int (2 : Int32)), .val (.double u), .second, .val (.ref t), .val (.int (2 : Int32)), .val (.int (1 : Int32)), .val (.ref r0)] [(.int (2 : Int32)), (.int (1 : Int32))]) (fun tt0 kk0 => XS.iload X6.here hx rfl (hb hby d1_39) rfl kk0) ?_
  refine Go.of (mkF m 44 #[.val (.ref a), .val (.int (2 : Int32)), .val (.int (2 : Int32)), .val (.double u), .second, .val (.ref t), .val (.int (2 : Int32)), .val (.int (1 : Int32)), .val (.ref r0)] []) (fun tt0 kk0 => XS.icmpNo X6.here hx rfl (hb hby d1_41) rfl (tlt (by decide)).2.1 kk0) ?_
  refine Go.of (mkF m 46 #[.val (.ref a), .val (.int (2 : Int32)), .val (.int (2 : Int32)), .val (.double u), .second, .val (.ref t), .val (.int (2 : Int32)), .val (.int (1 : Int32)), .val (.ref r0)] [(.ref t)]) (fun tt0 kk0 => XS.aload X6.here hx rfl (hb hby d1_44) rfl rfl kk0) ?_
  refine Go.of (mkF m 48 #[.val (.ref a), .val (.int (2 : Int32)), .val (.int (2 : Int32)), .val (.double u), .second, .val (.ref t), .val (.int (2 : Int32)), .val (.int (1 : Int32)), .val (.ref r0)] [(.int (1 : Int32)), (.ref t)]) (fun tt0 kk0 => XS.iload X6.here hx rfl (hb hby d1_46) rfl kk0) ?_
  refine Go.aaload X6 hx hZ rfl VT rfl (by decide) (by decide) (g := (mkF m 48 #[.val (.ref a), .val (.int (2 : Int32)), .val (.int (2 : Int32)), .val (.double u), .second, .val (.ref t), .val (.int (2 : Int32)), .val (.int (1 : Int32)), .val (.ref r0)] [(.int (1 : Int32)), (.ref t)])) rfl rfl (hb hby d1_48) ?_
  show Go pr ev below _ T6 (mkF m 49 #[.val (.ref a), .val (.int (2 : Int32)), .val (.int (2 : Int32)), .val (.double u), .second, .val (.ref t), .val (.int (2 : Int32)), .val (.int (1 : Int32)), .val (.ref r0)] [(yt (1 : Int32))])
  rw [show (yt (1 : Int32)) = (.ref r1) from hy1]
  show Go pr ev below _ T6 (mkF m 49 #[.val (.ref a), .val (.int (2 : Int32)), .val (.int (2 : Int32)), .val (.double u), .second, .val (.ref t), .val (.int (2 : Int32)), .val (.int (1 : Int32)), .val (.ref r0)] [(.ref r1)])
  refine Go.of (mkF m 51 #[.val (.ref a), .val (.int (2 : Int32)), .val (.int (2 : Int32)), .val (.double u), .second, .val (.ref t), .val (.int (2 : Int32)), .val (.int (1 : Int32)), .val (.ref r1)] []) (fun tt0 kk0 => XS.astore X6.here hx rfl (hb hby d1_49) rfl rfl (l' := #[.val (.ref a), .val (.int (2 : Int32)), .val (.int (2 : Int32)), .val (.double u), .second, .val (.ref t), .val (.int (2 : Int32)), .val (.int (1 : Int32)), .val (.ref r1)]) rfl kk0) ?_
  refine Go.of (mkF m 53 #[.val (.ref a), .val (.int (2 : Int32)), .val (.int (2 : Int32)), .val (.double u), .second, .val (.ref t), .val (.int (2 : Int32)), .val (.int (1 : Int32)), .val (.ref r1)] [(.ref r1)]) (fun tt0 kk0 => XS.aload X6.here hx rfl (hb hby d1_51) rfl rfl kk0) ?_
  refine Go.of (mkF m 54 #[.val (.ref a), .val (.int (2 : Int32)), .val (.int (2 : Int32)), .val (.double u), .second, .val (.ref t), .val (.int (2 : Int32)), .val (.int (1 : Int32)), .val (.ref r1)] [(.double u), (.ref r1)]) (fun tt0 kk0 => XS.dloadN X6.here hx rfl (hb hby d1_53) rfl kk0) ?_
  refine Go.callS X6 hx hZ (y := (⟨"java/util/Arrays", "fill", "([DD)V"⟩ : MethodName)) (argsL := [(.ref r1), (.double u)]) (rest := []) hown (tw21 hw) (tw22 hw) (tw23 hw) (tw24 hw) (by decide) rfl (rmFill l Z a0 hw [] r1 u (fun _ => (0 : UInt64)) T6.heap n0 hz gb_r1 V1r) (g := (mkF m 54 #[.val (.ref a), .val (.int (2 : Int32)), .val (.int (2 : Int32)), .val (.double u), .second, .val (.ref t), .val (.int (2 : Int32)), .val (.int (1 : Int32)), .val (.ref r1)] [(.double u), (.ref r1)])) rfl (by rw [hml]; rfl) (lenOf pd2 rfl) rfl (W := 0) (by show 2 * 0 + _ ≤ _; exact Nat.le_of_eq rfl) (hb hby d1_54) (by decide) (by decide) (by decide) (by decide) ?_
  rintro T7 L7 v7 X7 ⟨rfl, NL7, K7, Vf7⟩
  have N7 := Fr.app N6 NL7
  replace Ft := Ft.keep K7 (ninS ne_a_r1 nin0)
  replace Fr0 := Fr0.keep K7 (ninS ne_a_r1 nin0)
  replace E := E.keep K7
  replace VT := VT.keep K7 (ninS ne_t_r1 nin0)
  replace Vf6 := Vf6.keep K7 (ninS ne_r0_r1 nin0)
  replace hz := Nat.le_trans hz K7.1
  replace K0 := K0.trans K7 (((allS (Or.inr sz_r1) all0)))
  show Go pr ev below _ T7 (mkF m 57 #[.val (.ref a), .val (.int (2 : Int32)), .val (.int (2 : Int32)), .val (.double u), .second, .val (.ref t), .val (.int (2 : Int32)), .val (.int (1 : Int32)), .val (.ref r1)] [])
  refine Go.of (mkF m 60 #[.val (.ref a), .val (.int (2 : Int32)), .val (.int (2 : Int32)), .val (.double u), .second, .val (.ref t), .val (.int (2 : Int32)), .val (.int ((1 : Int32) + (1 : Int32))), .val (.ref r1)] []) (fun tt0 kk0 => XS.iinc X7.here hx rfl (hb hby d1_57) rfl (l' := #[.val (.ref a), .val (.int (2 : Int32)), .val (.int (2 : Int32)), .val (.double u), .second, .val (.ref t), .val (.int (2 : Int32)), .val (.int ((1 : Int32) + (1 : Int32))), .val (.ref r1)]) rfl kk0) ?_
  rw [show ((1 : Int32) + (1 : Int32)) = (2 : Int32) from by decide]
  refine Go.of (mkF m 37 #[.val (.ref a), .val (.int (2 : Int32)), .val (.int (2 : Int32)), .val (.double u), .second, .val (.ref t), .val (.int (2 : Int32)), .val (.int (2 : Int32)), .val (.ref r1)] []) (fun tt0 kk0 => XS.goto X7.here hx rfl (pc0 := 60) (pc' := 37) rfl (hb hby d1_60) (by decide) (by decide) kk0) ?_
  refine Go.of (mkF m 39 #[.val (.ref a), .val (.int (2 : Int32)), .val (.int (2 : Int32)), .val (.double u), .second, .val (.ref t), .val (.int (2 : Int32)), .val (.int (2 : Int32)), .val (.ref r1)] [(.int (2 : Int32))]) (fun tt0 kk0 => XS.iload X7.here hx rfl (hb hby d1_37) rfl kk0) ?_
  refine Go.of (mkF m 41 #[.val (.ref a), .val (.int (2 : Int32)), .val (.int (2 : Int32)), .val (.double u), .second, .val (.ref t), .val (.int (2 : Int32)), .val (.int (2 : Int32)), .val (.ref r1)] [(.int (2 : Int32)), (.int (2 : Int32))]) (fun tt0 kk0 => XS.iload X7.here hx rfl (hb hby d1_39) rfl kk0) ?_
  refine Go.of (mkF m 63 #[.val (.ref a), .val (.int (2 : Int32)), .val (.int (2 : Int32)), .val (.double u), .second, .val (.ref t), .val (.int (2 : Int32)), .val (.int (2 : Int32)), .val (.ref r1)] []) (fun tt0 kk0 => XS.icmpYes X7.here hx rfl (pc0 := 41) (pc' := 63) rfl (hb hby d1_41) rfl (flt (by decide)).2.1 (by decide) (by decide) kk0) ?_
  exact Go.retV X7 hx hret hlk (hb hby d1_63) (by decide) (by decide) ⟨t, r0, r1, yt, rfl, N7, K0, sz_t, by omega, by omega, Ft, Fr0, VT, hy0, hy1, Vf6, Vf7⟩
theorem ef_rmLI (m : MethodId) (x0 : Addr) (x1 : Addr) : entryFrame m #[(.ref x0), (.ref x1)] 7 = mkF m 0 #[.val (.ref x0), .val (.ref x1), .unset, .unset, .unset, .unset, .unset] [] := by first | (simp [entryFrame, mkF, argsToLocals, Value.category]; done) | rfl
set_option maxRecDepth 65536 in
set_option maxHeartbeats 40000000 in
theorem rmLI (l : Launch) (Z : State) (a0 : Array Value) (hw : ∀ d ∈ tables_1, d.before a0 Z = true) (ws : List Jvm.Cond) (a d c0 c1 : Addr) (yd : Int32 → Value) (y0 y1 : Int32 → Int32) (h0 : Heap) (n0 : Nat) (hz0 : n0 ≤ h0.size) (E : Exa Z h0 a "com/example/quench/quench/Plan") (ga : n0 ≤ a) (G : Fld Z h0 a "com/example/quench/quench/Plan" "routes" "[[I" .null) (VD : Fa Z h0 d (.array .int) 2 yd) (hd0 : yd 0 = .ref c0) (hd1 : yd 1 = .ref c1) (W0 : Fa Z h0 c0 .int 2 (fun i => .int (y0 i))) (W1 : Fa Z h0 c1 .int 1 (fun i => .int (y1 i))) (Ec0 : Exa Z h0 c0 "[I") (Ec1 : Exa Z h0 c1 "[I") (nd : a ≠ d) (nc0 : a ≠ c0) (nc1 : a ≠ c1) (p0 : ¬ y0 0 < 0) (p1 : ¬ y0 1 < 0) (p2 : ¬ y1 0 < 0) :
    Met l Z (⟨"com/example/quench/quench/Plan", "<init>", "([[I)V"⟩ : MethodName) prog_42_method_1_code 7 none ws ({ frames := 1, cells := 3, slots := 5, locals := 16 } : Room) #[(.ref a), (.ref d)] h0 (fun v h L => ∃ (t b0 b1 : Addr) (yt : Int32 → Value), v = none ∧ Fr n0 L ∧ Keep h0 h [a] ∧ h0.size ≤ t ∧ h0.size ≤ b0 ∧ h0.size ≤ b1 ∧ Fld Z h a "com/example/quench/quench/Plan" "routes" "[[I" (.ref t) ∧ Fa Z h t (.array .int) 2 yt ∧ yt 0 = .ref b0 ∧ yt 1 = .ref b1 ∧ Fa Z h b0 .int 2 (fun i => .int (y0 i)) ∧ Fa Z h b1 .int 1 (fun i => .int (y1 i))) := by
  refine Met.intro pn3 ?_
  intro pr ev s m below meth c T0 X0 hx hZ hown hby hml hret hlk hnm e0
  refine Go.cast (ef_rmLI m a d) ?_
  have N0 := Fr.nil n0
  have hz := hz0
  have K0 : Keep h0 h0 [a] := Keep.refl h0 _
  refine Go.of (mkF m 1 #[.val (.ref a), .val (.ref d), .unset, .unset, .unset, .unset, .unset] [(.ref a)]) (fun tt0 kk0 => XS.aloadN X0.here hx rfl (hb hby d4_0) rfl rfl kk0) ?_
  obtain ⟨T1, X1, e1, st1⟩ := initO X0 hx hZ hown (tw31 hw) (tw12 hw) (tw13 hw) e0 (g := (mkF m 1 #[.val (.ref a), .val (.ref d), .unset, .unset, .unset, .unset, .unset] [(.ref a)])) rfl (by rw [hml]; rfl) rfl (hb hby d4_1) (by decide) (W := 0) (by show 2 * 0 + _ ≤ _; exact Nat.le_of_eq rfl) (by decide)
  refine Go.of (mkF m 4 #[.val (.ref a), .val (.ref d), .unset, .unset, .unset, .unset, .unset] []) (st1) ?_
  refine Go.of (mkF m 5 #[.val (.ref a), .val (.ref d), .unset, .unset, .unset, .unset, .unset] [(.ref a)]) (fun tt0 kk0 => XS.aloadN X1.here hx rfl (hb hby d4_4) rfl rfl kk0) ?_
  refine Go.of (mkF m 6 #[.val (.ref a), .val (.ref d), .unset, .unset, .unset, .unset, .unset] [(.ref d), (.ref a)]) (fun tt0 kk0 => XS.aloadN X1.here hx rfl (hb hby d4_5) rfl rfl kk0) ?_
  refine Go.arraylength X1 hx hZ e1 VD (g := (mkF m 6 #[.val (.ref a), .val (.ref d), .unset, .unset, .unset, .unset, .unset] [(.ref d), (.ref a)])) rfl rfl (hb hby d4_6) ?_
  show Go pr ev below _ T1 (mkF m 7 #[.val (.ref a), .val (.ref d), .unset, .unset, .unset, .unset, .unset] [(.int (2 : Int32)), (.ref a)])
  obtain ⟨T2, h2, k2, X2, e2, E2, A2, Q2, O2, st2⟩ := newRA X1 hx hZ (ty := .int) (C := "[I") hown (by decide +kernel) (tw32 hw) (tw2 hw) e1 (g := (mkF m 7 #[.val (.ref a), .val (.ref d), .unset, .unset, .unset, .unset, .unset] [(.int (2 : Int32)), (.ref a)])) rfl (hb hby d4_7) rfl (by decide) (cap := 2) (by decide) (by decide) (by decide) (by decide) (ad := "[[I") (by decide +kernel)
  obtain ⟨b2, g2⟩ : ∃ z, z = h0.size := ⟨_, rfl⟩
  rw [← g2] at A2 Q2 st2
  have ne_a_b2 : a ≠ b2 := Nat.ne_of_lt (Nat.lt_of_lt_of_le E.lt (Nat.le_of_eq g2.symm))
  have ne_c0_b2 : c0 ≠ b2 := Nat.ne_of_lt (Nat.lt_of_lt_of_le Ec0.lt (Nat.le_of_eq g2.symm))
  have ne_c1_b2 : c1 ≠ b2 := Nat.ne_of_lt (Nat.lt_of_lt_of_le Ec1.lt (Nat.le_of_eq g2.symm))
  have ne_d_b2 : d ≠ b2 := Nat.ne_of_lt (Nat.lt_of_lt_of_le VD.lt (Nat.le_of_eq g2.symm))
  have gb_b2 : n0 ≤ b2 := Nat.le_trans hz (Nat.le_of_eq g2.symm)
  have sz_b2 : h0.size ≤ b2 := Nat.le_trans K0.1 (Nat.le_of_eq g2.symm)
  replace G := G.ext E2
  replace E := E.ext E2
  replace Ec0 := Ec0.ext E2
  replace Ec1 := Ec1.ext E2
  replace VD := VD.ext E2
  replace W0 := W0.ext E2
  replace W1 := W1.ext E2
  replace hz := Nat.le_trans hz E2.1
  replace K0 := K0.ext E2
  have V_b2 : Fa Z h2 b2 (.array .int) (2 : Int32) (fun _ => Value.null) := Fa.new A2 (by decide)
  have U_b2 : UtA Z h2 b2 .int "[I" := ⟨_, A2.1, O2⟩
  refine Go.of (mkF m 10 #[.val (.ref a), .val (.ref d), .unset, .unset, .unset, .unset, .unset] [(.ref b2), (.ref a)]) (st2) ?_
  obtain ⟨T3, h3, X3, e3, W3, st3⟩ := putF X2 hx hZ hown (host := "") (Or.inl (tw33 hw)) Via.refl e2 G E (Or.inr ⟨(tw34 hw), rfl, hnm⟩) (tw26 hw) (ty := (.array (.array .int))) (by decide) rfl rfl (g := (mkF m 10 #[.val (.ref a), .val (.ref d), .unset, .unset, .unset, .unset, .unset] [(.ref b2), (.ref a)])) rfl rfl (hb hby d4_10)
  replace G := G.same W3
  replace E := E.wr W3
  replace Ec0 := Ec0.wr W3
  replace Ec1 := Ec1.wr W3
  replace Q2 := Q2.wr W3
  replace U_b2 := U_b2.wr W3
  replace VD := VD.other W3 (Ne.symm nd)
  replace W0 := W0.other W3 (Ne.symm nc0)
  replace W1 := W1.other W3 (Ne.symm nc1)
  replace V_b2 := V_b2.other W3 (Ne.symm ne_a_b2)
  replace hz := Nat.le_trans hz (Nat.le_of_eq W3.size.symm)
  replace K0 := K0.wr W3 (Or.inl (by simp))
  have N3 := Fr.snoc X3 N0 ga
  refine Go.of (mkF m 13 #[.val (.ref a), .val (.ref d), .unset, .unset, .unset, .unset, .unset] []) (st3) ?_
  refine Go.of (mkF m 14 #[.val (.ref a), .val (.ref d), .unset, .unset, .unset, .unset, .unset] [(.int (0 : Int32))]) (fun tt0 kk0 => XS.iconst X3.here hx rfl (hb hby d4_13) kk0) ?_
  refine Go.of (mkF m 15 #[.val (.ref a), .val (.ref d), .val (.int (0 : Int32)), .unset, .unset, .unset, .unset] []) (fun tt0 kk0 => XS.istoreN X3.here hx rfl (hb hby d4_14) rfl (l' := #[.val (.ref a), .val (.ref d), .val (.int (0 : Int32)), .unset, .unset, .unset, .unset]) rfl kk0) ?_
  refine Go.of (mkF m 16 #[.val (.ref a), .val (.ref d), .val (.int (0 : Int32)), .unset, .unset, .unset, .unset] [(.int (0 : Int32))]) (fun tt0 kk0 => XS.iloadN X3.here hx rfl (hb hby d4_15) rfl kk0) ?_
  refine Go.of (mkF m 17 #[.val (.ref a), .val (.ref d), .val (.int (0 : Int32)), .unset, .unset, .unset, .unset] [(.ref d), (.int (0 : Int32))]) (fun tt0 kk0 => XS.aloadN X3.here hx rfl (hb hby d4_16) rfl rfl kk0) ?_
  refine Go.arraylength X3 hx hZ e3 VD (g := (mkF m 17 #[.val (.ref a), .val (.ref d), .val (.int (0 : Int32)), .unset, .unset, .unset, .unset] [(.ref d), (.int (0 : Int32))])) rfl rfl (hb hby d4_17) ?_
  show Go pr ev below _ T3 (mkF m 18 #[.val (.ref a), .val (.ref d), .val (.int (0 : Int32)), .unset, .unset, .unset, .unset] [(.int (2 : Int32)), (.int (0 : Int32))])
  refine Go.of (mkF m 21 #[.val (.ref a), .val (.ref d), .val (.int (0 : Int32)), .unset, .unset, .unset, .unset] []) (fun tt0 kk0 => XS.icmpNo X3.here hx rfl (hb hby d4_18) rfl (tlt (by decide)).2.1 kk0) ?_
  refine Go.of (mkF m 22 #[.val (.ref a), .val (.ref d), .val (.int (0 : Int32)), .unset, .unset, .unset, .unset] [(.ref d)]) (fun tt0 kk0 => XS.aloadN X3.here hx rfl (hb hby d4_21) rfl rfl kk0) ?_
  refine Go.of (mkF m 23 #[.val (.ref a), .val (.ref d), .val (.int (0 : Int32)), .unset, .unset, .unset, .unset] [(.int (0 : Int32)), (.ref d)]) (fun tt0 kk0 => XS.iloadN X3.here hx rfl (hb hby d4_22) rfl kk0) ?_
  refine Go.aaload X3 hx hZ e3 VD rfl (by decide) (by decide) (g := (mkF m 23 #[.val (.ref a), .val (.ref d), .val (.int (0 : Int32)), .unset, .unset, .unset, .unset] [(.int (0 : Int32)), (.ref d)])) rfl rfl (hb hby d4_23) ?_
  show Go pr ev below _ T3 (mkF m 24 #[.val (.ref a), .val (.ref d), .val (.int (0 : Int32)), .unset, .unset, .unset, .unset] [(yd (0 : Int32))])
  rw [show (yd (0 : Int32)) = (.ref c0) from hd0]
  show Go pr ev below _ T3 (mkF m 24 #[.val (.ref a), .val (.ref d), .val (.int (0 : Int32)), .unset, .unset, .unset, .unset] [(.ref c0)])
  refine Go.of (mkF m 25 #[.val (.ref a), .val (.ref d), .val (.int (0 : Int32)), .val (.ref c0), .unset, .unset, .unset] []) (fun tt0 kk0 => XS.astoreN X3.here hx rfl (hb hby d4_24) rfl rfl (l' := #[.val (.ref a), .val (.ref d), .val (.int (0 : Int32)), .val (.ref c0), .unset, .unset, .unset]) rfl kk0) ?_
  refine Go.of (mkF m 26 #[.val (.ref a), .val (.ref d), .val (.int (0 : Int32)), .val (.ref c0), .unset, .unset, .unset] [(.ref c0)]) (fun tt0 kk0 => XS.aloadN X3.here hx rfl (hb hby d4_25) rfl rfl kk0) ?_
  refine Go.arraylength X3 hx hZ e3 W0 (g := (mkF m 26 #[.val (.ref a), .val (.ref d), .val (.int (0 : Int32)), .val (.ref c0), .unset, .unset, .unset] [(.ref c0)])) rfl rfl (hb hby d4_26) ?_
  show Go pr ev below _ T3 (mkF m 27 #[.val (.ref a), .val (.ref d), .val (.int (0 : Int32)), .val (.ref c0), .unset, .unset, .unset] [(.int (2 : Int32))])
  refine Go.of (mkF m 29 #[.val (.ref a), .val (.ref d), .val (.int (0 : Int32)), .val (.ref c0), .val (.int (2 : Int32)), .unset, .unset] []) (fun tt0 kk0 => XS.istore X3.here hx rfl (hb hby d4_27) rfl (l' := #[.val (.ref a), .val (.ref d), .val (.int (0 : Int32)), .val (.ref c0), .val (.int (2 : Int32)), .unset, .unset]) rfl kk0) ?_
  refine Go.of (mkF m 30 #[.val (.ref a), .val (.ref d), .val (.int (0 : Int32)), .val (.ref c0), .val (.int (2 : Int32)), .unset, .unset] [(.int (0 : Int32))]) (fun tt0 kk0 => XS.iconst X3.here hx rfl (hb hby d4_29) kk0) ?_
  refine Go.of (mkF m 32 #[.val (.ref a), .val (.ref d), .val (.int (0 : Int32)), .val (.ref c0), .val (.int (2 : Int32)), .val (.int (0 : Int32)), .unset] []) (fun tt0 kk0 => XS.istore X3.here hx rfl (hb hby d4_30) rfl (l' := #[.val (.ref a), .val (.ref d), .val (.int (0 : Int32)), .val (.ref c0), .val (.int (2 : Int32)), .val (.int (0 : Int32)), .unset]) rfl kk0) ?_
  refine Go.of (mkF m 34 #[.val (.ref a), .val (.ref d), .val (.int (0 : Int32)), .val (.ref c0), .val (.int (2 : Int32)), .val (.int (0 : Int32)), .unset] [(.int (0 : Int32))]) (fun tt0 kk0 => XS.iload X3.here hx rfl (hb hby d4_32) rfl kk0) ?_
  refine Go.of (mkF m 36 #[.val (.ref a), .val (.ref d), .val (.int (0 : Int32)), .val (.ref c0), .val (.int (2 : Int32)), .val (.int (0 : Int32)), .unset] [(.int (2 : Int32)), (.int (0 : Int32))]) (fun tt0 kk0 => XS.iload X3.here hx rfl (hb hby d4_34) rfl kk0) ?_
  refine Go.of (mkF m 39 #[.val (.ref a), .val (.ref d), .val (.int (0 : Int32)), .val (.ref c0), .val (.int (2 : Int32)), .val (.int (0 : Int32)), .unset] []) (fun tt0 kk0 => XS.icmpNo X3.here hx rfl (hb hby d4_36) rfl (tlt (by decide)).2.1 kk0) ?_
  refine Go.of (mkF m 40 #[.val (.ref a), .val (.ref d), .val (.int (0 : Int32)), .val (.ref c0), .val (.int (2 : Int32)), .val (.int (0 : Int32)), .unset] [(.ref c0)]) (fun tt0 kk0 => XS.aloadN X3.here hx rfl (hb hby d4_39) rfl rfl kk0) ?_
  refine Go.of (mkF m 42 #[.val (.ref a), .val (.ref d), .val (.int (0 : Int32)), .val (.ref c0), .val (.int (2 : Int32)), .val (.int (0 : Int32)), .unset] [(.int (0 : Int32)), (.ref c0)]) (fun tt0 kk0 => XS.iload X3.here hx rfl (hb hby d4_40) rfl kk0) ?_
  refine Go.iaload X3 hx hZ e3 W0 (by decide) (by decide) (g := (mkF m 42 #[.val (.ref a), .val (.ref d), .val (.int (0 : Int32)), .val (.ref c0), .val (.int (2 : Int32)), .val (.int (0 : Int32)), .unset] [(.int (0 : Int32)), (.ref c0)])) rfl rfl (hb hby d4_42) ?_
  show Go pr ev below _ T3 (mkF m 43 #[.val (.ref a), .val (.ref d), .val (.int (0 : Int32)), .val (.ref c0), .val (.int (2 : Int32)), .val (.int (0 : Int32)), .unset] [(.int (y0 (0 : Int32)))])
  show Go pr ev below _ T3 (mkF m 43 #[.val (.ref a), .val (.ref d), .val (.int (0 : Int32)), .val (.ref c0), .val (.int (2 : Int32)), .val (.int (0 : Int32)), .unset] [(.int (y0 (0 : Int32)))])
  refine Go.of (mkF m 45 #[.val (.ref a), .val (.ref d), .val (.int (0 : Int32)), .val (.ref c0), .val (.int (2 : Int32)), .val (.int (0 : Int32)), .val (.int (y0 (0 : Int32)))] []) (fun tt0 kk0 => XS.istore X3.here hx rfl (hb hby d4_43) rfl (l' := #[.val (.ref a), .val (.ref d), .val (.int (0 : Int32)), .val (.ref c0), .val (.int (2 : Int32)), .val (.int (0 : Int32)), .val (.int (y0 (0 : Int32)))]) rfl kk0) ?_
  refine Go.of (mkF m 47 #[.val (.ref a), .val (.ref d), .val (.int (0 : Int32)), .val (.ref c0), .val (.int (2 : Int32)), .val (.int (0 : Int32)), .val (.int (y0 (0 : Int32)))] [(.int (y0 (0 : Int32)))]) (fun tt0 kk0 => XS.iload X3.here hx rfl (hb hby d4_45) rfl kk0) ?_
  refine Go.of (mkF m 59 #[.val (.ref a), .val (.ref d), .val (.int (0 : Int32)), .val (.ref c0), .val (.int (2 : Int32)), .val (.int (0 : Int32)), .val (.int (y0 (0 : Int32)))] []) (fun tt0 kk0 => XS.ifYes X3.here hx rfl (pc0 := 47) (pc' := 59) rfl (hb hby d4_47) rfl ((if0 _ _).trans (flt p0).2.1) (by decide) (by decide) kk0) ?_
  refine Go.of (mkF m 62 #[.val (.ref a), .val (.ref d), .val (.int (0 : Int32)), .val (.ref c0), .val (.int (2 : Int32)), .val (.int ((0 : Int32) + (1 : Int32))), .val (.int (y0 (0 : Int32)))] []) (fun tt0 kk0 => XS.iinc X3.here hx rfl (hb hby d4_59) rfl (l' := #[.val (.ref a), .val (.ref d), .val (.int (0 : Int32)), .val (.ref c0), .val (.int (2 : Int32)), .val (.int ((0 : Int32) + (1 : Int32))), .val (.int (y0 (0 : Int32)))]) rfl kk0) ?_
  rw [show ((0 : Int32) + (1 : Int32)) = (1 : Int32) from by decide]
  refine Go.of (mkF m 32 #[.val (.ref a), .val (.ref d), .val (.int (0 : Int32)), .val (.ref c0), .val (.int (2 : Int32)), .val (.int (1 : Int32)), .val (.int (y0 (0 : Int32)))] []) (fun tt0 kk0 => XS.goto X3.here hx rfl (pc0 := 62) (pc' := 32) rfl (hb hby d4_62) (by decide) (by decide) kk0) ?_
  refine Go.of (mkF m 34 #[.val (.ref a), .val (.ref d), .val (.int (0 : Int32)), .val (.ref c0), .val (.int (2 : Int32)), .val (.int (1 : Int32)), .val (.int (y0 (0 : Int32)))] [(.int (1 : Int32))]) (fun tt0 kk0 => XS.iload X3.here hx rfl (hb hby d4_32) rfl kk0) ?_
  refine Go.of (mkF m 36 #[.val (.ref a), .val (.ref d), .val (.int (0 : Int32)), .val (.ref c0), .val (.int (2 : Int32)), .val (.int (1 : Int32)), .val (.int (y0 (0 : Int32)))] [(.int (2 : Int32)), (.int (1 : Int32))]) (fun tt0 kk0 => XS.iload X3.here hx rfl (hb hby d4_34) rfl kk0) ?_
  refine Go.of (mkF m 39 #[.val (.ref a), .val (.ref d), .val (.int (0 : Int32)), .val (.ref c0), .val (.int (2 : Int32)), .val (.int (1 : Int32)), .val (.int (y0 (0 : Int32)))] []) (fun tt0 kk0 => XS.icmpNo X3.here hx rfl (hb hby d4_36) rfl (tlt (by decide)).2.1 kk0) ?_
  refine Go.of (mkF m 40 #[.val (.ref a), .val (.ref d), .val (.int (0 : Int32)), .val (.ref c0), .val (.int (2 : Int32)), .val (.int (1 : Int32)), .val (.int (y0 (0 : Int32)))] [(.ref c0)]) (fun tt0 kk0 => XS.aloadN X3.here hx rfl (hb hby d4_39) rfl rfl kk0) ?_
  refine Go.of (mkF m 42 #[.val (.ref a), .val (.ref d), .val (.int (0 : Int32)), .val (.ref c0), .val (.int (2 : Int32)), .val (.int (1 : Int32)), .val (.int (y0 (0 : Int32)))] [(.int (1 : Int32)), (.ref c0)]) (fun tt0 kk0 => XS.iload X3.here hx rfl (hb hby d4_40) rfl kk0) ?_
  refine Go.iaload X3 hx hZ e3 W0 (by decide) (by decide) (g := (mkF m 42 #[.val (.ref a), .val (.ref d), .val (.int (0 : Int32)), .val (.ref c0), .val (.int (2 : Int32)), .val (.int (1 : Int32)), .val (.int (y0 (0 : Int32)))] [(.int (1 : Int32)), (.ref c0)])) rfl rfl (hb hby d4_42) ?_
  show Go pr ev below _ T3 (mkF m 43 #[.val (.ref a), .val (.ref d), .val (.int (0 : Int32)), .val (.ref c0), .val (.int (2 : Int32)), .val (.int (1 : Int32)), .val (.int (y0 (0 : Int32)))] [(.int (y0 (1 : Int32)))])
  show Go pr ev below _ T3 (mkF m 43 #[.val (.ref a), .val (.ref d), .val (.int (0 : Int32)), .val (.ref c0), .val (.int (2 : Int32)), .val (.int (1 : Int32)), .val (.int (y0 (0 : Int32)))] [(.int (y0 (1 : Int32)))])
  refine Go.of (mkF m 45 #[.val (.ref a), .val (.ref d), .val (.int (0 : Int32)), .val (.ref c0), .val (.int (2 : Int32)), .val (.int (1 : Int32)), .val (.int (y0 (1 : Int32)))] []) (fun tt0 kk0 => XS.istore X3.here hx rfl (hb hby d4_43) rfl (l' := #[.val (.ref a), .val (.ref d), .val (.int (0 : Int32)), .val (.ref c0), .val (.int (2 : Int32)), .val (.int (1 : Int32)), .val (.int (y0 (1 : Int32)))]) rfl kk0) ?_
  refine Go.of (mkF m 47 #[.val (.ref a), .val (.ref d), .val (.int (0 : Int32)), .val (.ref c0), .val (.int (2 : Int32)), .val (.int (1 : Int32)), .val (.int (y0 (1 : Int32)))] [(.int (y0 (1 : Int32)))]) (fun tt0 kk0 => XS.iload X3.here hx rfl (hb hby d4_45) rfl kk0) ?_
  refine Go.of (mkF m 59 #[.val (.ref a), .val (.ref d), .val (.int (0 : Int32)), .val (.ref c0), .val (.int (2 : Int32)), .val (.int (1 : Int32)), .val (.int (y0 (1 : Int32)))] []) (fun tt0 kk0 => XS.ifYes X3.here hx rfl (pc0 := 47) (pc' := 59) rfl (hb hby d4_47) rfl ((if0 _ _).trans (flt p1).2.1) (by decide) (by decide) kk0) ?_
  refine Go.of (mkF m 62 #[.val (.ref a), .val (.ref d), .val (.int (0 : Int32)), .val (.ref c0), .val (.int (2 : Int32)), .val (.int ((1 : Int32) + (1 : Int32))), .val (.int (y0 (1 : Int32)))] []) (fun tt0 kk0 => XS.iinc X3.here hx rfl (hb hby d4_59) rfl (l' := #[.val (.ref a), .val (.ref d), .val (.int (0 : Int32)), .val (.ref c0), .val (.int (2 : Int32)), .val (.int ((1 : Int32) + (1 : Int32))), .val (.int (y0 (1 : Int32)))]) rfl kk0) ?_
  rw [show ((1 : Int32) + (1 : Int32)) = (2 : Int32) from by decide]
  refine Go.of (mkF m 32 #[.val (.ref a), .val (.ref d), .val (.int (0 : Int32)), .val (.ref c0), .val (.int (2 : Int32)), .val (.int (2 : Int32)), .val (.int (y0 (1 : Int32)))] []) (fun tt0 kk0 => XS.goto X3.here hx rfl (pc0 := 62) (pc' := 32) rfl (hb hby d4_62) (by decide) (by decide) kk0) ?_
  refine Go.of (mkF m 34 #[.val (.ref a), .val (.ref d), .val (.int (0 : Int32)), .val (.ref c0), .val (.int (2 : Int32)), .val (.int (2 : Int32)), .val (.int (y0 (1 : Int32)))] [(.int (2 : Int32))]) (fun tt0 kk0 => XS.iload X3.here hx rfl (hb hby d4_32) rfl kk0) ?_
  refine Go.of (mkF m 36 #[.val (.ref a), .val (.ref d), .val (.int (0 : Int32)), .val (.ref c0), .val (.int (2 : Int32)), .val (.int (2 : Int32)), .val (.int (y0 (1 : Int32)))] [(.int (2 : Int32)), (.int (2 : Int32))]) (fun tt0 kk0 => XS.iload X3.here hx rfl (hb hby d4_34) rfl kk0) ?_
  refine Go.of (mkF m 65 #[.val (.ref a), .val (.ref d), .val (.int (0 : Int32)), .val (.ref c0), .val (.int (2 : Int32)), .val (.int (2 : Int32)), .val (.int (y0 (1 : Int32)))] []) (fun tt0 kk0 => XS.icmpYes X3.here hx rfl (pc0 := 36) (pc' := 65) rfl (hb hby d4_36) rfl (flt (by decide)).2.1 (by decide) (by decide) kk0) ?_
  refine Go.of (mkF m 66 #[.val (.ref a), .val (.ref d), .val (.int (0 : Int32)), .val (.ref c0), .val (.int (2 : Int32)), .val (.int (2 : Int32)), .val (.int (y0 (1 : Int32)))] [(.ref a)]) (fun tt0 kk0 => XS.aloadN X3.here hx rfl (hb hby d4_65) rfl rfl kk0) ?_
  obtain ⟨T4, X4, e4, st4⟩ := getF X3 hx hZ hown (host := "") (Or.inl (tw33 hw)) Via.refl e3 G (g := (mkF m 66 #[.val (.ref a), .val (.ref d), .val (.int (0 : Int32)), .val (.ref c0), .val (.int (2 : Int32)), .val (.int (2 : Int32)), .val (.int (y0 (1 : Int32)))] [(.ref a)])) rfl rfl (hb hby d4_66)
  refine Go.of (mkF m 69 #[.val (.ref a), .val (.ref d), .val (.int (0 : Int32)), .val (.ref c0), .val (.int (2 : Int32)), .val (.int (2 : Int32)), .val (.int (y0 (1 : Int32)))] [(.ref b2)]) (st4) ?_
  refine Go.of (mkF m 70 #[.val (.ref a), .val (.ref d), .val (.int (0 : Int32)), .val (.ref c0), .val (.int (2 : Int32)), .val (.int (2 : Int32)), .val (.int (y0 (1 : Int32)))] [(.int (0 : Int32)), (.ref b2)]) (fun tt0 kk0 => XS.iloadN X4.here hx rfl (hb hby d4_69) rfl kk0) ?_
  refine Go.of (mkF m 71 #[.val (.ref a), .val (.ref d), .val (.int (0 : Int32)), .val (.ref c0), .val (.int (2 : Int32)), .val (.int (2 : Int32)), .val (.int (y0 (1 : Int32)))] [(.ref d), (.int (0 : Int32)), (.ref b2)]) (fun tt0 kk0 => XS.aloadN X4.here hx rfl (hb hby d4_70) rfl rfl kk0) ?_
  refine Go.of (mkF m 72 #[.val (.ref a), .val (.ref d), .val (.int (0 : Int32)), .val (.ref c0), .val (.int (2 : Int32)), .val (.int (2 : Int32)), .val (.int (y0 (1 : Int32)))] [(.int (0 : Int32)), (.ref d), (.int (0 : Int32)), (.ref b2)]) (fun tt0 kk0 => XS.iloadN X4.here hx rfl (hb hby d4_71) rfl kk0) ?_
  refine Go.aaload X4 hx hZ e4 VD rfl (by decide) (by decide) (g := (mkF m 72 #[.val (.ref a), .val (.ref d), .val (.int (0 : Int32)), .val (.ref c0), .val (.int (2 : Int32)), .val (.int (2 : Int32)), .val (.int (y0 (1 : Int32)))] [(.int (0 : Int32)), (.ref d), (.int (0 : Int32)), (.ref b2)])) rfl rfl (hb hby d4_72) ?_
  show Go pr ev below _ T4 (mkF m 73 #[.val (.ref a), .val (.ref d), .val (.int (0 : Int32)), .val (.ref c0), .val (.int (2 : Int32)), .val (.int (2 : Int32)), .val (.int (y0 (1 : Int32)))] [(yd (0 : Int32)), (.int (0 : Int32)), (.ref b2)])
  rw [show (yd (0 : Int32)) = (.ref c0) from hd0]
  show Go pr ev below _ T4 (mkF m 73 #[.val (.ref a), .val (.ref d), .val (.int (0 : Int32)), .val (.ref c0), .val (.int (2 : Int32)), .val (.int (2 : Int32)), .val (.int (y0 (1 : Int32)))] [(.ref c0), (.int (0 : Int32)), (.ref b2)])
  refine Go.clone X4 hx hZ hown (tw35 hw) (tw36 hw) (tw40 hw) (tw38 hw) (tw39 hw) (tw41 hw) e4 W0 Ec0 (g := (mkF m 73 #[.val (.ref a), .val (.ref d), .val (.int (0 : Int32)), .val (.ref c0), .val (.int (2 : Int32)), .val (.int (2 : Int32)), .val (.int (y0 (1 : Int32)))] [(.ref c0), (.int (0 : Int32)), (.ref b2)])) rfl (by rw [hml]; rfl) rfl (hb hby d4_73) (by decide) (W := 2) (cap := 2) (by show 2 * 0 + _ ≤ _; exact Nat.le_of_eq rfl) (by decide) (by decide) (by decide) (by decide) ?_
  rintro T5 h5 b5 g5 X5 e5 E5 V5 Q5
  have ne_a_b5 : a ≠ b5 := Nat.ne_of_lt (Nat.lt_of_lt_of_le E.lt (Nat.le_of_eq g5.symm))
  have ne_c0_b5 : c0 ≠ b5 := Nat.ne_of_lt (Nat.lt_of_lt_of_le Ec0.lt (Nat.le_of_eq g5.symm))
  have ne_c1_b5 : c1 ≠ b5 := Nat.ne_of_lt (Nat.lt_of_lt_of_le Ec1.lt (Nat.le_of_eq g5.symm))
  have ne_b2_b5 : b2 ≠ b5 := Nat.ne_of_lt (Nat.lt_of_lt_of_le Q2.lt (Nat.le_of_eq g5.symm))
  have ne_d_b5 : d ≠ b5 := Nat.ne_of_lt (Nat.lt_of_lt_of_le VD.lt (Nat.le_of_eq g5.symm))
  have gb_b5 : n0 ≤ b5 := Nat.le_trans hz (Nat.le_of_eq g5.symm)
  have sz_b5 : h0.size ≤ b5 := Nat.le_trans K0.1 (Nat.le_of_eq g5.symm)
  replace G := G.ext E5
  replace E := E.ext E5
  replace Ec0 := Ec0.ext E5
  replace Ec1 := Ec1.ext E5
  replace Q2 := Q2.ext E5
  replace VD := VD.ext E5
  replace W0 := W0.ext E5
  replace W1 := W1.ext E5
  replace V_b2 := V_b2.ext E5
  replace U_b2 := U_b2.ext E5
  replace hz := Nat.le_trans hz E5.1
  replace K0 := K0.ext E5
  show Go pr ev below _ T5 (mkF m 76 #[.val (.ref a), .val (.ref d), .val (.int (0 : Int32)), .val (.ref c0), .val (.int (2 : Int32)), .val (.int (2 : Int32)), .val (.int (y0 (1 : Int32)))] [(.ref b5), (.int (0 : Int32)), (.ref b2)])
  obtain ⟨T6, X6, e6, st6⟩ := castY X5 hx hZ hown (tw32 hw) e5 (Ins.self Q5) (g := (mkF m 76 #[.val (.ref a), .val (.ref d), .val (.int (0 : Int32)), .val (.ref c0), .val (.int (2 : Int32)), .val (.int (2 : Int32)), .val (.int (y0 (1 : Int32)))] [(.ref b5), (.int (0 : Int32)), (.ref b2)])) rfl rfl (hb hby d4_76)
  refine Go.of (mkF m 79 #[.val (.ref a), .val (.ref d), .val (.int (0 : Int32)), .val (.ref c0), .val (.int (2 : Int32)), .val (.int (2 : Int32)), .val (.int (y0 (1 : Int32)))] [(.ref b5), (.int (0 : Int32)), (.ref b2)]) (st6) ?_
  refine Go.aastore X6 hx hZ e6 V_b2 rfl rfl (Fa.stoA V_b2 U_b2 (Ins.self Q5)) (by decide) (by decide) (g := (mkF m 79 #[.val (.ref a), .val (.ref d), .val (.int (0 : Int32)), .val (.ref c0), .val (.int (2 : Int32)), .val (.int (2 : Int32)), .val (.int (y0 (1 : Int32)))] [(.ref b5), (.int (0 : Int32)), (.ref b2)])) rfl rfl (hb hby d4_79) ?_
  rintro T7 h7 X7 e7 W7 V7
  replace G := G.other W7 (Or.inl ne_a_b2)
  replace E := E.wr W7
  replace Ec0 := Ec0.wr W7
  replace Ec1 := Ec1.wr W7
  replace Q2 := Q2.wr W7
  replace Q5 := Q5.wr W7
  replace U_b2 := U_b2.wr W7
  replace VD := VD.other W7 ne_d_b2
  replace W0 := W0.other W7 ne_c0_b2
  replace W1 := W1.other W7 ne_c1_b2
  replace V5 := V5.other W7 (Ne.symm ne_b2_b5)
  replace hz := Nat.le_trans hz (Nat.le_of_eq W7.size.symm)
  replace K0 := K0.wr W7 (Or.inr sz_b2)
  replace V_b2 := V7
  have N7 := Fr.snoc X7 N3 gb_b2
  show Go pr ev below _ T7 (mkF m 80 #[.val (.ref a), .val (.ref d), .val (.int (0 : Int32)), .val (.ref c0), .val (.int (2 : Int32)), .val (.int (2 : Int32)), .val (.int (y0 (1 : Int32)))] [])
  refine Go.of (mkF m 83 #[.val (.ref a), .val (.ref d), .val (.int ((0 : Int32) + (1 : Int32))), .val (.ref c0), .val (.int (2 : Int32)), .val (.int (2 : Int32)), .val (.int (y0 (1 : Int32)))] []) (fun tt0 kk0 => XS.iinc X7.here hx rfl (hb hby d4_80) rfl (l' := #[.val (.ref a), .val (.ref d), .val (.int ((0 : Int32) + (1 : Int32))), .val (.ref c0), .val (.int (2 : Int32)), .val (.int (2 : Int32)), .val (.int (y0 (1 : Int32)))]) rfl kk0) ?_
  rw [show ((0 : Int32) + (1 : Int32)) = (1 : Int32) from by decide]
  refine Go.of (mkF m 15 #[.val (.ref a), .val (.ref d), .val (.int (1 : Int32)), .val (.ref c0), .val (.int (2 : Int32)), .val (.int (2 : Int32)), .val (.int (y0 (1 : Int32)))] []) (fun tt0 kk0 => XS.goto X7.here hx rfl (pc0 := 83) (pc' := 15) rfl (hb hby d4_83) (by decide) (by decide) kk0) ?_
  refine Go.of (mkF m 16 #[.val (.ref a), .val (.ref d), .val (.int (1 : Int32)), .val (.ref c0), .val (.int (2 : Int32)), .val (.int (2 : Int32)), .val (.int (y0 (1 : Int32)))] [(.int (1 : Int32))]) (fun tt0 kk0 => XS.iloadN X7.here hx rfl (hb hby d4_15) rfl kk0) ?_
  refine Go.of (mkF m 17 #[.val (.ref a), .val (.ref d), .val (.int (1 : Int32)), .val (.ref c0), .val (.int (2 : Int32)), .val (.int (2 : Int32)), .val (.int (y0 (1 : Int32)))] [(.ref d), (.int (1 : Int32))]) (fun tt0 kk0 => XS.aloadN X7.here hx rfl (hb hby d4_16) rfl rfl kk0) ?_
  refine Go.arraylength X7 hx hZ e7 VD (g := (mkF m 17 #[.val (.ref a), .val (.ref d), .val (.int (1 : Int32)), .val (.ref c0), .val (.int (2 : Int32)), .val (.int (2 : Int32)), .val (.int (y0 (1 : Int32)))] [(.ref d), (.int (1 : Int32))])) rfl rfl (hb hby d4_17) ?_
  show Go pr ev below _ T7 (mkF m 18 #[.val (.ref a), .val (.ref d), .val (.int (1 : Int32)), .val (.ref c0), .val (.int (2 : Int32)), .val (.int (2 : Int32)), .val (.int (y0 (1 : Int32)))] [(.int (2 : Int32)), (.int (1 : Int32))])
  refine Go.of (mkF m 21 #[.val (.ref a), .val (.ref d), .val (.int (1 : Int32)), .val (.ref c0), .val (.int (2 : Int32)), .val (.int (2 : Int32)), .val (.int (y0 (1 : Int32)))] []) (fun tt0 kk0 => XS.icmpNo X7.here hx rfl (hb hby d4_18) rfl (tlt (by decide)).2.1 kk0) ?_
  refine Go.of (mkF m 22 #[.val (.ref a), .val (.ref d), .val (.int (1 : Int32)), .val (.ref c0), .val (.int (2 : Int32)), .val (.int (2 : Int32)), .val (.int (y0 (1 : Int32)))] [(.ref d)]) (fun tt0 kk0 => XS.aloadN X7.here hx rfl (hb hby d4_21) rfl rfl kk0) ?_
  refine Go.of (mkF m 23 #[.val (.ref a), .val (.ref d), .val (.int (1 : Int32)), .val (.ref c0), .val (.int (2 : Int32)), .val (.int (2 : Int32)), .val (.int (y0 (1 : Int32)))] [(.int (1 : Int32)), (.ref d)]) (fun tt0 kk0 => XS.iloadN X7.here hx rfl (hb hby d4_22) rfl kk0) ?_
  refine Go.aaload X7 hx hZ e7 VD rfl (by decide) (by decide) (g := (mkF m 23 #[.val (.ref a), .val (.ref d), .val (.int (1 : Int32)), .val (.ref c0), .val (.int (2 : Int32)), .val (.int (2 : Int32)), .val (.int (y0 (1 : Int32)))] [(.int (1 : Int32)), (.ref d)])) rfl rfl (hb hby d4_23) ?_
  show Go pr ev below _ T7 (mkF m 24 #[.val (.ref a), .val (.ref d), .val (.int (1 : Int32)), .val (.ref c0), .val (.int (2 : Int32)), .val (.int (2 : Int32)), .val (.int (y0 (1 : Int32)))] [(yd (1 : Int32))])
  rw [show (yd (1 : Int32)) = (.ref c1) from hd1]
  show Go pr ev below _ T7 (mkF m 24 #[.val (.ref a), .val (.ref d), .val (.int (1 : Int32)), .val (.ref c0), .val (.int (2 : Int32)), .val (.int (2 : Int32)), .val (.int (y0 (1 : Int32)))] [(.ref c1)])
  refine Go.of (mkF m 25 #[.val (.ref a), .val (.ref d), .val (.int (1 : Int32)), .val (.ref c1), .val (.int (2 : Int32)), .val (.int (2 : Int32)), .val (.int (y0 (1 : Int32)))] []) (fun tt0 kk0 => XS.astoreN X7.here hx rfl (hb hby d4_24) rfl rfl (l' := #[.val (.ref a), .val (.ref d), .val (.int (1 : Int32)), .val (.ref c1), .val (.int (2 : Int32)), .val (.int (2 : Int32)), .val (.int (y0 (1 : Int32)))]) rfl kk0) ?_
  refine Go.of (mkF m 26 #[.val (.ref a), .val (.ref d), .val (.int (1 : Int32)), .val (.ref c1), .val (.int (2 : Int32)), .val (.int (2 : Int32)), .val (.int (y0 (1 : Int32)))] [(.ref c1)]) (fun tt0 kk0 => XS.aloadN X7.here hx rfl (hb hby d4_25) rfl rfl kk0) ?_
  refine Go.arraylength X7 hx hZ e7 W1 (g := (mkF m 26 #[.val (.ref a), .val (.ref d), .val (.int (1 : Int32)), .val (.ref c1), .val (.int (2 : Int32)), .val (.int (2 : Int32)), .val (.int (y0 (1 : Int32)))] [(.ref c1)])) rfl rfl (hb hby d4_26) ?_
  show Go pr ev below _ T7 (mkF m 27 #[.val (.ref a), .val (.ref d), .val (.int (1 : Int32)), .val (.ref c1), .val (.int (2 : Int32)), .val (.int (2 : Int32)), .val (.int (y0 (1 : Int32)))] [(.int (1 : Int32))])
  refine Go.of (mkF m 29 #[.val (.ref a), .val (.ref d), .val (.int (1 : Int32)), .val (.ref c1), .val (.int (1 : Int32)), .val (.int (2 : Int32)), .val (.int (y0 (1 : Int32)))] []) (fun tt0 kk0 => XS.istore X7.here hx rfl (hb hby d4_27) rfl (l' := #[.val (.ref a), .val (.ref d), .val (.int (1 : Int32)), .val (.ref c1), .val (.int (1 : Int32)), .val (.int (2 : Int32)), .val (.int (y0 (1 : Int32)))]) rfl kk0) ?_
  refine Go.of (mkF m 30 #[.val (.ref a), .val (.ref d), .val (.int (1 : Int32)), .val (.ref c1), .val (.int (1 : Int32)), .val (.int (2 : Int32)), .val (.int (y0 (1 : Int32)))] [(.int (0 : Int32))]) (fun tt0 kk0 => XS.iconst X7.here hx rfl (hb hby d4_29) kk0) ?_
  refine Go.of (mkF m 32 #[.val (.ref a), .val (.ref d), .val (.int (1 : Int32)), .val (.ref c1), .val (.int (1 : Int32)), .val (.int (0 : Int32)), .val (.int (y0 (1 : Int32)))] []) (fun tt0 kk0 => XS.istore X7.here hx rfl (hb hby d4_30) rfl (l' := #[.val (.ref a), .val (.ref d), .val (.int (1 : Int32)), .val (.ref c1), .val (.int (1 : Int32)), .val (.int (0 : Int32)), .val (.int (y0 (1 : Int32)))]) rfl kk0) ?_
  refine Go.of (mkF m 34 #[.val (.ref a), .val (.ref d), .val (.int (1 : Int32)), .val (.ref c1), .val (.int (1 : Int32)), .val (.int (0 : Int32)), .val (.int (y0 (1 : Int32)))] [(.int (0 : Int32))]) (fun tt0 kk0 => XS.iload X7.here hx rfl (hb hby d4_32) rfl kk0) ?_
  refine Go.of (mkF m 36 #[.val (.ref a), .val (.ref d), .val (.int (1 : Int32)), .val (.ref c1), .val (.int (1 : Int32)), .val (.int (0 : Int32)), .val (.int (y0 (1 : Int32)))] [(.int (1 : Int32)), (.int (0 : Int32))]) (fun tt0 kk0 => XS.iload X7.here hx rfl (hb hby d4_34) rfl kk0) ?_
  refine Go.of (mkF m 39 #[.val (.ref a), .val (.ref d), .val (.int (1 : Int32)), .val (.ref c1), .val (.int (1 : Int32)), .val (.int (0 : Int32)), .val (.int (y0 (1 : Int32)))] []) (fun tt0 kk0 => XS.icmpNo X7.here hx rfl (hb hby d4_36) rfl (tlt (by decide)).2.1 kk0) ?_
  refine Go.of (mkF m 40 #[.val (.ref a), .val (.ref d), .val (.int (1 : Int32)), .val (.ref c1), .val (.int (1 : Int32)), .val (.int (0 : Int32)), .val (.int (y0 (1 : Int32)))] [(.ref c1)]) (fun tt0 kk0 => XS.aloadN X7.here hx rfl (hb hby d4_39) rfl rfl kk0) ?_
  refine Go.of (mkF m 42 #[.val (.ref a), .val (.ref d), .val (.int (1 : Int32)), .val (.ref c1), .val (.int (1 : Int32)), .val (.int (0 : Int32)), .val (.int (y0 (1 : Int32)))] [(.int (0 : Int32)), (.ref c1)]) (fun tt0 kk0 => XS.iload X7.here hx rfl (hb hby d4_40) rfl kk0) ?_
  refine Go.iaload X7 hx hZ e7 W1 (by decide) (by decide) (g := (mkF m 42 #[.val (.ref a), .val (.ref d), .val (.int (1 : Int32)), .val (.ref c1), .val (.int (1 : Int32)), .val (.int (0 : Int32)), .val (.int (y0 (1 : Int32)))] [(.int (0 : Int32)), (.ref c1)])) rfl rfl (hb hby d4_42) ?_
  show Go pr ev below _ T7 (mkF m 43 #[.val (.ref a), .val (.ref d), .val (.int (1 : Int32)), .val (.ref c1), .val (.int (1 : Int32)), .val (.int (0 : Int32)), .val (.int (y0 (1 : Int32)))] [(.int (y1 (0 : Int32)))])
  show Go pr ev below _ T7 (mkF m 43 #[.val (.ref a), .val (.ref d), .val (.int (1 : Int32)), .val (.ref c1), .val (.int (1 : Int32)), .val (.int (0 : Int32)), .val (.int (y0 (1 : Int32)))] [(.int (y1 (0 : Int32)))])
  refine Go.of (mkF m 45 #[.val (.ref a), .val (.ref d), .val (.int (1 : Int32)), .val (.ref c1), .val (.int (1 : Int32)), .val (.int (0 : Int32)), .val (.int (y1 (0 : Int32)))] []) (fun tt0 kk0 => XS.istore X7.here hx rfl (hb hby d4_43) rfl (l' := #[.val (.ref a), .val (.ref d), .val (.int (1 : Int32)), .val (.ref c1), .val (.int (1 : Int32)), .val (.int (0 : Int32)), .val (.int (y1 (0 : Int32)))]) rfl kk0) ?_
  refine Go.of (mkF m 47 #[.val (.ref a), .val (.ref d), .val (.int (1 : Int32)), .val (.ref c1), .val (.int (1 : Int32)), .val (.int (0 : Int32)), .val (.int (y1 (0 : Int32)))] [(.int (y1 (0 : Int32)))]) (fun tt0 kk0 => XS.iload X7.here hx rfl (hb hby d4_45) rfl kk0) ?_
  refine Go.of (mkF m 59 #[.val (.ref a), .val (.ref d), .val (.int (1 : Int32)), .val (.ref c1), .val (.int (1 : Int32)), .val (.int (0 : Int32)), .val (.int (y1 (0 : Int32)))] []) (fun tt0 kk0 => XS.ifYes X7.here hx rfl (pc0 := 47) (pc' := 59) rfl (hb hby d4_47) rfl ((if0 _ _).trans (flt p2).2.1) (by decide) (by decide) kk0) ?_
  refine Go.of (mkF m 62 #[.val (.ref a), .val (.ref d), .val (.int (1 : Int32)), .val (.ref c1), .val (.int (1 : Int32)), .val (.int ((0 : Int32) + (1 : Int32))), .val (.int (y1 (0 : Int32)))] []) (fun tt0 kk0 => XS.iinc X7.here hx rfl (hb hby d4_59) rfl (l' := #[.val (.ref a), .val (.ref d), .val (.int (1 : Int32)), .val (.ref c1), .val (.int (1 : Int32)), .val (.int ((0 : Int32) + (1 : Int32))), .val (.int (y1 (0 : Int32)))]) rfl kk0) ?_
  rw [show ((0 : Int32) + (1 : Int32)) = (1 : Int32) from by decide]
  refine Go.of (mkF m 32 #[.val (.ref a), .val (.ref d), .val (.int (1 : Int32)), .val (.ref c1), .val (.int (1 : Int32)), .val (.int (1 : Int32)), .val (.int (y1 (0 : Int32)))] []) (fun tt0 kk0 => XS.goto X7.here hx rfl (pc0 := 62) (pc' := 32) rfl (hb hby d4_62) (by decide) (by decide) kk0) ?_
  refine Go.of (mkF m 34 #[.val (.ref a), .val (.ref d), .val (.int (1 : Int32)), .val (.ref c1), .val (.int (1 : Int32)), .val (.int (1 : Int32)), .val (.int (y1 (0 : Int32)))] [(.int (1 : Int32))]) (fun tt0 kk0 => XS.iload X7.here hx rfl (hb hby d4_32) rfl kk0) ?_
  refine Go.of (mkF m 36 #[.val (.ref a), .val (.ref d), .val (.int (1 : Int32)), .val (.ref c1), .val (.int (1 : Int32)), .val (.int (1 : Int32)), .val (.int (y1 (0 : Int32)))] [(.int (1 : Int32)), (.int (1 : Int32))]) (fun tt0 kk0 => XS.iload X7.here hx rfl (hb hby d4_34) rfl kk0) ?_
  refine Go.of (mkF m 65 #[.val (.ref a), .val (.ref d), .val (.int (1 : Int32)), .val (.ref c1), .val (.int (1 : Int32)), .val (.int (1 : Int32)), .val (.int (y1 (0 : Int32)))] []) (fun tt0 kk0 => XS.icmpYes X7.here hx rfl (pc0 := 36) (pc' := 65) rfl (hb hby d4_36) rfl (flt (by decide)).2.1 (by decide) (by decide) kk0) ?_
  refine Go.of (mkF m 66 #[.val (.ref a), .val (.ref d), .val (.int (1 : Int32)), .val (.ref c1), .val (.int (1 : Int32)), .val (.int (1 : Int32)), .val (.int (y1 (0 : Int32)))] [(.ref a)]) (fun tt0 kk0 => XS.aloadN X7.here hx rfl (hb hby d4_65) rfl rfl kk0) ?_
  obtain ⟨T8, X8, e8, st8⟩ := getF X7 hx hZ hown (host := "") (Or.inl (tw33 hw)) Via.refl e7 G (g := (mkF m 66 #[.val (.ref a), .val (.ref d), .val (.int (1 : Int32)), .val (.ref c1), .val (.int (1 : Int32)), .val (.int (1 : Int32)), .val (.int (y1 (0 : Int32)))] [(.ref a)])) rfl rfl (hb hby d4_66)
  refine Go.of (mkF m 69 #[.val (.ref a), .val (.ref d), .val (.int (1 : Int32)), .val (.ref c1), .val (.int (1 : Int32)), .val (.int (1 : Int32)), .val (.int (y1 (0 : Int32)))] [(.ref b2)]) (st8) ?_
  refine Go.of (mkF m 70 #[.val (.ref a), .val (.ref d), .val (.int (1 : Int32)), .val (.ref c1), .val (.int (1 : Int32)), .val (.int (1 : Int32)), .val (.int (y1 (0 : Int32)))] [(.int (1 : Int32)), (.ref b2)]) (fun tt0 kk0 => XS.iloadN X8.here hx rfl (hb hby d4_69) rfl kk0) ?_
  refine Go.of (mkF m 71 #[.val (.ref a), .val (.ref d), .val (.int (1 : Int32)), .val (.ref c1), .val (.int (1 : Int32)), .val (.int (1 : Int32)), .val (.int (y1 (0 : Int32)))] [(.ref d), (.int (1 : Int32)), (.ref b2)]) (fun tt0 kk0 => XS.aloadN X8.here hx rfl (hb hby d4_70) rfl rfl kk0) ?_
  refine Go.of (mkF m 72 #[.val (.ref a), .val (.ref d), .val (.int (1 : Int32)), .val (.ref c1), .val (.int (1 : Int32)), .val (.int (1 : Int32)), .val (.int (y1 (0 : Int32)))] [(.int (1 : Int32)), (.ref d), (.int (1 : Int32)), (.ref b2)]) (fun tt0 kk0 => XS.iloadN X8.here hx rfl (hb hby d4_71) rfl kk0) ?_
  refine Go.aaload X8 hx hZ e8 VD rfl (by decide) (by decide) (g := (mkF m 72 #[.val (.ref a), .val (.ref d), .val (.int (1 : Int32)), .val (.ref c1), .val (.int (1 : Int32)), .val (.int (1 : Int32)), .val (.int (y1 (0 : Int32)))] [(.int (1 : Int32)), (.ref d), (.int (1 : Int32)), (.ref b2)])) rfl rfl (hb hby d4_72) ?_
  show Go pr ev below _ T8 (mkF m 73 #[.val (.ref a), .val (.ref d), .val (.int (1 : Int32)), .val (.ref c1), .val (.int (1 : Int32)), .val (.int (1 : Int32)), .val (.int (y1 (0 : Int32)))] [(yd (1 : Int32)), (.int (1 : Int32)), (.ref b2)])
  rw [show (yd (1 : Int32)) = (.ref c1) from hd1]
  show Go pr ev below _ T8 (mkF m 73 #[.val (.ref a), .val (.ref d), .val (.int (1 : Int32)), .val (.ref c1), .val (.int (1 : Int32)), .val (.int (1 : Int32)), .val (.int (y1 (0 : Int32)))] [(.ref c1), (.int (1 : Int32)), (.ref b2)])
  refine Go.clone X8 hx hZ hown (tw35 hw) (tw36 hw) (tw40 hw) (tw38 hw) (tw39 hw) (tw41 hw) e8 W1 Ec1 (g := (mkF m 73 #[.val (.ref a), .val (.ref d), .val (.int (1 : Int32)), .val (.ref c1), .val (.int (1 : Int32)), .val (.int (1 : Int32)), .val (.int (y1 (0 : Int32)))] [(.ref c1), (.int (1 : Int32)), (.ref b2)])) rfl (by rw [hml]; rfl) rfl (hb hby d4_73) (by decide) (W := 2) (cap := 1) (by show 2 * 0 + _ ≤ _; exact Nat.le_of_eq rfl) (by decide) (by decide) (by decide) (by decide) ?_
  rintro T9 h9 b9 g9 X9 e9 E9 V9 Q9
  have ne_a_b9 : a ≠ b9 := Nat.ne_of_lt (Nat.lt_of_lt_of_le E.lt (Nat.le_of_eq g9.symm))
  have ne_c0_b9 : c0 ≠ b9 := Nat.ne_of_lt (Nat.lt_of_lt_of_le Ec0.lt (Nat.le_of_eq g9.symm))
  have ne_c1_b9 : c1 ≠ b9 := Nat.ne_of_lt (Nat.lt_of_lt_of_le Ec1.lt (Nat.le_of_eq g9.symm))
  have ne_b2_b9 : b2 ≠ b9 := Nat.ne_of_lt (Nat.lt_of_lt_of_le Q2.lt (Nat.le_of_eq g9.symm))
  have ne_b5_b9 : b5 ≠ b9 := Nat.ne_of_lt (Nat.lt_of_lt_of_le Q5.lt (Nat.le_of_eq g9.symm))
  have ne_d_b9 : d ≠ b9 := Nat.ne_of_lt (Nat.lt_of_lt_of_le VD.lt (Nat.le_of_eq g9.symm))
  have gb_b9 : n0 ≤ b9 := Nat.le_trans hz (Nat.le_of_eq g9.symm)
  have sz_b9 : h0.size ≤ b9 := Nat.le_trans K0.1 (Nat.le_of_eq g9.symm)
  replace G := G.ext E9
  replace E := E.ext E9
  replace Ec0 := Ec0.ext E9
  replace Ec1 := Ec1.ext E9
  replace Q2 := Q2.ext E9
  replace Q5 := Q5.ext E9
  replace VD := VD.ext E9
  replace W0 := W0.ext E9
  replace W1 := W1.ext E9
  replace V_b2 := V_b2.ext E9
  replace V5 := V5.ext E9
  replace U_b2 := U_b2.ext E9
  replace hz := Nat.le_trans hz E9.1
  replace K0 := K0.ext E9
  show Go pr ev below _ T9 (mkF m 76 #[.val (.ref a), .val (.ref d), .val (.int (1 : Int32)), .val (.ref c1), .val (.int (1 : Int32)), .val (.int (1 : Int32)), .val (.int (y1 (0 : Int32)))] [(.ref b9), (.int (1 : Int32)), (.ref b2)])
  obtain ⟨T10, X10, e10, st10⟩ := castY X9 hx hZ hown (tw32 hw) e9 (Ins.self Q9) (g := (mkF m 76 #[.val (.ref a), .val (.ref d), .val (.int (1 : Int32)), .val (.ref c1), .val (.int (1 : Int32)), .val (.int (1 : Int32)), .val (.int (y1 (0 : Int32)))] [(.ref b9), (.int (1 : Int32)), (.ref b2)])) rfl rfl (hb hby d4_76)
  refine Go.of (mkF m 79 #[.val (.ref a), .val (.ref d), .val (.int (1 : Int32)), .val (.ref c1), .val (.int (1 : Int32)), .val (.int (1 : Int32)), .val (.int (y1 (0 : Int32)))] [(.ref b9), (.int (1 : Int32)), (.ref b2)]) (st10) ?_
  refine Go.aastore X10 hx hZ e10 V_b2 rfl rfl (Fa.stoA V_b2 U_b2 (Ins.self Q9)) (by decide) (by decide) (g := (mkF m 79 #[.val (.ref a), .val (.ref d), .val (.int (1 : Int32)), .val (.ref c1), .val (.int (1 : Int32)), .val (.int (1 : Int32)), .val (.int (y1 (0 : Int32)))] [(.ref b9), (.int (1 : Int32)), (.ref b2)])) rfl rfl (hb hby d4_79) ?_
  rintro T11 h11 X11 e11 W11 V11
  replace G := G.other W11 (Or.inl ne_a_b2)
  replace E := E.wr W11
  replace Ec0 := Ec0.wr W11
  replace Ec1 := Ec1.wr W11
  replace Q2 := Q2.wr W11
  replace Q5 := Q5.wr W11
  replace Q9 := Q9.wr W11
  replace U_b2 := U_b2.wr W11
  replace VD := VD.other W11 ne_d_b2
  replace W0 := W0.other W11 ne_c0_b2
  replace W1 := W1.other W11 ne_c1_b2
  replace V5 := V5.other W11 (Ne.symm ne_b2_b5)
  replace V9 := V9.other W11 (Ne.symm ne_b2_b9)
  replace hz := Nat.le_trans hz (Nat.le_of_eq W11.size.symm)
  replace K0 := K0.wr W11 (Or.inr sz_b2)
  replace V_b2 := V11
  have N11 := Fr.snoc X11 N7 gb_b2
  show Go pr ev below _ T11 (mkF m 80 #[.val (.ref a), .val (.ref d), .val (.int (1 : Int32)), .val (.ref c1), .val (.int (1 : Int32)), .val (.int (1 : Int32)), .val (.int (y1 (0 : Int32)))] [])
  refine Go.of (mkF m 83 #[.val (.ref a), .val (.ref d), .val (.int ((1 : Int32) + (1 : Int32))), .val (.ref c1), .val (.int (1 : Int32)), .val (.int (1 : Int32)), .val (.int (y1 (0 : Int32)))] []) (fun tt0 kk0 => XS.iinc X11.here hx rfl (hb hby d4_80) rfl (l' := #[.val (.ref a), .val (.ref d), .val (.int ((1 : Int32) + (1 : Int32))), .val (.ref c1), .val (.int (1 : Int32)), .val (.int (1 : Int32)), .val (.int (y1 (0 : Int32)))]) rfl kk0) ?_
  rw [show ((1 : Int32) + (1 : Int32)) = (2 : Int32) from by decide]
  refine Go.of (mkF m 15 #[.val (.ref a), .val (.ref d), .val (.int (2 : Int32)), .val (.ref c1), .val (.int (1 : Int32)), .val (.int (1 : Int32)), .val (.int (y1 (0 : Int32)))] []) (fun tt0 kk0 => XS.goto X11.here hx rfl (pc0 := 83) (pc' := 15) rfl (hb hby d4_83) (by decide) (by decide) kk0) ?_
  refine Go.of (mkF m 16 #[.val (.ref a), .val (.ref d), .val (.int (2 : Int32)), .val (.ref c1), .val (.int (1 : Int32)), .val (.int (1 : Int32)), .val (.int (y1 (0 : Int32)))] [(.int (2 : Int32))]) (fun tt0 kk0 => XS.iloadN X11.here hx rfl (hb hby d4_15) rfl kk0) ?_
  refine Go.of (mkF m 17 #[.val (.ref a), .val (.ref d), .val (.int (2 : Int32)), .val (.ref c1), .val (.int (1 : Int32)), .val (.int (1 : Int32)), .val (.int (y1 (0 : Int32)))] [(.ref d), (.int (2 : Int32))]) (fun tt0 kk0 => XS.aloadN X11.here hx rfl (hb hby d4_16) rfl rfl kk0) ?_
  refine Go.arraylength X11 hx hZ e11 VD (g := (mkF m 17 #[.val (.ref a), .val (.ref d), .val (.int (2 : Int32)), .val (.ref c1), .val (.int (1 : Int32)), .val (.int (1 : Int32)), .val (.int (y1 (0 : Int32)))] [(.ref d), (.int (2 : Int32))])) rfl rfl (hb hby d4_17) ?_
  show Go pr ev below _ T11 (mkF m 18 #[.val (.ref a), .val (.ref d), .val (.int (2 : Int32)), .val (.ref c1), .val (.int (1 : Int32)), .val (.int (1 : Int32)), .val (.int (y1 (0 : Int32)))] [(.int (2 : Int32)), (.int (2 : Int32))])
  refine Go.of (mkF m 86 #[.val (.ref a), .val (.ref d), .val (.int (2 : Int32)), .val (.ref c1), .val (.int (1 : Int32)), .val (.int (1 : Int32)), .val (.int (y1 (0 : Int32)))] []) (fun tt0 kk0 => XS.icmpYes X11.here hx rfl (pc0 := 18) (pc' := 86) rfl (hb hby d4_18) rfl (flt (by decide)).2.1 (by decide) (by decide) kk0) ?_
  exact Go.retV X11 hx hret hlk (hb hby d4_86) (by decide) (by decide) (by rw [e11]; exact ⟨b2, b5, b9, _, rfl, N11, K0, sz_b2, sz_b5, sz_b9, G, V_b2, by first | rfl | simp [fnup], by first | rfl | simp [fnup], V5, V9⟩)
theorem ef_rmRb (m : MethodId) (x0 : Addr) : entryFrame m #[(.ref x0)] 1 = mkF m 0 #[.val (.ref x0)] [] := by first | (simp [entryFrame, mkF, argsToLocals, Value.category]; done) | rfl
set_option maxRecDepth 65536 in
set_option maxHeartbeats 40000000 in
theorem rmRb (l : Launch) (Z : State) (a0 : Array Value) (hw : ∀ d ∈ tables_1, d.before a0 Z = true) (ws : List Jvm.Cond) (a t c0 c1 : Addr) (yt : Int32 → Value) (y0 y1 : Int32 → Int32) (h0 : Heap) (G : Fld Z h0 a "com/example/quench/quench/Plan" "routes" "[[I" (.ref t)) (VT : Fa Z h0 t (.array .int) 2 yt) (hy0 : yt 0 = .ref c0) (hy1 : yt 1 = .ref c1) (W0 : Fa Z h0 c0 .int 2 (fun i => .int (y0 i))) (W1 : Fa Z h0 c1 .int 1 (fun i => .int (y1 i))) :
    Met l Z (⟨"com/example/quench/quench/Plan", "robots", "()I"⟩ : MethodName) prog_42_method_2_code 1 (some .int) ws ({ frames := 0, cells := 0, slots := 0, locals := 0 } : Room) #[(.ref a)] h0 (fun v h L => v = some (.int 2) ∧ L = [] ∧ h = h0) := by
  refine Met.intro pn4 ?_
  intro pr ev s m below meth c T0 X0 hx hZ hown hby hml hret hlk hnm e0
  refine Go.cast (ef_rmRb m a) ?_
  refine Go.of (mkF m 1 #[.val (.ref a)] [(.ref a)]) (fun tt0 kk0 => XS.aloadN X0.here hx rfl (hb hby d6_0) rfl rfl kk0) ?_
  obtain ⟨T1, X1, e1, st1⟩ := getF X0 hx hZ hown (host := "") (Or.inl (tw33 hw)) Via.refl e0 G (g := (mkF m 1 #[.val (.ref a)] [(.ref a)])) rfl rfl (hb hby d6_1)
  refine Go.of (mkF m 4 #[.val (.ref a)] [(.ref t)]) (st1) ?_
  refine Go.arraylength X1 hx hZ e1 VT (g := (mkF m 4 #[.val (.ref a)] [(.ref t)])) rfl rfl (hb hby d6_4) ?_
  show Go pr ev below _ T1 (mkF m 5 #[.val (.ref a)] [(.int (2 : Int32))])
  exact Go.retW X1 hx (t := .int) hret hlk rfl (Or.inl ⟨rfl, by simp, _, rfl⟩) (hb hby d6_5) (by decide) (by decide) ⟨rfl, rfl, e1⟩
theorem ef_rmRL0 (m : MethodId) (x0 : Addr) (x1 : Int32) : entryFrame m #[(.ref x0), (.int x1)] 2 = mkF m 0 #[.val (.ref x0), .val (.int x1)] [] := by first | (simp [entryFrame, mkF, argsToLocals, Value.category]; done) | rfl
set_option maxRecDepth 65536 in
set_option maxHeartbeats 40000000 in
theorem rmRL0 (l : Launch) (Z : State) (a0 : Array Value) (hw : ∀ d ∈ tables_1, d.before a0 Z = true) (ws : List Jvm.Cond) (a t c0 c1 : Addr) (yt : Int32 → Value) (y0 y1 : Int32 → Int32) (h0 : Heap) (G : Fld Z h0 a "com/example/quench/quench/Plan" "routes" "[[I" (.ref t)) (VT : Fa Z h0 t (.array .int) 2 yt) (hy0 : yt 0 = .ref c0) (hy1 : yt 1 = .ref c1) (W0 : Fa Z h0 c0 .int 2 (fun i => .int (y0 i))) (W1 : Fa Z h0 c1 .int 1 (fun i => .int (y1 i))) :
    Met l Z (⟨"com/example/quench/quench/Plan", "routeLength", "(I)I"⟩ : MethodName) prog_42_method_3_code 2 (some .int) ws ({ frames := 0, cells := 0, slots := 0, locals := 0 } : Room) #[(.ref a), (.int (0 : Int32))] h0 (fun v h L => v = some (.int 2) ∧ L = [] ∧ h = h0) := by
  refine Met.intro pn5 ?_
  intro pr ev s m below meth c T0 X0 hx hZ hown hby hml hret hlk hnm e0
  refine Go.cast (ef_rmRL0 m a (0 : Int32)) ?_
  refine Go.of (mkF m 1 #[.val (.ref a), .val (.int (0 : Int32))] [(.ref a)]) (fun tt0 kk0 => XS.aloadN X0.here hx rfl (hb hby d7_0) rfl rfl kk0) ?_
  obtain ⟨T1, X1, e1, st1⟩ := getF X0 hx hZ hown (host := "") (Or.inl (tw33 hw)) Via.refl e0 G (g := (mkF m 1 #[.val (.ref a), .val (.int (0 : Int32))] [(.ref a)])) rfl rfl (hb hby d7_1)
  refine Go.of (mkF m 4 #[.val (.ref a), .val (.int (0 : Int32))] [(.ref t)]) (st1) ?_
  refine Go.of (mkF m 5 #[.val (.ref a), .val (.int (0 : Int32))] [(.int (0 : Int32)), (.ref t)]) (fun tt0 kk0 => XS.iloadN X1.here hx rfl (hb hby d7_4) rfl kk0) ?_
  refine Go.aaload X1 hx hZ e1 VT rfl (by decide) (by decide) (g := (mkF m 5 #[.val (.ref a), .val (.int (0 : Int32))] [(.int (0 : Int32)), (.ref t)])) rfl rfl (hb hby d7_5) ?_
  show Go pr ev below _ T1 (mkF m 6 #[.val (.ref a), .val (.int (0 : Int32))] [(yt (0 : Int32))])
  rw [show (yt (0 : Int32)) = (.ref c0) from hy0]
  show Go pr ev below _ T1 (mkF m 6 #[.val (.ref a), .val (.int (0 : Int32))] [(.ref c0)])
  refine Go.arraylength X1 hx hZ e1 W0 (g := (mkF m 6 #[.val (.ref a), .val (.int (0 : Int32))] [(.ref c0)])) rfl rfl (hb hby d7_6) ?_
  show Go pr ev below _ T1 (mkF m 7 #[.val (.ref a), .val (.int (0 : Int32))] [(.int (2 : Int32))])
  exact Go.retW X1 hx (t := .int) hret hlk rfl (Or.inl ⟨rfl, by simp, _, rfl⟩) (hb hby d7_7) (by decide) (by decide) ⟨rfl, rfl, e1⟩
theorem ef_rmRL1 (m : MethodId) (x0 : Addr) (x1 : Int32) : entryFrame m #[(.ref x0), (.int x1)] 2 = mkF m 0 #[.val (.ref x0), .val (.int x1)] [] := by first | (simp [entryFrame, mkF, argsToLocals, Value.category]; done) | rfl
set_option maxRecDepth 65536 in
set_option maxHeartbeats 40000000 in
theorem rmRL1 (l : Launch) (Z : State) (a0 : Array Value) (hw : ∀ d ∈ tables_1, d.before a0 Z = true) (ws : List Jvm.Cond) (a t c0 c1 : Addr) (yt : Int32 → Value) (y0 y1 : Int32 → Int32) (h0 : Heap) (G : Fld Z h0 a "com/example/quench/quench/Plan" "routes" "[[I" (.ref t)) (VT : Fa Z h0 t (.array .int) 2 yt) (hy0 : yt 0 = .ref c0) (hy1 : yt 1 = .ref c1) (W0 : Fa Z h0 c0 .int 2 (fun i => .int (y0 i))) (W1 : Fa Z h0 c1 .int 1 (fun i => .int (y1 i))) :
    Met l Z (⟨"com/example/quench/quench/Plan", "routeLength", "(I)I"⟩ : MethodName) prog_42_method_3_code 2 (some .int) ws ({ frames := 0, cells := 0, slots := 0, locals := 0 } : Room) #[(.ref a), (.int (1 : Int32))] h0 (fun v h L => v = some (.int 1) ∧ L = [] ∧ h = h0) := by
  refine Met.intro pn5 ?_
  intro pr ev s m below meth c T0 X0 hx hZ hown hby hml hret hlk hnm e0
  refine Go.cast (ef_rmRL1 m a (1 : Int32)) ?_
  refine Go.of (mkF m 1 #[.val (.ref a), .val (.int (1 : Int32))] [(.ref a)]) (fun tt0 kk0 => XS.aloadN X0.here hx rfl (hb hby d7_0) rfl rfl kk0) ?_
  obtain ⟨T1, X1, e1, st1⟩ := getF X0 hx hZ hown (host := "") (Or.inl (tw33 hw)) Via.refl e0 G (g := (mkF m 1 #[.val (.ref a), .val (.int (1 : Int32))] [(.ref a)])) rfl rfl (hb hby d7_1)
  refine Go.of (mkF m 4 #[.val (.ref a), .val (.int (1 : Int32))] [(.ref t)]) (st1) ?_
  refine Go.of (mkF m 5 #[.val (.ref a), .val (.int (1 : Int32))] [(.int (1 : Int32)), (.ref t)]) (fun tt0 kk0 => XS.iloadN X1.here hx rfl (hb hby d7_4) rfl kk0) ?_
  refine Go.aaload X1 hx hZ e1 VT rfl (by decide) (by decide) (g := (mkF m 5 #[.val (.ref a), .val (.int (1 : Int32))] [(.int (1 : Int32)), (.ref t)])) rfl rfl (hb hby d7_5) ?_
  show Go pr ev below _ T1 (mkF m 6 #[.val (.ref a), .val (.int (1 : Int32))] [(yt (1 : Int32))])
  rw [show (yt (1 : Int32)) = (.ref c1) from hy1]
  show Go pr ev below _ T1 (mkF m 6 #[.val (.ref a), .val (.int (1 : Int32))] [(.ref c1)])
  refine Go.arraylength X1 hx hZ e1 W1 (g := (mkF m 6 #[.val (.ref a), .val (.int (1 : Int32))] [(.ref c1)])) rfl rfl (hb hby d7_6) ?_
  show Go pr ev below _ T1 (mkF m 7 #[.val (.ref a), .val (.int (1 : Int32))] [(.int (1 : Int32))])
  exact Go.retW X1 hx (t := .int) hret hlk rfl (Or.inl ⟨rfl, by simp, _, rfl⟩) (hb hby d7_7) (by decide) (by decide) ⟨rfl, rfl, e1⟩
theorem ef_rmTk00 (m : MethodId) (x0 : Addr) (x1 : Int32) (x2 : Int32) : entryFrame m #[(.ref x0), (.int x1), (.int x2)] 3 = mkF m 0 #[.val (.ref x0), .val (.int x1), .val (.int x2)] [] := by first | (simp [entryFrame, mkF, argsToLocals, Value.category]; done) | rfl
set_option maxRecDepth 65536 in
set_option maxHeartbeats 40000000 in
theorem rmTk00 (l : Launch) (Z : State) (a0 : Array Value) (hw : ∀ d ∈ tables_1, d.before a0 Z = true) (ws : List Jvm.Cond) (a t c0 c1 : Addr) (yt : Int32 → Value) (y0 y1 : Int32 → Int32) (h0 : Heap) (G : Fld Z h0 a "com/example/quench/quench/Plan" "routes" "[[I" (.ref t)) (VT : Fa Z h0 t (.array .int) 2 yt) (hy0 : yt 0 = .ref c0) (hy1 : yt 1 = .ref c1) (W0 : Fa Z h0 c0 .int 2 (fun i => .int (y0 i))) (W1 : Fa Z h0 c1 .int 1 (fun i => .int (y1 i))) :
    Met l Z (⟨"com/example/quench/quench/Plan", "task", "(II)I"⟩ : MethodName) prog_42_method_4_code 3 (some .int) ws ({ frames := 0, cells := 0, slots := 0, locals := 0 } : Room) #[(.ref a), (.int (0 : Int32)), (.int (0 : Int32))] h0 (fun v h L => v = some (.int (y0 0)) ∧ L = [] ∧ h = h0) := by
  refine Met.intro pn6 ?_
  intro pr ev s m below meth c T0 X0 hx hZ hown hby hml hret hlk hnm e0
  refine Go.cast (ef_rmTk00 m a (0 : Int32) (0 : Int32)) ?_
  refine Go.of (mkF m 1 #[.val (.ref a), .val (.int (0 : Int32)), .val (.int (0 : Int32))] [(.ref a)]) (fun tt0 kk0 => XS.aloadN X0.here hx rfl (hb hby d8_0) rfl rfl kk0) ?_
  obtain ⟨T1, X1, e1, st1⟩ := getF X0 hx hZ hown (host := "") (Or.inl (tw33 hw)) Via.refl e0 G (g := (mkF m 1 #[.val (.ref a), .val (.int (0 : Int32)), .val (.int (0 : Int32))] [(.ref a)])) rfl rfl (hb hby d8_1)
  refine Go.of (mkF m 4 #[.val (.ref a), .val (.int (0 : Int32)), .val (.int (0 : Int32))] [(.ref t)]) (st1) ?_
  refine Go.of (mkF m 5 #[.val (.ref a), .val (.int (0 : Int32)), .val (.int (0 : Int32))] [(.int (0 : Int32)), (.ref t)]) (fun tt0 kk0 => XS.iloadN X1.here hx rfl (hb hby d8_4) rfl kk0) ?_
  refine Go.aaload X1 hx hZ e1 VT rfl (by decide) (by decide) (g := (mkF m 5 #[.val (.ref a), .val (.int (0 : Int32)), .val (.int (0 : Int32))] [(.int (0 : Int32)), (.ref t)])) rfl rfl (hb hby d8_5) ?_
  show Go pr ev below _ T1 (mkF m 6 #[.val (.ref a), .val (.int (0 : Int32)), .val (.int (0 : Int32))] [(yt (0 : Int32))])
  rw [show (yt (0 : Int32)) = (.ref c0) from hy0]
  show Go pr ev below _ T1 (mkF m 6 #[.val (.ref a), .val (.int (0 : Int32)), .val (.int (0 : Int32))] [(.ref c0)])
  refine Go.of (mkF m 7 #[.val (.ref a), .val (.int (0 : Int32)), .val (.int (0 : Int32))] [(.int (0 : Int32)), (.ref c0)]) (fun tt0 kk0 => XS.iloadN X1.here hx rfl (hb hby d8_6) rfl kk0) ?_
  refine Go.iaload X1 hx hZ e1 W0 (by decide) (by decide) (g := (mkF m 7 #[.val (.ref a), .val (.int (0 : Int32)), .val (.int (0 : Int32))] [(.int (0 : Int32)), (.ref c0)])) rfl rfl (hb hby d8_7) ?_
  show Go pr ev below _ T1 (mkF m 8 #[.val (.ref a), .val (.int (0 : Int32)), .val (.int (0 : Int32))] [(.int (y0 (0 : Int32)))])
  show Go pr ev below _ T1 (mkF m 8 #[.val (.ref a), .val (.int (0 : Int32)), .val (.int (0 : Int32))] [(.int (y0 (0 : Int32)))])
  exact Go.retW X1 hx (t := .int) hret hlk rfl (Or.inl ⟨rfl, by simp, _, rfl⟩) (hb hby d8_8) (by decide) (by decide) ⟨rfl, rfl, e1⟩
theorem ef_rmTk01 (m : MethodId) (x0 : Addr) (x1 : Int32) (x2 : Int32) : entryFrame m #[(.ref x0), (.int x1), (.int x2)] 3 = mkF m 0 #[.val (.ref x0), .val (.int x1), .val (.int x2)] [] := by first | (simp [entryFrame, mkF, argsToLocals, Value.category]; done) | rfl
set_option maxRecDepth 65536 in
set_option maxHeartbeats 40000000 in
theorem rmTk01 (l : Launch) (Z : State) (a0 : Array Value) (hw : ∀ d ∈ tables_1, d.before a0 Z = true) (ws : List Jvm.Cond) (a t c0 c1 : Addr) (yt : Int32 → Value) (y0 y1 : Int32 → Int32) (h0 : Heap) (G : Fld Z h0 a "com/example/quench/quench/Plan" "routes" "[[I" (.ref t)) (VT : Fa Z h0 t (.array .int) 2 yt) (hy0 : yt 0 = .ref c0) (hy1 : yt 1 = .ref c1) (W0 : Fa Z h0 c0 .int 2 (fun i => .int (y0 i))) (W1 : Fa Z h0 c1 .int 1 (fun i => .int (y1 i))) :
    Met l Z (⟨"com/example/quench/quench/Plan", "task", "(II)I"⟩ : MethodName) prog_42_method_4_code 3 (some .int) ws ({ frames := 0, cells := 0, slots := 0, locals := 0 } : Room) #[(.ref a), (.int (0 : Int32)), (.int (1 : Int32))] h0 (fun v h L => v = some (.int (y0 1)) ∧ L = [] ∧ h = h0) := by
  refine Met.intro pn6 ?_
  intro pr ev s m below meth c T0 X0 hx hZ hown hby hml hret hlk hnm e0
  refine Go.cast (ef_rmTk01 m a (0 : Int32) (1 : Int32)) ?_
  refine Go.of (mkF m 1 #[.val (.ref a), .val (.int (0 : Int32)), .val (.int (1 : Int32))] [(.ref a)]) (fun tt0 kk0 => XS.aloadN X0.here hx rfl (hb hby d8_0) rfl rfl kk0) ?_
  obtain ⟨T1, X1, e1, st1⟩ := getF X0 hx hZ hown (host := "") (Or.inl (tw33 hw)) Via.refl e0 G (g := (mkF m 1 #[.val (.ref a), .val (.int (0 : Int32)), .val (.int (1 : Int32))] [(.ref a)])) rfl rfl (hb hby d8_1)
  refine Go.of (mkF m 4 #[.val (.ref a), .val (.int (0 : Int32)), .val (.int (1 : Int32))] [(.ref t)]) (st1) ?_
  refine Go.of (mkF m 5 #[.val (.ref a), .val (.int (0 : Int32)), .val (.int (1 : Int32))] [(.int (0 : Int32)), (.ref t)]) (fun tt0 kk0 => XS.iloadN X1.here hx rfl (hb hby d8_4) rfl kk0) ?_
  refine Go.aaload X1 hx hZ e1 VT rfl (by decide) (by decide) (g := (mkF m 5 #[.val (.ref a), .val (.int (0 : Int32)), .val (.int (1 : Int32))] [(.int (0 : Int32)), (.ref t)])) rfl rfl (hb hby d8_5) ?_
  show Go pr ev below _ T1 (mkF m 6 #[.val (.ref a), .val (.int (0 : Int32)), .val (.int (1 : Int32))] [(yt (0 : Int32))])
  rw [show (yt (0 : Int32)) = (.ref c0) from hy0]
  show Go pr ev below _ T1 (mkF m 6 #[.val (.ref a), .val (.int (0 : Int32)), .val (.int (1 : Int32))] [(.ref c0)])
  refine Go.of (mkF m 7 #[.val (.ref a), .val (.int (0 : Int32)), .val (.int (1 : Int32))] [(.int (1 : Int32)), (.ref c0)]) (fun tt0 kk0 => XS.iloadN X1.here hx rfl (hb hby d8_6) rfl kk0) ?_
  refine Go.iaload X1 hx hZ e1 W0 (by decide) (by decide) (g := (mkF m 7 #[.val (.ref a), .val (.int (0 : Int32)), .val (.int (1 : Int32))] [(.int (1 : Int32)), (.ref c0)])) rfl rfl (hb hby d8_7) ?_
  show Go pr ev below _ T1 (mkF m 8 #[.val (.ref a), .val (.int (0 : Int32)), .val (.int (1 : Int32))] [(.int (y0 (1 : Int32)))])
  show Go pr ev below _ T1 (mkF m 8 #[.val (.ref a), .val (.int (0 : Int32)), .val (.int (1 : Int32))] [(.int (y0 (1 : Int32)))])
  exact Go.retW X1 hx (t := .int) hret hlk rfl (Or.inl ⟨rfl, by simp, _, rfl⟩) (hb hby d8_8) (by decide) (by decide) ⟨rfl, rfl, e1⟩
theorem ef_rmTk10 (m : MethodId) (x0 : Addr) (x1 : Int32) (x2 : Int32) : entryFrame m #[(.ref x0), (.int x1), (.int x2)] 3 = mkF m 0 #[.val (.ref x0), .val (.int x1), .val (.int x2)] [] := by first | (simp [entryFrame, mkF, argsToLocals, Value.category]; done) | rfl
set_option maxRecDepth 65536 in
set_option maxHeartbeats 40000000 in
theorem rmTk10 (l : Launch) (Z : State) (a0 : Array Value) (hw : ∀ d ∈ tables_1, d.before a0 Z = true) (ws : List Jvm.Cond) (a t c0 c1 : Addr) (yt : Int32 → Value) (y0 y1 : Int32 → Int32) (h0 : Heap) (G : Fld Z h0 a "com/example/quench/quench/Plan" "routes" "[[I" (.ref t)) (VT : Fa Z h0 t (.array .int) 2 yt) (hy0 : yt 0 = .ref c0) (hy1 : yt 1 = .ref c1) (W0 : Fa Z h0 c0 .int 2 (fun i => .int (y0 i))) (W1 : Fa Z h0 c1 .int 1 (fun i => .int (y1 i))) :
    Met l Z (⟨"com/example/quench/quench/Plan", "task", "(II)I"⟩ : MethodName) prog_42_method_4_code 3 (some .int) ws ({ frames := 0, cells := 0, slots := 0, locals := 0 } : Room) #[(.ref a), (.int (1 : Int32)), (.int (0 : Int32))] h0 (fun v h L => v = some (.int (y1 0)) ∧ L = [] ∧ h = h0) := by
  refine Met.intro pn6 ?_
  intro pr ev s m below meth c T0 X0 hx hZ hown hby hml hret hlk hnm e0
  refine Go.cast (ef_rmTk10 m a (1 : Int32) (0 : Int32)) ?_
  refine Go.of (mkF m 1 #[.val (.ref a), .val (.int (1 : Int32)), .val (.int (0 : Int32))] [(.ref a)]) (fun tt0 kk0 => XS.aloadN X0.here hx rfl (hb hby d8_0) rfl rfl kk0) ?_
  obtain ⟨T1, X1, e1, st1⟩ := getF X0 hx hZ hown (host := "") (Or.inl (tw33 hw)) Via.refl e0 G (g := (mkF m 1 #[.val (.ref a), .val (.int (1 : Int32)), .val (.int (0 : Int32))] [(.ref a)])) rfl rfl (hb hby d8_1)
  refine Go.of (mkF m 4 #[.val (.ref a), .val (.int (1 : Int32)), .val (.int (0 : Int32))] [(.ref t)]) (st1) ?_
  refine Go.of (mkF m 5 #[.val (.ref a), .val (.int (1 : Int32)), .val (.int (0 : Int32))] [(.int (1 : Int32)), (.ref t)]) (fun tt0 kk0 => XS.iloadN X1.here hx rfl (hb hby d8_4) rfl kk0) ?_
  refine Go.aaload X1 hx hZ e1 VT rfl (by decide) (by decide) (g := (mkF m 5 #[.val (.ref a), .val (.int (1 : Int32)), .val (.int (0 : Int32))] [(.int (1 : Int32)), (.ref t)])) rfl rfl (hb hby d8_5) ?_
  show Go pr ev below _ T1 (mkF m 6 #[.val (.ref a), .val (.int (1 : Int32)), .val (.int (0 : Int32))] [(yt (1 : Int32))])
  rw [show (yt (1 : Int32)) = (.ref c1) from hy1]
  show Go pr ev below _ T1 (mkF m 6 #[.val (.ref a), .val (.int (1 : Int32)), .val (.int (0 : Int32))] [(.ref c1)])
  refine Go.of (mkF m 7 #[.val (.ref a), .val (.int (1 : Int32)), .val (.int (0 : Int32))] [(.int (0 : Int32)), (.ref c1)]) (fun tt0 kk0 => XS.iloadN X1.here hx rfl (hb hby d8_6) rfl kk0) ?_
  refine Go.iaload X1 hx hZ e1 W1 (by decide) (by decide) (g := (mkF m 7 #[.val (.ref a), .val (.int (1 : Int32)), .val (.int (0 : Int32))] [(.int (0 : Int32)), (.ref c1)])) rfl rfl (hb hby d8_7) ?_
  show Go pr ev below _ T1 (mkF m 8 #[.val (.ref a), .val (.int (1 : Int32)), .val (.int (0 : Int32))] [(.int (y1 (0 : Int32)))])
  show Go pr ev below _ T1 (mkF m 8 #[.val (.ref a), .val (.int (1 : Int32)), .val (.int (0 : Int32))] [(.int (y1 (0 : Int32)))])
  exact Go.retW X1 hx (t := .int) hret hlk rfl (Or.inl ⟨rfl, by simp, _, rfl⟩) (hb hby d8_8) (by decide) (by decide) ⟨rfl, rfl, e1⟩
theorem ef_rmMv (m : MethodId) (x0 : Addr) (x1 : Int32) (x2 : Int32) : entryFrame m #[(.ref x0), (.int x1), (.int x2)] 3 = mkF m 0 #[.val (.ref x0), .val (.int x1), .val (.int x2)] [] := by first | (simp [entryFrame, mkF, argsToLocals, Value.category]; done) | rfl
set_option maxRecDepth 65536 in
set_option maxHeartbeats 40000000 in
theorem rmMv (l : Launch) (Z : State) (a0 : Array Value) (hw : ∀ d ∈ tables_1, d.before a0 Z = true) (ws : List Jvm.Cond) (a : Addr) (f g : Int32) (h0 : Heap) (Ft : Fld Z h0 a "com/example/quench/quench/Pheromones" "tasks" "I" (.int (2 : Int32))) :
    Met l Z (⟨"com/example/quench/quench/Pheromones", "move", "(II)I"⟩ : MethodName) prog_40_method_3_code 3 (some .int) ws ({ frames := 0, cells := 0, slots := 0, locals := 0 } : Room) #[(.ref a), (.int f), (.int g)] h0 (fun v h L => v = some (.int (own_mv f g)) ∧ L = [] ∧ h = h0) := by
  refine Met.intro pn7 ?_
  intro pr ev s m below meth c T0 X0 hx hZ hown hby hml hret hlk hnm e0
  refine Go.cast (ef_rmMv m a f g) ?_
  refine Go.of (mkF m 1 #[.val (.ref a), .val (.int f), .val (.int g)] [(.int f)]) (fun tt0 kk0 => XS.iloadN X0.here hx rfl (hb hby d9_0) rfl kk0) ?_
  refine Go.of (mkF m 2 #[.val (.ref a), .val (.int f), .val (.int g)] [(.int (1 : Int32)), (.int f)]) (fun tt0 kk0 => XS.iconst X0.here hx rfl (hb hby d9_1) kk0) ?_
  refine Go.of (mkF m 3 #[.val (.ref a), .val (.int f), .val (.int g)] [(.int (f + (1 : Int32)))]) (fun tt0 kk0 => XS.iadd X0.here hx rfl (hb hby d9_2) rfl kk0) ?_
  refine Go.of (mkF m 4 #[.val (.ref a), .val (.int f), .val (.int g)] [(.ref a), (.int (f + (1 : Int32)))]) (fun tt0 kk0 => XS.aloadN X0.here hx rfl (hb hby d9_3) rfl rfl kk0) ?_
  obtain ⟨T1, X1, e1, st1⟩ := getF X0 hx hZ hown (host := "") (Or.inl (tw14 hw)) Via.refl e0 Ft (g := (mkF m 4 #[.val (.ref a), .val (.int f), .val (.int g)] [(.ref a), (.int (f + (1 : Int32)))])) rfl rfl (hb hby d9_4)
  refine Go.of (mkF m 7 #[.val (.ref a), .val (.int f), .val (.int g)] [(.int (2 : Int32)), (.int (f + (1 : Int32)))]) (st1) ?_
  refine Go.of (mkF m 8 #[.val (.ref a), .val (.int f), .val (.int g)] [(.int ((f + (1 : Int32)) * (2 : Int32)))]) (fun tt0 kk0 => XS.imul X1.here hx rfl (hb hby d9_7) rfl kk0) ?_
  refine Go.of (mkF m 9 #[.val (.ref a), .val (.int f), .val (.int g)] [(.int g), (.int ((f + (1 : Int32)) * (2 : Int32)))]) (fun tt0 kk0 => XS.iloadN X1.here hx rfl (hb hby d9_8) rfl kk0) ?_
  refine Go.of (mkF m 10 #[.val (.ref a), .val (.int f), .val (.int g)] [(.int (((f + (1 : Int32)) * (2 : Int32)) + g))]) (fun tt0 kk0 => XS.iadd X1.here hx rfl (hb hby d9_9) rfl kk0) ?_
  exact Go.retW X1 hx (t := .int) hret hlk rfl (Or.inl ⟨rfl, by simp, _, rfl⟩) (hb hby d9_10) (by decide) (by decide) ⟨rfl, rfl, e1⟩
theorem ef_rmOn0 (m : MethodId) (x0 : Addr) (x1 : Int32) (x2 : Int32) (x3 : Int32) : entryFrame m #[(.ref x0), (.int x1), (.int x2), (.int x3)] 4 = mkF m 0 #[.val (.ref x0), .val (.int x1), .val (.int x2), .val (.int x3)] [] := by first | (simp [entryFrame, mkF, argsToLocals, Value.category]; done) | rfl
set_option maxRecDepth 65536 in
set_option maxHeartbeats 40000000 in
theorem rmOn0 (l : Launch) (Z : State) (a0 : Array Value) (hw : ∀ d ∈ tables_1, d.before a0 Z = true) (ws : List Jvm.Cond) (a : Addr) (t r0 r1 : Addr) (yt : Int32 → Value) (z0 z1 : Int32 → UInt64) (f g : Int32) (h0 : Heap) (E : Exa Z h0 a "com/example/quench/quench/Pheromones") (Ft : Fld Z h0 a "com/example/quench/quench/Pheromones" "tasks" "I" (.int (2 : Int32))) (Fq : Fld Z h0 a "com/example/quench/quench/Pheromones" "trails" "[[D" (.ref t)) (VT : Fa Z h0 t (.array .double) 2 yt) (hy0 : yt 0 = .ref r0) (hy1 : yt 1 = .ref r1) (V0 : Fa Z h0 r0 .double 6 (fun i => .double (z0 i))) (V1 : Fa Z h0 r1 .double 6 (fun i => .double (z1 i))) (hr : ¬ own_mv f g < 0 ∧ own_mv f g < 6) :
    Met l Z (⟨"com/example/quench/quench/Pheromones", "on", "(III)D"⟩ : MethodName) prog_40_method_2_code 4 (some .double) ws ({ frames := 1, cells := 0, slots := 0, locals := 15 } : Room) #[(.ref a), (.int (0 : Int32)), (.int f), (.int g)] h0 (fun v h L => v = some (.double (z0 (own_mv f g))) ∧ L = [] ∧ h = h0) := by
  refine Met.intro pn8 ?_
  intro pr ev s m below meth c T0 X0 hx hZ hown hby hml hret hlk hnm e0
  refine Go.cast (ef_rmOn0 m a (0 : Int32) f g) ?_
  refine Go.of (mkF m 1 #[.val (.ref a), .val (.int (0 : Int32)), .val (.int f), .val (.int g)] [(.ref a)]) (fun tt0 kk0 => XS.aloadN X0.here hx rfl (hb hby d10_0) rfl rfl kk0) ?_
  obtain ⟨T1, X1, e1, st1⟩ := getF X0 hx hZ hown (host := "") (Or.inl (tw19 hw)) Via.refl e0 Fq (g := (mkF m 1 #[.val (.ref a), .val (.int (0 : Int32)), .val (.int f), .val (.int g)] [(.ref a)])) rfl rfl (hb hby d10_1)
  refine Go.of (mkF m 4 #[.val (.ref a), .val (.int (0 : Int32)), .val (.int f), .val (.int g)] [(.ref t)]) (st1) ?_
  refine Go.of (mkF m 5 #[.val (.ref a), .val (.int (0 : Int32)), .val (.int f), .val (.int g)] [(.int (0 : Int32)), (.ref t)]) (fun tt0 kk0 => XS.iloadN X1.here hx rfl (hb hby d10_4) rfl kk0) ?_
  refine Go.aaload X1 hx hZ e1 VT rfl (by decide) (by decide) (g := (mkF m 5 #[.val (.ref a), .val (.int (0 : Int32)), .val (.int f), .val (.int g)] [(.int (0 : Int32)), (.ref t)])) rfl rfl (hb hby d10_5) ?_
  show Go pr ev below _ T1 (mkF m 6 #[.val (.ref a), .val (.int (0 : Int32)), .val (.int f), .val (.int g)] [(yt (0 : Int32))])
  rw [show (yt (0 : Int32)) = (.ref r0) from hy0]
  show Go pr ev below _ T1 (mkF m 6 #[.val (.ref a), .val (.int (0 : Int32)), .val (.int f), .val (.int g)] [(.ref r0)])
  refine Go.of (mkF m 7 #[.val (.ref a), .val (.int (0 : Int32)), .val (.int f), .val (.int g)] [(.ref a), (.ref r0)]) (fun tt0 kk0 => XS.aloadN X1.here hx rfl (hb hby d10_6) rfl rfl kk0) ?_
  refine Go.of (mkF m 8 #[.val (.ref a), .val (.int (0 : Int32)), .val (.int f), .val (.int g)] [(.int f), (.ref a), (.ref r0)]) (fun tt0 kk0 => XS.iloadN X1.here hx rfl (hb hby d10_7) rfl kk0) ?_
  refine Go.of (mkF m 9 #[.val (.ref a), .val (.int (0 : Int32)), .val (.int f), .val (.int g)] [(.int g), (.int f), (.ref a), (.ref r0)]) (fun tt0 kk0 => XS.iloadN X1.here hx rfl (hb hby d10_8) rfl kk0) ?_
  refine Go.priv X1 hx hZ (y := (⟨"com/example/quench/quench/Pheromones", "move", "(II)I"⟩ : MethodName)) (a := a) (argsL := [(.int f), (.int g)]) (rest := [(.ref r0)]) hown (tw62 hw) (tw63 hw) (Jvm.Kit.selects_private (by decide) (tw6 hw) (tw64 hw) (tw63 hw)) (tw64 hw) (tw7 hw) (tw65 hw) (by decide) e1 E (rmMv l Z a0 hw [] a f g h0 Ft) (g := (mkF m 9 #[.val (.ref a), .val (.int (0 : Int32)), .val (.int f), .val (.int g)] [(.int g), (.int f), (.ref a), (.ref r0)])) rfl (by rw [hml]; rfl) (lenOf pd9 rfl) rfl (W := 1) (by show 2 * 0 + _ ≤ _; exact Nat.le_of_eq rfl) (hb hby d10_9) (by decide) (by decide) (by decide) (by decide) ?_
  rintro T2 L2 v2 X2 ⟨rfl, rfl, hh2⟩
  show Go pr ev below _ T2 (mkF m 12 #[.val (.ref a), .val (.int (0 : Int32)), .val (.int f), .val (.int g)] [(.int (own_mv f g)), (.ref r0)])
  refine Go.daload X2 hx hZ hh2 V0 hr.1 hr.2 (g := (mkF m 12 #[.val (.ref a), .val (.int (0 : Int32)), .val (.int f), .val (.int g)] [(.int (own_mv f g)), (.ref r0)])) rfl rfl (hb hby d10_12) ?_
  show Go pr ev below _ T2 (mkF m 13 #[.val (.ref a), .val (.int (0 : Int32)), .val (.int f), .val (.int g)] [(.double (z0 (own_mv f g)))])
  exact Go.retW X2 hx (t := .double) hret hlk rfl (Or.inr (Or.inr (Or.inl ⟨rfl, rfl, _, rfl⟩))) (hb hby d10_13) (by decide) (by decide) ⟨rfl, by simp, hh2⟩
theorem ef_rmOn1 (m : MethodId) (x0 : Addr) (x1 : Int32) (x2 : Int32) (x3 : Int32) : entryFrame m #[(.ref x0), (.int x1), (.int x2), (.int x3)] 4 = mkF m 0 #[.val (.ref x0), .val (.int x1), .val (.int x2), .val (.int x3)] [] := by first | (simp [entryFrame, mkF, argsToLocals, Value.category]; done) | rfl
set_option maxRecDepth 65536 in
set_option maxHeartbeats 40000000 in
theorem rmOn1 (l : Launch) (Z : State) (a0 : Array Value) (hw : ∀ d ∈ tables_1, d.before a0 Z = true) (ws : List Jvm.Cond) (a : Addr) (t r0 r1 : Addr) (yt : Int32 → Value) (z0 z1 : Int32 → UInt64) (f g : Int32) (h0 : Heap) (E : Exa Z h0 a "com/example/quench/quench/Pheromones") (Ft : Fld Z h0 a "com/example/quench/quench/Pheromones" "tasks" "I" (.int (2 : Int32))) (Fq : Fld Z h0 a "com/example/quench/quench/Pheromones" "trails" "[[D" (.ref t)) (VT : Fa Z h0 t (.array .double) 2 yt) (hy0 : yt 0 = .ref r0) (hy1 : yt 1 = .ref r1) (V0 : Fa Z h0 r0 .double 6 (fun i => .double (z0 i))) (V1 : Fa Z h0 r1 .double 6 (fun i => .double (z1 i))) (hr : ¬ own_mv f g < 0 ∧ own_mv f g < 6) :
    Met l Z (⟨"com/example/quench/quench/Pheromones", "on", "(III)D"⟩ : MethodName) prog_40_method_2_code 4 (some .double) ws ({ frames := 1, cells := 0, slots := 0, locals := 15 } : Room) #[(.ref a), (.int (1 : Int32)), (.int f), (.int g)] h0 (fun v h L => v = some (.double (z1 (own_mv f g))) ∧ L = [] ∧ h = h0) := by
  refine Met.intro pn8 ?_
  intro pr ev s m below meth c T0 X0 hx hZ hown hby hml hret hlk hnm e0
  refine Go.cast (ef_rmOn1 m a (1 : Int32) f g) ?_
  refine Go.of (mkF m 1 #[.val (.ref a), .val (.int (1 : Int32)), .val (.int f), .val (.int g)] [(.ref a)]) (fun tt0 kk0 => XS.aloadN X0.here hx rfl (hb hby d10_0) rfl rfl kk0) ?_
  obtain ⟨T1, X1, e1, st1⟩ := getF X0 hx hZ hown (host := "") (Or.inl (tw19 hw)) Via.refl e0 Fq (g := (mkF m 1 #[.val (.ref a), .val (.int (1 : Int32)), .val (.int f), .val (.int g)] [(.ref a)])) rfl rfl (hb hby d10_1)
  refine Go.of (mkF m 4 #[.val (.ref a), .val (.int (1 : Int32)), .val (.int f), .val (.int g)] [(.ref t)]) (st1) ?_
  refine Go.of (mkF m 5 #[.val (.ref a), .val (.int (1 : Int32)), .val (.int f), .val (.int g)] [(.int (1 : Int32)), (.ref t)]) (fun tt0 kk0 => XS.iloadN X1.here hx rfl (hb hby d10_4) rfl kk0) ?_
  refine Go.aaload X1 hx hZ e1 VT rfl (by decide) (by decide) (g := (mkF m 5 #[.val (.ref a), .val (.int (1 : Int32)), .val (.int f), .val (.int g)] [(.int (1 : Int32)), (.ref t)])) rfl rfl (hb hby d10_5) ?_
  show Go pr ev below _ T1 (mkF m 6 #[.val (.ref a), .val (.int (1 : Int32)), .val (.int f), .val (.int g)] [(yt (1 : Int32))])
  rw [show (yt (1 : Int32)) = (.ref r1) from hy1]
  show Go pr ev below _ T1 (mkF m 6 #[.val (.ref a), .val (.int (1 : Int32)), .val (.int f), .val (.int g)] [(.ref r1)])
  refine Go.of (mkF m 7 #[.val (.ref a), .val (.int (1 : Int32)), .val (.int f), .val (.int g)] [(.ref a), (.ref r1)]) (fun tt0 kk0 => XS.aloadN X1.here hx rfl (hb hby d10_6) rfl rfl kk0) ?_
  refine Go.of (mkF m 8 #[.val (.ref a), .val (.int (1 : Int32)), .val (.int f), .val (.int g)] [(.int f), (.ref a), (.ref r1)]) (fun tt0 kk0 => XS.iloadN X1.here hx rfl (hb hby d10_7) rfl kk0) ?_
  refine Go.of (mkF m 9 #[.val (.ref a), .val (.int (1 : Int32)), .val (.int f), .val (.int g)] [(.int g), (.int f), (.ref a), (.ref r1)]) (fun tt0 kk0 => XS.iloadN X1.here hx rfl (hb hby d10_8) rfl kk0) ?_
  refine Go.priv X1 hx hZ (y := (⟨"com/example/quench/quench/Pheromones", "move", "(II)I"⟩ : MethodName)) (a := a) (argsL := [(.int f), (.int g)]) (rest := [(.ref r1)]) hown (tw62 hw) (tw63 hw) (Jvm.Kit.selects_private (by decide) (tw6 hw) (tw64 hw) (tw63 hw)) (tw64 hw) (tw7 hw) (tw65 hw) (by decide) e1 E (rmMv l Z a0 hw [] a f g h0 Ft) (g := (mkF m 9 #[.val (.ref a), .val (.int (1 : Int32)), .val (.int f), .val (.int g)] [(.int g), (.int f), (.ref a), (.ref r1)])) rfl (by rw [hml]; rfl) (lenOf pd9 rfl) rfl (W := 1) (by show 2 * 0 + _ ≤ _; exact Nat.le_of_eq rfl) (hb hby d10_9) (by decide) (by decide) (by decide) (by decide) ?_
  rintro T2 L2 v2 X2 ⟨rfl, rfl, hh2⟩
  show Go pr ev below _ T2 (mkF m 12 #[.val (.ref a), .val (.int (1 : Int32)), .val (.int f), .val (.int g)] [(.int (own_mv f g)), (.ref r1)])
  refine Go.daload X2 hx hZ hh2 V1 hr.1 hr.2 (g := (mkF m 12 #[.val (.ref a), .val (.int (1 : Int32)), .val (.int f), .val (.int g)] [(.int (own_mv f g)), (.ref r1)])) rfl rfl (hb hby d10_12) ?_
  show Go pr ev below _ T2 (mkF m 13 #[.val (.ref a), .val (.int (1 : Int32)), .val (.int f), .val (.int g)] [(.double (z1 (own_mv f g)))])
  exact Go.retW X2 hx (t := .double) hret hlk rfl (Or.inr (Or.inr (Or.inl ⟨rfl, rfl, _, rfl⟩))) (hb hby d10_13) (by decide) (by decide) ⟨rfl, by simp, hh2⟩
theorem ef_rmEv (m : MethodId) (x0 : Addr) (x1 : UInt64) : entryFrame m #[(.ref x0), (.double x1)] 8 = mkF m 0 #[.val (.ref x0), .val (.double x1), .second, .unset, .unset, .unset, .unset, .unset] [] := by first | (simp [entryFrame, mkF, argsToLocals, Value.category]; done) | rfl
set_option maxRecDepth 65536 in
set_option maxHeartbeats 40000000 in
theorem rmEv (l : Launch) (Z : State) (a0 : Array Value) (hw : ∀ d ∈ tables_1, d.before a0 Z = true) (ws : List Jvm.Cond) (a : Addr) (t r0 r1 : Addr) (yt : Int32 → Value) (z0 z1 : Int32 → UInt64) (u : UInt64) (B : Int) (h0 : Heap) (n0 : Nat) (hz0 : n0 ≤ h0.size) (E : Exa Z h0 a "com/example/quench/quench/Pheromones") (Ft : Fld Z h0 a "com/example/quench/quench/Pheromones" "tasks" "I" (.int (2 : Int32))) (Fq : Fld Z h0 a "com/example/quench/quench/Pheromones" "trails" "[[D" (.ref t)) (VT : Fa Z h0 t (.array .double) 2 yt) (hy0 : yt 0 = .ref r0) (hy1 : yt 1 = .ref r1) (V0 : Fa Z h0 r0 .double 6 (fun i => .double (z0 i))) (V1 : Fa Z h0 r1 .double 6 (fun i => .double (z1 i))) (nat : a ≠ t) (na0 : a ≠ r0) (na1 : a ≠ r1) (nt0 : t ≠ r0) (nt1 : t ≠ r1) (n01 : r0 ≠ r1) (gr0 : n0 ≤ r0) (gr1 : n0 ≤ r1) (hB0 : own_W z0 B) (hB1 : own_W z1 B) (hF : Fin64 (FP.dsub FP.dconst1 u)) :
    Met l Z (⟨"com/example/quench/quench/Pheromones", "evaporate", "(D)V"⟩ : MethodName) prog_40_method_4_code 8 none ws ({ frames := 0, cells := 0, slots := 0, locals := 0 } : Room) #[(.ref a), (.double u)] h0 (fun v h L => v = none ∧ Fr n0 L ∧ Keep h0 h [r0, r1] ∧ Fa Z h r0 .double 6 (fun i => .double ((fun j => FP.dmul (z0 j) (FP.dsub FP.dconst1 u)) i)) ∧ Fa Z h r1 .double 6 (fun i => .double ((fun j => FP.dmul (z1 j) (FP.dsub FP.dconst1 u)) i))) := by
  refine Met.intro pn10 ?_
  intro pr ev s m below meth c T0 X0 hx hZ hown hby hml hret hlk hnm e0
  refine Go.cast (ef_rmEv m a u) ?_
  have N0 := Fr.nil n0
  have hz := hz0
  have K0 : Keep h0 h0 [r0, r1] := Keep.refl h0 _
  refine Go.of (mkF m 1 #[.val (.ref a), .val (.double u), .second, .unset, .unset, .unset, .unset, .unset] [(.ref a)]) (fun tt0 kk0 => XS.aloadN X0.here hx rfl (hb hby d11_0) rfl rfl kk0) ?_
  obtain ⟨T1, X1, e1, st1⟩ := getF X0 hx hZ hown (host := "") (Or.inl (tw19 hw)) Via.refl e0 Fq (g := (mkF m 1 #[.val (.ref a), .val (.double u), .second, .unset, .unset, .unset, .unset, .unset] [(.ref a)])) rfl rfl (hb hby d11_1)
  refine Go.of (mkF m 4 #[.val (.ref a), .val (.double u), .second, .unset, .unset, .unset, .unset, .unset] [(.ref t)]) (st1) ?_
  refine Go.of (mkF m 5 #[.val (.ref a), .val (.double u), .second, .val (.ref t), .unset, .unset, .unset, .unset] []) (fun tt0 kk0 => XS.astoreN X1.here hx rfl (hb hby d11_4) rfl rfl (l' := #[.val (.ref a), .val (.double u), .second, .val (.ref t), .unset, .unset, .unset, .unset]) rfl kk0) ?_
  refine Go.of (mkF m 6 #[.val (.ref a), .val (.double u), .second, .val (.ref t), .unset, .unset, .unset, .unset] [(.ref t)]) (fun tt0 kk0 => XS.aloadN X1.here hx rfl (hb hby d11_5) rfl rfl kk0) ?_
  refine Go.arraylength X1 hx hZ e1 VT (g := (mkF m 6 #[.val (.ref a), .val (.double u), .second, .val (.ref t), .unset, .unset, .unset, .unset] [(.ref t)])) rfl rfl (hb hby d11_6) ?_
  show Go pr ev below _ T1 (mkF m 7 #[.val (.ref a), .val (.double u), .second, .val (.ref t), .unset, .unset, .unset, .unset] [(.int (2 : Int32))])
  refine Go.of (mkF m 9 #[.val (.ref a), .val (.double u), .second, .val (.ref t), .val (.int (2 : Int32)), .unset, .unset, .unset] []) (fun tt0 kk0 => XS.istore X1.here hx rfl (hb hby d11_7) rfl (l' := #[.val (.ref a), .val (.double u), .second, .val (.ref t), .val (.int (2 : Int32)), .unset, .unset, .unset]) rfl kk0) ?_
  refine Go.of (mkF m 10 #[.val (.ref a), .val (.double u), .second, .val (.ref t), .val (.int (2 : Int32)), .unset, .unset, .unset] [(.int (0 : Int32))]) (fun tt0 kk0 => XS.iconst X1.here hx rfl (hb hby d11_9) kk0) ?_
  refine Go.of (mkF m 12 #[.val (.ref a), .val (.double u), .second, .val (.ref t), .val (.int (2 : Int32)), .val (.int (0 : Int32)), .unset, .unset] []) (fun tt0 kk0 => XS.istore X1.here hx rfl (hb hby d11_10) rfl (l' := #[.val (.ref a), .val (.double u), .second, .val (.ref t), .val (.int (2 : Int32)), .val (.int (0 : Int32)), .unset, .unset]) rfl kk0) ?_
  refine Go.of (mkF m 14 #[.val (.ref a), .val (.double u), .second, .val (.ref t), .val (.int (2 : Int32)), .val (.int (0 : Int32)), .unset, .unset] [(.int (0 : Int32))]) (fun tt0 kk0 => XS.iload X1.here hx rfl (hb hby d11_12) rfl kk0) ?_
  refine Go.of (mkF m 16 #[.val (.ref a), .val (.double u), .second, .val (.ref t), .val (.int (2 : Int32)), .val (.int (0 : Int32)), .unset, .unset] [(.int (2 : Int32)), (.int (0 : Int32))]) (fun tt0 kk0 => XS.iload X1.here hx rfl (hb hby d11_14) rfl kk0) ?_
  refine Go.of (mkF m 19 #[.val (.ref a), .val (.double u), .second, .val (.ref t), .val (.int (2 : Int32)), .val (.int (0 : Int32)), .unset, .unset] []) (fun tt0 kk0 => XS.icmpNo X1.here hx rfl (hb hby d11_16) rfl (tlt (by decide)).2.1 kk0) ?_
  refine Go.of (mkF m 20 #[.val (.ref a), .val (.double u), .second, .val (.ref t), .val (.int (2 : Int32)), .val (.int (0 : Int32)), .unset, .unset] [(.ref t)]) (fun tt0 kk0 => XS.aloadN X1.here hx rfl (hb hby d11_19) rfl rfl kk0) ?_
  refine Go.of (mkF m 22 #[.val (.ref a), .val (.double u), .second, .val (.ref t), .val (.int (2 : Int32)), .val (.int (0 : Int32)), .unset, .unset] [(.int (0 : Int32)), (.ref t)]) (fun tt0 kk0 => XS.iload X1.here hx rfl (hb hby d11_20) rfl kk0) ?_
  refine Go.aaload X1 hx hZ e1 VT rfl (by decide) (by decide) (g := (mkF m 22 #[.val (.ref a), .val (.double u), .second, .val (.ref t), .val (.int (2 : Int32)), .val (.int (0 : Int32)), .unset, .unset] [(.int (0 : Int32)), (.ref t)])) rfl rfl (hb hby d11_22) ?_
  show Go pr ev below _ T1 (mkF m 23 #[.val (.ref a), .val (.double u), .second, .val (.ref t), .val (.int (2 : Int32)), .val (.int (0 : Int32)), .unset, .unset] [(yt (0 : Int32))])
  rw [show (yt (0 : Int32)) = (.ref r0) from hy0]
  show Go pr ev below _ T1 (mkF m 23 #[.val (.ref a), .val (.double u), .second, .val (.ref t), .val (.int (2 : Int32)), .val (.int (0 : Int32)), .unset, .unset] [(.ref r0)])
  refine Go.of (mkF m 25 #[.val (.ref a), .val (.double u), .second, .val (.ref t), .val (.int (2 : Int32)), .val (.int (0 : Int32)), .val (.ref r0), .unset] []) (fun tt0 kk0 => XS.astore X1.here hx rfl (hb hby d11_23) rfl rfl (l' := #[.val (.ref a), .val (.double u), .second, .val (.ref t), .val (.int (2 : Int32)), .val (.int (0 : Int32)), .val (.ref r0), .unset]) rfl kk0) ?_
  refine Go.of (mkF m 26 #[.val (.ref a), .val (.double u), .second, .val (.ref t), .val (.int (2 : Int32)), .val (.int (0 : Int32)), .val (.ref r0), .unset] [(.int (0 : Int32))]) (fun tt0 kk0 => XS.iconst X1.here hx rfl (hb hby d11_25) kk0) ?_
  refine Go.of (mkF m 28 #[.val (.ref a), .val (.double u), .second, .val (.ref t), .val (.int (2 : Int32)), .val (.int (0 : Int32)), .val (.ref r0), .val (.int (0 : Int32))] []) (fun tt0 kk0 => XS.istore X1.here hx rfl (hb hby d11_26) rfl (l' := #[.val (.ref a), .val (.double u), .second, .val (.ref t), .val (.int (2 : Int32)), .val (.int (0 : Int32)), .val (.ref r0), .val (.int (0 : Int32))]) rfl kk0) ?_
  refine Go.of (mkF m 30 #[.val (.ref a), .val (.double u), .second, .val (.ref t), .val (.int (2 : Int32)), .val (.int (0 : Int32)), .val (.ref r0), .val (.int (0 : Int32))] [(.int (0 : Int32))]) (fun tt0 kk0 => XS.iload X1.here hx rfl (hb hby d11_28) rfl kk0) ?_
  refine Go.of (mkF m 32 #[.val (.ref a), .val (.double u), .second, .val (.ref t), .val (.int (2 : Int32)), .val (.int (0 : Int32)), .val (.ref r0), .val (.int (0 : Int32))] [(.ref r0), (.int (0 : Int32))]) (fun tt0 kk0 => XS.aload X1.here hx rfl (hb hby d11_30) rfl rfl kk0) ?_
  refine Go.arraylength X1 hx hZ e1 V0 (g := (mkF m 32 #[.val (.ref a), .val (.double u), .second, .val (.ref t), .val (.int (2 : Int32)), .val (.int (0 : Int32)), .val (.ref r0), .val (.int (0 : Int32))] [(.ref r0), (.int (0 : Int32))])) rfl rfl (hb hby d11_32) ?_
  show Go pr ev below _ T1 (mkF m 33 #[.val (.ref a), .val (.double u), .second, .val (.ref t), .val (.int (2 : Int32)), .val (.int (0 : Int32)), .val (.ref r0), .val (.int (0 : Int32))] [(.int (6 : Int32)), (.int (0 : Int32))])
  refine Go.of (mkF m 36 #[.val (.ref a), .val (.double u), .second, .val (.ref t), .val (.int (2 : Int32)), .val (.int (0 : Int32)), .val (.ref r0), .val (.int (0 : Int32))] []) (fun tt0 kk0 => XS.icmpNo X1.here hx rfl (hb hby d11_33) rfl (tlt (by decide)).2.1 kk0) ?_
  refine Go.of (mkF m 38 #[.val (.ref a), .val (.double u), .second, .val (.ref t), .val (.int (2 : Int32)), .val (.int (0 : Int32)), .val (.ref r0), .val (.int (0 : Int32))] [(.ref r0)]) (fun tt0 kk0 => XS.aload X1.here hx rfl (hb hby d11_36) rfl rfl kk0) ?_
  refine Go.of (mkF m 40 #[.val (.ref a), .val (.double u), .second, .val (.ref t), .val (.int (2 : Int32)), .val (.int (0 : Int32)), .val (.ref r0), .val (.int (0 : Int32))] [(.int (0 : Int32)), (.ref r0)]) (fun tt0 kk0 => XS.iload X1.here hx rfl (hb hby d11_38) rfl kk0) ?_
  refine Go.of (mkF m 41 #[.val (.ref a), .val (.double u), .second, .val (.ref t), .val (.int (2 : Int32)), .val (.int (0 : Int32)), .val (.ref r0), .val (.int (0 : Int32))] [(.int (0 : Int32)), (.ref r0), (.int (0 : Int32)), (.ref r0)]) (fun tt0 kk0 => by jvm_step X1.here [X1.here.top, hx, (hb hby d11_40), Value.category]; exact kk0) ?_
  refine Go.daload X1 hx hZ e1 V0 (by decide) (by decide) (g := (mkF m 41 #[.val (.ref a), .val (.double u), .second, .val (.ref t), .val (.int (2 : Int32)), .val (.int (0 : Int32)), .val (.ref r0), .val (.int (0 : Int32))] [(.int (0 : Int32)), (.ref r0), (.int (0 : Int32)), (.ref r0)])) rfl rfl (hb hby d11_41) ?_
  show Go pr ev below _ T1 (mkF m 42 #[.val (.ref a), .val (.double u), .second, .val (.ref t), .val (.int (2 : Int32)), .val (.int (0 : Int32)), .val (.ref r0), .val (.int (0 : Int32))] [(.double (z0 (0 : Int32))), (.int (0 : Int32)), (.ref r0)])
  show Go pr ev below _ T1 (mkF m 42 #[.val (.ref a), .val (.double u), .second, .val (.ref t), .val (.int (2 : Int32)), .val (.int (0 : Int32)), .val (.ref r0), .val (.int (0 : Int32))] [(.double (z0 (0 : Int32))), (.int (0 : Int32)), (.ref r0)])
  refine Go.of (mkF m 43 #[.val (.ref a), .val (.double u), .second, .val (.ref t), .val (.int (2 : Int32)), .val (.int (0 : Int32)), .val (.ref r0), .val (.int (0 : Int32))] [(.double FP.dconst1), (.double (z0 (0 : Int32))), (.int (0 : Int32)), (.ref r0)]) (fun tt0 kk0 => XS.dconst1 X1.here hx rfl (hb hby d11_42) rfl kk0) ?_
  refine Go.of (mkF m 44 #[.val (.ref a), .val (.double u), .second, .val (.ref t), .val (.int (2 : Int32)), .val (.int (0 : Int32)), .val (.ref r0), .val (.int (0 : Int32))] [(.double u), (.double FP.dconst1), (.double (z0 (0 : Int32))), (.int (0 : Int32)), (.ref r0)]) (fun tt0 kk0 => XS.dloadN X1.here hx rfl (hb hby d11_43) rfl kk0) ?_
  refine Go.of (mkF m 45 #[.val (.ref a), .val (.double u), .second, .val (.ref t), .val (.int (2 : Int32)), .val (.int (0 : Int32)), .val (.ref r0), .val (.int (0 : Int32))] [(.double (FP.dsub FP.dconst1 u)), (.double (z0 (0 : Int32))), (.int (0 : Int32)), (.ref r0)]) (fun tt0 kk0 => XS.dsubS X1.here hx rfl (hb hby d11_44) rfl hF.noNaN rfl kk0) ?_
  refine Go.of (mkF m 46 #[.val (.ref a), .val (.double u), .second, .val (.ref t), .val (.int (2 : Int32)), .val (.int (0 : Int32)), .val (.ref r0), .val (.int (0 : Int32))] [(.double (FP.dmul (z0 (0 : Int32)) (FP.dsub FP.dconst1 u))), (.int (0 : Int32)), (.ref r0)]) (fun tt0 kk0 => XS.dmulS X1.here hx rfl (hb hby d11_45) rfl (own_mm hB0 hF _) rfl kk0) ?_
  refine Go.dastore X1 hx hZ e1 V0 (by decide) (by decide) (g := (mkF m 46 #[.val (.ref a), .val (.double u), .second, .val (.ref t), .val (.int (2 : Int32)), .val (.int (0 : Int32)), .val (.ref r0), .val (.int (0 : Int32))] [(.double (FP.dmul (z0 (0 : Int32)) (FP.dsub FP.dconst1 u))), (.int (0 : Int32)), (.ref r0)])) rfl rfl (hb hby d11_46) ?_
  rintro T2 h2 X2 e2 W2 V2
  replace Ft := Ft.other W2 (Or.inl na0)
  replace Fq := Fq.other W2 (Or.inl na0)
  replace E := E.wr W2
  replace VT := VT.other W2 nt0
  replace V1 := V1.other W2 (Ne.symm n01)
  replace hz := Nat.le_trans hz (Nat.le_of_eq W2.size.symm)
  replace K0 := K0.wr W2 (Or.inl (by simp))
  replace V0 := V2
  have N2 := Fr.snoc X2 N0 gr0
  show Go pr ev below _ T2 (mkF m 47 #[.val (.ref a), .val (.double u), .second, .val (.ref t), .val (.int (2 : Int32)), .val (.int (0 : Int32)), .val (.ref r0), .val (.int (0 : Int32))] [])
  refine Go.of (mkF m 50 #[.val (.ref a), .val (.double u), .second, .val (.ref t), .val (.int (2 : Int32)), .val (.int (0 : Int32)), .val (.ref r0), .val (.int ((0 : Int32) + (1 : Int32)))] []) (fun tt0 kk0 => XS.iinc X2.here hx rfl (hb hby d11_47) rfl (l' := #[.val (.ref a), .val (.double u), .second, .val (.ref t), .val (.int (2 : Int32)), .val (.int (0 : Int32)), .val (.ref r0), .val (.int ((0 : Int32) + (1 : Int32)))]) rfl kk0) ?_
  rw [show ((0 : Int32) + (1 : Int32)) = (1 : Int32) from by decide]
  refine Go.of (mkF m 28 #[.val (.ref a), .val (.double u), .second, .val (.ref t), .val (.int (2 : Int32)), .val (.int (0 : Int32)), .val (.ref r0), .val (.int (1 : Int32))] []) (fun tt0 kk0 => XS.goto X2.here hx rfl (pc0 := 50) (pc' := 28) rfl (hb hby d11_50) (by decide) (by decide) kk0) ?_
  refine Go.of (mkF m 30 #[.val (.ref a), .val (.double u), .second, .val (.ref t), .val (.int (2 : Int32)), .val (.int (0 : Int32)), .val (.ref r0), .val (.int (1 : Int32))] [(.int (1 : Int32))]) (fun tt0 kk0 => XS.iload X2.here hx rfl (hb hby d11_28) rfl kk0) ?_
  refine Go.of (mkF m 32 #[.val (.ref a), .val (.double u), .second, .val (.ref t), .val (.int (2 : Int32)), .val (.int (0 : Int32)), .val (.ref r0), .val (.int (1 : Int32))] [(.ref r0), (.int (1 : Int32))]) (fun tt0 kk0 => XS.aload X2.here hx rfl (hb hby d11_30) rfl rfl kk0) ?_
  refine Go.arraylength X2 hx hZ e2 V0 (g := (mkF m 32 #[.val (.ref a), .val (.double u), .second, .val (.ref t), .val (.int (2 : Int32)), .val (.int (0 : Int32)), .val (.ref r0), .val (.int (1 : Int32))] [(.ref r0), (.int (1 : Int32))])) rfl rfl (hb hby d11_32) ?_
  show Go pr ev below _ T2 (mkF m 33 #[.val (.ref a), .val (.double u), .second, .val (.ref t), .val (.int (2 : Int32)), .val (.int (0 : Int32)), .val (.ref r0), .val (.int (1 : Int32))] [(.int (6 : Int32)), (.int (1 : Int32))])
  refine Go.of (mkF m 36 #[.val (.ref a), .val (.double u), .second, .val (.ref t), .val (.int (2 : Int32)), .val (.int (0 : Int32)), .val (.ref r0), .val (.int (1 : Int32))] []) (fun tt0 kk0 => XS.icmpNo X2.here hx rfl (hb hby d11_33) rfl (tlt (by decide)).2.1 kk0) ?_
  refine Go.of (mkF m 38 #[.val (.ref a), .val (.double u), .second, .val (.ref t), .val (.int (2 : Int32)), .val (.int (0 : Int32)), .val (.ref r0), .val (.int (1 : Int32))] [(.ref r0)]) (fun tt0 kk0 => XS.aload X2.here hx rfl (hb hby d11_36) rfl rfl kk0) ?_
  refine Go.of (mkF m 40 #[.val (.ref a), .val (.double u), .second, .val (.ref t), .val (.int (2 : Int32)), .val (.int (0 : Int32)), .val (.ref r0), .val (.int (1 : Int32))] [(.int (1 : Int32)), (.ref r0)]) (fun tt0 kk0 => XS.iload X2.here hx rfl (hb hby d11_38) rfl kk0) ?_
  refine Go.of (mkF m 41 #[.val (.ref a), .val (.double u), .second, .val (.ref t), .val (.int (2 : Int32)), .val (.int (0 : Int32)), .val (.ref r0), .val (.int (1 : Int32))] [(.int (1 : Int32)), (.ref r0), (.int (1 : Int32)), (.ref r0)]) (fun tt0 kk0 => by jvm_step X2.here [X2.here.top, hx, (hb hby d11_40), Value.category]; exact kk0) ?_
  refine Go.daload X2 hx hZ e2 V0 (by decide) (by decide) (g := (mkF m 41 #[.val (.ref a), .val (.double u), .second, .val (.ref t), .val (.int (2 : Int32)), .val (.int (0 : Int32)), .val (.ref r0), .val (.int (1 : Int32))] [(.int (1 : Int32)), (.ref r0), (.int (1 : Int32)), (.ref r0)])) rfl rfl (hb hby d11_41) ?_
  show Go pr ev below _ T2 (mkF m 42 #[.val (.ref a), .val (.double u), .second, .val (.ref t), .val (.int (2 : Int32)), .val (.int (0 : Int32)), .val (.ref r0), .val (.int (1 : Int32))] [(.double ((fnup z0 (0 : Int32) (FP.dmul (z0 (0 : Int32)) (FP.dsub FP.dconst1 u))) (1 : Int32))), (.int (1 : Int32)), (.ref r0)])
  rw [show ((fnup z0 (0 : Int32) (FP.dmul (z0 (0 : Int32)) (FP.dsub FP.dconst1 u))) (1 : Int32)) = (z0 (1 : Int32)) from by simp [fnup]]
  show Go pr ev below _ T2 (mkF m 42 #[.val (.ref a), .val (.double u), .second, .val (.ref t), .val (.int (2 : Int32)), .val (.int (0 : Int32)), .val (.ref r0), .val (.int (1 : Int32))] [(.double (z0 (1 : Int32))), (.int (1 : Int32)), (.ref r0)])
  refine Go.of (mkF m 43 #[.val (.ref a), .val (.double u), .second, .val (.ref t), .val (.int (2 : Int32)), .val (.int (0 : Int32)), .val (.ref r0), .val (.int (1 : Int32))] [(.double FP.dconst1), (.double (z0 (1 : Int32))), (.int (1 : Int32)), (.ref r0)]) (fun tt0 kk0 => XS.dconst1 X2.here hx rfl (hb hby d11_42) rfl kk0) ?_
  refine Go.of (mkF m 44 #[.val (.ref a), .val (.double u), .second, .val (.ref t), .val (.int (2 : Int32)), .val (.int (0 : Int32)), .val (.ref r0), .val (.int (1 : Int32))] [(.double u), (.double FP.dconst1), (.double (z0 (1 : Int32))), (.int (1 : Int32)), (.ref r0)]) (fun tt0 kk0 => XS.dloadN X2.here hx rfl (hb hby d11_43) rfl kk0) ?_
  refine Go.of (mkF m 45 #[.val (.ref a), .val (.double u), .second, .val (.ref t), .val (.int (2 : Int32)), .val (.int (0 : Int32)), .val (.ref r0), .val (.int (1 : Int32))] [(.double (FP.dsub FP.dconst1 u)), (.double (z0 (1 : Int32))), (.int (1 : Int32)), (.ref r0)]) (fun tt0 kk0 => XS.dsubS X2.here hx rfl (hb hby d11_44) rfl hF.noNaN rfl kk0) ?_
  refine Go.of (mkF m 46 #[.val (.ref a), .val (.double u), .second, .val (.ref t), .val (.int (2 : Int32)), .val (.int (0 : Int32)), .val (.ref r0), .val (.int (1 : Int32))] [(.double (FP.dmul (z0 (1 : Int32)) (FP.dsub FP.dconst1 u))), (.int (1 : Int32)), (.ref r0)]) (fun tt0 kk0 => XS.dmulS X2.here hx rfl (hb hby d11_45) rfl (own_mm hB0 hF _) rfl kk0) ?_
  refine Go.dastore X2 hx hZ e2 V0 (by decide) (by decide) (g := (mkF m 46 #[.val (.ref a), .val (.double u), .second, .val (.ref t), .val (.int (2 : Int32)), .val (.int (0 : Int32)), .val (.ref r0), .val (.int (1 : Int32))] [(.double (FP.dmul (z0 (1 : Int32)) (FP.dsub FP.dconst1 u))), (.int (1 : Int32)), (.ref r0)])) rfl rfl (hb hby d11_46) ?_
  rintro T3 h3 X3 e3 W3 V3
  replace Ft := Ft.other W3 (Or.inl na0)
  replace Fq := Fq.other W3 (Or.inl na0)
  replace E := E.wr W3
  replace VT := VT.other W3 nt0
  replace V1 := V1.other W3 (Ne.symm n01)
  replace hz := Nat.le_trans hz (Nat.le_of_eq W3.size.symm)
  replace K0 := K0.wr W3 (Or.inl (by simp))
  replace V0 := V3
  have N3 := Fr.snoc X3 N2 gr0
  show Go pr ev below _ T3 (mkF m 47 #[.val (.ref a), .val (.double u), .second, .val (.ref t), .val (.int (2 : Int32)), .val (.int (0 : Int32)), .val (.ref r0), .val (.int (1 : Int32))] [])
  refine Go.of (mkF m 50 #[.val (.ref a), .val (.double u), .second, .val (.ref t), .val (.int (2 : Int32)), .val (.int (0 : Int32)), .val (.ref r0), .val (.int ((1 : Int32) + (1 : Int32)))] []) (fun tt0 kk0 => XS.iinc X3.here hx rfl (hb hby d11_47) rfl (l' := #[.val (.ref a), .val (.double u), .second, .val (.ref t), .val (.int (2 : Int32)), .val (.int (0 : Int32)), .val (.ref r0), .val (.int ((1 : Int32) + (1 : Int32)))]) rfl kk0) ?_
  rw [show ((1 : Int32) + (1 : Int32)) = (2 : Int32) from by decide]
  refine Go.of (mkF m 28 #[.val (.ref a), .val (.double u), .second, .val (.ref t), .val (.int (2 : Int32)), .val (.int (0 : Int32)), .val (.ref r0), .val (.int (2 : Int32))] []) (fun tt0 kk0 => XS.goto X3.here hx rfl (pc0 := 50) (pc' := 28) rfl (hb hby d11_50) (by decide) (by decide) kk0) ?_
  refine Go.of (mkF m 30 #[.val (.ref a), .val (.double u), .second, .val (.ref t), .val (.int (2 : Int32)), .val (.int (0 : Int32)), .val (.ref r0), .val (.int (2 : Int32))] [(.int (2 : Int32))]) (fun tt0 kk0 => XS.iload X3.here hx rfl (hb hby d11_28) rfl kk0) ?_
  refine Go.of (mkF m 32 #[.val (.ref a), .val (.double u), .second, .val (.ref t), .val (.int (2 : Int32)), .val (.int (0 : Int32)), .val (.ref r0), .val (.int (2 : Int32))] [(.ref r0), (.int (2 : Int32))]) (fun tt0 kk0 => XS.aload X3.here hx rfl (hb hby d11_30) rfl rfl kk0) ?_
  refine Go.arraylength X3 hx hZ e3 V0 (g := (mkF m 32 #[.val (.ref a), .val (.double u), .second, .val (.ref t), .val (.int (2 : Int32)), .val (.int (0 : Int32)), .val (.ref r0), .val (.int (2 : Int32))] [(.ref r0), (.int (2 : Int32))])) rfl rfl (hb hby d11_32) ?_
  show Go pr ev below _ T3 (mkF m 33 #[.val (.ref a), .val (.double u), .second, .val (.ref t), .val (.int (2 : Int32)), .val (.int (0 : Int32)), .val (.ref r0), .val (.int (2 : Int32))] [(.int (6 : Int32)), (.int (2 : Int32))])
  refine Go.of (mkF m 36 #[.val (.ref a), .val (.double u), .second, .val (.ref t), .val (.int (2 : Int32)), .val (.int (0 : Int32)), .val (.ref r0), .val (.int (2 : Int32))] []) (fun tt0 kk0 => XS.icmpNo X3.here hx rfl (hb hby d11_33) rfl (tlt (by decide)).2.1 kk0) ?_
  refine Go.of (mkF m 38 #[.val (.ref a), .val (.double u), .second, .val (.ref t), .val (.int (2 : Int32)), .val (.int (0 : Int32)), .val (.ref r0), .val (.int (2 : Int32))] [(.ref r0)]) (fun tt0 kk0 => XS.aload X3.here hx rfl (hb hby d11_36) rfl rfl kk0) ?_
  refine Go.of (mkF m 40 #[.val (.ref a), .val (.double u), .second, .val (.ref t), .val (.int (2 : Int32)), .val (.int (0 : Int32)), .val (.ref r0), .val (.int (2 : Int32))] [(.int (2 : Int32)), (.ref r0)]) (fun tt0 kk0 => XS.iload X3.here hx rfl (hb hby d11_38) rfl kk0) ?_
  refine Go.of (mkF m 41 #[.val (.ref a), .val (.double u), .second, .val (.ref t), .val (.int (2 : Int32)), .val (.int (0 : Int32)), .val (.ref r0), .val (.int (2 : Int32))] [(.int (2 : Int32)), (.ref r0), (.int (2 : Int32)), (.ref r0)]) (fun tt0 kk0 => by jvm_step X3.here [X3.here.top, hx, (hb hby d11_40), Value.category]; exact kk0) ?_
  refine Go.daload X3 hx hZ e3 V0 (by decide) (by decide) (g := (mkF m 41 #[.val (.ref a), .val (.double u), .second, .val (.ref t), .val (.int (2 : Int32)), .val (.int (0 : Int32)), .val (.ref r0), .val (.int (2 : Int32))] [(.int (2 : Int32)), (.ref r0), (.int (2 : Int32)), (.ref r0)])) rfl rfl (hb hby d11_41) ?_
  show Go pr ev below _ T3 (mkF m 42 #[.val (.ref a), .val (.double u), .second, .val (.ref t), .val (.int (2 : Int32)), .val (.int (0 : Int32)), .val (.ref r0), .val (.int (2 : Int32))] [(.double ((fnup (fnup z0 (0 : Int32) (FP.dmul (z0 (0 : Int32)) (FP.dsub FP.dconst1 u))) (1 : Int32) (FP.dmul (z0 (1 : Int32)) (FP.dsub FP.dconst1 u))) (2 : Int32))), (.int (2 : Int32)), (.ref r0)])
  rw [show ((fnup (fnup z0 (0 : Int32) (FP.dmul (z0 (0 : Int32)) (FP.dsub FP.dconst1 u))) (1 : Int32) (FP.dmul (z0 (1 : Int32)) (FP.dsub FP.dconst1 u))) (2 : Int32)) = (z0 (2 : Int32)) from by simp [fnup]]
  show Go pr ev below _ T3 (mkF m 42 #[.val (.ref a), .val (.double u), .second, .val (.ref t), .val (.int (2 : Int32)), .val (.int (0 : Int32)), .val (.ref r0), .val (.int (2 : Int32))] [(.double (z0 (2 : Int32))), (.int (2 : Int32)), (.ref r0)])
  refine Go.of (mkF m 43 #[.val (.ref a), .val (.double u), .second, .val (.ref t), .val (.int (2 : Int32)), .val (.int (0 : Int32)), .val (.ref r0), .val (.int (2 : Int32))] [(.double FP.dconst1), (.double (z0 (2 : Int32))), (.int (2 : Int32)), (.ref r0)]) (fun tt0 kk0 => XS.dconst1 X3.here hx rfl (hb hby d11_42) rfl kk0) ?_
  refine Go.of (mkF m 44 #[.val (.ref a), .val (.double u), .second, .val (.ref t), .val (.int (2 : Int32)), .val (.int (0 : Int32)), .val (.ref r0), .val (.int (2 : Int32))] [(.double u), (.double FP.dconst1), (.double (z0 (2 : Int32))), (.int (2 : Int32)), (.ref r0)]) (fun tt0 kk0 => XS.dloadN X3.here hx rfl (hb hby d11_43) rfl kk0) ?_
  refine Go.of (mkF m 45 #[.val (.ref a), .val (.double u), .second, .val (.ref t), .val (.int (2 : Int32)), .val (.int (0 : Int32)), .val (.ref r0), .val (.int (2 : Int32))] [(.double (FP.dsub FP.dconst1 u)), (.double (z0 (2 : Int32))), (.int (2 : Int32)), (.ref r0)]) (fun tt0 kk0 => XS.dsubS X3.here hx rfl (hb hby d11_44) rfl hF.noNaN rfl kk0) ?_
  refine Go.of (mkF m 46 #[.val (.ref a), .val (.double u), .second, .val (.ref t), .val (.int (2 : Int32)), .val (.int (0 : Int32)), .val (.ref r0), .val (.int (2 : Int32))] [(.double (FP.dmul (z0 (2 : Int32)) (FP.dsub FP.dconst1 u))), (.int (2 : Int32)), (.ref r0)]) (fun tt0 kk0 => XS.dmulS X3.here hx rfl (hb hby d11_45) rfl (own_mm hB0 hF _) rfl kk0) ?_
  refine Go.dastore X3 hx hZ e3 V0 (by decide) (by decide) (g := (mkF m 46 #[.val (.ref a), .val (.double u), .second, .val (.ref t), .val (.int (2 : Int32)), .val (.int (0 : Int32)), .val (.ref r0), .val (.int (2 : Int32))] [(.double (FP.dmul (z0 (2 : Int32)) (FP.dsub FP.dconst1 u))), (.int (2 : Int32)), (.ref r0)])) rfl rfl (hb hby d11_46) ?_
  rintro T4 h4 X4 e4 W4 V4
  replace Ft := Ft.other W4 (Or.inl na0)
  replace Fq := Fq.other W4 (Or.inl na0)
  replace E := E.wr W4
  replace VT := VT.other W4 nt0
  replace V1 := V1.other W4 (Ne.symm n01)
  replace hz := Nat.le_trans hz (Nat.le_of_eq W4.size.symm)
  replace K0 := K0.wr W4 (Or.inl (by simp))
  replace V0 := V4
  have N4 := Fr.snoc X4 N3 gr0
  show Go pr ev below _ T4 (mkF m 47 #[.val (.ref a), .val (.double u), .second, .val (.ref t), .val (.int (2 : Int32)), .val (.int (0 : Int32)), .val (.ref r0), .val (.int (2 : Int32))] [])
  refine Go.of (mkF m 50 #[.val (.ref a), .val (.double u), .second, .val (.ref t), .val (.int (2 : Int32)), .val (.int (0 : Int32)), .val (.ref r0), .val (.int ((2 : Int32) + (1 : Int32)))] []) (fun tt0 kk0 => XS.iinc X4.here hx rfl (hb hby d11_47) rfl (l' := #[.val (.ref a), .val (.double u), .second, .val (.ref t), .val (.int (2 : Int32)), .val (.int (0 : Int32)), .val (.ref r0), .val (.int ((2 : Int32) + (1 : Int32)))]) rfl kk0) ?_
  rw [show ((2 : Int32) + (1 : Int32)) = (3 : Int32) from by decide]
  refine Go.of (mkF m 28 #[.val (.ref a), .val (.double u), .second, .val (.ref t), .val (.int (2 : Int32)), .val (.int (0 : Int32)), .val (.ref r0), .val (.int (3 : Int32))] []) (fun tt0 kk0 => XS.goto X4.here hx rfl (pc0 := 50) (pc' := 28) rfl (hb hby d11_50) (by decide) (by decide) kk0) ?_
  refine Go.of (mkF m 30 #[.val (.ref a), .val (.double u), .second, .val (.ref t), .val (.int (2 : Int32)), .val (.int (0 : Int32)), .val (.ref r0), .val (.int (3 : Int32))] [(.int (3 : Int32))]) (fun tt0 kk0 => XS.iload X4.here hx rfl (hb hby d11_28) rfl kk0) ?_
  refine Go.of (mkF m 32 #[.val (.ref a), .val (.double u), .second, .val (.ref t), .val (.int (2 : Int32)), .val (.int (0 : Int32)), .val (.ref r0), .val (.int (3 : Int32))] [(.ref r0), (.int (3 : Int32))]) (fun tt0 kk0 => XS.aload X4.here hx rfl (hb hby d11_30) rfl rfl kk0) ?_
  refine Go.arraylength X4 hx hZ e4 V0 (g := (mkF m 32 #[.val (.ref a), .val (.double u), .second, .val (.ref t), .val (.int (2 : Int32)), .val (.int (0 : Int32)), .val (.ref r0), .val (.int (3 : Int32))] [(.ref r0), (.int (3 : Int32))])) rfl rfl (hb hby d11_32) ?_
  show Go pr ev below _ T4 (mkF m 33 #[.val (.ref a), .val (.double u), .second, .val (.ref t), .val (.int (2 : Int32)), .val (.int (0 : Int32)), .val (.ref r0), .val (.int (3 : Int32))] [(.int (6 : Int32)), (.int (3 : Int32))])
  refine Go.of (mkF m 36 #[.val (.ref a), .val (.double u), .second, .val (.ref t), .val (.int (2 : Int32)), .val (.int (0 : Int32)), .val (.ref r0), .val (.int (3 : Int32))] []) (fun tt0 kk0 => XS.icmpNo X4.here hx rfl (hb hby d11_33) rfl (tlt (by decide)).2.1 kk0) ?_
  refine Go.of (mkF m 38 #[.val (.ref a), .val (.double u), .second, .val (.ref t), .val (.int (2 : Int32)), .val (.int (0 : Int32)), .val (.ref r0), .val (.int (3 : Int32))] [(.ref r0)]) (fun tt0 kk0 => XS.aload X4.here hx rfl (hb hby d11_36) rfl rfl kk0) ?_
  refine Go.of (mkF m 40 #[.val (.ref a), .val (.double u), .second, .val (.ref t), .val (.int (2 : Int32)), .val (.int (0 : Int32)), .val (.ref r0), .val (.int (3 : Int32))] [(.int (3 : Int32)), (.ref r0)]) (fun tt0 kk0 => XS.iload X4.here hx rfl (hb hby d11_38) rfl kk0) ?_
  refine Go.of (mkF m 41 #[.val (.ref a), .val (.double u), .second, .val (.ref t), .val (.int (2 : Int32)), .val (.int (0 : Int32)), .val (.ref r0), .val (.int (3 : Int32))] [(.int (3 : Int32)), (.ref r0), (.int (3 : Int32)), (.ref r0)]) (fun tt0 kk0 => by jvm_step X4.here [X4.here.top, hx, (hb hby d11_40), Value.category]; exact kk0) ?_
  refine Go.daload X4 hx hZ e4 V0 (by decide) (by decide) (g := (mkF m 41 #[.val (.ref a), .val (.double u), .second, .val (.ref t), .val (.int (2 : Int32)), .val (.int (0 : Int32)), .val (.ref r0), .val (.int (3 : Int32))] [(.int (3 : Int32)), (.ref r0), (.int (3 : Int32)), (.ref r0)])) rfl rfl (hb hby d11_41) ?_
  show Go pr ev below _ T4 (mkF m 42 #[.val (.ref a), .val (.double u), .second, .val (.ref t), .val (.int (2 : Int32)), .val (.int (0 : Int32)), .val (.ref r0), .val (.int (3 : Int32))] [(.double ((fnup (fnup (fnup z0 (0 : Int32) (FP.dmul (z0 (0 : Int32)) (FP.dsub FP.dconst1 u))) (1 : Int32) (FP.dmul (z0 (1 : Int32)) (FP.dsub FP.dconst1 u))) (2 : Int32) (FP.dmul (z0 (2 : Int32)) (FP.dsub FP.dconst1 u))) (3 : Int32))), (.int (3 : Int32)), (.ref r0)])
  rw [show ((fnup (fnup (fnup z0 (0 : Int32) (FP.dmul (z0 (0 : Int32)) (FP.dsub FP.dconst1 u))) (1 : Int32) (FP.dmul (z0 (1 : Int32)) (FP.dsub FP.dconst1 u))) (2 : Int32) (FP.dmul (z0 (2 : Int32)) (FP.dsub FP.dconst1 u))) (3 : Int32)) = (z0 (3 : Int32)) from by simp [fnup]]
  show Go pr ev below _ T4 (mkF m 42 #[.val (.ref a), .val (.double u), .second, .val (.ref t), .val (.int (2 : Int32)), .val (.int (0 : Int32)), .val (.ref r0), .val (.int (3 : Int32))] [(.double (z0 (3 : Int32))), (.int (3 : Int32)), (.ref r0)])
  refine Go.of (mkF m 43 #[.val (.ref a), .val (.double u), .second, .val (.ref t), .val (.int (2 : Int32)), .val (.int (0 : Int32)), .val (.ref r0), .val (.int (3 : Int32))] [(.double FP.dconst1), (.double (z0 (3 : Int32))), (.int (3 : Int32)), (.ref r0)]) (fun tt0 kk0 => XS.dconst1 X4.here hx rfl (hb hby d11_42) rfl kk0) ?_
  refine Go.of (mkF m 44 #[.val (.ref a), .val (.double u), .second, .val (.ref t), .val (.int (2 : Int32)), .val (.int (0 : Int32)), .val (.ref r0), .val (.int (3 : Int32))] [(.double u), (.double FP.dconst1), (.double (z0 (3 : Int32))), (.int (3 : Int32)), (.ref r0)]) (fun tt0 kk0 => XS.dloadN X4.here hx rfl (hb hby d11_43) rfl kk0) ?_
  refine Go.of (mkF m 45 #[.val (.ref a), .val (.double u), .second, .val (.ref t), .val (.int (2 : Int32)), .val (.int (0 : Int32)), .val (.ref r0), .val (.int (3 : Int32))] [(.double (FP.dsub FP.dconst1 u)), (.double (z0 (3 : Int32))), (.int (3 : Int32)), (.ref r0)]) (fun tt0 kk0 => XS.dsubS X4.here hx rfl (hb hby d11_44) rfl hF.noNaN rfl kk0) ?_
  refine Go.of (mkF m 46 #[.val (.ref a), .val (.double u), .second, .val (.ref t), .val (.int (2 : Int32)), .val (.int (0 : Int32)), .val (.ref r0), .val (.int (3 : Int32))] [(.double (FP.dmul (z0 (3 : Int32)) (FP.dsub FP.dconst1 u))), (.int (3 : Int32)), (.ref r0)]) (fun tt0 kk0 => XS.dmulS X4.here hx rfl (hb hby d11_45) rfl (own_mm hB0 hF _) rfl kk0) ?_
  refine Go.dastore X4 hx hZ e4 V0 (by decide) (by decide) (g := (mkF m 46 #[.val (.ref a), .val (.double u), .second, .val (.ref t), .val (.int (2 : Int32)), .val (.int (0 : Int32)), .val (.ref r0), .val (.int (3 : Int32))] [(.double (FP.dmul (z0 (3 : Int32)) (FP.dsub FP.dconst1 u))), (.int (3 : Int32)), (.ref r0)])) rfl rfl (hb hby d11_46) ?_
  rintro T5 h5 X5 e5 W5 V5
  replace Ft := Ft.other W5 (Or.inl na0)
  replace Fq := Fq.other W5 (Or.inl na0)
  replace E := E.wr W5
  replace VT := VT.other W5 nt0
  replace V1 := V1.other W5 (Ne.symm n01)
  replace hz := Nat.le_trans hz (Nat.le_of_eq W5.size.symm)
  replace K0 := K0.wr W5 (Or.inl (by simp))
  replace V0 := V5
  have N5 := Fr.snoc X5 N4 gr0
  show Go pr ev below _ T5 (mkF m 47 #[.val (.ref a), .val (.double u), .second, .val (.ref t), .val (.int (2 : Int32)), .val (.int (0 : Int32)), .val (.ref r0), .val (.int (3 : Int32))] [])
  refine Go.of (mkF m 50 #[.val (.ref a), .val (.double u), .second, .val (.ref t), .val (.int (2 : Int32)), .val (.int (0 : Int32)), .val (.ref r0), .val (.int ((3 : Int32) + (1 : Int32)))] []) (fun tt0 kk0 => XS.iinc X5.here hx rfl (hb hby d11_47) rfl (l' := #[.val (.ref a), .val (.double u), .second, .val (.ref t), .val (.int (2 : Int32)), .val (.int (0 : Int32)), .val (.ref r0), .val (.int ((3 : Int32) + (1 : Int32)))]) rfl kk0) ?_
  rw [show ((3 : Int32) + (1 : Int32)) = (4 : Int32) from by decide]
  refine Go.of (mkF m 28 #[.val (.ref a), .val (.double u), .second, .val (.ref t), .val (.int (2 : Int32)), .val (.int (0 : Int32)), .val (.ref r0), .val (.int (4 : Int32))] []) (fun tt0 kk0 => XS.goto X5.here hx rfl (pc0 := 50) (pc' := 28) rfl (hb hby d11_50) (by decide) (by decide) kk0) ?_
  refine Go.of (mkF m 30 #[.val (.ref a), .val (.double u), .second, .val (.ref t), .val (.int (2 : Int32)), .val (.int (0 : Int32)), .val (.ref r0), .val (.int (4 : Int32))] [(.int (4 : Int32))]) (fun tt0 kk0 => XS.iload X5.here hx rfl (hb hby d11_28) rfl kk0) ?_
  refine Go.of (mkF m 32 #[.val (.ref a), .val (.double u), .second, .val (.ref t), .val (.int (2 : Int32)), .val (.int (0 : Int32)), .val (.ref r0), .val (.int (4 : Int32))] [(.ref r0), (.int (4 : Int32))]) (fun tt0 kk0 => XS.aload X5.here hx rfl (hb hby d11_30) rfl rfl kk0) ?_
  refine Go.arraylength X5 hx hZ e5 V0 (g := (mkF m 32 #[.val (.ref a), .val (.double u), .second, .val (.ref t), .val (.int (2 : Int32)), .val (.int (0 : Int32)), .val (.ref r0), .val (.int (4 : Int32))] [(.ref r0), (.int (4 : Int32))])) rfl rfl (hb hby d11_32) ?_
  show Go pr ev below _ T5 (mkF m 33 #[.val (.ref a), .val (.double u), .second, .val (.ref t), .val (.int (2 : Int32)), .val (.int (0 : Int32)), .val (.ref r0), .val (.int (4 : Int32))] [(.int (6 : Int32)), (.int (4 : Int32))])
  refine Go.of (mkF m 36 #[.val (.ref a), .val (.double u), .second, .val (.ref t), .val (.int (2 : Int32)), .val (.int (0 : Int32)), .val (.ref r0), .val (.int (4 : Int32))] []) (fun tt0 kk0 => XS.icmpNo X5.here hx rfl (hb hby d11_33) rfl (tlt (by decide)).2.1 kk0) ?_
  refine Go.of (mkF m 38 #[.val (.ref a), .val (.double u), .second, .val (.ref t), .val (.int (2 : Int32)), .val (.int (0 : Int32)), .val (.ref r0), .val (.int (4 : Int32))] [(.ref r0)]) (fun tt0 kk0 => XS.aload X5.here hx rfl (hb hby d11_36) rfl rfl kk0) ?_
  refine Go.of (mkF m 40 #[.val (.ref a), .val (.double u), .second, .val (.ref t), .val (.int (2 : Int32)), .val (.int (0 : Int32)), .val (.ref r0), .val (.int (4 : Int32))] [(.int (4 : Int32)), (.ref r0)]) (fun tt0 kk0 => XS.iload X5.here hx rfl (hb hby d11_38) rfl kk0) ?_
  refine Go.of (mkF m 41 #[.val (.ref a), .val (.double u), .second, .val (.ref t), .val (.int (2 : Int32)), .val (.int (0 : Int32)), .val (.ref r0), .val (.int (4 : Int32))] [(.int (4 : Int32)), (.ref r0), (.int (4 : Int32)), (.ref r0)]) (fun tt0 kk0 => by jvm_step X5.here [X5.here.top, hx, (hb hby d11_40), Value.category]; exact kk0) ?_
  refine Go.daload X5 hx hZ e5 V0 (by decide) (by decide) (g := (mkF m 41 #[.val (.ref a), .val (.double u), .second, .val (.ref t), .val (.int (2 : Int32)), .val (.int (0 : Int32)), .val (.ref r0), .val (.int (4 : Int32))] [(.int (4 : Int32)), (.ref r0), (.int (4 : Int32)), (.ref r0)])) rfl rfl (hb hby d11_41) ?_
  show Go pr ev below _ T5 (mkF m 42 #[.val (.ref a), .val (.double u), .second, .val (.ref t), .val (.int (2 : Int32)), .val (.int (0 : Int32)), .val (.ref r0), .val (.int (4 : Int32))] [(.double ((fnup (fnup (fnup (fnup z0 (0 : Int32) (FP.dmul (z0 (0 : Int32)) (FP.dsub FP.dconst1 u))) (1 : Int32) (FP.dmul (z0 (1 : Int32)) (FP.dsub FP.dconst1 u))) (2 : Int32) (FP.dmul (z0 (2 : Int32)) (FP.dsub FP.dconst1 u))) (3 : Int32) (FP.dmul (z0 (3 : Int32)) (FP.dsub FP.dconst1 u))) (4 : Int32))), (.int (4 : Int32)), (.ref r0)])
  rw [show ((fnup (fnup (fnup (fnup z0 (0 : Int32) (FP.dmul (z0 (0 : Int32)) (FP.dsub FP.dconst1 u))) (1 : Int32) (FP.dmul (z0 (1 : Int32)) (FP.dsub FP.dconst1 u))) (2 : Int32) (FP.dmul (z0 (2 : Int32)) (FP.dsub FP.dconst1 u))) (3 : Int32) (FP.dmul (z0 (3 : Int32)) (FP.dsub FP.dconst1 u))) (4 : Int32)) = (z0 (4 : Int32)) from by simp [fnup]]
  show Go pr ev below _ T5 (mkF m 42 #[.val (.ref a), .val (.double u), .second, .val (.ref t), .val (.int (2 : Int32)), .val (.int (0 : Int32)), .val (.ref r0), .val (.int (4 : Int32))] [(.double (z0 (4 : Int32))), (.int (4 : Int32)), (.ref r0)])
  refine Go.of (mkF m 43 #[.val (.ref a), .val (.double u), .second, .val (.ref t), .val (.int (2 : Int32)), .val (.int (0 : Int32)), .val (.ref r0), .val (.int (4 : Int32))] [(.double FP.dconst1), (.double (z0 (4 : Int32))), (.int (4 : Int32)), (.ref r0)]) (fun tt0 kk0 => XS.dconst1 X5.here hx rfl (hb hby d11_42) rfl kk0) ?_
  refine Go.of (mkF m 44 #[.val (.ref a), .val (.double u), .second, .val (.ref t), .val (.int (2 : Int32)), .val (.int (0 : Int32)), .val (.ref r0), .val (.int (4 : Int32))] [(.double u), (.double FP.dconst1), (.double (z0 (4 : Int32))), (.int (4 : Int32)), (.ref r0)]) (fun tt0 kk0 => XS.dloadN X5.here hx rfl (hb hby d11_43) rfl kk0) ?_
  refine Go.of (mkF m 45 #[.val (.ref a), .val (.double u), .second, .val (.ref t), .val (.int (2 : Int32)), .val (.int (0 : Int32)), .val (.ref r0), .val (.int (4 : Int32))] [(.double (FP.dsub FP.dconst1 u)), (.double (z0 (4 : Int32))), (.int (4 : Int32)), (.ref r0)]) (fun tt0 kk0 => XS.dsubS X5.here hx rfl (hb hby d11_44) rfl hF.noNaN rfl kk0) ?_
  refine Go.of (mkF m 46 #[.val (.ref a), .val (.double u), .second, .val (.ref t), .val (.int (2 : Int32)), .val (.int (0 : Int32)), .val (.ref r0), .val (.int (4 : Int32))] [(.double (FP.dmul (z0 (4 : Int32)) (FP.dsub FP.dconst1 u))), (.int (4 : Int32)), (.ref r0)]) (fun tt0 kk0 => XS.dmulS X5.here hx rfl (hb hby d11_45) rfl (own_mm hB0 hF _) rfl kk0) ?_
  refine Go.dastore X5 hx hZ e5 V0 (by decide) (by decide) (g := (mkF m 46 #[.val (.ref a), .val (.double u), .second, .val (.ref t), .val (.int (2 : Int32)), .val (.int (0 : Int32)), .val (.ref r0), .val (.int (4 : Int32))] [(.double (FP.dmul (z0 (4 : Int32)) (FP.dsub FP.dconst1 u))), (.int (4 : Int32)), (.ref r0)])) rfl rfl (hb hby d11_46) ?_
  rintro T6 h6 X6 e6 W6 V6
  replace Ft := Ft.other W6 (Or.inl na0)
  replace Fq := Fq.other W6 (Or.inl na0)
  replace E := E.wr W6
  replace VT := VT.other W6 nt0
  replace V1 := V1.other W6 (Ne.symm n01)
  replace hz := Nat.le_trans hz (Nat.le_of_eq W6.size.symm)
  replace K0 := K0.wr W6 (Or.inl (by simp))
  replace V0 := V6
  have N6 := Fr.snoc X6 N5 gr0
  show Go pr ev below _ T6 (mkF m 47 #[.val (.ref a), .val (.double u), .second, .val (.ref t), .val (.int (2 : Int32)), .val (.int (0 : Int32)), .val (.ref r0), .val (.int (4 : Int32))] [])
  refine Go.of (mkF m 50 #[.val (.ref a), .val (.double u), .second, .val (.ref t), .val (.int (2 : Int32)), .val (.int (0 : Int32)), .val (.ref r0), .val (.int ((4 : Int32) + (1 : Int32)))] []) (fun tt0 kk0 => XS.iinc X6.here hx rfl (hb hby d11_47) rfl (l' := #[.val (.ref a), .val (.double u), .second, .val (.ref t), .val (.int (2 : Int32)), .val (.int (0 : Int32)), .val (.ref r0), .val (.int ((4 : Int32) + (1 : Int32)))]) rfl kk0) ?_
  rw [show ((4 : Int32) + (1 : Int32)) = (5 : Int32) from by decide]
  refine Go.of (mkF m 28 #[.val (.ref a), .val (.double u), .second, .val (.ref t), .val (.int (2 : Int32)), .val (.int (0 : Int32)), .val (.ref r0), .val (.int (5 : Int32))] []) (fun tt0 kk0 => XS.goto X6.here hx rfl (pc0 := 50) (pc' := 28) rfl (hb hby d11_50) (by decide) (by decide) kk0) ?_
  refine Go.of (mkF m 30 #[.val (.ref a), .val (.double u), .second, .val (.ref t), .val (.int (2 : Int32)), .val (.int (0 : Int32)), .val (.ref r0), .val (.int (5 : Int32))] [(.int (5 : Int32))]) (fun tt0 kk0 => XS.iload X6.here hx rfl (hb hby d11_28) rfl kk0) ?_
  refine Go.of (mkF m 32 #[.val (.ref a), .val (.double u), .second, .val (.ref t), .val (.int (2 : Int32)), .val (.int (0 : Int32)), .val (.ref r0), .val (.int (5 : Int32))] [(.ref r0), (.int (5 : Int32))]) (fun tt0 kk0 => XS.aload X6.here hx rfl (hb hby d11_30) rfl rfl kk0) ?_
  refine Go.arraylength X6 hx hZ e6 V0 (g := (mkF m 32 #[.val (.ref a), .val (.double u), .second, .val (.ref t), .val (.int (2 : Int32)), .val (.int (0 : Int32)), .val (.ref r0), .val (.int (5 : Int32))] [(.ref r0), (.int (5 : Int32))])) rfl rfl (hb hby d11_32) ?_
  show Go pr ev below _ T6 (mkF m 33 #[.val (.ref a), .val (.double u), .second, .val (.ref t), .val (.int (2 : Int32)), .val (.int (0 : Int32)), .val (.ref r0), .val (.int (5 : Int32))] [(.int (6 : Int32)), (.int (5 : Int32))])
  refine Go.of (mkF m 36 #[.val (.ref a), .val (.double u), .second, .val (.ref t), .val (.int (2 : Int32)), .val (.int (0 : Int32)), .val (.ref r0), .val (.int (5 : Int32))] []) (fun tt0 kk0 => XS.icmpNo X6.here hx rfl (hb hby d11_33) rfl (tlt (by decide)).2.1 kk0) ?_
  refine Go.of (mkF m 38 #[.val (.ref a), .val (.double u), .second, .val (.ref t), .val (.int (2 : Int32)), .val (.int (0 : Int32)), .val (.ref r0), .val (.int (5 : Int32))] [(.ref r0)]) (fun tt0 kk0 => XS.aload X6.here hx rfl (hb hby d11_36) rfl rfl kk0) ?_
  refine Go.of (mkF m 40 #[.val (.ref a), .val (.double u), .second, .val (.ref t), .val (.int (2 : Int32)), .val (.int (0 : Int32)), .val (.ref r0), .val (.int (5 : Int32))] [(.int (5 : Int32)), (.ref r0)]) (fun tt0 kk0 => XS.iload X6.here hx rfl (hb hby d11_38) rfl kk0) ?_
  refine Go.of (mkF m 41 #[.val (.ref a), .val (.double u), .second, .val (.ref t), .val (.int (2 : Int32)), .val (.int (0 : Int32)), .val (.ref r0), .val (.int (5 : Int32))] [(.int (5 : Int32)), (.ref r0), (.int (5 : Int32)), (.ref r0)]) (fun tt0 kk0 => by jvm_step X6.here [X6.here.top, hx, (hb hby d11_40), Value.category]; exact kk0) ?_
  refine Go.daload X6 hx hZ e6 V0 (by decide) (by decide) (g := (mkF m 41 #[.val (.ref a), .val (.double u), .second, .val (.ref t), .val (.int (2 : Int32)), .val (.int (0 : Int32)), .val (.ref r0), .val (.int (5 : Int32))] [(.int (5 : Int32)), (.ref r0), (.int (5 : Int32)), (.ref r0)])) rfl rfl (hb hby d11_41) ?_
  show Go pr ev below _ T6 (mkF m 42 #[.val (.ref a), .val (.double u), .second, .val (.ref t), .val (.int (2 : Int32)), .val (.int (0 : Int32)), .val (.ref r0), .val (.int (5 : Int32))] [(.double ((fnup (fnup (fnup (fnup (fnup z0 (0 : Int32) (FP.dmul (z0 (0 : Int32)) (FP.dsub FP.dconst1 u))) (1 : Int32) (FP.dmul (z0 (1 : Int32)) (FP.dsub FP.dconst1 u))) (2 : Int32) (FP.dmul (z0 (2 : Int32)) (FP.dsub FP.dconst1 u))) (3 : Int32) (FP.dmul (z0 (3 : Int32)) (FP.dsub FP.dconst1 u))) (4 : Int32) (FP.dmul (z0 (4 : Int32)) (FP.dsub FP.dconst1 u))) (5 : Int32))), (.int (5 : Int32)), (.ref r0)])
  rw [show ((fnup (fnup (fnup (fnup (fnup z0 (0 : Int32) (FP.dmul (z0 (0 : Int32)) (FP.dsub FP.dconst1 u))) (1 : Int32) (FP.dmul (z0 (1 : Int32)) (FP.dsub FP.dconst1 u))) (2 : Int32) (FP.dmul (z0 (2 : Int32)) (FP.dsub FP.dconst1 u))) (3 : Int32) (FP.dmul (z0 (3 : Int32)) (FP.dsub FP.dconst1 u))) (4 : Int32) (FP.dmul (z0 (4 : Int32)) (FP.dsub FP.dconst1 u))) (5 : Int32)) = (z0 (5 : Int32)) from by simp [fnup]]
  show Go pr ev below _ T6 (mkF m 42 #[.val (.ref a), .val (.double u), .second, .val (.ref t), .val (.int (2 : Int32)), .val (.int (0 : Int32)), .val (.ref r0), .val (.int (5 : Int32))] [(.double (z0 (5 : Int32))), (.int (5 : Int32)), (.ref r0)])
  refine Go.of (mkF m 43 #[.val (.ref a), .val (.double u), .second, .val (.ref t), .val (.int (2 : Int32)), .val (.int (0 : Int32)), .val (.ref r0), .val (.int (5 : Int32))] [(.double FP.dconst1), (.double (z0 (5 : Int32))), (.int (5 : Int32)), (.ref r0)]) (fun tt0 kk0 => XS.dconst1 X6.here hx rfl (hb hby d11_42) rfl kk0) ?_
  refine Go.of (mkF m 44 #[.val (.ref a), .val (.double u), .second, .val (.ref t), .val (.int (2 : Int32)), .val (.int (0 : Int32)), .val (.ref r0), .val (.int (5 : Int32))] [(.double u), (.double FP.dconst1), (.double (z0 (5 : Int32))), (.int (5 : Int32)), (.ref r0)]) (fun tt0 kk0 => XS.dloadN X6.here hx rfl (hb hby d11_43) rfl kk0) ?_
  refine Go.of (mkF m 45 #[.val (.ref a), .val (.double u), .second, .val (.ref t), .val (.int (2 : Int32)), .val (.int (0 : Int32)), .val (.ref r0), .val (.int (5 : Int32))] [(.double (FP.dsub FP.dconst1 u)), (.double (z0 (5 : Int32))), (.int (5 : Int32)), (.ref r0)]) (fun tt0 kk0 => XS.dsubS X6.here hx rfl (hb hby d11_44) rfl hF.noNaN rfl kk0) ?_
  refine Go.of (mkF m 46 #[.val (.ref a), .val (.double u), .second, .val (.ref t), .val (.int (2 : Int32)), .val (.int (0 : Int32)), .val (.ref r0), .val (.int (5 : Int32))] [(.double (FP.dmul (z0 (5 : Int32)) (FP.dsub FP.dconst1 u))), (.int (5 : Int32)), (.ref r0)]) (fun tt0 kk0 => XS.dmulS X6.here hx rfl (hb hby d11_45) rfl (own_mm hB0 hF _) rfl kk0) ?_
  refine Go.dastore X6 hx hZ e6 V0 (by decide) (by decide) (g := (mkF m 46 #[.val (.ref a), .val (.double u), .second, .val (.ref t), .val (.int (2 : Int32)), .val (.int (0 : Int32)), .val (.ref r0), .val (.int (5 : Int32))] [(.double (FP.dmul (z0 (5 : Int32)) (FP.dsub FP.dconst1 u))), (.int (5 : Int32)), (.ref r0)])) rfl rfl (hb hby d11_46) ?_
  rintro T7 h7 X7 e7 W7 V7
  replace Ft := Ft.other W7 (Or.inl na0)
  replace Fq := Fq.other W7 (Or.inl na0)
  replace E := E.wr W7
  replace VT := VT.other W7 nt0
  replace V1 := V1.other W7 (Ne.symm n01)
  replace hz := Nat.le_trans hz (Nat.le_of_eq W7.size.symm)
  replace K0 := K0.wr W7 (Or.inl (by simp))
  replace V0 := V7
  have N7 := Fr.snoc X7 N6 gr0
  show Go pr ev below _ T7 (mkF m 47 #[.val (.ref a), .val (.double u), .second, .val (.ref t), .val (.int (2 : Int32)), .val (.int (0 : Int32)), .val (.ref r0), .val (.int (5 : Int32))] [])
  refine Go.of (mkF m 50 #[.val (.ref a), .val (.double u), .second, .val (.ref t), .val (.int (2 : Int32)), .val (.int (0 : Int32)), .val (.ref r0), .val (.int ((5 : Int32) + (1 : Int32)))] []) (fun tt0 kk0 => XS.iinc X7.here hx rfl (hb hby d11_47) rfl (l' := #[.val (.ref a), .val (.double u), .second, .val (.ref t), .val (.int (2 : Int32)), .val (.int (0 : Int32)), .val (.ref r0), .val (.int ((5 : Int32) + (1 : Int32)))]) rfl kk0) ?_
  rw [show ((5 : Int32) + (1 : Int32)) = (6 : Int32) from by decide]
  refine Go.of (mkF m 28 #[.val (.ref a), .val (.double u), .second, .val (.ref t), .val (.int (2 : Int32)), .val (.int (0 : Int32)), .val (.ref r0), .val (.int (6 : Int32))] []) (fun tt0 kk0 => XS.goto X7.here hx rfl (pc0 := 50) (pc' := 28) rfl (hb hby d11_50) (by decide) (by decide) kk0) ?_
  refine Go.of (mkF m 30 #[.val (.ref a), .val (.double u), .second, .val (.ref t), .val (.int (2 : Int32)), .val (.int (0 : Int32)), .val (.ref r0), .val (.int (6 : Int32))] [(.int (6 : Int32))]) (fun tt0 kk0 => XS.iload X7.here hx rfl (hb hby d11_28) rfl kk0) ?_
  refine Go.of (mkF m 32 #[.val (.ref a), .val (.double u), .second, .val (.ref t), .val (.int (2 : Int32)), .val (.int (0 : Int32)), .val (.ref r0), .val (.int (6 : Int32))] [(.ref r0), (.int (6 : Int32))]) (fun tt0 kk0 => XS.aload X7.here hx rfl (hb hby d11_30) rfl rfl kk0) ?_
  refine Go.arraylength X7 hx hZ e7 V0 (g := (mkF m 32 #[.val (.ref a), .val (.double u), .second, .val (.ref t), .val (.int (2 : Int32)), .val (.int (0 : Int32)), .val (.ref r0), .val (.int (6 : Int32))] [(.ref r0), (.int (6 : Int32))])) rfl rfl (hb hby d11_32) ?_
  show Go pr ev below _ T7 (mkF m 33 #[.val (.ref a), .val (.double u), .second, .val (.ref t), .val (.int (2 : Int32)), .val (.int (0 : Int32)), .val (.ref r0), .val (.int (6 : Int32))] [(.int (6 : Int32)), (.int (6 : Int32))])
  refine Go.of (mkF m 53 #[.val (.ref a), .val (.double u), .second, .val (.ref t), .val (.int (2 : Int32)), .val (.int (0 : Int32)), .val (.ref r0), .val (.int (6 : Int32))] []) (fun tt0 kk0 => XS.icmpYes X7.here hx rfl (pc0 := 33) (pc' := 53) rfl (hb hby d11_33) rfl (flt (by decide)).2.1 (by decide) (by decide) kk0) ?_
  refine Go.of (mkF m 56 #[.val (.ref a), .val (.double u), .second, .val (.ref t), .val (.int (2 : Int32)), .val (.int ((0 : Int32) + (1 : Int32))), .val (.ref r0), .val (.int (6 : Int32))] []) (fun tt0 kk0 => XS.iinc X7.here hx rfl (hb hby d11_53) rfl (l' := #[.val (.ref a), .val (.double u), .second, .val (.ref t), .val (.int (2 : Int32)), .val (.int ((0 : Int32) + (1 : Int32))), .val (.ref r0), .val (.int (6 : Int32))]) rfl kk0) ?_
  rw [show ((0 : Int32) + (1 : Int32)) = (1 : Int32) from by decide]
  refine Go.of (mkF m 12 #[.val (.ref a), .val (.double u), .second, .val (.ref t), .val (.int (2 : Int32)), .val (.int (1 : Int32)), .val (.ref r0), .val (.int (6 : Int32))] []) (fun tt0 kk0 => XS.goto X7.here hx rfl (pc0 := 56) (pc' := 12) rfl (hb hby d11_56) (by decide) (by decide) kk0) ?_
  refine Go.of (mkF m 14 #[.val (.ref a), .val (.double u), .second, .val (.ref t), .val (.int (2 : Int32)), .val (.int (1 : Int32)), .val (.ref r0), .val (.int (6 : Int32))] [(.int (1 : Int32))]) (fun tt0 kk0 => XS.iload X7.here hx rfl (hb hby d11_12) rfl kk0) ?_
  refine Go.of (mkF m 16 #[.val (.ref a), .val (.double u), .second, .val (.ref t), .val (.int (2 : Int32)), .val (.int (1 : Int32)), .val (.ref r0), .val (.int (6 : Int32))] [(.int (2 : Int32)), (.int (1 : Int32))]) (fun tt0 kk0 => XS.iload X7.here hx rfl (hb hby d11_14) rfl kk0) ?_
  refine Go.of (mkF m 19 #[.val (.ref a), .val (.double u), .second, .val (.ref t), .val (.int (2 : Int32)), .val (.int (1 : Int32)), .val (.ref r0), .val (.int (6 : Int32))] []) (fun tt0 kk0 => XS.icmpNo X7.here hx rfl (hb hby d11_16) rfl (tlt (by decide)).2.1 kk0) ?_
  refine Go.of (mkF m 20 #[.val (.ref a), .val (.double u), .second, .val (.ref t), .val (.int (2 : Int32)), .val (.int (1 : Int32)), .val (.ref r0), .val (.int (6 : Int32))] [(.ref t)]) (fun tt0 kk0 => XS.aloadN X7.here hx rfl (hb hby d11_19) rfl rfl kk0) ?_
  refine Go.of (mkF m 22 #[.val (.ref a), .val (.double u), .second, .val (.ref t), .val (.int (2 : Int32)), .val (.int (1 : Int32)), .val (.ref r0), .val (.int (6 : Int32))] [(.int (1 : Int32)), (.ref t)]) (fun tt0 kk0 => XS.iload X7.here hx rfl (hb hby d11_20) rfl kk0) ?_
  refine Go.aaload X7 hx hZ e7 VT rfl (by decide) (by decide) (g := (mkF m 22 #[.val (.ref a), .val (.double u), .second, .val (.ref t), .val (.int (2 : Int32)), .val (.int (1 : Int32)), .val (.ref r0), .val (.int (6 : Int32))] [(.int (1 : Int32)), (.ref t)])) rfl rfl (hb hby d11_22) ?_
  show Go pr ev below _ T7 (mkF m 23 #[.val (.ref a), .val (.double u), .second, .val (.ref t), .val (.int (2 : Int32)), .val (.int (1 : Int32)), .val (.ref r0), .val (.int (6 : Int32))] [(yt (1 : Int32))])
  rw [show (yt (1 : Int32)) = (.ref r1) from hy1]
  show Go pr ev below _ T7 (mkF m 23 #[.val (.ref a), .val (.double u), .second, .val (.ref t), .val (.int (2 : Int32)), .val (.int (1 : Int32)), .val (.ref r0), .val (.int (6 : Int32))] [(.ref r1)])
  refine Go.of (mkF m 25 #[.val (.ref a), .val (.double u), .second, .val (.ref t), .val (.int (2 : Int32)), .val (.int (1 : Int32)), .val (.ref r1), .val (.int (6 : Int32))] []) (fun tt0 kk0 => XS.astore X7.here hx rfl (hb hby d11_23) rfl rfl (l' := #[.val (.ref a), .val (.double u), .second, .val (.ref t), .val (.int (2 : Int32)), .val (.int (1 : Int32)), .val (.ref r1), .val (.int (6 : Int32))]) rfl kk0) ?_
  refine Go.of (mkF m 26 #[.val (.ref a), .val (.double u), .second, .val (.ref t), .val (.int (2 : Int32)), .val (.int (1 : Int32)), .val (.ref r1), .val (.int (6 : Int32))] [(.int (0 : Int32))]) (fun tt0 kk0 => XS.iconst X7.here hx rfl (hb hby d11_25) kk0) ?_
  refine Go.of (mkF m 28 #[.val (.ref a), .val (.double u), .second, .val (.ref t), .val (.int (2 : Int32)), .val (.int (1 : Int32)), .val (.ref r1), .val (.int (0 : Int32))] []) (fun tt0 kk0 => XS.istore X7.here hx rfl (hb hby d11_26) rfl (l' := #[.val (.ref a), .val (.double u), .second, .val (.ref t), .val (.int (2 : Int32)), .val (.int (1 : Int32)), .val (.ref r1), .val (.int (0 : Int32))]) rfl kk0) ?_
  refine Go.of (mkF m 30 #[.val (.ref a), .val (.double u), .second, .val (.ref t), .val (.int (2 : Int32)), .val (.int (1 : Int32)), .val (.ref r1), .val (.int (0 : Int32))] [(.int (0 : Int32))]) (fun tt0 kk0 => XS.iload X7.here hx rfl (hb hby d11_28) rfl kk0) ?_
  refine Go.of (mkF m 32 #[.val (.ref a), .val (.double u), .second, .val (.ref t), .val (.int (2 : Int32)), .val (.int (1 : Int32)), .val (.ref r1), .val (.int (0 : Int32))] [(.ref r1), (.int (0 : Int32))]) (fun tt0 kk0 => XS.aload X7.here hx rfl (hb hby d11_30) rfl rfl kk0) ?_
  refine Go.arraylength X7 hx hZ e7 V1 (g := (mkF m 32 #[.val (.ref a), .val (.double u), .second, .val (.ref t), .val (.int (2 : Int32)), .val (.int (1 : Int32)), .val (.ref r1), .val (.int (0 : Int32))] [(.ref r1), (.int (0 : Int32))])) rfl rfl (hb hby d11_32) ?_
  show Go pr ev below _ T7 (mkF m 33 #[.val (.ref a), .val (.double u), .second, .val (.ref t), .val (.int (2 : Int32)), .val (.int (1 : Int32)), .val (.ref r1), .val (.int (0 : Int32))] [(.int (6 : Int32)), (.int (0 : Int32))])
  refine Go.of (mkF m 36 #[.val (.ref a), .val (.double u), .second, .val (.ref t), .val (.int (2 : Int32)), .val (.int (1 : Int32)), .val (.ref r1), .val (.int (0 : Int32))] []) (fun tt0 kk0 => XS.icmpNo X7.here hx rfl (hb hby d11_33) rfl (tlt (by decide)).2.1 kk0) ?_
  refine Go.of (mkF m 38 #[.val (.ref a), .val (.double u), .second, .val (.ref t), .val (.int (2 : Int32)), .val (.int (1 : Int32)), .val (.ref r1), .val (.int (0 : Int32))] [(.ref r1)]) (fun tt0 kk0 => XS.aload X7.here hx rfl (hb hby d11_36) rfl rfl kk0) ?_
  refine Go.of (mkF m 40 #[.val (.ref a), .val (.double u), .second, .val (.ref t), .val (.int (2 : Int32)), .val (.int (1 : Int32)), .val (.ref r1), .val (.int (0 : Int32))] [(.int (0 : Int32)), (.ref r1)]) (fun tt0 kk0 => XS.iload X7.here hx rfl (hb hby d11_38) rfl kk0) ?_
  refine Go.of (mkF m 41 #[.val (.ref a), .val (.double u), .second, .val (.ref t), .val (.int (2 : Int32)), .val (.int (1 : Int32)), .val (.ref r1), .val (.int (0 : Int32))] [(.int (0 : Int32)), (.ref r1), (.int (0 : Int32)), (.ref r1)]) (fun tt0 kk0 => by jvm_step X7.here [X7.here.top, hx, (hb hby d11_40), Value.category]; exact kk0) ?_
  refine Go.daload X7 hx hZ e7 V1 (by decide) (by decide) (g := (mkF m 41 #[.val (.ref a), .val (.double u), .second, .val (.ref t), .val (.int (2 : Int32)), .val (.int (1 : Int32)), .val (.ref r1), .val (.int (0 : Int32))] [(.int (0 : Int32)), (.ref r1), (.int (0 : Int32)), (.ref r1)])) rfl rfl (hb hby d11_41) ?_
  show Go pr ev below _ T7 (mkF m 42 #[.val (.ref a), .val (.double u), .second, .val (.ref t), .val (.int (2 : Int32)), .val (.int (1 : Int32)), .val (.ref r1), .val (.int (0 : Int32))] [(.double (z1 (0 : Int32))), (.int (0 : Int32)), (.ref r1)])
  show Go pr ev below _ T7 (mkF m 42 #[.val (.ref a), .val (.double u), .second, .val (.ref t), .val (.int (2 : Int32)), .val (.int (1 : Int32)), .val (.ref r1), .val (.int (0 : Int32))] [(.double (z1 (0 : Int32))), (.int (0 : Int32)), (.ref r1)])
  refine Go.of (mkF m 43 #[.val (.ref a), .val (.double u), .second, .val (.ref t), .val (.int (2 : Int32)), .val (.int (1 : Int32)), .val (.ref r1), .val (.int (0 : Int32))] [(.double FP.dconst1), (.double (z1 (0 : Int32))), (.int (0 : Int32)), (.ref r1)]) (fun tt0 kk0 => XS.dconst1 X7.here hx rfl (hb hby d11_42) rfl kk0) ?_
  refine Go.of (mkF m 44 #[.val (.ref a), .val (.double u), .second, .val (.ref t), .val (.int (2 : Int32)), .val (.int (1 : Int32)), .val (.ref r1), .val (.int (0 : Int32))] [(.double u), (.double FP.dconst1), (.double (z1 (0 : Int32))), (.int (0 : Int32)), (.ref r1)]) (fun tt0 kk0 => XS.dloadN X7.here hx rfl (hb hby d11_43) rfl kk0) ?_
  refine Go.of (mkF m 45 #[.val (.ref a), .val (.double u), .second, .val (.ref t), .val (.int (2 : Int32)), .val (.int (1 : Int32)), .val (.ref r1), .val (.int (0 : Int32))] [(.double (FP.dsub FP.dconst1 u)), (.double (z1 (0 : Int32))), (.int (0 : Int32)), (.ref r1)]) (fun tt0 kk0 => XS.dsubS X7.here hx rfl (hb hby d11_44) rfl hF.noNaN rfl kk0) ?_
  refine Go.of (mkF m 46 #[.val (.ref a), .val (.double u), .second, .val (.ref t), .val (.int (2 : Int32)), .val (.int (1 : Int32)), .val (.ref r1), .val (.int (0 : Int32))] [(.double (FP.dmul (z1 (0 : Int32)) (FP.dsub FP.dconst1 u))), (.int (0 : Int32)), (.ref r1)]) (fun tt0 kk0 => XS.dmulS X7.here hx rfl (hb hby d11_45) rfl (own_mm hB1 hF _) rfl kk0) ?_
  refine Go.dastore X7 hx hZ e7 V1 (by decide) (by decide) (g := (mkF m 46 #[.val (.ref a), .val (.double u), .second, .val (.ref t), .val (.int (2 : Int32)), .val (.int (1 : Int32)), .val (.ref r1), .val (.int (0 : Int32))] [(.double (FP.dmul (z1 (0 : Int32)) (FP.dsub FP.dconst1 u))), (.int (0 : Int32)), (.ref r1)])) rfl rfl (hb hby d11_46) ?_
  rintro T8 h8 X8 e8 W8 V8
  replace Ft := Ft.other W8 (Or.inl na1)
  replace Fq := Fq.other W8 (Or.inl na1)
  replace E := E.wr W8
  replace VT := VT.other W8 nt1
  replace V0 := V0.other W8 n01
  replace hz := Nat.le_trans hz (Nat.le_of_eq W8.size.symm)
  replace K0 := K0.wr W8 (Or.inl (by simp))
  replace V1 := V8
  have N8 := Fr.snoc X8 N7 gr1
  show Go pr ev below _ T8 (mkF m 47 #[.val (.ref a), .val (.double u), .second, .val (.ref t), .val (.int (2 : Int32)), .val (.int (1 : Int32)), .val (.ref r1), .val (.int (0 : Int32))] [])
  refine Go.of (mkF m 50 #[.val (.ref a), .val (.double u), .second, .val (.ref t), .val (.int (2 : Int32)), .val (.int (1 : Int32)), .val (.ref r1), .val (.int ((0 : Int32) + (1 : Int32)))] []) (fun tt0 kk0 => XS.iinc X8.here hx rfl (hb hby d11_47) rfl (l' := #[.val (.ref a), .val (.double u), .second, .val (.ref t), .val (.int (2 : Int32)), .val (.int (1 : Int32)), .val (.ref r1), .val (.int ((0 : Int32) + (1 : Int32)))]) rfl kk0) ?_
  rw [show ((0 : Int32) + (1 : Int32)) = (1 : Int32) from by decide]
  refine Go.of (mkF m 28 #[.val (.ref a), .val (.double u), .second, .val (.ref t), .val (.int (2 : Int32)), .val (.int (1 : Int32)), .val (.ref r1), .val (.int (1 : Int32))] []) (fun tt0 kk0 => XS.goto X8.here hx rfl (pc0 := 50) (pc' := 28) rfl (hb hby d11_50) (by decide) (by decide) kk0) ?_
  refine Go.of (mkF m 30 #[.val (.ref a), .val (.double u), .second, .val (.ref t), .val (.int (2 : Int32)), .val (.int (1 : Int32)), .val (.ref r1), .val (.int (1 : Int32))] [(.int (1 : Int32))]) (fun tt0 kk0 => XS.iload X8.here hx rfl (hb hby d11_28) rfl kk0) ?_
  refine Go.of (mkF m 32 #[.val (.ref a), .val (.double u), .second, .val (.ref t), .val (.int (2 : Int32)), .val (.int (1 : Int32)), .val (.ref r1), .val (.int (1 : Int32))] [(.ref r1), (.int (1 : Int32))]) (fun tt0 kk0 => XS.aload X8.here hx rfl (hb hby d11_30) rfl rfl kk0) ?_
  refine Go.arraylength X8 hx hZ e8 V1 (g := (mkF m 32 #[.val (.ref a), .val (.double u), .second, .val (.ref t), .val (.int (2 : Int32)), .val (.int (1 : Int32)), .val (.ref r1), .val (.int (1 : Int32))] [(.ref r1), (.int (1 : Int32))])) rfl rfl (hb hby d11_32) ?_
  show Go pr ev below _ T8 (mkF m 33 #[.val (.ref a), .val (.double u), .second, .val (.ref t), .val (.int (2 : Int32)), .val (.int (1 : Int32)), .val (.ref r1), .val (.int (1 : Int32))] [(.int (6 : Int32)), (.int (1 : Int32))])
  refine Go.of (mkF m 36 #[.val (.ref a), .val (.double u), .second, .val (.ref t), .val (.int (2 : Int32)), .val (.int (1 : Int32)), .val (.ref r1), .val (.int (1 : Int32))] []) (fun tt0 kk0 => XS.icmpNo X8.here hx rfl (hb hby d11_33) rfl (tlt (by decide)).2.1 kk0) ?_
  refine Go.of (mkF m 38 #[.val (.ref a), .val (.double u), .second, .val (.ref t), .val (.int (2 : Int32)), .val (.int (1 : Int32)), .val (.ref r1), .val (.int (1 : Int32))] [(.ref r1)]) (fun tt0 kk0 => XS.aload X8.here hx rfl (hb hby d11_36) rfl rfl kk0) ?_
  refine Go.of (mkF m 40 #[.val (.ref a), .val (.double u), .second, .val (.ref t), .val (.int (2 : Int32)), .val (.int (1 : Int32)), .val (.ref r1), .val (.int (1 : Int32))] [(.int (1 : Int32)), (.ref r1)]) (fun tt0 kk0 => XS.iload X8.here hx rfl (hb hby d11_38) rfl kk0) ?_
  refine Go.of (mkF m 41 #[.val (.ref a), .val (.double u), .second, .val (.ref t), .val (.int (2 : Int32)), .val (.int (1 : Int32)), .val (.ref r1), .val (.int (1 : Int32))] [(.int (1 : Int32)), (.ref r1), (.int (1 : Int32)), (.ref r1)]) (fun tt0 kk0 => by jvm_step X8.here [X8.here.top, hx, (hb hby d11_40), Value.category]; exact kk0) ?_
  refine Go.daload X8 hx hZ e8 V1 (by decide) (by decide) (g := (mkF m 41 #[.val (.ref a), .val (.double u), .second, .val (.ref t), .val (.int (2 : Int32)), .val (.int (1 : Int32)), .val (.ref r1), .val (.int (1 : Int32))] [(.int (1 : Int32)), (.ref r1), (.int (1 : Int32)), (.ref r1)])) rfl rfl (hb hby d11_41) ?_
  show Go pr ev below _ T8 (mkF m 42 #[.val (.ref a), .val (.double u), .second, .val (.ref t), .val (.int (2 : Int32)), .val (.int (1 : Int32)), .val (.ref r1), .val (.int (1 : Int32))] [(.double ((fnup z1 (0 : Int32) (FP.dmul (z1 (0 : Int32)) (FP.dsub FP.dconst1 u))) (1 : Int32))), (.int (1 : Int32)), (.ref r1)])
  rw [show ((fnup z1 (0 : Int32) (FP.dmul (z1 (0 : Int32)) (FP.dsub FP.dconst1 u))) (1 : Int32)) = (z1 (1 : Int32)) from by simp [fnup]]
  show Go pr ev below _ T8 (mkF m 42 #[.val (.ref a), .val (.double u), .second, .val (.ref t), .val (.int (2 : Int32)), .val (.int (1 : Int32)), .val (.ref r1), .val (.int (1 : Int32))] [(.double (z1 (1 : Int32))), (.int (1 : Int32)), (.ref r1)])
  refine Go.of (mkF m 43 #[.val (.ref a), .val (.double u), .second, .val (.ref t), .val (.int (2 : Int32)), .val (.int (1 : Int32)), .val (.ref r1), .val (.int (1 : Int32))] [(.double FP.dconst1), (.double (z1 (1 : Int32))), (.int (1 : Int32)), (.ref r1)]) (fun tt0 kk0 => XS.dconst1 X8.here hx rfl (hb hby d11_42) rfl kk0) ?_
  refine Go.of (mkF m 44 #[.val (.ref a), .val (.double u), .second, .val (.ref t), .val (.int (2 : Int32)), .val (.int (1 : Int32)), .val (.ref r1), .val (.int (1 : Int32))] [(.double u), (.double FP.dconst1), (.double (z1 (1 : Int32))), (.int (1 : Int32)), (.ref r1)]) (fun tt0 kk0 => XS.dloadN X8.here hx rfl (hb hby d11_43) rfl kk0) ?_
  refine Go.of (mkF m 45 #[.val (.ref a), .val (.double u), .second, .val (.ref t), .val (.int (2 : Int32)), .val (.int (1 : Int32)), .val (.ref r1), .val (.int (1 : Int32))] [(.double (FP.dsub FP.dconst1 u)), (.double (z1 (1 : Int32))), (.int (1 : Int32)), (.ref r1)]) (fun tt0 kk0 => XS.dsubS X8.here hx rfl (hb hby d11_44) rfl hF.noNaN rfl kk0) ?_
  refine Go.of (mkF m 46 #[.val (.ref a), .val (.double u), .second, .val (.ref t), .val (.int (2 : Int32)), .val (.int (1 : Int32)), .val (.ref r1), .val (.int (1 : Int32))] [(.double (FP.dmul (z1 (1 : Int32)) (FP.dsub FP.dconst1 u))), (.int (1 : Int32)), (.ref r1)]) (fun tt0 kk0 => XS.dmulS X8.here hx rfl (hb hby d11_45) rfl (own_mm hB1 hF _) rfl kk0) ?_
  refine Go.dastore X8 hx hZ e8 V1 (by decide) (by decide) (g := (mkF m 46 #[.val (.ref a), .val (.double u), .second, .val (.ref t), .val (.int (2 : Int32)), .val (.int (1 : Int32)), .val (.ref r1), .val (.int (1 : Int32))] [(.double (FP.dmul (z1 (1 : Int32)) (FP.dsub FP.dconst1 u))), (.int (1 : Int32)), (.ref r1)])) rfl rfl (hb hby d11_46) ?_
  rintro T9 h9 X9 e9 W9 V9
  replace Ft := Ft.other W9 (Or.inl na1)
  replace Fq := Fq.other W9 (Or.inl na1)
  replace E := E.wr W9
  replace VT := VT.other W9 nt1
  replace V0 := V0.other W9 n01
  replace hz := Nat.le_trans hz (Nat.le_of_eq W9.size.symm)
  replace K0 := K0.wr W9 (Or.inl (by simp))
  replace V1 := V9
  have N9 := Fr.snoc X9 N8 gr1
  show Go pr ev below _ T9 (mkF m 47 #[.val (.ref a), .val (.double u), .second, .val (.ref t), .val (.int (2 : Int32)), .val (.int (1 : Int32)), .val (.ref r1), .val (.int (1 : Int32))] [])
  refine Go.of (mkF m 50 #[.val (.ref a), .val (.double u), .second, .val (.ref t), .val (.int (2 : Int32)), .val (.int (1 : Int32)), .val (.ref r1), .val (.int ((1 : Int32) + (1 : Int32)))] []) (fun tt0 kk0 => XS.iinc X9.here hx rfl (hb hby d11_47) rfl (l' := #[.val (.ref a), .val (.double u), .second, .val (.ref t), .val (.int (2 : Int32)), .val (.int (1 : Int32)), .val (.ref r1), .val (.int ((1 : Int32) + (1 : Int32)))]) rfl kk0) ?_
  rw [show ((1 : Int32) + (1 : Int32)) = (2 : Int32) from by decide]
  refine Go.of (mkF m 28 #[.val (.ref a), .val (.double u), .second, .val (.ref t), .val (.int (2 : Int32)), .val (.int (1 : Int32)), .val (.ref r1), .val (.int (2 : Int32))] []) (fun tt0 kk0 => XS.goto X9.here hx rfl (pc0 := 50) (pc' := 28) rfl (hb hby d11_50) (by decide) (by decide) kk0) ?_
  refine Go.of (mkF m 30 #[.val (.ref a), .val (.double u), .second, .val (.ref t), .val (.int (2 : Int32)), .val (.int (1 : Int32)), .val (.ref r1), .val (.int (2 : Int32))] [(.int (2 : Int32))]) (fun tt0 kk0 => XS.iload X9.here hx rfl (hb hby d11_28) rfl kk0) ?_
  refine Go.of (mkF m 32 #[.val (.ref a), .val (.double u), .second, .val (.ref t), .val (.int (2 : Int32)), .val (.int (1 : Int32)), .val (.ref r1), .val (.int (2 : Int32))] [(.ref r1), (.int (2 : Int32))]) (fun tt0 kk0 => XS.aload X9.here hx rfl (hb hby d11_30) rfl rfl kk0) ?_
  refine Go.arraylength X9 hx hZ e9 V1 (g := (mkF m 32 #[.val (.ref a), .val (.double u), .second, .val (.ref t), .val (.int (2 : Int32)), .val (.int (1 : Int32)), .val (.ref r1), .val (.int (2 : Int32))] [(.ref r1), (.int (2 : Int32))])) rfl rfl (hb hby d11_32) ?_
  show Go pr ev below _ T9 (mkF m 33 #[.val (.ref a), .val (.double u), .second, .val (.ref t), .val (.int (2 : Int32)), .val (.int (1 : Int32)), .val (.ref r1), .val (.int (2 : Int32))] [(.int (6 : Int32)), (.int (2 : Int32))])
  refine Go.of (mkF m 36 #[.val (.ref a), .val (.double u), .second, .val (.ref t), .val (.int (2 : Int32)), .val (.int (1 : Int32)), .val (.ref r1), .val (.int (2 : Int32))] []) (fun tt0 kk0 => XS.icmpNo X9.here hx rfl (hb hby d11_33) rfl (tlt (by decide)).2.1 kk0) ?_
  refine Go.of (mkF m 38 #[.val (.ref a), .val (.double u), .second, .val (.ref t), .val (.int (2 : Int32)), .val (.int (1 : Int32)), .val (.ref r1), .val (.int (2 : Int32))] [(.ref r1)]) (fun tt0 kk0 => XS.aload X9.here hx rfl (hb hby d11_36) rfl rfl kk0) ?_
  refine Go.of (mkF m 40 #[.val (.ref a), .val (.double u), .second, .val (.ref t), .val (.int (2 : Int32)), .val (.int (1 : Int32)), .val (.ref r1), .val (.int (2 : Int32))] [(.int (2 : Int32)), (.ref r1)]) (fun tt0 kk0 => XS.iload X9.here hx rfl (hb hby d11_38) rfl kk0) ?_
  refine Go.of (mkF m 41 #[.val (.ref a), .val (.double u), .second, .val (.ref t), .val (.int (2 : Int32)), .val (.int (1 : Int32)), .val (.ref r1), .val (.int (2 : Int32))] [(.int (2 : Int32)), (.ref r1), (.int (2 : Int32)), (.ref r1)]) (fun tt0 kk0 => by jvm_step X9.here [X9.here.top, hx, (hb hby d11_40), Value.category]; exact kk0) ?_
  refine Go.daload X9 hx hZ e9 V1 (by decide) (by decide) (g := (mkF m 41 #[.val (.ref a), .val (.double u), .second, .val (.ref t), .val (.int (2 : Int32)), .val (.int (1 : Int32)), .val (.ref r1), .val (.int (2 : Int32))] [(.int (2 : Int32)), (.ref r1), (.int (2 : Int32)), (.ref r1)])) rfl rfl (hb hby d11_41) ?_
  show Go pr ev below _ T9 (mkF m 42 #[.val (.ref a), .val (.double u), .second, .val (.ref t), .val (.int (2 : Int32)), .val (.int (1 : Int32)), .val (.ref r1), .val (.int (2 : Int32))] [(.double ((fnup (fnup z1 (0 : Int32) (FP.dmul (z1 (0 : Int32)) (FP.dsub FP.dconst1 u))) (1 : Int32) (FP.dmul (z1 (1 : Int32)) (FP.dsub FP.dconst1 u))) (2 : Int32))), (.int (2 : Int32)), (.ref r1)])
  rw [show ((fnup (fnup z1 (0 : Int32) (FP.dmul (z1 (0 : Int32)) (FP.dsub FP.dconst1 u))) (1 : Int32) (FP.dmul (z1 (1 : Int32)) (FP.dsub FP.dconst1 u))) (2 : Int32)) = (z1 (2 : Int32)) from by simp [fnup]]
  show Go pr ev below _ T9 (mkF m 42 #[.val (.ref a), .val (.double u), .second, .val (.ref t), .val (.int (2 : Int32)), .val (.int (1 : Int32)), .val (.ref r1), .val (.int (2 : Int32))] [(.double (z1 (2 : Int32))), (.int (2 : Int32)), (.ref r1)])
  refine Go.of (mkF m 43 #[.val (.ref a), .val (.double u), .second, .val (.ref t), .val (.int (2 : Int32)), .val (.int (1 : Int32)), .val (.ref r1), .val (.int (2 : Int32))] [(.double FP.dconst1), (.double (z1 (2 : Int32))), (.int (2 : Int32)), (.ref r1)]) (fun tt0 kk0 => XS.dconst1 X9.here hx rfl (hb hby d11_42) rfl kk0) ?_
  refine Go.of (mkF m 44 #[.val (.ref a), .val (.double u), .second, .val (.ref t), .val (.int (2 : Int32)), .val (.int (1 : Int32)), .val (.ref r1), .val (.int (2 : Int32))] [(.double u), (.double FP.dconst1), (.double (z1 (2 : Int32))), (.int (2 : Int32)), (.ref r1)]) (fun tt0 kk0 => XS.dloadN X9.here hx rfl (hb hby d11_43) rfl kk0) ?_
  refine Go.of (mkF m 45 #[.val (.ref a), .val (.double u), .second, .val (.ref t), .val (.int (2 : Int32)), .val (.int (1 : Int32)), .val (.ref r1), .val (.int (2 : Int32))] [(.double (FP.dsub FP.dconst1 u)), (.double (z1 (2 : Int32))), (.int (2 : Int32)), (.ref r1)]) (fun tt0 kk0 => XS.dsubS X9.here hx rfl (hb hby d11_44) rfl hF.noNaN rfl kk0) ?_
  refine Go.of (mkF m 46 #[.val (.ref a), .val (.double u), .second, .val (.ref t), .val (.int (2 : Int32)), .val (.int (1 : Int32)), .val (.ref r1), .val (.int (2 : Int32))] [(.double (FP.dmul (z1 (2 : Int32)) (FP.dsub FP.dconst1 u))), (.int (2 : Int32)), (.ref r1)]) (fun tt0 kk0 => XS.dmulS X9.here hx rfl (hb hby d11_45) rfl (own_mm hB1 hF _) rfl kk0) ?_
  refine Go.dastore X9 hx hZ e9 V1 (by decide) (by decide) (g := (mkF m 46 #[.val (.ref a), .val (.double u), .second, .val (.ref t), .val (.int (2 : Int32)), .val (.int (1 : Int32)), .val (.ref r1), .val (.int (2 : Int32))] [(.double (FP.dmul (z1 (2 : Int32)) (FP.dsub FP.dconst1 u))), (.int (2 : Int32)), (.ref r1)])) rfl rfl (hb hby d11_46) ?_
  rintro T10 h10 X10 e10 W10 V10
  replace Ft := Ft.other W10 (Or.inl na1)
  replace Fq := Fq.other W10 (Or.inl na1)
  replace E := E.wr W10
  replace VT := VT.other W10 nt1
  replace V0 := V0.other W10 n01
  replace hz := Nat.le_trans hz (Nat.le_of_eq W10.size.symm)
  replace K0 := K0.wr W10 (Or.inl (by simp))
  replace V1 := V10
  have N10 := Fr.snoc X10 N9 gr1
  show Go pr ev below _ T10 (mkF m 47 #[.val (.ref a), .val (.double u), .second, .val (.ref t), .val (.int (2 : Int32)), .val (.int (1 : Int32)), .val (.ref r1), .val (.int (2 : Int32))] [])
  refine Go.of (mkF m 50 #[.val (.ref a), .val (.double u), .second, .val (.ref t), .val (.int (2 : Int32)), .val (.int (1 : Int32)), .val (.ref r1), .val (.int ((2 : Int32) + (1 : Int32)))] []) (fun tt0 kk0 => XS.iinc X10.here hx rfl (hb hby d11_47) rfl (l' := #[.val (.ref a), .val (.double u), .second, .val (.ref t), .val (.int (2 : Int32)), .val (.int (1 : Int32)), .val (.ref r1), .val (.int ((2 : Int32) + (1 : Int32)))]) rfl kk0) ?_
  rw [show ((2 : Int32) + (1 : Int32)) = (3 : Int32) from by decide]
  refine Go.of (mkF m 28 #[.val (.ref a), .val (.double u), .second, .val (.ref t), .val (.int (2 : Int32)), .val (.int (1 : Int32)), .val (.ref r1), .val (.int (3 : Int32))] []) (fun tt0 kk0 => XS.goto X10.here hx rfl (pc0 := 50) (pc' := 28) rfl (hb hby d11_50) (by decide) (by decide) kk0) ?_
  refine Go.of (mkF m 30 #[.val (.ref a), .val (.double u), .second, .val (.ref t), .val (.int (2 : Int32)), .val (.int (1 : Int32)), .val (.ref r1), .val (.int (3 : Int32))] [(.int (3 : Int32))]) (fun tt0 kk0 => XS.iload X10.here hx rfl (hb hby d11_28) rfl kk0) ?_
  refine Go.of (mkF m 32 #[.val (.ref a), .val (.double u), .second, .val (.ref t), .val (.int (2 : Int32)), .val (.int (1 : Int32)), .val (.ref r1), .val (.int (3 : Int32))] [(.ref r1), (.int (3 : Int32))]) (fun tt0 kk0 => XS.aload X10.here hx rfl (hb hby d11_30) rfl rfl kk0) ?_
  refine Go.arraylength X10 hx hZ e10 V1 (g := (mkF m 32 #[.val (.ref a), .val (.double u), .second, .val (.ref t), .val (.int (2 : Int32)), .val (.int (1 : Int32)), .val (.ref r1), .val (.int (3 : Int32))] [(.ref r1), (.int (3 : Int32))])) rfl rfl (hb hby d11_32) ?_
  show Go pr ev below _ T10 (mkF m 33 #[.val (.ref a), .val (.double u), .second, .val (.ref t), .val (.int (2 : Int32)), .val (.int (1 : Int32)), .val (.ref r1), .val (.int (3 : Int32))] [(.int (6 : Int32)), (.int (3 : Int32))])
  refine Go.of (mkF m 36 #[.val (.ref a), .val (.double u), .second, .val (.ref t), .val (.int (2 : Int32)), .val (.int (1 : Int32)), .val (.ref r1), .val (.int (3 : Int32))] []) (fun tt0 kk0 => XS.icmpNo X10.here hx rfl (hb hby d11_33) rfl (tlt (by decide)).2.1 kk0) ?_
  refine Go.of (mkF m 38 #[.val (.ref a), .val (.double u), .second, .val (.ref t), .val (.int (2 : Int32)), .val (.int (1 : Int32)), .val (.ref r1), .val (.int (3 : Int32))] [(.ref r1)]) (fun tt0 kk0 => XS.aload X10.here hx rfl (hb hby d11_36) rfl rfl kk0) ?_
  refine Go.of (mkF m 40 #[.val (.ref a), .val (.double u), .second, .val (.ref t), .val (.int (2 : Int32)), .val (.int (1 : Int32)), .val (.ref r1), .val (.int (3 : Int32))] [(.int (3 : Int32)), (.ref r1)]) (fun tt0 kk0 => XS.iload X10.here hx rfl (hb hby d11_38) rfl kk0) ?_
  refine Go.of (mkF m 41 #[.val (.ref a), .val (.double u), .second, .val (.ref t), .val (.int (2 : Int32)), .val (.int (1 : Int32)), .val (.ref r1), .val (.int (3 : Int32))] [(.int (3 : Int32)), (.ref r1), (.int (3 : Int32)), (.ref r1)]) (fun tt0 kk0 => by jvm_step X10.here [X10.here.top, hx, (hb hby d11_40), Value.category]; exact kk0) ?_
  refine Go.daload X10 hx hZ e10 V1 (by decide) (by decide) (g := (mkF m 41 #[.val (.ref a), .val (.double u), .second, .val (.ref t), .val (.int (2 : Int32)), .val (.int (1 : Int32)), .val (.ref r1), .val (.int (3 : Int32))] [(.int (3 : Int32)), (.ref r1), (.int (3 : Int32)), (.ref r1)])) rfl rfl (hb hby d11_41) ?_
  show Go pr ev below _ T10 (mkF m 42 #[.val (.ref a), .val (.double u), .second, .val (.ref t), .val (.int (2 : Int32)), .val (.int (1 : Int32)), .val (.ref r1), .val (.int (3 : Int32))] [(.double ((fnup (fnup (fnup z1 (0 : Int32) (FP.dmul (z1 (0 : Int32)) (FP.dsub FP.dconst1 u))) (1 : Int32) (FP.dmul (z1 (1 : Int32)) (FP.dsub FP.dconst1 u))) (2 : Int32) (FP.dmul (z1 (2 : Int32)) (FP.dsub FP.dconst1 u))) (3 : Int32))), (.int (3 : Int32)), (.ref r1)])
  rw [show ((fnup (fnup (fnup z1 (0 : Int32) (FP.dmul (z1 (0 : Int32)) (FP.dsub FP.dconst1 u))) (1 : Int32) (FP.dmul (z1 (1 : Int32)) (FP.dsub FP.dconst1 u))) (2 : Int32) (FP.dmul (z1 (2 : Int32)) (FP.dsub FP.dconst1 u))) (3 : Int32)) = (z1 (3 : Int32)) from by simp [fnup]]
  show Go pr ev below _ T10 (mkF m 42 #[.val (.ref a), .val (.double u), .second, .val (.ref t), .val (.int (2 : Int32)), .val (.int (1 : Int32)), .val (.ref r1), .val (.int (3 : Int32))] [(.double (z1 (3 : Int32))), (.int (3 : Int32)), (.ref r1)])
  refine Go.of (mkF m 43 #[.val (.ref a), .val (.double u), .second, .val (.ref t), .val (.int (2 : Int32)), .val (.int (1 : Int32)), .val (.ref r1), .val (.int (3 : Int32))] [(.double FP.dconst1), (.double (z1 (3 : Int32))), (.int (3 : Int32)), (.ref r1)]) (fun tt0 kk0 => XS.dconst1 X10.here hx rfl (hb hby d11_42) rfl kk0) ?_
  refine Go.of (mkF m 44 #[.val (.ref a), .val (.double u), .second, .val (.ref t), .val (.int (2 : Int32)), .val (.int (1 : Int32)), .val (.ref r1), .val (.int (3 : Int32))] [(.double u), (.double FP.dconst1), (.double (z1 (3 : Int32))), (.int (3 : Int32)), (.ref r1)]) (fun tt0 kk0 => XS.dloadN X10.here hx rfl (hb hby d11_43) rfl kk0) ?_
  refine Go.of (mkF m 45 #[.val (.ref a), .val (.double u), .second, .val (.ref t), .val (.int (2 : Int32)), .val (.int (1 : Int32)), .val (.ref r1), .val (.int (3 : Int32))] [(.double (FP.dsub FP.dconst1 u)), (.double (z1 (3 : Int32))), (.int (3 : Int32)), (.ref r1)]) (fun tt0 kk0 => XS.dsubS X10.here hx rfl (hb hby d11_44) rfl hF.noNaN rfl kk0) ?_
  refine Go.of (mkF m 46 #[.val (.ref a), .val (.double u), .second, .val (.ref t), .val (.int (2 : Int32)), .val (.int (1 : Int32)), .val (.ref r1), .val (.int (3 : Int32))] [(.double (FP.dmul (z1 (3 : Int32)) (FP.dsub FP.dconst1 u))), (.int (3 : Int32)), (.ref r1)]) (fun tt0 kk0 => XS.dmulS X10.here hx rfl (hb hby d11_45) rfl (own_mm hB1 hF _) rfl kk0) ?_
  refine Go.dastore X10 hx hZ e10 V1 (by decide) (by decide) (g := (mkF m 46 #[.val (.ref a), .val (.double u), .second, .val (.ref t), .val (.int (2 : Int32)), .val (.int (1 : Int32)), .val (.ref r1), .val (.int (3 : Int32))] [(.double (FP.dmul (z1 (3 : Int32)) (FP.dsub FP.dconst1 u))), (.int (3 : Int32)), (.ref r1)])) rfl rfl (hb hby d11_46) ?_
  rintro T11 h11 X11 e11 W11 V11
  replace Ft := Ft.other W11 (Or.inl na1)
  replace Fq := Fq.other W11 (Or.inl na1)
  replace E := E.wr W11
  replace VT := VT.other W11 nt1
  replace V0 := V0.other W11 n01
  replace hz := Nat.le_trans hz (Nat.le_of_eq W11.size.symm)
  replace K0 := K0.wr W11 (Or.inl (by simp))
  replace V1 := V11
  have N11 := Fr.snoc X11 N10 gr1
  show Go pr ev below _ T11 (mkF m 47 #[.val (.ref a), .val (.double u), .second, .val (.ref t), .val (.int (2 : Int32)), .val (.int (1 : Int32)), .val (.ref r1), .val (.int (3 : Int32))] [])
  refine Go.of (mkF m 50 #[.val (.ref a), .val (.double u), .second, .val (.ref t), .val (.int (2 : Int32)), .val (.int (1 : Int32)), .val (.ref r1), .val (.int ((3 : Int32) + (1 : Int32)))] []) (fun tt0 kk0 => XS.iinc X11.here hx rfl (hb hby d11_47) rfl (l' := #[.val (.ref a), .val (.double u), .second, .val (.ref t), .val (.int (2 : Int32)), .val (.int (1 : Int32)), .val (.ref r1), .val (.int ((3 : Int32) + (1 : Int32)))]) rfl kk0) ?_
  rw [show ((3 : Int32) + (1 : Int32)) = (4 : Int32) from by decide]
  refine Go.of (mkF m 28 #[.val (.ref a), .val (.double u), .second, .val (.ref t), .val (.int (2 : Int32)), .val (.int (1 : Int32)), .val (.ref r1), .val (.int (4 : Int32))] []) (fun tt0 kk0 => XS.goto X11.here hx rfl (pc0 := 50) (pc' := 28) rfl (hb hby d11_50) (by decide) (by decide) kk0) ?_
  refine Go.of (mkF m 30 #[.val (.ref a), .val (.double u), .second, .val (.ref t), .val (.int (2 : Int32)), .val (.int (1 : Int32)), .val (.ref r1), .val (.int (4 : Int32))] [(.int (4 : Int32))]) (fun tt0 kk0 => XS.iload X11.here hx rfl (hb hby d11_28) rfl kk0) ?_
  refine Go.of (mkF m 32 #[.val (.ref a), .val (.double u), .second, .val (.ref t), .val (.int (2 : Int32)), .val (.int (1 : Int32)), .val (.ref r1), .val (.int (4 : Int32))] [(.ref r1), (.int (4 : Int32))]) (fun tt0 kk0 => XS.aload X11.here hx rfl (hb hby d11_30) rfl rfl kk0) ?_
  refine Go.arraylength X11 hx hZ e11 V1 (g := (mkF m 32 #[.val (.ref a), .val (.double u), .second, .val (.ref t), .val (.int (2 : Int32)), .val (.int (1 : Int32)), .val (.ref r1), .val (.int (4 : Int32))] [(.ref r1), (.int (4 : Int32))])) rfl rfl (hb hby d11_32) ?_
  show Go pr ev below _ T11 (mkF m 33 #[.val (.ref a), .val (.double u), .second, .val (.ref t), .val (.int (2 : Int32)), .val (.int (1 : Int32)), .val (.ref r1), .val (.int (4 : Int32))] [(.int (6 : Int32)), (.int (4 : Int32))])
  refine Go.of (mkF m 36 #[.val (.ref a), .val (.double u), .second, .val (.ref t), .val (.int (2 : Int32)), .val (.int (1 : Int32)), .val (.ref r1), .val (.int (4 : Int32))] []) (fun tt0 kk0 => XS.icmpNo X11.here hx rfl (hb hby d11_33) rfl (tlt (by decide)).2.1 kk0) ?_
  refine Go.of (mkF m 38 #[.val (.ref a), .val (.double u), .second, .val (.ref t), .val (.int (2 : Int32)), .val (.int (1 : Int32)), .val (.ref r1), .val (.int (4 : Int32))] [(.ref r1)]) (fun tt0 kk0 => XS.aload X11.here hx rfl (hb hby d11_36) rfl rfl kk0) ?_
  refine Go.of (mkF m 40 #[.val (.ref a), .val (.double u), .second, .val (.ref t), .val (.int (2 : Int32)), .val (.int (1 : Int32)), .val (.ref r1), .val (.int (4 : Int32))] [(.int (4 : Int32)), (.ref r1)]) (fun tt0 kk0 => XS.iload X11.here hx rfl (hb hby d11_38) rfl kk0) ?_
  refine Go.of (mkF m 41 #[.val (.ref a), .val (.double u), .second, .val (.ref t), .val (.int (2 : Int32)), .val (.int (1 : Int32)), .val (.ref r1), .val (.int (4 : Int32))] [(.int (4 : Int32)), (.ref r1), (.int (4 : Int32)), (.ref r1)]) (fun tt0 kk0 => by jvm_step X11.here [X11.here.top, hx, (hb hby d11_40), Value.category]; exact kk0) ?_
  refine Go.daload X11 hx hZ e11 V1 (by decide) (by decide) (g := (mkF m 41 #[.val (.ref a), .val (.double u), .second, .val (.ref t), .val (.int (2 : Int32)), .val (.int (1 : Int32)), .val (.ref r1), .val (.int (4 : Int32))] [(.int (4 : Int32)), (.ref r1), (.int (4 : Int32)), (.ref r1)])) rfl rfl (hb hby d11_41) ?_
  show Go pr ev below _ T11 (mkF m 42 #[.val (.ref a), .val (.double u), .second, .val (.ref t), .val (.int (2 : Int32)), .val (.int (1 : Int32)), .val (.ref r1), .val (.int (4 : Int32))] [(.double ((fnup (fnup (fnup (fnup z1 (0 : Int32) (FP.dmul (z1 (0 : Int32)) (FP.dsub FP.dconst1 u))) (1 : Int32) (FP.dmul (z1 (1 : Int32)) (FP.dsub FP.dconst1 u))) (2 : Int32) (FP.dmul (z1 (2 : Int32)) (FP.dsub FP.dconst1 u))) (3 : Int32) (FP.dmul (z1 (3 : Int32)) (FP.dsub FP.dconst1 u))) (4 : Int32))), (.int (4 : Int32)), (.ref r1)])
  rw [show ((fnup (fnup (fnup (fnup z1 (0 : Int32) (FP.dmul (z1 (0 : Int32)) (FP.dsub FP.dconst1 u))) (1 : Int32) (FP.dmul (z1 (1 : Int32)) (FP.dsub FP.dconst1 u))) (2 : Int32) (FP.dmul (z1 (2 : Int32)) (FP.dsub FP.dconst1 u))) (3 : Int32) (FP.dmul (z1 (3 : Int32)) (FP.dsub FP.dconst1 u))) (4 : Int32)) = (z1 (4 : Int32)) from by simp [fnup]]
  show Go pr ev below _ T11 (mkF m 42 #[.val (.ref a), .val (.double u), .second, .val (.ref t), .val (.int (2 : Int32)), .val (.int (1 : Int32)), .val (.ref r1), .val (.int (4 : Int32))] [(.double (z1 (4 : Int32))), (.int (4 : Int32)), (.ref r1)])
  refine Go.of (mkF m 43 #[.val (.ref a), .val (.double u), .second, .val (.ref t), .val (.int (2 : Int32)), .val (.int (1 : Int32)), .val (.ref r1), .val (.int (4 : Int32))] [(.double FP.dconst1), (.double (z1 (4 : Int32))), (.int (4 : Int32)), (.ref r1)]) (fun tt0 kk0 => XS.dconst1 X11.here hx rfl (hb hby d11_42) rfl kk0) ?_
  refine Go.of (mkF m 44 #[.val (.ref a), .val (.double u), .second, .val (.ref t), .val (.int (2 : Int32)), .val (.int (1 : Int32)), .val (.ref r1), .val (.int (4 : Int32))] [(.double u), (.double FP.dconst1), (.double (z1 (4 : Int32))), (.int (4 : Int32)), (.ref r1)]) (fun tt0 kk0 => XS.dloadN X11.here hx rfl (hb hby d11_43) rfl kk0) ?_
  refine Go.of (mkF m 45 #[.val (.ref a), .val (.double u), .second, .val (.ref t), .val (.int (2 : Int32)), .val (.int (1 : Int32)), .val (.ref r1), .val (.int (4 : Int32))] [(.double (FP.dsub FP.dconst1 u)), (.double (z1 (4 : Int32))), (.int (4 : Int32)), (.ref r1)]) (fun tt0 kk0 => XS.dsubS X11.here hx rfl (hb hby d11_44) rfl hF.noNaN rfl kk0) ?_
  refine Go.of (mkF m 46 #[.val (.ref a), .val (.double u), .second, .val (.ref t), .val (.int (2 : Int32)), .val (.int (1 : Int32)), .val (.ref r1), .val (.int (4 : Int32))] [(.double (FP.dmul (z1 (4 : Int32)) (FP.dsub FP.dconst1 u))), (.int (4 : Int32)), (.ref r1)]) (fun tt0 kk0 => XS.dmulS X11.here hx rfl (hb hby d11_45) rfl (own_mm hB1 hF _) rfl kk0) ?_
  refine Go.dastore X11 hx hZ e11 V1 (by decide) (by decide) (g := (mkF m 46 #[.val (.ref a), .val (.double u), .second, .val (.ref t), .val (.int (2 : Int32)), .val (.int (1 : Int32)), .val (.ref r1), .val (.int (4 : Int32))] [(.double (FP.dmul (z1 (4 : Int32)) (FP.dsub FP.dconst1 u))), (.int (4 : Int32)), (.ref r1)])) rfl rfl (hb hby d11_46) ?_
  rintro T12 h12 X12 e12 W12 V12
  replace Ft := Ft.other W12 (Or.inl na1)
  replace Fq := Fq.other W12 (Or.inl na1)
  replace E := E.wr W12
  replace VT := VT.other W12 nt1
  replace V0 := V0.other W12 n01
  replace hz := Nat.le_trans hz (Nat.le_of_eq W12.size.symm)
  replace K0 := K0.wr W12 (Or.inl (by simp))
  replace V1 := V12
  have N12 := Fr.snoc X12 N11 gr1
  show Go pr ev below _ T12 (mkF m 47 #[.val (.ref a), .val (.double u), .second, .val (.ref t), .val (.int (2 : Int32)), .val (.int (1 : Int32)), .val (.ref r1), .val (.int (4 : Int32))] [])
  refine Go.of (mkF m 50 #[.val (.ref a), .val (.double u), .second, .val (.ref t), .val (.int (2 : Int32)), .val (.int (1 : Int32)), .val (.ref r1), .val (.int ((4 : Int32) + (1 : Int32)))] []) (fun tt0 kk0 => XS.iinc X12.here hx rfl (hb hby d11_47) rfl (l' := #[.val (.ref a), .val (.double u), .second, .val (.ref t), .val (.int (2 : Int32)), .val (.int (1 : Int32)), .val (.ref r1), .val (.int ((4 : Int32) + (1 : Int32)))]) rfl kk0) ?_
  rw [show ((4 : Int32) + (1 : Int32)) = (5 : Int32) from by decide]
  refine Go.of (mkF m 28 #[.val (.ref a), .val (.double u), .second, .val (.ref t), .val (.int (2 : Int32)), .val (.int (1 : Int32)), .val (.ref r1), .val (.int (5 : Int32))] []) (fun tt0 kk0 => XS.goto X12.here hx rfl (pc0 := 50) (pc' := 28) rfl (hb hby d11_50) (by decide) (by decide) kk0) ?_
  refine Go.of (mkF m 30 #[.val (.ref a), .val (.double u), .second, .val (.ref t), .val (.int (2 : Int32)), .val (.int (1 : Int32)), .val (.ref r1), .val (.int (5 : Int32))] [(.int (5 : Int32))]) (fun tt0 kk0 => XS.iload X12.here hx rfl (hb hby d11_28) rfl kk0) ?_
  refine Go.of (mkF m 32 #[.val (.ref a), .val (.double u), .second, .val (.ref t), .val (.int (2 : Int32)), .val (.int (1 : Int32)), .val (.ref r1), .val (.int (5 : Int32))] [(.ref r1), (.int (5 : Int32))]) (fun tt0 kk0 => XS.aload X12.here hx rfl (hb hby d11_30) rfl rfl kk0) ?_
  refine Go.arraylength X12 hx hZ e12 V1 (g := (mkF m 32 #[.val (.ref a), .val (.double u), .second, .val (.ref t), .val (.int (2 : Int32)), .val (.int (1 : Int32)), .val (.ref r1), .val (.int (5 : Int32))] [(.ref r1), (.int (5 : Int32))])) rfl rfl (hb hby d11_32) ?_
  show Go pr ev below _ T12 (mkF m 33 #[.val (.ref a), .val (.double u), .second, .val (.ref t), .val (.int (2 : Int32)), .val (.int (1 : Int32)), .val (.ref r1), .val (.int (5 : Int32))] [(.int (6 : Int32)), (.int (5 : Int32))])
  refine Go.of (mkF m 36 #[.val (.ref a), .val (.double u), .second, .val (.ref t), .val (.int (2 : Int32)), .val (.int (1 : Int32)), .val (.ref r1), .val (.int (5 : Int32))] []) (fun tt0 kk0 => XS.icmpNo X12.here hx rfl (hb hby d11_33) rfl (tlt (by decide)).2.1 kk0) ?_
  refine Go.of (mkF m 38 #[.val (.ref a), .val (.double u), .second, .val (.ref t), .val (.int (2 : Int32)), .val (.int (1 : Int32)), .val (.ref r1), .val (.int (5 : Int32))] [(.ref r1)]) (fun tt0 kk0 => XS.aload X12.here hx rfl (hb hby d11_36) rfl rfl kk0) ?_
  refine Go.of (mkF m 40 #[.val (.ref a), .val (.double u), .second, .val (.ref t), .val (.int (2 : Int32)), .val (.int (1 : Int32)), .val (.ref r1), .val (.int (5 : Int32))] [(.int (5 : Int32)), (.ref r1)]) (fun tt0 kk0 => XS.iload X12.here hx rfl (hb hby d11_38) rfl kk0) ?_
  refine Go.of (mkF m 41 #[.val (.ref a), .val (.double u), .second, .val (.ref t), .val (.int (2 : Int32)), .val (.int (1 : Int32)), .val (.ref r1), .val (.int (5 : Int32))] [(.int (5 : Int32)), (.ref r1), (.int (5 : Int32)), (.ref r1)]) (fun tt0 kk0 => by jvm_step X12.here [X12.here.top, hx, (hb hby d11_40), Value.category]; exact kk0) ?_
  refine Go.daload X12 hx hZ e12 V1 (by decide) (by decide) (g := (mkF m 41 #[.val (.ref a), .val (.double u), .second, .val (.ref t), .val (.int (2 : Int32)), .val (.int (1 : Int32)), .val (.ref r1), .val (.int (5 : Int32))] [(.int (5 : Int32)), (.ref r1), (.int (5 : Int32)), (.ref r1)])) rfl rfl (hb hby d11_41) ?_
  show Go pr ev below _ T12 (mkF m 42 #[.val (.ref a), .val (.double u), .second, .val (.ref t), .val (.int (2 : Int32)), .val (.int (1 : Int32)), .val (.ref r1), .val (.int (5 : Int32))] [(.double ((fnup (fnup (fnup (fnup (fnup z1 (0 : Int32) (FP.dmul (z1 (0 : Int32)) (FP.dsub FP.dconst1 u))) (1 : Int32) (FP.dmul (z1 (1 : Int32)) (FP.dsub FP.dconst1 u))) (2 : Int32) (FP.dmul (z1 (2 : Int32)) (FP.dsub FP.dconst1 u))) (3 : Int32) (FP.dmul (z1 (3 : Int32)) (FP.dsub FP.dconst1 u))) (4 : Int32) (FP.dmul (z1 (4 : Int32)) (FP.dsub FP.dconst1 u))) (5 : Int32))), (.int (5 : Int32)), (.ref r1)])
  rw [show ((fnup (fnup (fnup (fnup (fnup z1 (0 : Int32) (FP.dmul (z1 (0 : Int32)) (FP.dsub FP.dconst1 u))) (1 : Int32) (FP.dmul (z1 (1 : Int32)) (FP.dsub FP.dconst1 u))) (2 : Int32) (FP.dmul (z1 (2 : Int32)) (FP.dsub FP.dconst1 u))) (3 : Int32) (FP.dmul (z1 (3 : Int32)) (FP.dsub FP.dconst1 u))) (4 : Int32) (FP.dmul (z1 (4 : Int32)) (FP.dsub FP.dconst1 u))) (5 : Int32)) = (z1 (5 : Int32)) from by simp [fnup]]
  show Go pr ev below _ T12 (mkF m 42 #[.val (.ref a), .val (.double u), .second, .val (.ref t), .val (.int (2 : Int32)), .val (.int (1 : Int32)), .val (.ref r1), .val (.int (5 : Int32))] [(.double (z1 (5 : Int32))), (.int (5 : Int32)), (.ref r1)])
  refine Go.of (mkF m 43 #[.val (.ref a), .val (.double u), .second, .val (.ref t), .val (.int (2 : Int32)), .val (.int (1 : Int32)), .val (.ref r1), .val (.int (5 : Int32))] [(.double FP.dconst1), (.double (z1 (5 : Int32))), (.int (5 : Int32)), (.ref r1)]) (fun tt0 kk0 => XS.dconst1 X12.here hx rfl (hb hby d11_42) rfl kk0) ?_
  refine Go.of (mkF m 44 #[.val (.ref a), .val (.double u), .second, .val (.ref t), .val (.int (2 : Int32)), .val (.int (1 : Int32)), .val (.ref r1), .val (.int (5 : Int32))] [(.double u), (.double FP.dconst1), (.double (z1 (5 : Int32))), (.int (5 : Int32)), (.ref r1)]) (fun tt0 kk0 => XS.dloadN X12.here hx rfl (hb hby d11_43) rfl kk0) ?_
  refine Go.of (mkF m 45 #[.val (.ref a), .val (.double u), .second, .val (.ref t), .val (.int (2 : Int32)), .val (.int (1 : Int32)), .val (.ref r1), .val (.int (5 : Int32))] [(.double (FP.dsub FP.dconst1 u)), (.double (z1 (5 : Int32))), (.int (5 : Int32)), (.ref r1)]) (fun tt0 kk0 => XS.dsubS X12.here hx rfl (hb hby d11_44) rfl hF.noNaN rfl kk0) ?_
  refine Go.of (mkF m 46 #[.val (.ref a), .val (.double u), .second, .val (.ref t), .val (.int (2 : Int32)), .val (.int (1 : Int32)), .val (.ref r1), .val (.int (5 : Int32))] [(.double (FP.dmul (z1 (5 : Int32)) (FP.dsub FP.dconst1 u))), (.int (5 : Int32)), (.ref r1)]) (fun tt0 kk0 => XS.dmulS X12.here hx rfl (hb hby d11_45) rfl (own_mm hB1 hF _) rfl kk0) ?_
  refine Go.dastore X12 hx hZ e12 V1 (by decide) (by decide) (g := (mkF m 46 #[.val (.ref a), .val (.double u), .second, .val (.ref t), .val (.int (2 : Int32)), .val (.int (1 : Int32)), .val (.ref r1), .val (.int (5 : Int32))] [(.double (FP.dmul (z1 (5 : Int32)) (FP.dsub FP.dconst1 u))), (.int (5 : Int32)), (.ref r1)])) rfl rfl (hb hby d11_46) ?_
  rintro T13 h13 X13 e13 W13 V13
  replace Ft := Ft.other W13 (Or.inl na1)
  replace Fq := Fq.other W13 (Or.inl na1)
  replace E := E.wr W13
  replace VT := VT.other W13 nt1
  replace V0 := V0.other W13 n01
  replace hz := Nat.le_trans hz (Nat.le_of_eq W13.size.symm)
  replace K0 := K0.wr W13 (Or.inl (by simp))
  replace V1 := V13
  have N13 := Fr.snoc X13 N12 gr1
  show Go pr ev below _ T13 (mkF m 47 #[.val (.ref a), .val (.double u), .second, .val (.ref t), .val (.int (2 : Int32)), .val (.int (1 : Int32)), .val (.ref r1), .val (.int (5 : Int32))] [])
  refine Go.of (mkF m 50 #[.val (.ref a), .val (.double u), .second, .val (.ref t), .val (.int (2 : Int32)), .val (.int (1 : Int32)), .val (.ref r1), .val (.int ((5 : Int32) + (1 : Int32)))] []) (fun tt0 kk0 => XS.iinc X13.here hx rfl (hb hby d11_47) rfl (l' := #[.val (.ref a), .val (.double u), .second, .val (.ref t), .val (.int (2 : Int32)), .val (.int (1 : Int32)), .val (.ref r1), .val (.int ((5 : Int32) + (1 : Int32)))]) rfl kk0) ?_
  rw [show ((5 : Int32) + (1 : Int32)) = (6 : Int32) from by decide]
  refine Go.of (mkF m 28 #[.val (.ref a), .val (.double u), .second, .val (.ref t), .val (.int (2 : Int32)), .val (.int (1 : Int32)), .val (.ref r1), .val (.int (6 : Int32))] []) (fun tt0 kk0 => XS.goto X13.here hx rfl (pc0 := 50) (pc' := 28) rfl (hb hby d11_50) (by decide) (by decide) kk0) ?_
  refine Go.of (mkF m 30 #[.val (.ref a), .val (.double u), .second, .val (.ref t), .val (.int (2 : Int32)), .val (.int (1 : Int32)), .val (.ref r1), .val (.int (6 : Int32))] [(.int (6 : Int32))]) (fun tt0 kk0 => XS.iload X13.here hx rfl (hb hby d11_28) rfl kk0) ?_
  refine Go.of (mkF m 32 #[.val (.ref a), .val (.double u), .second, .val (.ref t), .val (.int (2 : Int32)), .val (.int (1 : Int32)), .val (.ref r1), .val (.int (6 : Int32))] [(.ref r1), (.int (6 : Int32))]) (fun tt0 kk0 => XS.aload X13.here hx rfl (hb hby d11_30) rfl rfl kk0) ?_
  refine Go.arraylength X13 hx hZ e13 V1 (g := (mkF m 32 #[.val (.ref a), .val (.double u), .second, .val (.ref t), .val (.int (2 : Int32)), .val (.int (1 : Int32)), .val (.ref r1), .val (.int (6 : Int32))] [(.ref r1), (.int (6 : Int32))])) rfl rfl (hb hby d11_32) ?_
  show Go pr ev below _ T13 (mkF m 33 #[.val (.ref a), .val (.double u), .second, .val (.ref t), .val (.int (2 : Int32)), .val (.int (1 : Int32)), .val (.ref r1), .val (.int (6 : Int32))] [(.int (6 : Int32)), (.int (6 : Int32))])
  refine Go.of (mkF m 53 #[.val (.ref a), .val (.double u), .second, .val (.ref t), .val (.int (2 : Int32)), .val (.int (1 : Int32)), .val (.ref r1), .val (.int (6 : Int32))] []) (fun tt0 kk0 => XS.icmpYes X13.here hx rfl (pc0 := 33) (pc' := 53) rfl (hb hby d11_33) rfl (flt (by decide)).2.1 (by decide) (by decide) kk0) ?_
  refine Go.of (mkF m 56 #[.val (.ref a), .val (.double u), .second, .val (.ref t), .val (.int (2 : Int32)), .val (.int ((1 : Int32) + (1 : Int32))), .val (.ref r1), .val (.int (6 : Int32))] []) (fun tt0 kk0 => XS.iinc X13.here hx rfl (hb hby d11_53) rfl (l' := #[.val (.ref a), .val (.double u), .second, .val (.ref t), .val (.int (2 : Int32)), .val (.int ((1 : Int32) + (1 : Int32))), .val (.ref r1), .val (.int (6 : Int32))]) rfl kk0) ?_
  rw [show ((1 : Int32) + (1 : Int32)) = (2 : Int32) from by decide]
  refine Go.of (mkF m 12 #[.val (.ref a), .val (.double u), .second, .val (.ref t), .val (.int (2 : Int32)), .val (.int (2 : Int32)), .val (.ref r1), .val (.int (6 : Int32))] []) (fun tt0 kk0 => XS.goto X13.here hx rfl (pc0 := 56) (pc' := 12) rfl (hb hby d11_56) (by decide) (by decide) kk0) ?_
  refine Go.of (mkF m 14 #[.val (.ref a), .val (.double u), .second, .val (.ref t), .val (.int (2 : Int32)), .val (.int (2 : Int32)), .val (.ref r1), .val (.int (6 : Int32))] [(.int (2 : Int32))]) (fun tt0 kk0 => XS.iload X13.here hx rfl (hb hby d11_12) rfl kk0) ?_
  refine Go.of (mkF m 16 #[.val (.ref a), .val (.double u), .second, .val (.ref t), .val (.int (2 : Int32)), .val (.int (2 : Int32)), .val (.ref r1), .val (.int (6 : Int32))] [(.int (2 : Int32)), (.int (2 : Int32))]) (fun tt0 kk0 => XS.iload X13.here hx rfl (hb hby d11_14) rfl kk0) ?_
  refine Go.of (mkF m 59 #[.val (.ref a), .val (.double u), .second, .val (.ref t), .val (.int (2 : Int32)), .val (.int (2 : Int32)), .val (.ref r1), .val (.int (6 : Int32))] []) (fun tt0 kk0 => XS.icmpYes X13.here hx rfl (pc0 := 16) (pc' := 59) rfl (hb hby d11_16) rfl (flt (by decide)).2.1 (by decide) (by decide) kk0) ?_
  exact Go.retV X13 hx hret hlk (hb hby d11_59) (by decide) (by decide) (by rw [e13]; exact ⟨rfl, N13, K0, V0.congr fun j q0 q1 => by rcases own_cases6 q0 q1 with rfl | rfl | rfl | rfl | rfl | rfl <;> simp [fnup], V1.congr fun j q0 q1 => by rcases own_cases6 q0 q1 with rfl | rfl | rfl | rfl | rfl | rfl <;> simp [fnup]⟩)
theorem ef_rmDep (m : MethodId) (x0 : Addr) (x1 : Addr) (x2 : UInt64) : entryFrame m #[(.ref x0), (.ref x1), (.double x2)] 8 = mkF m 0 #[.val (.ref x0), .val (.ref x1), .val (.double x2), .second, .unset, .unset, .unset, .unset] [] := by first | (simp [entryFrame, mkF, argsToLocals, Value.category]; done) | rfl
set_option maxRecDepth 65536 in
set_option maxHeartbeats 40000000 in
theorem rmDep (l : Launch) (Z : State) (a0 : Array Value) (hw : ∀ d ∈ tables_1, d.before a0 Z = true) (ws : List Jvm.Cond) (a p : Addr) (t r0 r1 : Addr) (yt : Int32 → Value) (z0 z1 : Int32 → UInt64) (pt c0 c1 : Addr) (yp : Int32 → Value) (y0 y1 : Int32 → Int32) (am : Int64) (B : Int) (h0 : Heap) (n0 : Nat) (hz0 : n0 ≤ h0.size) (E : Exa Z h0 a "com/example/quench/quench/Pheromones") (Ft : Fld Z h0 a "com/example/quench/quench/Pheromones" "tasks" "I" (.int (2 : Int32))) (Fq : Fld Z h0 a "com/example/quench/quench/Pheromones" "trails" "[[D" (.ref t)) (VT : Fa Z h0 t (.array .double) 2 yt) (hy0 : yt 0 = .ref r0) (hy1 : yt 1 = .ref r1) (V0 : Fa Z h0 r0 .double 6 (fun i => .double (z0 i))) (V1 : Fa Z h0 r1 .double 6 (fun i => .double (z1 i))) (nat : a ≠ t) (na0 : a ≠ r0) (na1 : a ≠ r1) (nt0 : t ≠ r0) (nt1 : t ≠ r1) (n01 : r0 ≠ r1) (gr0 : n0 ≤ r0) (gr1 : n0 ≤ r1) (Ep : Exa Z h0 p "com/example/quench/quench/Plan") (G : Fld Z h0 p "com/example/quench/quench/Plan" "routes" "[[I" (.ref pt)) (VP : Fa Z h0 pt (.array .int) 2 yp) (hp0 : yp 0 = .ref c0) (hp1 : yp 1 = .ref c1) (W0 : Fa Z h0 c0 .int 2 (fun i => .int (y0 i))) (W1 : Fa Z h0 c1 .int 1 (fun i => .int (y1 i))) (mpr0 : p ≠ r0) (mpr1 : p ≠ r1) (mptr0 : pt ≠ r0) (mptr1 : pt ≠ r1) (mc0r0 : c0 ≠ r0) (mc0r1 : c0 ≠ r1) (mc1r0 : c1 ≠ r0) (mc1r1 : c1 ≠ r1) (t0 : y0 0 = 0 ∨ y0 0 = 1) (t1 : y0 1 = 0 ∨ y0 1 = 1) (t2 : y1 0 = 0 ∨ y1 0 = 1) (hB0 : own_W z0 B) (hB1 : own_W z1 B) (hB : B ≤ 10000) (hc : 0 ≤ am.toInt ∧ am.toInt ≤ 255) :
    Met l Z (⟨"com/example/quench/quench/Pheromones", "deposit", "(Lcom/example/quench/quench/Plan;D)V"⟩ : MethodName) prog_40_method_5_code 8 none ws ({ frames := 1, cells := 0, slots := 0, locals := 15 } : Room) #[(.ref a), (.ref p), (.double (FP.l2d am))] h0 (fun v h L => ∃ (w0 w1 : Int32 → UInt64), v = none ∧ Fr n0 L ∧ Keep h0 h [r0, r1] ∧ own_W w0 (B + 510) ∧ own_W w1 (B + 510) ∧ Fa Z h r0 .double 6 (fun i => .double (w0 i)) ∧ Fa Z h r1 .double 6 (fun i => .double (w1 i))) := by
  refine Met.intro pn11 ?_
  intro pr ev s m below meth c T0 X0 hx hZ hown hby hml hret hlk hnm e0
  refine Go.cast (ef_rmDep m a p (FP.l2d am)) ?_
  have N0 := Fr.nil n0
  have hz := hz0
  have K0 : Keep h0 h0 [r0, r1] := Keep.refl h0 _
  refine Go.of (mkF m 1 #[.val (.ref a), .val (.ref p), .val (.double (FP.l2d am)), .second, .unset, .unset, .unset, .unset] [(.int (0 : Int32))]) (fun tt0 kk0 => XS.iconst X0.here hx rfl (hb hby d5_0) kk0) ?_
  refine Go.of (mkF m 3 #[.val (.ref a), .val (.ref p), .val (.double (FP.l2d am)), .second, .val (.int (0 : Int32)), .unset, .unset, .unset] []) (fun tt0 kk0 => XS.istore X0.here hx rfl (hb hby d5_1) rfl (l' := #[.val (.ref a), .val (.ref p), .val (.double (FP.l2d am)), .second, .val (.int (0 : Int32)), .unset, .unset, .unset]) rfl kk0) ?_
  refine Go.of (mkF m 5 #[.val (.ref a), .val (.ref p), .val (.double (FP.l2d am)), .second, .val (.int (0 : Int32)), .unset, .unset, .unset] [(.int (0 : Int32))]) (fun tt0 kk0 => XS.iload X0.here hx rfl (hb hby d5_3) rfl kk0) ?_
  refine Go.of (mkF m 6 #[.val (.ref a), .val (.ref p), .val (.double (FP.l2d am)), .second, .val (.int (0 : Int32)), .unset, .unset, .unset] [(.ref p), (.int (0 : Int32))]) (fun tt0 kk0 => XS.aloadN X0.here hx rfl (hb hby d5_5) rfl rfl kk0) ?_
  refine Go.virt X0 hx hZ (y := (⟨"com/example/quench/quench/Plan", "robots", "()I"⟩ : MethodName)) (z := (⟨"com/example/quench/quench/Plan", "robots", "()I"⟩ : MethodName)) (a := p) (argsL := []) (rest := [(.int (0 : Int32))]) hown (tw47 hw) (tw48 hw) (notFace_of_selects (args := #[]) (mvT hZ (tw50 hw))) (tw50 hw) (tw49 hw) (tw27 hw) (tw51 hw) (by decide) e0 Ep (rmRb l Z a0 hw [] p pt c0 c1 yp y0 y1 h0 G VP hp0 hp1 W0 W1) (g := (mkF m 6 #[.val (.ref a), .val (.ref p), .val (.double (FP.l2d am)), .second, .val (.int (0 : Int32)), .unset, .unset, .unset] [(.ref p), (.int (0 : Int32))])) rfl (by rw [hml]; rfl) (lenOf pd12 rfl) rfl (W := 1) (by show 2 * 0 + _ ≤ _; exact Nat.le_of_eq rfl) (hb hby d5_6) (by decide) (by decide) (by decide) (by decide) ?_
  rintro T1 L1 v1 X1 ⟨rfl, rfl, hh1⟩
  have N1 := Fr.app N0 (Fr.nil n0)
  show Go pr ev below _ T1 (mkF m 9 #[.val (.ref a), .val (.ref p), .val (.double (FP.l2d am)), .second, .val (.int (0 : Int32)), .unset, .unset, .unset] [(.int (2 : Int32)), (.int (0 : Int32))])
  refine Go.of (mkF m 12 #[.val (.ref a), .val (.ref p), .val (.double (FP.l2d am)), .second, .val (.int (0 : Int32)), .unset, .unset, .unset] []) (fun tt0 kk0 => XS.icmpNo X1.here hx rfl (hb hby d5_9) rfl (tlt (by decide)).2.1 kk0) ?_
  refine Go.of (mkF m 13 #[.val (.ref a), .val (.ref p), .val (.double (FP.l2d am)), .second, .val (.int (0 : Int32)), .unset, .unset, .unset] [(.int (-1 : Int32))]) (fun tt0 kk0 => XS.iconst X1.here hx rfl (hb hby d5_12) kk0) ?_
  refine Go.of (mkF m 15 #[.val (.ref a), .val (.ref p), .val (.double (FP.l2d am)), .second, .val (.int (0 : Int32)), .val (.int (-1 : Int32)), .unset, .unset] []) (fun tt0 kk0 => XS.istore X1.here hx rfl (hb hby d5_13) rfl (l' := #[.val (.ref a), .val (.ref p), .val (.double (FP.l2d am)), .second, .val (.int (0 : Int32)), .val (.int (-1 : Int32)), .unset, .unset]) rfl kk0) ?_
  refine Go.of (mkF m 16 #[.val (.ref a), .val (.ref p), .val (.double (FP.l2d am)), .second, .val (.int (0 : Int32)), .val (.int (-1 : Int32)), .unset, .unset] [(.int (0 : Int32))]) (fun tt0 kk0 => XS.iconst X1.here hx rfl (hb hby d5_15) kk0) ?_
  refine Go.of (mkF m 18 #[.val (.ref a), .val (.ref p), .val (.double (FP.l2d am)), .second, .val (.int (0 : Int32)), .val (.int (-1 : Int32)), .val (.int (0 : Int32)), .unset] []) (fun tt0 kk0 => XS.istore X1.here hx rfl (hb hby d5_16) rfl (l' := #[.val (.ref a), .val (.ref p), .val (.double (FP.l2d am)), .second, .val (.int (0 : Int32)), .val (.int (-1 : Int32)), .val (.int (0 : Int32)), .unset]) rfl kk0) ?_
  refine Go.of (mkF m 20 #[.val (.ref a), .val (.ref p), .val (.double (FP.l2d am)), .second, .val (.int (0 : Int32)), .val (.int (-1 : Int32)), .val (.int (0 : Int32)), .unset] [(.int (0 : Int32))]) (fun tt0 kk0 => XS.iload X1.here hx rfl (hb hby d5_18) rfl kk0) ?_
  refine Go.of (mkF m 21 #[.val (.ref a), .val (.ref p), .val (.double (FP.l2d am)), .second, .val (.int (0 : Int32)), .val (.int (-1 : Int32)), .val (.int (0 : Int32)), .unset] [(.ref p), (.int (0 : Int32))]) (fun tt0 kk0 => XS.aloadN X1.here hx rfl (hb hby d5_20) rfl rfl kk0) ?_
  refine Go.of (mkF m 23 #[.val (.ref a), .val (.ref p), .val (.double (FP.l2d am)), .second, .val (.int (0 : Int32)), .val (.int (-1 : Int32)), .val (.int (0 : Int32)), .unset] [(.int (0 : Int32)), (.ref p), (.int (0 : Int32))]) (fun tt0 kk0 => XS.iload X1.here hx rfl (hb hby d5_21) rfl kk0) ?_
  refine Go.virt X1 hx hZ (y := (⟨"com/example/quench/quench/Plan", "routeLength", "(I)I"⟩ : MethodName)) (z := (⟨"com/example/quench/quench/Plan", "routeLength", "(I)I"⟩ : MethodName)) (a := p) (argsL := [(.int (0 : Int32))]) (rest := [(.int (0 : Int32))]) hown (tw52 hw) (tw53 hw) (notFace_of_selects (args := #[]) (mvT hZ (tw55 hw))) (tw55 hw) (tw54 hw) (tw27 hw) (tw56 hw) (by decide) hh1 Ep (rmRL0 l Z a0 hw [] p pt c0 c1 yp y0 y1 h0 G VP hp0 hp1 W0 W1) (g := (mkF m 23 #[.val (.ref a), .val (.ref p), .val (.double (FP.l2d am)), .second, .val (.int (0 : Int32)), .val (.int (-1 : Int32)), .val (.int (0 : Int32)), .unset] [(.int (0 : Int32)), (.ref p), (.int (0 : Int32))])) rfl (by rw [hml]; rfl) (lenOf pd13 rfl) rfl (W := 1) (by show 2 * 0 + _ ≤ _; exact Nat.le_of_eq rfl) (hb hby d5_23) (by decide) (by decide) (by decide) (by decide) ?_
  rintro T2 L2 v2 X2 ⟨rfl, rfl, hh2⟩
  have N2 := Fr.app N1 (Fr.nil n0)
  show Go pr ev below _ T2 (mkF m 26 #[.val (.ref a), .val (.ref p), .val (.double (FP.l2d am)), .second, .val (.int (0 : Int32)), .val (.int (-1 : Int32)), .val (.int (0 : Int32)), .unset] [(.int (2 : Int32)), (.int (0 : Int32))])
  refine Go.of (mkF m 29 #[.val (.ref a), .val (.ref p), .val (.double (FP.l2d am)), .second, .val (.int (0 : Int32)), .val (.int (-1 : Int32)), .val (.int (0 : Int32)), .unset] []) (fun tt0 kk0 => XS.icmpNo X2.here hx rfl (hb hby d5_26) rfl (tlt (by decide)).2.1 kk0) ?_
  refine Go.of (mkF m 30 #[.val (.ref a), .val (.ref p), .val (.double (FP.l2d am)), .second, .val (.int (0 : Int32)), .val (.int (-1 : Int32)), .val (.int (0 : Int32)), .unset] [(.ref p)]) (fun tt0 kk0 => XS.aloadN X2.here hx rfl (hb hby d5_29) rfl rfl kk0) ?_
  refine Go.of (mkF m 32 #[.val (.ref a), .val (.ref p), .val (.double (FP.l2d am)), .second, .val (.int (0 : Int32)), .val (.int (-1 : Int32)), .val (.int (0 : Int32)), .unset] [(.int (0 : Int32)), (.ref p)]) (fun tt0 kk0 => XS.iload X2.here hx rfl (hb hby d5_30) rfl kk0) ?_
  refine Go.of (mkF m 34 #[.val (.ref a), .val (.ref p), .val (.double (FP.l2d am)), .second, .val (.int (0 : Int32)), .val (.int (-1 : Int32)), .val (.int (0 : Int32)), .unset] [(.int (0 : Int32)), (.int (0 : Int32)), (.ref p)]) (fun tt0 kk0 => XS.iload X2.here hx rfl (hb hby d5_32) rfl kk0) ?_
  refine Go.virt X2 hx hZ (y := (⟨"com/example/quench/quench/Plan", "task", "(II)I"⟩ : MethodName)) (z := (⟨"com/example/quench/quench/Plan", "task", "(II)I"⟩ : MethodName)) (a := p) (argsL := [(.int (0 : Int32)), (.int (0 : Int32))]) (rest := []) hown (tw57 hw) (tw58 hw) (notFace_of_selects (args := #[]) (mvT hZ (tw60 hw))) (tw60 hw) (tw59 hw) (tw27 hw) (tw61 hw) (by decide) hh2 Ep (rmTk00 l Z a0 hw [] p pt c0 c1 yp y0 y1 h0 G VP hp0 hp1 W0 W1) (g := (mkF m 34 #[.val (.ref a), .val (.ref p), .val (.double (FP.l2d am)), .second, .val (.int (0 : Int32)), .val (.int (-1 : Int32)), .val (.int (0 : Int32)), .unset] [(.int (0 : Int32)), (.int (0 : Int32)), (.ref p)])) rfl (by rw [hml]; rfl) (lenOf pd9 rfl) rfl (W := 0) (by show 2 * 0 + _ ≤ _; exact Nat.le_of_eq rfl) (hb hby d5_34) (by decide) (by decide) (by decide) (by decide) ?_
  rintro T3 L3 v3 X3 ⟨rfl, rfl, hh3⟩
  have N3 := Fr.app N2 (Fr.nil n0)
  show Go pr ev below _ T3 (mkF m 37 #[.val (.ref a), .val (.ref p), .val (.double (FP.l2d am)), .second, .val (.int (0 : Int32)), .val (.int (-1 : Int32)), .val (.int (0 : Int32)), .unset] [(.int (y0 (0 : Int32)))])
  refine Go.of (mkF m 39 #[.val (.ref a), .val (.ref p), .val (.double (FP.l2d am)), .second, .val (.int (0 : Int32)), .val (.int (-1 : Int32)), .val (.int (0 : Int32)), .val (.int (y0 (0 : Int32)))] []) (fun tt0 kk0 => XS.istore X3.here hx rfl (hb hby d5_37) rfl (l' := #[.val (.ref a), .val (.ref p), .val (.double (FP.l2d am)), .second, .val (.int (0 : Int32)), .val (.int (-1 : Int32)), .val (.int (0 : Int32)), .val (.int (y0 (0 : Int32)))]) rfl kk0) ?_
  refine Go.of (mkF m 40 #[.val (.ref a), .val (.ref p), .val (.double (FP.l2d am)), .second, .val (.int (0 : Int32)), .val (.int (-1 : Int32)), .val (.int (0 : Int32)), .val (.int (y0 (0 : Int32)))] [(.ref a)]) (fun tt0 kk0 => XS.aloadN X3.here hx rfl (hb hby d5_39) rfl rfl kk0) ?_
  obtain ⟨T4, X4, e4, st4⟩ := getF X3 hx hZ hown (host := "") (Or.inl (tw19 hw)) Via.refl hh3 Fq (g := (mkF m 40 #[.val (.ref a), .val (.ref p), .val (.double (FP.l2d am)), .second, .val (.int (0 : Int32)), .val (.int (-1 : Int32)), .val (.int (0 : Int32)), .val (.int (y0 (0 : Int32)))] [(.ref a)])) rfl rfl (hb hby d5_40)
  refine Go.of (mkF m 43 #[.val (.ref a), .val (.ref p), .val (.double (FP.l2d am)), .second, .val (.int (0 : Int32)), .val (.int (-1 : Int32)), .val (.int (0 : Int32)), .val (.int (y0 (0 : Int32)))] [(.ref t)]) (st4) ?_
  refine Go.of (mkF m 45 #[.val (.ref a), .val (.ref p), .val (.double (FP.l2d am)), .second, .val (.int (0 : Int32)), .val (.int (-1 : Int32)), .val (.int (0 : Int32)), .val (.int (y0 (0 : Int32)))] [(.int (0 : Int32)), (.ref t)]) (fun tt0 kk0 => XS.iload X4.here hx rfl (hb hby d5_43) rfl kk0) ?_
  refine Go.aaload X4 hx hZ e4 VT rfl (by decide) (by decide) (g := (mkF m 45 #[.val (.ref a), .val (.ref p), .val (.double (FP.l2d am)), .second, .val (.int (0 : Int32)), .val (.int (-1 : Int32)), .val (.int (0 : Int32)), .val (.int (y0 (0 : Int32)))] [(.int (0 : Int32)), (.ref t)])) rfl rfl (hb hby d5_45) ?_
  show Go pr ev below _ T4 (mkF m 46 #[.val (.ref a), .val (.ref p), .val (.double (FP.l2d am)), .second, .val (.int (0 : Int32)), .val (.int (-1 : Int32)), .val (.int (0 : Int32)), .val (.int (y0 (0 : Int32)))] [(yt (0 : Int32))])
  rw [show (yt (0 : Int32)) = (.ref r0) from hy0]
  show Go pr ev below _ T4 (mkF m 46 #[.val (.ref a), .val (.ref p), .val (.double (FP.l2d am)), .second, .val (.int (0 : Int32)), .val (.int (-1 : Int32)), .val (.int (0 : Int32)), .val (.int (y0 (0 : Int32)))] [(.ref r0)])
  refine Go.of (mkF m 47 #[.val (.ref a), .val (.ref p), .val (.double (FP.l2d am)), .second, .val (.int (0 : Int32)), .val (.int (-1 : Int32)), .val (.int (0 : Int32)), .val (.int (y0 (0 : Int32)))] [(.ref a), (.ref r0)]) (fun tt0 kk0 => XS.aloadN X4.here hx rfl (hb hby d5_46) rfl rfl kk0) ?_
  refine Go.of (mkF m 49 #[.val (.ref a), .val (.ref p), .val (.double (FP.l2d am)), .second, .val (.int (0 : Int32)), .val (.int (-1 : Int32)), .val (.int (0 : Int32)), .val (.int (y0 (0 : Int32)))] [(.int (-1 : Int32)), (.ref a), (.ref r0)]) (fun tt0 kk0 => XS.iload X4.here hx rfl (hb hby d5_47) rfl kk0) ?_
  refine Go.of (mkF m 51 #[.val (.ref a), .val (.ref p), .val (.double (FP.l2d am)), .second, .val (.int (0 : Int32)), .val (.int (-1 : Int32)), .val (.int (0 : Int32)), .val (.int (y0 (0 : Int32)))] [(.int (y0 (0 : Int32))), (.int (-1 : Int32)), (.ref a), (.ref r0)]) (fun tt0 kk0 => XS.iload X4.here hx rfl (hb hby d5_49) rfl kk0) ?_
  refine Go.priv X4 hx hZ (y := (⟨"com/example/quench/quench/Pheromones", "move", "(II)I"⟩ : MethodName)) (a := a) (argsL := [(.int (-1 : Int32)), (.int (y0 (0 : Int32)))]) (rest := [(.ref r0)]) hown (tw62 hw) (tw63 hw) (Jvm.Kit.selects_private (by decide) (tw6 hw) (tw64 hw) (tw63 hw)) (tw64 hw) (tw7 hw) (tw65 hw) (by decide) e4 E (rmMv l Z a0 hw [] a (-1 : Int32) (y0 (0 : Int32)) h0 Ft) (g := (mkF m 51 #[.val (.ref a), .val (.ref p), .val (.double (FP.l2d am)), .second, .val (.int (0 : Int32)), .val (.int (-1 : Int32)), .val (.int (0 : Int32)), .val (.int (y0 (0 : Int32)))] [(.int (y0 (0 : Int32))), (.int (-1 : Int32)), (.ref a), (.ref r0)])) rfl (by rw [hml]; rfl) (lenOf pd9 rfl) rfl (W := 1) (by show 2 * 0 + _ ≤ _; exact Nat.le_of_eq rfl) (hb hby d5_51) (by decide) (by decide) (by decide) (by decide) ?_
  rintro T5 L5 v5 X5 ⟨rfl, rfl, hh5⟩
  have N5 := Fr.app N3 (Fr.nil n0)
  show Go pr ev below _ T5 (mkF m 54 #[.val (.ref a), .val (.ref p), .val (.double (FP.l2d am)), .second, .val (.int (0 : Int32)), .val (.int (-1 : Int32)), .val (.int (0 : Int32)), .val (.int (y0 (0 : Int32)))] [(.int (own_mv (-1 : Int32) (y0 (0 : Int32)))), (.ref r0)])
  refine Go.of (mkF m 55 #[.val (.ref a), .val (.ref p), .val (.double (FP.l2d am)), .second, .val (.int (0 : Int32)), .val (.int (-1 : Int32)), .val (.int (0 : Int32)), .val (.int (y0 (0 : Int32)))] [(.int (own_mv (-1 : Int32) (y0 (0 : Int32)))), (.ref r0), (.int (own_mv (-1 : Int32) (y0 (0 : Int32)))), (.ref r0)]) (fun tt0 kk0 => by jvm_step X5.here [X5.here.top, hx, (hb hby d5_54), Value.category]; exact kk0) ?_
  refine Go.daload X5 hx hZ hh5 V0 (own_rng (Or.inl rfl) t0).1 (own_rng (Or.inl rfl) t0).2 (g := (mkF m 55 #[.val (.ref a), .val (.ref p), .val (.double (FP.l2d am)), .second, .val (.int (0 : Int32)), .val (.int (-1 : Int32)), .val (.int (0 : Int32)), .val (.int (y0 (0 : Int32)))] [(.int (own_mv (-1 : Int32) (y0 (0 : Int32)))), (.ref r0), (.int (own_mv (-1 : Int32) (y0 (0 : Int32)))), (.ref r0)])) rfl rfl (hb hby d5_55) ?_
  show Go pr ev below _ T5 (mkF m 56 #[.val (.ref a), .val (.ref p), .val (.double (FP.l2d am)), .second, .val (.int (0 : Int32)), .val (.int (-1 : Int32)), .val (.int (0 : Int32)), .val (.int (y0 (0 : Int32)))] [(.double (z0 (own_mv (-1 : Int32) (y0 (0 : Int32))))), (.int (own_mv (-1 : Int32) (y0 (0 : Int32)))), (.ref r0)])
  refine Go.of (mkF m 57 #[.val (.ref a), .val (.ref p), .val (.double (FP.l2d am)), .second, .val (.int (0 : Int32)), .val (.int (-1 : Int32)), .val (.int (0 : Int32)), .val (.int (y0 (0 : Int32)))] [(.double (FP.l2d am)), (.double (z0 (own_mv (-1 : Int32) (y0 (0 : Int32))))), (.int (own_mv (-1 : Int32) (y0 (0 : Int32)))), (.ref r0)]) (fun tt0 kk0 => XS.dloadN X5.here hx rfl (hb hby d5_56) rfl kk0) ?_
  refine Go.of (mkF m 58 #[.val (.ref a), .val (.ref p), .val (.double (FP.l2d am)), .second, .val (.int (0 : Int32)), .val (.int (-1 : Int32)), .val (.int (0 : Int32)), .val (.int (y0 (0 : Int32)))] [(.double (FP.dadd (z0 (own_mv (-1 : Int32) (y0 (0 : Int32)))) (FP.l2d am))), (.int (own_mv (-1 : Int32) (y0 (0 : Int32)))), (.ref r0)]) (fun tt0 kk0 => XS.daddS X5.here hx rfl (hb hby d5_57) rfl (own_nn (by omega) hB0 hc _) rfl kk0) ?_
  refine Go.dastore X5 hx hZ hh5 V0 (own_rng (Or.inl rfl) t0).1 (own_rng (Or.inl rfl) t0).2 (g := (mkF m 58 #[.val (.ref a), .val (.ref p), .val (.double (FP.l2d am)), .second, .val (.int (0 : Int32)), .val (.int (-1 : Int32)), .val (.int (0 : Int32)), .val (.int (y0 (0 : Int32)))] [(.double (FP.dadd (z0 (own_mv (-1 : Int32) (y0 (0 : Int32)))) (FP.l2d am))), (.int (own_mv (-1 : Int32) (y0 (0 : Int32)))), (.ref r0)])) rfl rfl (hb hby d5_58) ?_
  rintro T6 h6 X6 e6 W6 V6
  replace Ft := Ft.other W6 (Or.inl na0)
  replace Fq := Fq.other W6 (Or.inl na0)
  replace G := G.other W6 (Or.inl mpr0)
  replace E := E.wr W6
  replace Ep := Ep.wr W6
  replace VT := VT.other W6 nt0
  replace V1 := V1.other W6 (Ne.symm n01)
  replace VP := VP.other W6 mptr0
  replace W0 := W0.other W6 mc0r0
  replace W1 := W1.other W6 mc1r0
  replace hz := Nat.le_trans hz (Nat.le_of_eq W6.size.symm)
  replace K0 := K0.wr W6 (Or.inl (by simp))
  replace V0 := V6
  have N6 := Fr.snoc X6 N5 gr0
  show Go pr ev below _ T6 (mkF m 59 #[.val (.ref a), .val (.ref p), .val (.double (FP.l2d am)), .second, .val (.int (0 : Int32)), .val (.int (-1 : Int32)), .val (.int (0 : Int32)), .val (.int (y0 (0 : Int32)))] [])
  refine Go.of (mkF m 61 #[.val (.ref a), .val (.ref p), .val (.double (FP.l2d am)), .second, .val (.int (0 : Int32)), .val (.int (-1 : Int32)), .val (.int (0 : Int32)), .val (.int (y0 (0 : Int32)))] [(.int (y0 (0 : Int32)))]) (fun tt0 kk0 => XS.iload X6.here hx rfl (hb hby d5_59) rfl kk0) ?_
  refine Go.of (mkF m 63 #[.val (.ref a), .val (.ref p), .val (.double (FP.l2d am)), .second, .val (.int (0 : Int32)), .val (.int (y0 (0 : Int32))), .val (.int (0 : Int32)), .val (.int (y0 (0 : Int32)))] []) (fun tt0 kk0 => XS.istore X6.here hx rfl (hb hby d5_61) rfl (l' := #[.val (.ref a), .val (.ref p), .val (.double (FP.l2d am)), .second, .val (.int (0 : Int32)), .val (.int (y0 (0 : Int32))), .val (.int (0 : Int32)), .val (.int (y0 (0 : Int32)))]) rfl kk0) ?_
  refine Go.of (mkF m 66 #[.val (.ref a), .val (.ref p), .val (.double (FP.l2d am)), .second, .val (.int (0 : Int32)), .val (.int (y0 (0 : Int32))), .val (.int ((0 : Int32) + (1 : Int32))), .val (.int (y0 (0 : Int32)))] []) (fun tt0 kk0 => XS.iinc X6.here hx rfl (hb hby d5_63) rfl (l' := #[.val (.ref a), .val (.ref p), .val (.double (FP.l2d am)), .second, .val (.int (0 : Int32)), .val (.int (y0 (0 : Int32))), .val (.int ((0 : Int32) + (1 : Int32))), .val (.int (y0 (0 : Int32)))]) rfl kk0) ?_
  rw [show ((0 : Int32) + (1 : Int32)) = (1 : Int32) from by decide]
  refine Go.of (mkF m 18 #[.val (.ref a), .val (.ref p), .val (.double (FP.l2d am)), .second, .val (.int (0 : Int32)), .val (.int (y0 (0 : Int32))), .val (.int (1 : Int32)), .val (.int (y0 (0 : Int32)))] []) (fun tt0 kk0 => XS.goto X6.here hx rfl (pc0 := 66) (pc' := 18) rfl (hb hby d5_66) (by decide) (by decide) kk0) ?_
  refine Go.of (mkF m 20 #[.val (.ref a), .val (.ref p), .val (.double (FP.l2d am)), .second, .val (.int (0 : Int32)), .val (.int (y0 (0 : Int32))), .val (.int (1 : Int32)), .val (.int (y0 (0 : Int32)))] [(.int (1 : Int32))]) (fun tt0 kk0 => XS.iload X6.here hx rfl (hb hby d5_18) rfl kk0) ?_
  refine Go.of (mkF m 21 #[.val (.ref a), .val (.ref p), .val (.double (FP.l2d am)), .second, .val (.int (0 : Int32)), .val (.int (y0 (0 : Int32))), .val (.int (1 : Int32)), .val (.int (y0 (0 : Int32)))] [(.ref p), (.int (1 : Int32))]) (fun tt0 kk0 => XS.aloadN X6.here hx rfl (hb hby d5_20) rfl rfl kk0) ?_
  refine Go.of (mkF m 23 #[.val (.ref a), .val (.ref p), .val (.double (FP.l2d am)), .second, .val (.int (0 : Int32)), .val (.int (y0 (0 : Int32))), .val (.int (1 : Int32)), .val (.int (y0 (0 : Int32)))] [(.int (0 : Int32)), (.ref p), (.int (1 : Int32))]) (fun tt0 kk0 => XS.iload X6.here hx rfl (hb hby d5_21) rfl kk0) ?_
  refine Go.virt X6 hx hZ (y := (⟨"com/example/quench/quench/Plan", "routeLength", "(I)I"⟩ : MethodName)) (z := (⟨"com/example/quench/quench/Plan", "routeLength", "(I)I"⟩ : MethodName)) (a := p) (argsL := [(.int (0 : Int32))]) (rest := [(.int (1 : Int32))]) hown (tw52 hw) (tw53 hw) (notFace_of_selects (args := #[]) (mvT hZ (tw55 hw))) (tw55 hw) (tw54 hw) (tw27 hw) (tw56 hw) (by decide) e6 Ep (rmRL0 l Z a0 hw [] p pt c0 c1 yp y0 y1 h6 G VP hp0 hp1 W0 W1) (g := (mkF m 23 #[.val (.ref a), .val (.ref p), .val (.double (FP.l2d am)), .second, .val (.int (0 : Int32)), .val (.int (y0 (0 : Int32))), .val (.int (1 : Int32)), .val (.int (y0 (0 : Int32)))] [(.int (0 : Int32)), (.ref p), (.int (1 : Int32))])) rfl (by rw [hml]; rfl) (lenOf pd13 rfl) rfl (W := 1) (by show 2 * 0 + _ ≤ _; exact Nat.le_of_eq rfl) (hb hby d5_23) (by decide) (by decide) (by decide) (by decide) ?_
  rintro T7 L7 v7 X7 ⟨rfl, rfl, hh7⟩
  have N7 := Fr.app N6 (Fr.nil n0)
  show Go pr ev below _ T7 (mkF m 26 #[.val (.ref a), .val (.ref p), .val (.double (FP.l2d am)), .second, .val (.int (0 : Int32)), .val (.int (y0 (0 : Int32))), .val (.int (1 : Int32)), .val (.int (y0 (0 : Int32)))] [(.int (2 : Int32)), (.int (1 : Int32))])
  refine Go.of (mkF m 29 #[.val (.ref a), .val (.ref p), .val (.double (FP.l2d am)), .second, .val (.int (0 : Int32)), .val (.int (y0 (0 : Int32))), .val (.int (1 : Int32)), .val (.int (y0 (0 : Int32)))] []) (fun tt0 kk0 => XS.icmpNo X7.here hx rfl (hb hby d5_26) rfl (tlt (by decide)).2.1 kk0) ?_
  refine Go.of (mkF m 30 #[.val (.ref a), .val (.ref p), .val (.double (FP.l2d am)), .second, .val (.int (0 : Int32)), .val (.int (y0 (0 : Int32))), .val (.int (1 : Int32)), .val (.int (y0 (0 : Int32)))] [(.ref p)]) (fun tt0 kk0 => XS.aloadN X7.here hx rfl (hb hby d5_29) rfl rfl kk0) ?_
  refine Go.of (mkF m 32 #[.val (.ref a), .val (.ref p), .val (.double (FP.l2d am)), .second, .val (.int (0 : Int32)), .val (.int (y0 (0 : Int32))), .val (.int (1 : Int32)), .val (.int (y0 (0 : Int32)))] [(.int (0 : Int32)), (.ref p)]) (fun tt0 kk0 => XS.iload X7.here hx rfl (hb hby d5_30) rfl kk0) ?_
  refine Go.of (mkF m 34 #[.val (.ref a), .val (.ref p), .val (.double (FP.l2d am)), .second, .val (.int (0 : Int32)), .val (.int (y0 (0 : Int32))), .val (.int (1 : Int32)), .val (.int (y0 (0 : Int32)))] [(.int (1 : Int32)), (.int (0 : Int32)), (.ref p)]) (fun tt0 kk0 => XS.iload X7.here hx rfl (hb hby d5_32) rfl kk0) ?_
  refine Go.virt X7 hx hZ (y := (⟨"com/example/quench/quench/Plan", "task", "(II)I"⟩ : MethodName)) (z := (⟨"com/example/quench/quench/Plan", "task", "(II)I"⟩ : MethodName)) (a := p) (argsL := [(.int (0 : Int32)), (.int (1 : Int32))]) (rest := []) hown (tw57 hw) (tw58 hw) (notFace_of_selects (args := #[]) (mvT hZ (tw60 hw))) (tw60 hw) (tw59 hw) (tw27 hw) (tw61 hw) (by decide) hh7 Ep (rmTk01 l Z a0 hw [] p pt c0 c1 yp y0 y1 h6 G VP hp0 hp1 W0 W1) (g := (mkF m 34 #[.val (.ref a), .val (.ref p), .val (.double (FP.l2d am)), .second, .val (.int (0 : Int32)), .val (.int (y0 (0 : Int32))), .val (.int (1 : Int32)), .val (.int (y0 (0 : Int32)))] [(.int (1 : Int32)), (.int (0 : Int32)), (.ref p)])) rfl (by rw [hml]; rfl) (lenOf pd9 rfl) rfl (W := 0) (by show 2 * 0 + _ ≤ _; exact Nat.le_of_eq rfl) (hb hby d5_34) (by decide) (by decide) (by decide) (by decide) ?_
  rintro T8 L8 v8 X8 ⟨rfl, rfl, hh8⟩
  have N8 := Fr.app N7 (Fr.nil n0)
  show Go pr ev below _ T8 (mkF m 37 #[.val (.ref a), .val (.ref p), .val (.double (FP.l2d am)), .second, .val (.int (0 : Int32)), .val (.int (y0 (0 : Int32))), .val (.int (1 : Int32)), .val (.int (y0 (0 : Int32)))] [(.int (y0 (1 : Int32)))])
  refine Go.of (mkF m 39 #[.val (.ref a), .val (.ref p), .val (.double (FP.l2d am)), .second, .val (.int (0 : Int32)), .val (.int (y0 (0 : Int32))), .val (.int (1 : Int32)), .val (.int (y0 (1 : Int32)))] []) (fun tt0 kk0 => XS.istore X8.here hx rfl (hb hby d5_37) rfl (l' := #[.val (.ref a), .val (.ref p), .val (.double (FP.l2d am)), .second, .val (.int (0 : Int32)), .val (.int (y0 (0 : Int32))), .val (.int (1 : Int32)), .val (.int (y0 (1 : Int32)))]) rfl kk0) ?_
  refine Go.of (mkF m 40 #[.val (.ref a), .val (.ref p), .val (.double (FP.l2d am)), .second, .val (.int (0 : Int32)), .val (.int (y0 (0 : Int32))), .val (.int (1 : Int32)), .val (.int (y0 (1 : Int32)))] [(.ref a)]) (fun tt0 kk0 => XS.aloadN X8.here hx rfl (hb hby d5_39) rfl rfl kk0) ?_
  obtain ⟨T9, X9, e9, st9⟩ := getF X8 hx hZ hown (host := "") (Or.inl (tw19 hw)) Via.refl hh8 Fq (g := (mkF m 40 #[.val (.ref a), .val (.ref p), .val (.double (FP.l2d am)), .second, .val (.int (0 : Int32)), .val (.int (y0 (0 : Int32))), .val (.int (1 : Int32)), .val (.int (y0 (1 : Int32)))] [(.ref a)])) rfl rfl (hb hby d5_40)
  refine Go.of (mkF m 43 #[.val (.ref a), .val (.ref p), .val (.double (FP.l2d am)), .second, .val (.int (0 : Int32)), .val (.int (y0 (0 : Int32))), .val (.int (1 : Int32)), .val (.int (y0 (1 : Int32)))] [(.ref t)]) (st9) ?_
  refine Go.of (mkF m 45 #[.val (.ref a), .val (.ref p), .val (.double (FP.l2d am)), .second, .val (.int (0 : Int32)), .val (.int (y0 (0 : Int32))), .val (.int (1 : Int32)), .val (.int (y0 (1 : Int32)))] [(.int (0 : Int32)), (.ref t)]) (fun tt0 kk0 => XS.iload X9.here hx rfl (hb hby d5_43) rfl kk0) ?_
  refine Go.aaload X9 hx hZ e9 VT rfl (by decide) (by decide) (g := (mkF m 45 #[.val (.ref a), .val (.ref p), .val (.double (FP.l2d am)), .second, .val (.int (0 : Int32)), .val (.int (y0 (0 : Int32))), .val (.int (1 : Int32)), .val (.int (y0 (1 : Int32)))] [(.int (0 : Int32)), (.ref t)])) rfl rfl (hb hby d5_45) ?_
  show Go pr ev below _ T9 (mkF m 46 #[.val (.ref a), .val (.ref p), .val (.double (FP.l2d am)), .second, .val (.int (0 : Int32)), .val (.int (y0 (0 : Int32))), .val (.int (1 : Int32)), .val (.int (y0 (1 : Int32)))] [(yt (0 : Int32))])
  rw [show (yt (0 : Int32)) = (.ref r0) from hy0]
  show Go pr ev below _ T9 (mkF m 46 #[.val (.ref a), .val (.ref p), .val (.double (FP.l2d am)), .second, .val (.int (0 : Int32)), .val (.int (y0 (0 : Int32))), .val (.int (1 : Int32)), .val (.int (y0 (1 : Int32)))] [(.ref r0)])
  refine Go.of (mkF m 47 #[.val (.ref a), .val (.ref p), .val (.double (FP.l2d am)), .second, .val (.int (0 : Int32)), .val (.int (y0 (0 : Int32))), .val (.int (1 : Int32)), .val (.int (y0 (1 : Int32)))] [(.ref a), (.ref r0)]) (fun tt0 kk0 => XS.aloadN X9.here hx rfl (hb hby d5_46) rfl rfl kk0) ?_
  refine Go.of (mkF m 49 #[.val (.ref a), .val (.ref p), .val (.double (FP.l2d am)), .second, .val (.int (0 : Int32)), .val (.int (y0 (0 : Int32))), .val (.int (1 : Int32)), .val (.int (y0 (1 : Int32)))] [(.int (y0 (0 : Int32))), (.ref a), (.ref r0)]) (fun tt0 kk0 => XS.iload X9.here hx rfl (hb hby d5_47) rfl kk0) ?_
  refine Go.of (mkF m 51 #[.val (.ref a), .val (.ref p), .val (.double (FP.l2d am)), .second, .val (.int (0 : Int32)), .val (.int (y0 (0 : Int32))), .val (.int (1 : Int32)), .val (.int (y0 (1 : Int32)))] [(.int (y0 (1 : Int32))), (.int (y0 (0 : Int32))), (.ref a), (.ref r0)]) (fun tt0 kk0 => XS.iload X9.here hx rfl (hb hby d5_49) rfl kk0) ?_
  refine Go.priv X9 hx hZ (y := (⟨"com/example/quench/quench/Pheromones", "move", "(II)I"⟩ : MethodName)) (a := a) (argsL := [(.int (y0 (0 : Int32))), (.int (y0 (1 : Int32)))]) (rest := [(.ref r0)]) hown (tw62 hw) (tw63 hw) (Jvm.Kit.selects_private (by decide) (tw6 hw) (tw64 hw) (tw63 hw)) (tw64 hw) (tw7 hw) (tw65 hw) (by decide) e9 E (rmMv l Z a0 hw [] a (y0 (0 : Int32)) (y0 (1 : Int32)) h6 Ft) (g := (mkF m 51 #[.val (.ref a), .val (.ref p), .val (.double (FP.l2d am)), .second, .val (.int (0 : Int32)), .val (.int (y0 (0 : Int32))), .val (.int (1 : Int32)), .val (.int (y0 (1 : Int32)))] [(.int (y0 (1 : Int32))), (.int (y0 (0 : Int32))), (.ref a), (.ref r0)])) rfl (by rw [hml]; rfl) (lenOf pd9 rfl) rfl (W := 1) (by show 2 * 0 + _ ≤ _; exact Nat.le_of_eq rfl) (hb hby d5_51) (by decide) (by decide) (by decide) (by decide) ?_
  rintro T10 L10 v10 X10 ⟨rfl, rfl, hh10⟩
  have N10 := Fr.app N8 (Fr.nil n0)
  show Go pr ev below _ T10 (mkF m 54 #[.val (.ref a), .val (.ref p), .val (.double (FP.l2d am)), .second, .val (.int (0 : Int32)), .val (.int (y0 (0 : Int32))), .val (.int (1 : Int32)), .val (.int (y0 (1 : Int32)))] [(.int (own_mv (y0 (0 : Int32)) (y0 (1 : Int32)))), (.ref r0)])
  refine Go.of (mkF m 55 #[.val (.ref a), .val (.ref p), .val (.double (FP.l2d am)), .second, .val (.int (0 : Int32)), .val (.int (y0 (0 : Int32))), .val (.int (1 : Int32)), .val (.int (y0 (1 : Int32)))] [(.int (own_mv (y0 (0 : Int32)) (y0 (1 : Int32)))), (.ref r0), (.int (own_mv (y0 (0 : Int32)) (y0 (1 : Int32)))), (.ref r0)]) (fun tt0 kk0 => by jvm_step X10.here [X10.here.top, hx, (hb hby d5_54), Value.category]; exact kk0) ?_
  refine Go.daload X10 hx hZ hh10 V0 (own_rng (own_up t0) t1).1 (own_rng (own_up t0) t1).2 (g := (mkF m 55 #[.val (.ref a), .val (.ref p), .val (.double (FP.l2d am)), .second, .val (.int (0 : Int32)), .val (.int (y0 (0 : Int32))), .val (.int (1 : Int32)), .val (.int (y0 (1 : Int32)))] [(.int (own_mv (y0 (0 : Int32)) (y0 (1 : Int32)))), (.ref r0), (.int (own_mv (y0 (0 : Int32)) (y0 (1 : Int32)))), (.ref r0)])) rfl rfl (hb hby d5_55) ?_
  show Go pr ev below _ T10 (mkF m 56 #[.val (.ref a), .val (.ref p), .val (.double (FP.l2d am)), .second, .val (.int (0 : Int32)), .val (.int (y0 (0 : Int32))), .val (.int (1 : Int32)), .val (.int (y0 (1 : Int32)))] [(.double ((fnup z0 (own_mv (-1 : Int32) (y0 (0 : Int32))) (FP.dadd (z0 (own_mv (-1 : Int32) (y0 (0 : Int32)))) (FP.l2d am))) (own_mv (y0 (0 : Int32)) (y0 (1 : Int32))))), (.int (own_mv (y0 (0 : Int32)) (y0 (1 : Int32)))), (.ref r0)])
  refine Go.of (mkF m 57 #[.val (.ref a), .val (.ref p), .val (.double (FP.l2d am)), .second, .val (.int (0 : Int32)), .val (.int (y0 (0 : Int32))), .val (.int (1 : Int32)), .val (.int (y0 (1 : Int32)))] [(.double (FP.l2d am)), (.double ((fnup z0 (own_mv (-1 : Int32) (y0 (0 : Int32))) (FP.dadd (z0 (own_mv (-1 : Int32) (y0 (0 : Int32)))) (FP.l2d am))) (own_mv (y0 (0 : Int32)) (y0 (1 : Int32))))), (.int (own_mv (y0 (0 : Int32)) (y0 (1 : Int32)))), (.ref r0)]) (fun tt0 kk0 => XS.dloadN X10.here hx rfl (hb hby d5_56) rfl kk0) ?_
  refine Go.of (mkF m 58 #[.val (.ref a), .val (.ref p), .val (.double (FP.l2d am)), .second, .val (.int (0 : Int32)), .val (.int (y0 (0 : Int32))), .val (.int (1 : Int32)), .val (.int (y0 (1 : Int32)))] [(.double (FP.dadd ((fnup z0 (own_mv (-1 : Int32) (y0 (0 : Int32))) (FP.dadd (z0 (own_mv (-1 : Int32) (y0 (0 : Int32)))) (FP.l2d am))) (own_mv (y0 (0 : Int32)) (y0 (1 : Int32)))) (FP.l2d am))), (.int (own_mv (y0 (0 : Int32)) (y0 (1 : Int32)))), (.ref r0)]) (fun tt0 kk0 => XS.daddS X10.here hx rfl (hb hby d5_57) rfl (own_nn (B := B + 255) (by omega) (own_addw (by omega) hB0 hc _) hc _) rfl kk0) ?_
  refine Go.dastore X10 hx hZ hh10 V0 (own_rng (own_up t0) t1).1 (own_rng (own_up t0) t1).2 (g := (mkF m 58 #[.val (.ref a), .val (.ref p), .val (.double (FP.l2d am)), .second, .val (.int (0 : Int32)), .val (.int (y0 (0 : Int32))), .val (.int (1 : Int32)), .val (.int (y0 (1 : Int32)))] [(.double (FP.dadd ((fnup z0 (own_mv (-1 : Int32) (y0 (0 : Int32))) (FP.dadd (z0 (own_mv (-1 : Int32) (y0 (0 : Int32)))) (FP.l2d am))) (own_mv (y0 (0 : Int32)) (y0 (1 : Int32)))) (FP.l2d am))), (.int (own_mv (y0 (0 : Int32)) (y0 (1 : Int32)))), (.ref r0)])) rfl rfl (hb hby d5_58) ?_
  rintro T11 h11 X11 e11 W11 V11
  replace Ft := Ft.other W11 (Or.inl na0)
  replace Fq := Fq.other W11 (Or.inl na0)
  replace G := G.other W11 (Or.inl mpr0)
  replace E := E.wr W11
  replace Ep := Ep.wr W11
  replace VT := VT.other W11 nt0
  replace V1 := V1.other W11 (Ne.symm n01)
  replace VP := VP.other W11 mptr0
  replace W0 := W0.other W11 mc0r0
  replace W1 := W1.other W11 mc1r0
  replace hz := Nat.le_trans hz (Nat.le_of_eq W11.size.symm)
  replace K0 := K0.wr W11 (Or.inl (by simp))
  replace V0 := V11
  have N11 := Fr.snoc X11 N10 gr0
  show Go pr ev below _ T11 (mkF m 59 #[.val (.ref a), .val (.ref p), .val (.double (FP.l2d am)), .second, .val (.int (0 : Int32)), .val (.int (y0 (0 : Int32))), .val (.int (1 : Int32)), .val (.int (y0 (1 : Int32)))] [])
  refine Go.of (mkF m 61 #[.val (.ref a), .val (.ref p), .val (.double (FP.l2d am)), .second, .val (.int (0 : Int32)), .val (.int (y0 (0 : Int32))), .val (.int (1 : Int32)), .val (.int (y0 (1 : Int32)))] [(.int (y0 (1 : Int32)))]) (fun tt0 kk0 => XS.iload X11.here hx rfl (hb hby d5_59) rfl kk0) ?_
  refine Go.of (mkF m 63 #[.val (.ref a), .val (.ref p), .val (.double (FP.l2d am)), .second, .val (.int (0 : Int32)), .val (.int (y0 (1 : Int32))), .val (.int (1 : Int32)), .val (.int (y0 (1 : Int32)))] []) (fun tt0 kk0 => XS.istore X11.here hx rfl (hb hby d5_61) rfl (l' := #[.val (.ref a), .val (.ref p), .val (.double (FP.l2d am)), .second, .val (.int (0 : Int32)), .val (.int (y0 (1 : Int32))), .val (.int (1 : Int32)), .val (.int (y0 (1 : Int32)))]) rfl kk0) ?_
  refine Go.of (mkF m 66 #[.val (.ref a), .val (.ref p), .val (.double (FP.l2d am)), .second, .val (.int (0 : Int32)), .val (.int (y0 (1 : Int32))), .val (.int ((1 : Int32) + (1 : Int32))), .val (.int (y0 (1 : Int32)))] []) (fun tt0 kk0 => XS.iinc X11.here hx rfl (hb hby d5_63) rfl (l' := #[.val (.ref a), .val (.ref p), .val (.double (FP.l2d am)), .second, .val (.int (0 : Int32)), .val (.int (y0 (1 : Int32))), .val (.int ((1 : Int32) + (1 : Int32))), .val (.int (y0 (1 : Int32)))]) rfl kk0) ?_
  rw [show ((1 : Int32) + (1 : Int32)) = (2 : Int32) from by decide]
  refine Go.of (mkF m 18 #[.val (.ref a), .val (.ref p), .val (.double (FP.l2d am)), .second, .val (.int (0 : Int32)), .val (.int (y0 (1 : Int32))), .val (.int (2 : Int32)), .val (.int (y0 (1 : Int32)))] []) (fun tt0 kk0 => XS.goto X11.here hx rfl (pc0 := 66) (pc' := 18) rfl (hb hby d5_66) (by decide) (by decide) kk0) ?_
  refine Go.of (mkF m 20 #[.val (.ref a), .val (.ref p), .val (.double (FP.l2d am)), .second, .val (.int (0 : Int32)), .val (.int (y0 (1 : Int32))), .val (.int (2 : Int32)), .val (.int (y0 (1 : Int32)))] [(.int (2 : Int32))]) (fun tt0 kk0 => XS.iload X11.here hx rfl (hb hby d5_18) rfl kk0) ?_
  refine Go.of (mkF m 21 #[.val (.ref a), .val (.ref p), .val (.double (FP.l2d am)), .second, .val (.int (0 : Int32)), .val (.int (y0 (1 : Int32))), .val (.int (2 : Int32)), .val (.int (y0 (1 : Int32)))] [(.ref p), (.int (2 : Int32))]) (fun tt0 kk0 => XS.aloadN X11.here hx rfl (hb hby d5_20) rfl rfl kk0) ?_
  refine Go.of (mkF m 23 #[.val (.ref a), .val (.ref p), .val (.double (FP.l2d am)), .second, .val (.int (0 : Int32)), .val (.int (y0 (1 : Int32))), .val (.int (2 : Int32)), .val (.int (y0 (1 : Int32)))] [(.int (0 : Int32)), (.ref p), (.int (2 : Int32))]) (fun tt0 kk0 => XS.iload X11.here hx rfl (hb hby d5_21) rfl kk0) ?_
  refine Go.virt X11 hx hZ (y := (⟨"com/example/quench/quench/Plan", "routeLength", "(I)I"⟩ : MethodName)) (z := (⟨"com/example/quench/quench/Plan", "routeLength", "(I)I"⟩ : MethodName)) (a := p) (argsL := [(.int (0 : Int32))]) (rest := [(.int (2 : Int32))]) hown (tw52 hw) (tw53 hw) (notFace_of_selects (args := #[]) (mvT hZ (tw55 hw))) (tw55 hw) (tw54 hw) (tw27 hw) (tw56 hw) (by decide) e11 Ep (rmRL0 l Z a0 hw [] p pt c0 c1 yp y0 y1 h11 G VP hp0 hp1 W0 W1) (g := (mkF m 23 #[.val (.ref a), .val (.ref p), .val (.double (FP.l2d am)), .second, .val (.int (0 : Int32)), .val (.int (y0 (1 : Int32))), .val (.int (2 : Int32)), .val (.int (y0 (1 : Int32)))] [(.int (0 : Int32)), (.ref p), (.int (2 : Int32))])) rfl (by rw [hml]; rfl) (lenOf pd13 rfl) rfl (W := 1) (by show 2 * 0 + _ ≤ _; exact Nat.le_of_eq rfl) (hb hby d5_23) (by decide) (by decide) (by decide) (by decide) ?_
  rintro T12 L12 v12 X12 ⟨rfl, rfl, hh12⟩
  have N12 := Fr.app N11 (Fr.nil n0)
  show Go pr ev below _ T12 (mkF m 26 #[.val (.ref a), .val (.ref p), .val (.double (FP.l2d am)), .second, .val (.int (0 : Int32)), .val (.int (y0 (1 : Int32))), .val (.int (2 : Int32)), .val (.int (y0 (1 : Int32)))] [(.int (2 : Int32)), (.int (2 : Int32))])
  refine Go.of (mkF m 69 #[.val (.ref a), .val (.ref p), .val (.double (FP.l2d am)), .second, .val (.int (0 : Int32)), .val (.int (y0 (1 : Int32))), .val (.int (2 : Int32)), .val (.int (y0 (1 : Int32)))] []) (fun tt0 kk0 => XS.icmpYes X12.here hx rfl (pc0 := 26) (pc' := 69) rfl (hb hby d5_26) rfl (flt (by decide)).2.1 (by decide) (by decide) kk0) ?_
  refine Go.of (mkF m 72 #[.val (.ref a), .val (.ref p), .val (.double (FP.l2d am)), .second, .val (.int ((0 : Int32) + (1 : Int32))), .val (.int (y0 (1 : Int32))), .val (.int (2 : Int32)), .val (.int (y0 (1 : Int32)))] []) (fun tt0 kk0 => XS.iinc X12.here hx rfl (hb hby d5_69) rfl (l' := #[.val (.ref a), .val (.ref p), .val (.double (FP.l2d am)), .second, .val (.int ((0 : Int32) + (1 : Int32))), .val (.int (y0 (1 : Int32))), .val (.int (2 : Int32)), .val (.int (y0 (1 : Int32)))]) rfl kk0) ?_
  rw [show ((0 : Int32) + (1 : Int32)) = (1 : Int32) from by decide]
  refine Go.of (mkF m 3 #[.val (.ref a), .val (.ref p), .val (.double (FP.l2d am)), .second, .val (.int (1 : Int32)), .val (.int (y0 (1 : Int32))), .val (.int (2 : Int32)), .val (.int (y0 (1 : Int32)))] []) (fun tt0 kk0 => XS.goto X12.here hx rfl (pc0 := 72) (pc' := 3) rfl (hb hby d5_72) (by decide) (by decide) kk0) ?_
  refine Go.of (mkF m 5 #[.val (.ref a), .val (.ref p), .val (.double (FP.l2d am)), .second, .val (.int (1 : Int32)), .val (.int (y0 (1 : Int32))), .val (.int (2 : Int32)), .val (.int (y0 (1 : Int32)))] [(.int (1 : Int32))]) (fun tt0 kk0 => XS.iload X12.here hx rfl (hb hby d5_3) rfl kk0) ?_
  refine Go.of (mkF m 6 #[.val (.ref a), .val (.ref p), .val (.double (FP.l2d am)), .second, .val (.int (1 : Int32)), .val (.int (y0 (1 : Int32))), .val (.int (2 : Int32)), .val (.int (y0 (1 : Int32)))] [(.ref p), (.int (1 : Int32))]) (fun tt0 kk0 => XS.aloadN X12.here hx rfl (hb hby d5_5) rfl rfl kk0) ?_
  refine Go.virt X12 hx hZ (y := (⟨"com/example/quench/quench/Plan", "robots", "()I"⟩ : MethodName)) (z := (⟨"com/example/quench/quench/Plan", "robots", "()I"⟩ : MethodName)) (a := p) (argsL := []) (rest := [(.int (1 : Int32))]) hown (tw47 hw) (tw48 hw) (notFace_of_selects (args := #[]) (mvT hZ (tw50 hw))) (tw50 hw) (tw49 hw) (tw27 hw) (tw51 hw) (by decide) hh12 Ep (rmRb l Z a0 hw [] p pt c0 c1 yp y0 y1 h11 G VP hp0 hp1 W0 W1) (g := (mkF m 6 #[.val (.ref a), .val (.ref p), .val (.double (FP.l2d am)), .second, .val (.int (1 : Int32)), .val (.int (y0 (1 : Int32))), .val (.int (2 : Int32)), .val (.int (y0 (1 : Int32)))] [(.ref p), (.int (1 : Int32))])) rfl (by rw [hml]; rfl) (lenOf pd12 rfl) rfl (W := 1) (by show 2 * 0 + _ ≤ _; exact Nat.le_of_eq rfl) (hb hby d5_6) (by decide) (by decide) (by decide) (by decide) ?_
  rintro T13 L13 v13 X13 ⟨rfl, rfl, hh13⟩
  have N13 := Fr.app N12 (Fr.nil n0)
  show Go pr ev below _ T13 (mkF m 9 #[.val (.ref a), .val (.ref p), .val (.double (FP.l2d am)), .second, .val (.int (1 : Int32)), .val (.int (y0 (1 : Int32))), .val (.int (2 : Int32)), .val (.int (y0 (1 : Int32)))] [(.int (2 : Int32)), (.int (1 : Int32))])
  refine Go.of (mkF m 12 #[.val (.ref a), .val (.ref p), .val (.double (FP.l2d am)), .second, .val (.int (1 : Int32)), .val (.int (y0 (1 : Int32))), .val (.int (2 : Int32)), .val (.int (y0 (1 : Int32)))] []) (fun tt0 kk0 => XS.icmpNo X13.here hx rfl (hb hby d5_9) rfl (tlt (by decide)).2.1 kk0) ?_
  refine Go.of (mkF m 13 #[.val (.ref a), .val (.ref p), .val (.double (FP.l2d am)), .second, .val (.int (1 : Int32)), .val (.int (y0 (1 : Int32))), .val (.int (2 : Int32)), .val (.int (y0 (1 : Int32)))] [(.int (-1 : Int32))]) (fun tt0 kk0 => XS.iconst X13.here hx rfl (hb hby d5_12) kk0) ?_
  refine Go.of (mkF m 15 #[.val (.ref a), .val (.ref p), .val (.double (FP.l2d am)), .second, .val (.int (1 : Int32)), .val (.int (-1 : Int32)), .val (.int (2 : Int32)), .val (.int (y0 (1 : Int32)))] []) (fun tt0 kk0 => XS.istore X13.here hx rfl (hb hby d5_13) rfl (l' := #[.val (.ref a), .val (.ref p), .val (.double (FP.l2d am)), .second, .val (.int (1 : Int32)), .val (.int (-1 : Int32)), .val (.int (2 : Int32)), .val (.int (y0 (1 : Int32)))]) rfl kk0) ?_
  refine Go.of (mkF m 16 #[.val (.ref a), .val (.ref p), .val (.double (FP.l2d am)), .second, .val (.int (1 : Int32)), .val (.int (-1 : Int32)), .val (.int (2 : Int32)), .val (.int (y0 (1 : Int32)))] [(.int (0 : Int32))]) (fun tt0 kk0 => XS.iconst X13.here hx rfl (hb hby d5_15) kk0) ?_
  refine Go.of (mkF m 18 #[.val (.ref a), .val (.ref p), .val (.double (FP.l2d am)), .second, .val (.int (1 : Int32)), .val (.int (-1 : Int32)), .val (.int (0 : Int32)), .val (.int (y0 (1 : Int32)))] []) (fun tt0 kk0 => XS.istore X13.here hx rfl (hb hby d5_16) rfl (l' := #[.val (.ref a), .val (.ref p), .val (.double (FP.l2d am)), .second, .val (.int (1 : Int32)), .val (.int (-1 : Int32)), .val (.int (0 : Int32)), .val (.int (y0 (1 : Int32)))]) rfl kk0) ?_
  refine Go.of (mkF m 20 #[.val (.ref a), .val (.ref p), .val (.double (FP.l2d am)), .second, .val (.int (1 : Int32)), .val (.int (-1 : Int32)), .val (.int (0 : Int32)), .val (.int (y0 (1 : Int32)))] [(.int (0 : Int32))]) (fun tt0 kk0 => XS.iload X13.here hx rfl (hb hby d5_18) rfl kk0) ?_
  refine Go.of (mkF m 21 #[.val (.ref a), .val (.ref p), .val (.double (FP.l2d am)), .second, .val (.int (1 : Int32)), .val (.int (-1 : Int32)), .val (.int (0 : Int32)), .val (.int (y0 (1 : Int32)))] [(.ref p), (.int (0 : Int32))]) (fun tt0 kk0 => XS.aloadN X13.here hx rfl (hb hby d5_20) rfl rfl kk0) ?_
  refine Go.of (mkF m 23 #[.val (.ref a), .val (.ref p), .val (.double (FP.l2d am)), .second, .val (.int (1 : Int32)), .val (.int (-1 : Int32)), .val (.int (0 : Int32)), .val (.int (y0 (1 : Int32)))] [(.int (1 : Int32)), (.ref p), (.int (0 : Int32))]) (fun tt0 kk0 => XS.iload X13.here hx rfl (hb hby d5_21) rfl kk0) ?_
  refine Go.virt X13 hx hZ (y := (⟨"com/example/quench/quench/Plan", "routeLength", "(I)I"⟩ : MethodName)) (z := (⟨"com/example/quench/quench/Plan", "routeLength", "(I)I"⟩ : MethodName)) (a := p) (argsL := [(.int (1 : Int32))]) (rest := [(.int (0 : Int32))]) hown (tw52 hw) (tw53 hw) (notFace_of_selects (args := #[]) (mvT hZ (tw55 hw))) (tw55 hw) (tw54 hw) (tw27 hw) (tw56 hw) (by decide) hh13 Ep (rmRL1 l Z a0 hw [] p pt c0 c1 yp y0 y1 h11 G VP hp0 hp1 W0 W1) (g := (mkF m 23 #[.val (.ref a), .val (.ref p), .val (.double (FP.l2d am)), .second, .val (.int (1 : Int32)), .val (.int (-1 : Int32)), .val (.int (0 : Int32)), .val (.int (y0 (1 : Int32)))] [(.int (1 : Int32)), (.ref p), (.int (0 : Int32))])) rfl (by rw [hml]; rfl) (lenOf pd13 rfl) rfl (W := 1) (by show 2 * 0 + _ ≤ _; exact Nat.le_of_eq rfl) (hb hby d5_23) (by decide) (by decide) (by decide) (by decide) ?_
  rintro T14 L14 v14 X14 ⟨rfl, rfl, hh14⟩
  have N14 := Fr.app N13 (Fr.nil n0)
  show Go pr ev below _ T14 (mkF m 26 #[.val (.ref a), .val (.ref p), .val (.double (FP.l2d am)), .second, .val (.int (1 : Int32)), .val (.int (-1 : Int32)), .val (.int (0 : Int32)), .val (.int (y0 (1 : Int32)))] [(.int (1 : Int32)), (.int (0 : Int32))])
  refine Go.of (mkF m 29 #[.val (.ref a), .val (.ref p), .val (.double (FP.l2d am)), .second, .val (.int (1 : Int32)), .val (.int (-1 : Int32)), .val (.int (0 : Int32)), .val (.int (y0 (1 : Int32)))] []) (fun tt0 kk0 => XS.icmpNo X14.here hx rfl (hb hby d5_26) rfl (tlt (by decide)).2.1 kk0) ?_
  refine Go.of (mkF m 30 #[.val (.ref a), .val (.ref p), .val (.double (FP.l2d am)), .second, .val (.int (1 : Int32)), .val (.int (-1 : Int32)), .val (.int (0 : Int32)), .val (.int (y0 (1 : Int32)))] [(.ref p)]) (fun tt0 kk0 => XS.aloadN X14.here hx rfl (hb hby d5_29) rfl rfl kk0) ?_
  refine Go.of (mkF m 32 #[.val (.ref a), .val (.ref p), .val (.double (FP.l2d am)), .second, .val (.int (1 : Int32)), .val (.int (-1 : Int32)), .val (.int (0 : Int32)), .val (.int (y0 (1 : Int32)))] [(.int (1 : Int32)), (.ref p)]) (fun tt0 kk0 => XS.iload X14.here hx rfl (hb hby d5_30) rfl kk0) ?_
  refine Go.of (mkF m 34 #[.val (.ref a), .val (.ref p), .val (.double (FP.l2d am)), .second, .val (.int (1 : Int32)), .val (.int (-1 : Int32)), .val (.int (0 : Int32)), .val (.int (y0 (1 : Int32)))] [(.int (0 : Int32)), (.int (1 : Int32)), (.ref p)]) (fun tt0 kk0 => XS.iload X14.here hx rfl (hb hby d5_32) rfl kk0) ?_
  refine Go.virt X14 hx hZ (y := (⟨"com/example/quench/quench/Plan", "task", "(II)I"⟩ : MethodName)) (z := (⟨"com/example/quench/quench/Plan", "task", "(II)I"⟩ : MethodName)) (a := p) (argsL := [(.int (1 : Int32)), (.int (0 : Int32))]) (rest := []) hown (tw57 hw) (tw58 hw) (notFace_of_selects (args := #[]) (mvT hZ (tw60 hw))) (tw60 hw) (tw59 hw) (tw27 hw) (tw61 hw) (by decide) hh14 Ep (rmTk10 l Z a0 hw [] p pt c0 c1 yp y0 y1 h11 G VP hp0 hp1 W0 W1) (g := (mkF m 34 #[.val (.ref a), .val (.ref p), .val (.double (FP.l2d am)), .second, .val (.int (1 : Int32)), .val (.int (-1 : Int32)), .val (.int (0 : Int32)), .val (.int (y0 (1 : Int32)))] [(.int (0 : Int32)), (.int (1 : Int32)), (.ref p)])) rfl (by rw [hml]; rfl) (lenOf pd9 rfl) rfl (W := 0) (by show 2 * 0 + _ ≤ _; exact Nat.le_of_eq rfl) (hb hby d5_34) (by decide) (by decide) (by decide) (by decide) ?_
  rintro T15 L15 v15 X15 ⟨rfl, rfl, hh15⟩
  have N15 := Fr.app N14 (Fr.nil n0)
  show Go pr ev below _ T15 (mkF m 37 #[.val (.ref a), .val (.ref p), .val (.double (FP.l2d am)), .second, .val (.int (1 : Int32)), .val (.int (-1 : Int32)), .val (.int (0 : Int32)), .val (.int (y0 (1 : Int32)))] [(.int (y1 (0 : Int32)))])
  refine Go.of (mkF m 39 #[.val (.ref a), .val (.ref p), .val (.double (FP.l2d am)), .second, .val (.int (1 : Int32)), .val (.int (-1 : Int32)), .val (.int (0 : Int32)), .val (.int (y1 (0 : Int32)))] []) (fun tt0 kk0 => XS.istore X15.here hx rfl (hb hby d5_37) rfl (l' := #[.val (.ref a), .val (.ref p), .val (.double (FP.l2d am)), .second, .val (.int (1 : Int32)), .val (.int (-1 : Int32)), .val (.int (0 : Int32)), .val (.int (y1 (0 : Int32)))]) rfl kk0) ?_
  refine Go.of (mkF m 40 #[.val (.ref a), .val (.ref p), .val (.double (FP.l2d am)), .second, .val (.int (1 : Int32)), .val (.int (-1 : Int32)), .val (.int (0 : Int32)), .val (.int (y1 (0 : Int32)))] [(.ref a)]) (fun tt0 kk0 => XS.aloadN X15.here hx rfl (hb hby d5_39) rfl rfl kk0) ?_
  obtain ⟨T16, X16, e16, st16⟩ := getF X15 hx hZ hown (host := "") (Or.inl (tw19 hw)) Via.refl hh15 Fq (g := (mkF m 40 #[.val (.ref a), .val (.ref p), .val (.double (FP.l2d am)), .second, .val (.int (1 : Int32)), .val (.int (-1 : Int32)), .val (.int (0 : Int32)), .val (.int (y1 (0 : Int32)))] [(.ref a)])) rfl rfl (hb hby d5_40)
  refine Go.of (mkF m 43 #[.val (.ref a), .val (.ref p), .val (.double (FP.l2d am)), .second, .val (.int (1 : Int32)), .val (.int (-1 : Int32)), .val (.int (0 : Int32)), .val (.int (y1 (0 : Int32)))] [(.ref t)]) (st16) ?_
  refine Go.of (mkF m 45 #[.val (.ref a), .val (.ref p), .val (.double (FP.l2d am)), .second, .val (.int (1 : Int32)), .val (.int (-1 : Int32)), .val (.int (0 : Int32)), .val (.int (y1 (0 : Int32)))] [(.int (1 : Int32)), (.ref t)]) (fun tt0 kk0 => XS.iload X16.here hx rfl (hb hby d5_43) rfl kk0) ?_
  refine Go.aaload X16 hx hZ e16 VT rfl (by decide) (by decide) (g := (mkF m 45 #[.val (.ref a), .val (.ref p), .val (.double (FP.l2d am)), .second, .val (.int (1 : Int32)), .val (.int (-1 : Int32)), .val (.int (0 : Int32)), .val (.int (y1 (0 : Int32)))] [(.int (1 : Int32)), (.ref t)])) rfl rfl (hb hby d5_45) ?_
  show Go pr ev below _ T16 (mkF m 46 #[.val (.ref a), .val (.ref p), .val (.double (FP.l2d am)), .second, .val (.int (1 : Int32)), .val (.int (-1 : Int32)), .val (.int (0 : Int32)), .val (.int (y1 (0 : Int32)))] [(yt (1 : Int32))])
  rw [show (yt (1 : Int32)) = (.ref r1) from hy1]
  show Go pr ev below _ T16 (mkF m 46 #[.val (.ref a), .val (.ref p), .val (.double (FP.l2d am)), .second, .val (.int (1 : Int32)), .val (.int (-1 : Int32)), .val (.int (0 : Int32)), .val (.int (y1 (0 : Int32)))] [(.ref r1)])
  refine Go.of (mkF m 47 #[.val (.ref a), .val (.ref p), .val (.double (FP.l2d am)), .second, .val (.int (1 : Int32)), .val (.int (-1 : Int32)), .val (.int (0 : Int32)), .val (.int (y1 (0 : Int32)))] [(.ref a), (.ref r1)]) (fun tt0 kk0 => XS.aloadN X16.here hx rfl (hb hby d5_46) rfl rfl kk0) ?_
  refine Go.of (mkF m 49 #[.val (.ref a), .val (.ref p), .val (.double (FP.l2d am)), .second, .val (.int (1 : Int32)), .val (.int (-1 : Int32)), .val (.int (0 : Int32)), .val (.int (y1 (0 : Int32)))] [(.int (-1 : Int32)), (.ref a), (.ref r1)]) (fun tt0 kk0 => XS.iload X16.here hx rfl (hb hby d5_47) rfl kk0) ?_
  refine Go.of (mkF m 51 #[.val (.ref a), .val (.ref p), .val (.double (FP.l2d am)), .second, .val (.int (1 : Int32)), .val (.int (-1 : Int32)), .val (.int (0 : Int32)), .val (.int (y1 (0 : Int32)))] [(.int (y1 (0 : Int32))), (.int (-1 : Int32)), (.ref a), (.ref r1)]) (fun tt0 kk0 => XS.iload X16.here hx rfl (hb hby d5_49) rfl kk0) ?_
  refine Go.priv X16 hx hZ (y := (⟨"com/example/quench/quench/Pheromones", "move", "(II)I"⟩ : MethodName)) (a := a) (argsL := [(.int (-1 : Int32)), (.int (y1 (0 : Int32)))]) (rest := [(.ref r1)]) hown (tw62 hw) (tw63 hw) (Jvm.Kit.selects_private (by decide) (tw6 hw) (tw64 hw) (tw63 hw)) (tw64 hw) (tw7 hw) (tw65 hw) (by decide) e16 E (rmMv l Z a0 hw [] a (-1 : Int32) (y1 (0 : Int32)) h11 Ft) (g := (mkF m 51 #[.val (.ref a), .val (.ref p), .val (.double (FP.l2d am)), .second, .val (.int (1 : Int32)), .val (.int (-1 : Int32)), .val (.int (0 : Int32)), .val (.int (y1 (0 : Int32)))] [(.int (y1 (0 : Int32))), (.int (-1 : Int32)), (.ref a), (.ref r1)])) rfl (by rw [hml]; rfl) (lenOf pd9 rfl) rfl (W := 1) (by show 2 * 0 + _ ≤ _; exact Nat.le_of_eq rfl) (hb hby d5_51) (by decide) (by decide) (by decide) (by decide) ?_
  rintro T17 L17 v17 X17 ⟨rfl, rfl, hh17⟩
  have N17 := Fr.app N15 (Fr.nil n0)
  show Go pr ev below _ T17 (mkF m 54 #[.val (.ref a), .val (.ref p), .val (.double (FP.l2d am)), .second, .val (.int (1 : Int32)), .val (.int (-1 : Int32)), .val (.int (0 : Int32)), .val (.int (y1 (0 : Int32)))] [(.int (own_mv (-1 : Int32) (y1 (0 : Int32)))), (.ref r1)])
  refine Go.of (mkF m 55 #[.val (.ref a), .val (.ref p), .val (.double (FP.l2d am)), .second, .val (.int (1 : Int32)), .val (.int (-1 : Int32)), .val (.int (0 : Int32)), .val (.int (y1 (0 : Int32)))] [(.int (own_mv (-1 : Int32) (y1 (0 : Int32)))), (.ref r1), (.int (own_mv (-1 : Int32) (y1 (0 : Int32)))), (.ref r1)]) (fun tt0 kk0 => by jvm_step X17.here [X17.here.top, hx, (hb hby d5_54), Value.category]; exact kk0) ?_
  refine Go.daload X17 hx hZ hh17 V1 (own_rng (Or.inl rfl) t2).1 (own_rng (Or.inl rfl) t2).2 (g := (mkF m 55 #[.val (.ref a), .val (.ref p), .val (.double (FP.l2d am)), .second, .val (.int (1 : Int32)), .val (.int (-1 : Int32)), .val (.int (0 : Int32)), .val (.int (y1 (0 : Int32)))] [(.int (own_mv (-1 : Int32) (y1 (0 : Int32)))), (.ref r1), (.int (own_mv (-1 : Int32) (y1 (0 : Int32)))), (.ref r1)])) rfl rfl (hb hby d5_55) ?_
  show Go pr ev below _ T17 (mkF m 56 #[.val (.ref a), .val (.ref p), .val (.double (FP.l2d am)), .second, .val (.int (1 : Int32)), .val (.int (-1 : Int32)), .val (.int (0 : Int32)), .val (.int (y1 (0 : Int32)))] [(.double (z1 (own_mv (-1 : Int32) (y1 (0 : Int32))))), (.int (own_mv (-1 : Int32) (y1 (0 : Int32)))), (.ref r1)])
  refine Go.of (mkF m 57 #[.val (.ref a), .val (.ref p), .val (.double (FP.l2d am)), .second, .val (.int (1 : Int32)), .val (.int (-1 : Int32)), .val (.int (0 : Int32)), .val (.int (y1 (0 : Int32)))] [(.double (FP.l2d am)), (.double (z1 (own_mv (-1 : Int32) (y1 (0 : Int32))))), (.int (own_mv (-1 : Int32) (y1 (0 : Int32)))), (.ref r1)]) (fun tt0 kk0 => XS.dloadN X17.here hx rfl (hb hby d5_56) rfl kk0) ?_
  refine Go.of (mkF m 58 #[.val (.ref a), .val (.ref p), .val (.double (FP.l2d am)), .second, .val (.int (1 : Int32)), .val (.int (-1 : Int32)), .val (.int (0 : Int32)), .val (.int (y1 (0 : Int32)))] [(.double (FP.dadd (z1 (own_mv (-1 : Int32) (y1 (0 : Int32)))) (FP.l2d am))), (.int (own_mv (-1 : Int32) (y1 (0 : Int32)))), (.ref r1)]) (fun tt0 kk0 => XS.daddS X17.here hx rfl (hb hby d5_57) rfl (own_nn (by omega) hB1 hc _) rfl kk0) ?_
  refine Go.dastore X17 hx hZ hh17 V1 (own_rng (Or.inl rfl) t2).1 (own_rng (Or.inl rfl) t2).2 (g := (mkF m 58 #[.val (.ref a), .val (.ref p), .val (.double (FP.l2d am)), .second, .val (.int (1 : Int32)), .val (.int (-1 : Int32)), .val (.int (0 : Int32)), .val (.int (y1 (0 : Int32)))] [(.double (FP.dadd (z1 (own_mv (-1 : Int32) (y1 (0 : Int32)))) (FP.l2d am))), (.int (own_mv (-1 : Int32) (y1 (0 : Int32)))), (.ref r1)])) rfl rfl (hb hby d5_58) ?_
  rintro T18 h18 X18 e18 W18 V18
  replace Ft := Ft.other W18 (Or.inl na1)
  replace Fq := Fq.other W18 (Or.inl na1)
  replace G := G.other W18 (Or.inl mpr1)
  replace E := E.wr W18
  replace Ep := Ep.wr W18
  replace VT := VT.other W18 nt1
  replace V0 := V0.other W18 n01
  replace VP := VP.other W18 mptr1
  replace W0 := W0.other W18 mc0r1
  replace W1 := W1.other W18 mc1r1
  replace hz := Nat.le_trans hz (Nat.le_of_eq W18.size.symm)
  replace K0 := K0.wr W18 (Or.inl (by simp))
  replace V1 := V18
  have N18 := Fr.snoc X18 N17 gr1
  show Go pr ev below _ T18 (mkF m 59 #[.val (.ref a), .val (.ref p), .val (.double (FP.l2d am)), .second, .val (.int (1 : Int32)), .val (.int (-1 : Int32)), .val (.int (0 : Int32)), .val (.int (y1 (0 : Int32)))] [])
  refine Go.of (mkF m 61 #[.val (.ref a), .val (.ref p), .val (.double (FP.l2d am)), .second, .val (.int (1 : Int32)), .val (.int (-1 : Int32)), .val (.int (0 : Int32)), .val (.int (y1 (0 : Int32)))] [(.int (y1 (0 : Int32)))]) (fun tt0 kk0 => XS.iload X18.here hx rfl (hb hby d5_59) rfl kk0) ?_
  refine Go.of (mkF m 63 #[.val (.ref a), .val (.ref p), .val (.double (FP.l2d am)), .second, .val (.int (1 : Int32)), .val (.int (y1 (0 : Int32))), .val (.int (0 : Int32)), .val (.int (y1 (0 : Int32)))] []) (fun tt0 kk0 => XS.istore X18.here hx rfl (hb hby d5_61) rfl (l' := #[.val (.ref a), .val (.ref p), .val (.double (FP.l2d am)), .second, .val (.int (1 : Int32)), .val (.int (y1 (0 : Int32))), .val (.int (0 : Int32)), .val (.int (y1 (0 : Int32)))]) rfl kk0) ?_
  refine Go.of (mkF m 66 #[.val (.ref a), .val (.ref p), .val (.double (FP.l2d am)), .second, .val (.int (1 : Int32)), .val (.int (y1 (0 : Int32))), .val (.int ((0 : Int32) + (1 : Int32))), .val (.int (y1 (0 : Int32)))] []) (fun tt0 kk0 => XS.iinc X18.here hx rfl (hb hby d5_63) rfl (l' := #[.val (.ref a), .val (.ref p), .val (.double (FP.l2d am)), .second, .val (.int (1 : Int32)), .val (.int (y1 (0 : Int32))), .val (.int ((0 : Int32) + (1 : Int32))), .val (.int (y1 (0 : Int32)))]) rfl kk0) ?_
  rw [show ((0 : Int32) + (1 : Int32)) = (1 : Int32) from by decide]
  refine Go.of (mkF m 18 #[.val (.ref a), .val (.ref p), .val (.double (FP.l2d am)), .second, .val (.int (1 : Int32)), .val (.int (y1 (0 : Int32))), .val (.int (1 : Int32)), .val (.int (y1 (0 : Int32)))] []) (fun tt0 kk0 => XS.goto X18.here hx rfl (pc0 := 66) (pc' := 18) rfl (hb hby d5_66) (by decide) (by decide) kk0) ?_
  refine Go.of (mkF m 20 #[.val (.ref a), .val (.ref p), .val (.double (FP.l2d am)), .second, .val (.int (1 : Int32)), .val (.int (y1 (0 : Int32))), .val (.int (1 : Int32)), .val (.int (y1 (0 : Int32)))] [(.int (1 : Int32))]) (fun tt0 kk0 => XS.iload X18.here hx rfl (hb hby d5_18) rfl kk0) ?_
  refine Go.of (mkF m 21 #[.val (.ref a), .val (.ref p), .val (.double (FP.l2d am)), .second, .val (.int (1 : Int32)), .val (.int (y1 (0 : Int32))), .val (.int (1 : Int32)), .val (.int (y1 (0 : Int32)))] [(.ref p), (.int (1 : Int32))]) (fun tt0 kk0 => XS.aloadN X18.here hx rfl (hb hby d5_20) rfl rfl kk0) ?_
  refine Go.of (mkF m 23 #[.val (.ref a), .val (.ref p), .val (.double (FP.l2d am)), .second, .val (.int (1 : Int32)), .val (.int (y1 (0 : Int32))), .val (.int (1 : Int32)), .val (.int (y1 (0 : Int32)))] [(.int (1 : Int32)), (.ref p), (.int (1 : Int32))]) (fun tt0 kk0 => XS.iload X18.here hx rfl (hb hby d5_21) rfl kk0) ?_
  refine Go.virt X18 hx hZ (y := (⟨"com/example/quench/quench/Plan", "routeLength", "(I)I"⟩ : MethodName)) (z := (⟨"com/example/quench/quench/Plan", "routeLength", "(I)I"⟩ : MethodName)) (a := p) (argsL := [(.int (1 : Int32))]) (rest := [(.int (1 : Int32))]) hown (tw52 hw) (tw53 hw) (notFace_of_selects (args := #[]) (mvT hZ (tw55 hw))) (tw55 hw) (tw54 hw) (tw27 hw) (tw56 hw) (by decide) e18 Ep (rmRL1 l Z a0 hw [] p pt c0 c1 yp y0 y1 h18 G VP hp0 hp1 W0 W1) (g := (mkF m 23 #[.val (.ref a), .val (.ref p), .val (.double (FP.l2d am)), .second, .val (.int (1 : Int32)), .val (.int (y1 (0 : Int32))), .val (.int (1 : Int32)), .val (.int (y1 (0 : Int32)))] [(.int (1 : Int32)), (.ref p), (.int (1 : Int32))])) rfl (by rw [hml]; rfl) (lenOf pd13 rfl) rfl (W := 1) (by show 2 * 0 + _ ≤ _; exact Nat.le_of_eq rfl) (hb hby d5_23) (by decide) (by decide) (by decide) (by decide) ?_
  rintro T19 L19 v19 X19 ⟨rfl, rfl, hh19⟩
  have N19 := Fr.app N18 (Fr.nil n0)
  show Go pr ev below _ T19 (mkF m 26 #[.val (.ref a), .val (.ref p), .val (.double (FP.l2d am)), .second, .val (.int (1 : Int32)), .val (.int (y1 (0 : Int32))), .val (.int (1 : Int32)), .val (.int (y1 (0 : Int32)))] [(.int (1 : Int32)), (.int (1 : Int32))])
  refine Go.of (mkF m 69 #[.val (.ref a), .val (.ref p), .val (.double (FP.l2d am)), .second, .val (.int (1 : Int32)), .val (.int (y1 (0 : Int32))), .val (.int (1 : Int32)), .val (.int (y1 (0 : Int32)))] []) (fun tt0 kk0 => XS.icmpYes X19.here hx rfl (pc0 := 26) (pc' := 69) rfl (hb hby d5_26) rfl (flt (by decide)).2.1 (by decide) (by decide) kk0) ?_
  refine Go.of (mkF m 72 #[.val (.ref a), .val (.ref p), .val (.double (FP.l2d am)), .second, .val (.int ((1 : Int32) + (1 : Int32))), .val (.int (y1 (0 : Int32))), .val (.int (1 : Int32)), .val (.int (y1 (0 : Int32)))] []) (fun tt0 kk0 => XS.iinc X19.here hx rfl (hb hby d5_69) rfl (l' := #[.val (.ref a), .val (.ref p), .val (.double (FP.l2d am)), .second, .val (.int ((1 : Int32) + (1 : Int32))), .val (.int (y1 (0 : Int32))), .val (.int (1 : Int32)), .val (.int (y1 (0 : Int32)))]) rfl kk0) ?_
  rw [show ((1 : Int32) + (1 : Int32)) = (2 : Int32) from by decide]
  refine Go.of (mkF m 3 #[.val (.ref a), .val (.ref p), .val (.double (FP.l2d am)), .second, .val (.int (2 : Int32)), .val (.int (y1 (0 : Int32))), .val (.int (1 : Int32)), .val (.int (y1 (0 : Int32)))] []) (fun tt0 kk0 => XS.goto X19.here hx rfl (pc0 := 72) (pc' := 3) rfl (hb hby d5_72) (by decide) (by decide) kk0) ?_
  refine Go.of (mkF m 5 #[.val (.ref a), .val (.ref p), .val (.double (FP.l2d am)), .second, .val (.int (2 : Int32)), .val (.int (y1 (0 : Int32))), .val (.int (1 : Int32)), .val (.int (y1 (0 : Int32)))] [(.int (2 : Int32))]) (fun tt0 kk0 => XS.iload X19.here hx rfl (hb hby d5_3) rfl kk0) ?_
  refine Go.of (mkF m 6 #[.val (.ref a), .val (.ref p), .val (.double (FP.l2d am)), .second, .val (.int (2 : Int32)), .val (.int (y1 (0 : Int32))), .val (.int (1 : Int32)), .val (.int (y1 (0 : Int32)))] [(.ref p), (.int (2 : Int32))]) (fun tt0 kk0 => XS.aloadN X19.here hx rfl (hb hby d5_5) rfl rfl kk0) ?_
  refine Go.virt X19 hx hZ (y := (⟨"com/example/quench/quench/Plan", "robots", "()I"⟩ : MethodName)) (z := (⟨"com/example/quench/quench/Plan", "robots", "()I"⟩ : MethodName)) (a := p) (argsL := []) (rest := [(.int (2 : Int32))]) hown (tw47 hw) (tw48 hw) (notFace_of_selects (args := #[]) (mvT hZ (tw50 hw))) (tw50 hw) (tw49 hw) (tw27 hw) (tw51 hw) (by decide) hh19 Ep (rmRb l Z a0 hw [] p pt c0 c1 yp y0 y1 h18 G VP hp0 hp1 W0 W1) (g := (mkF m 6 #[.val (.ref a), .val (.ref p), .val (.double (FP.l2d am)), .second, .val (.int (2 : Int32)), .val (.int (y1 (0 : Int32))), .val (.int (1 : Int32)), .val (.int (y1 (0 : Int32)))] [(.ref p), (.int (2 : Int32))])) rfl (by rw [hml]; rfl) (lenOf pd12 rfl) rfl (W := 1) (by show 2 * 0 + _ ≤ _; exact Nat.le_of_eq rfl) (hb hby d5_6) (by decide) (by decide) (by decide) (by decide) ?_
  rintro T20 L20 v20 X20 ⟨rfl, rfl, hh20⟩
  have N20 := Fr.app N19 (Fr.nil n0)
  show Go pr ev below _ T20 (mkF m 9 #[.val (.ref a), .val (.ref p), .val (.double (FP.l2d am)), .second, .val (.int (2 : Int32)), .val (.int (y1 (0 : Int32))), .val (.int (1 : Int32)), .val (.int (y1 (0 : Int32)))] [(.int (2 : Int32)), (.int (2 : Int32))])
  refine Go.of (mkF m 75 #[.val (.ref a), .val (.ref p), .val (.double (FP.l2d am)), .second, .val (.int (2 : Int32)), .val (.int (y1 (0 : Int32))), .val (.int (1 : Int32)), .val (.int (y1 (0 : Int32)))] []) (fun tt0 kk0 => XS.icmpYes X20.here hx rfl (pc0 := 9) (pc' := 75) rfl (hb hby d5_9) rfl (flt (by decide)).2.1 (by decide) (by decide) kk0) ?_
  exact Go.retV X20 hx hret hlk (hb hby d5_75) (by decide) (by decide) (by rw [hh20]; exact ⟨_, _, rfl, N20, K0, (fun j => (own_addw (B := B + 255) (by omega) (own_addw (by omega) hB0 hc _) hc _ j).imp fun n q => ⟨q.1, q.2.1, by have := q.2.2; omega⟩), (fun j => (own_addw (by omega) hB1 hc _ j).imp fun n q => ⟨q.1, q.2.1, by have := q.2.2; omega⟩), V0, V1⟩)
theorem ef_rm0 (m : MethodId) (x0 : Int32) (x1 : Int32) (x2 : Int32) (x3 : Int32) (x4 : Int32) : entryFrame m #[(.int x0), (.int x1), (.int x2), (.int x3), (.int x4)] maxLocals = mkF m 0 #[.val (.int x0), .val (.int x1), .val (.int x2), .val (.int x3), .val (.int x4), .unset, .unset, .unset, .unset, .unset, .unset, .unset, .unset, .unset, .unset, .unset, .unset, .unset, .unset, .unset] [] := by first | (simp [entryFrame, mkF, argsToLocals, Value.category, maxLocals]; done) | rfl
set_option maxRecDepth 65536 in
set_option maxHeartbeats 40000000 in
theorem rm0 (l : Launch) (Z : State) (a0 : Array Value) (hw : ∀ d ∈ tables_1, d.before a0 Z = true) (ws : List Jvm.Cond) (p0 p1 p2 p3 p4 : Int32) (h0 : Heap) (n0 : Nat) (hz0 : n0 ≤ h0.size) :
    Met l Z x code maxLocals ret ws room_1 #[(.int p0), (.int p1), (.int p2), (.int p3), (.int p4)] h0 (fun v h L => v = some (.int 1) ∧ Fr n0 L) := by
  refine Met.intro pn14 ?_
  intro pr ev s m below meth c T0 X0 hx hZ hown hby hml hret hlk hnm e0
  refine Go.cast (ef_rm0 m p0 p1 p2 p3 p4) ?_
  have N0 := Fr.nil n0
  have hz := hz0
  refine Go.of (mkF m 1 #[.val (.int p0), .val (.int p1), .val (.int p2), .val (.int p3), .val (.int p4), .unset, .unset, .unset, .unset, .unset, .unset, .unset, .unset, .unset, .unset, .unset, .unset, .unset, .unset, .unset] [(.int p0)]) (fun tt0 kk0 => XS.iloadN X0.here hx rfl (hb hby at_0) rfl kk0) ?_
  refine Go.of (mkF m 4 #[.val (.int p0), .val (.int p1), .val (.int p2), .val (.int p3), .val (.int p4), .unset, .unset, .unset, .unset, .unset, .unset, .unset, .unset, .unset, .unset, .unset, .unset, .unset, .unset, .unset] [(.int (1023 : Int32)), (.int p0)]) (fun tt0 kk0 => XS.sipush X0.here hx rfl (hb hby at_1) kk0) ?_
  refine Go.of (mkF m 5 #[.val (.int p0), .val (.int p1), .val (.int p2), .val (.int p3), .val (.int p4), .unset, .unset, .unset, .unset, .unset, .unset, .unset, .unset, .unset, .unset, .unset, .unset, .unset, .unset, .unset] [(.int (p0 &&& (1023 : Int32)))]) (fun tt0 kk0 => XS.iand X0.here hx rfl (hb hby at_4) rfl kk0) ?_
  refine Go.of (mkF m 6 #[.val (.int p0), .val (.int p1), .val (.int p2), .val (.int p3), .val (.int p4), .unset, .unset, .unset, .unset, .unset, .unset, .unset, .unset, .unset, .unset, .unset, .unset, .unset, .unset, .unset] [(.double (FP.i2d (p0 &&& (1023 : Int32))))]) (fun tt0 kk0 => XS.i2dS X0.here hx rfl (hb hby at_5) rfl rfl kk0) ?_
  refine Go.of (mkF m 8 #[.val (.int p0), .val (.int p1), .val (.int p2), .val (.int p3), .val (.int p4), .val (.double (FP.i2d (p0 &&& (1023 : Int32)))), .second, .unset, .unset, .unset, .unset, .unset, .unset, .unset, .unset, .unset, .unset, .unset, .unset, .unset] []) (fun tt0 kk0 => XS.dstore X0.here hx rfl (hb hby at_6) rfl (l' := #[.val (.int p0), .val (.int p1), .val (.int p2), .val (.int p3), .val (.int p4), .val (.double (FP.i2d (p0 &&& (1023 : Int32)))), .second, .unset, .unset, .unset, .unset, .unset, .unset, .unset, .unset, .unset, .unset, .unset, .unset, .unset]) rfl kk0) ?_
  have hst : (FP.i2d (p0 &&& (1023 : Int32))) = FP.l2d (p0 &&& 1023).toInt64 := i2d_w _
  have hs0 := own_mask p0 1023 10 (by decide) (by decide)
  refine Go.of (mkF m 9 #[.val (.int p0), .val (.int p1), .val (.int p2), .val (.int p3), .val (.int p4), .val (.double (FP.i2d (p0 &&& (1023 : Int32)))), .second, .unset, .unset, .unset, .unset, .unset, .unset, .unset, .unset, .unset, .unset, .unset, .unset, .unset] [(.int p1)]) (fun tt0 kk0 => XS.iloadN X0.here hx rfl (hb hby at_8) rfl kk0) ?_
  refine Go.of (mkF m 11 #[.val (.int p0), .val (.int p1), .val (.int p2), .val (.int p3), .val (.int p4), .val (.double (FP.i2d (p0 &&& (1023 : Int32)))), .second, .unset, .unset, .unset, .unset, .unset, .unset, .unset, .unset, .unset, .unset, .unset, .unset, .unset] [(.int (31 : Int32)), (.int p1)]) (fun tt0 kk0 => XS.bipush X0.here hx rfl (hb hby at_9) kk0) ?_
  refine Go.of (mkF m 12 #[.val (.int p0), .val (.int p1), .val (.int p2), .val (.int p3), .val (.int p4), .val (.double (FP.i2d (p0 &&& (1023 : Int32)))), .second, .unset, .unset, .unset, .unset, .unset, .unset, .unset, .unset, .unset, .unset, .unset, .unset, .unset] [(.int (p1 &&& (31 : Int32)))]) (fun tt0 kk0 => XS.iand X0.here hx rfl (hb hby at_11) rfl kk0) ?_
  refine Go.of (mkF m 14 #[.val (.int p0), .val (.int p1), .val (.int p2), .val (.int p3), .val (.int p4), .val (.double (FP.i2d (p0 &&& (1023 : Int32)))), .second, .unset, .unset, .unset, .unset, .unset, .unset, .unset, .unset, .unset, .unset, .unset, .unset, .unset] [(.int (8 : Int32)), (.int (p1 &&& (31 : Int32)))]) (fun tt0 kk0 => XS.bipush X0.here hx rfl (hb hby at_12) kk0) ?_
  refine Go.of (mkF m 15 #[.val (.int p0), .val (.int p1), .val (.int p2), .val (.int p3), .val (.int p4), .val (.double (FP.i2d (p0 &&& (1023 : Int32)))), .second, .unset, .unset, .unset, .unset, .unset, .unset, .unset, .unset, .unset, .unset, .unset, .unset, .unset] [(.int ((p1 &&& (31 : Int32)) - (8 : Int32)))]) (fun tt0 kk0 => XS.isub X0.here hx rfl (hb hby at_14) rfl kk0) ?_
  refine Go.of (mkF m 16 #[.val (.int p0), .val (.int p1), .val (.int p2), .val (.int p3), .val (.int p4), .val (.double (FP.i2d (p0 &&& (1023 : Int32)))), .second, .unset, .unset, .unset, .unset, .unset, .unset, .unset, .unset, .unset, .unset, .unset, .unset, .unset] [(.double (FP.i2d ((p1 &&& (31 : Int32)) - (8 : Int32))))]) (fun tt0 kk0 => XS.i2dS X0.here hx rfl (hb hby at_15) rfl rfl kk0) ?_
  refine Go.of (mkF m 19 #[.val (.int p0), .val (.int p1), .val (.int p2), .val (.int p3), .val (.int p4), .val (.double (FP.i2d (p0 &&& (1023 : Int32)))), .second, .unset, .unset, .unset, .unset, .unset, .unset, .unset, .unset, .unset, .unset, .unset, .unset, .unset] [(.double (4620693217682128896 : UInt64)), (.double (FP.i2d ((p1 &&& (31 : Int32)) - (8 : Int32))))]) (fun tt0 kk0 => X0.ldc2DoubleC hx hown (mvT hZ (tw0 hw)) (g := (mkF m 16 #[.val (.int p0), .val (.int p1), .val (.int p2), .val (.int p3), .val (.int p4), .val (.double (FP.i2d (p0 &&& (1023 : Int32)))), .second, .unset, .unset, .unset, .unset, .unset, .unset, .unset, .unset, .unset, .unset, .unset, .unset, .unset] [(.double (FP.i2d ((p1 &&& (31 : Int32)) - (8 : Int32))))])) rfl (hb hby at_16) _ kk0) ?_
  refine Go.of (mkF m 20 #[.val (.int p0), .val (.int p1), .val (.int p2), .val (.int p3), .val (.int p4), .val (.double (FP.i2d (p0 &&& (1023 : Int32)))), .second, .unset, .unset, .unset, .unset, .unset, .unset, .unset, .unset, .unset, .unset, .unset, .unset, .unset] [(.double (FP.ddiv (FP.i2d ((p1 &&& (31 : Int32)) - (8 : Int32))) (4620693217682128896 : UInt64)))]) (fun tt0 kk0 => XS.ddivS X0.here hx rfl (hb hby at_19) rfl (own_sh p1).2 rfl kk0) ?_
  refine Go.of (mkF m 22 #[.val (.int p0), .val (.int p1), .val (.int p2), .val (.int p3), .val (.int p4), .val (.double (FP.i2d (p0 &&& (1023 : Int32)))), .second, .val (.double (FP.ddiv (FP.i2d ((p1 &&& (31 : Int32)) - (8 : Int32))) (4620693217682128896 : UInt64))), .second, .unset, .unset, .unset, .unset, .unset, .unset, .unset, .unset, .unset, .unset, .unset] []) (fun tt0 kk0 => XS.dstore X0.here hx rfl (hb hby at_20) rfl (l' := #[.val (.int p0), .val (.int p1), .val (.int p2), .val (.int p3), .val (.int p4), .val (.double (FP.i2d (p0 &&& (1023 : Int32)))), .second, .val (.double (FP.ddiv (FP.i2d ((p1 &&& (31 : Int32)) - (8 : Int32))) (4620693217682128896 : UInt64))), .second, .unset, .unset, .unset, .unset, .unset, .unset, .unset, .unset, .unset, .unset, .unset]) rfl kk0) ?_
  have hF := (own_sh p1).1
  generalize hu : (FP.ddiv (FP.i2d ((p1 &&& (31 : Int32)) - (8 : Int32))) (4620693217682128896 : UInt64)) = u
  rw [hu] at hF
  refine Go.of (mkF m 23 #[.val (.int p0), .val (.int p1), .val (.int p2), .val (.int p3), .val (.int p4), .val (.double (FP.i2d (p0 &&& (1023 : Int32)))), .second, .val (.double u), .second, .unset, .unset, .unset, .unset, .unset, .unset, .unset, .unset, .unset, .unset, .unset] [(.int p2)]) (fun tt0 kk0 => XS.iloadN X0.here hx rfl (hb hby at_22) rfl kk0) ?_
  refine Go.of (mkF m 26 #[.val (.int p0), .val (.int p1), .val (.int p2), .val (.int p3), .val (.int p4), .val (.double (FP.i2d (p0 &&& (1023 : Int32)))), .second, .val (.double u), .second, .unset, .unset, .unset, .unset, .unset, .unset, .unset, .unset, .unset, .unset, .unset] [(.int (255 : Int32)), (.int p2)]) (fun tt0 kk0 => XS.sipush X0.here hx rfl (hb hby at_23) kk0) ?_
  refine Go.of (mkF m 27 #[.val (.int p0), .val (.int p1), .val (.int p2), .val (.int p3), .val (.int p4), .val (.double (FP.i2d (p0 &&& (1023 : Int32)))), .second, .val (.double u), .second, .unset, .unset, .unset, .unset, .unset, .unset, .unset, .unset, .unset, .unset, .unset] [(.int (p2 &&& (255 : Int32)))]) (fun tt0 kk0 => XS.iand X0.here hx rfl (hb hby at_26) rfl kk0) ?_
  refine Go.of (mkF m 28 #[.val (.int p0), .val (.int p1), .val (.int p2), .val (.int p3), .val (.int p4), .val (.double (FP.i2d (p0 &&& (1023 : Int32)))), .second, .val (.double u), .second, .unset, .unset, .unset, .unset, .unset, .unset, .unset, .unset, .unset, .unset, .unset] [(.double (FP.i2d (p2 &&& (255 : Int32))))]) (fun tt0 kk0 => XS.i2dS X0.here hx rfl (hb hby at_27) rfl rfl kk0) ?_
  refine Go.of (mkF m 30 #[.val (.int p0), .val (.int p1), .val (.int p2), .val (.int p3), .val (.int p4), .val (.double (FP.i2d (p0 &&& (1023 : Int32)))), .second, .val (.double u), .second, .val (.double (FP.i2d (p2 &&& (255 : Int32)))), .second, .unset, .unset, .unset, .unset, .unset, .unset, .unset, .unset, .unset] []) (fun tt0 kk0 => XS.dstore X0.here hx rfl (hb hby at_28) rfl (l' := #[.val (.int p0), .val (.int p1), .val (.int p2), .val (.int p3), .val (.int p4), .val (.double (FP.i2d (p0 &&& (1023 : Int32)))), .second, .val (.double u), .second, .val (.double (FP.i2d (p2 &&& (255 : Int32)))), .second, .unset, .unset, .unset, .unset, .unset, .unset, .unset, .unset, .unset]) rfl kk0) ?_
  have ham := own_mask p2 255 8 (by decide) (by decide)
  rw [i2d_w (p2 &&& (255 : Int32))]
  show Go pr ev below _ T0 (mkF m 30 #[.val (.int p0), .val (.int p1), .val (.int p2), .val (.int p3), .val (.int p4), .val (.double (FP.i2d (p0 &&& (1023 : Int32)))), .second, .val (.double u), .second, .val (.double (FP.l2d (p2 &&& (255 : Int32)).toInt64)), .second, .unset, .unset, .unset, .unset, .unset, .unset, .unset, .unset, .unset] [])
  generalize hame : (p2 &&& (255 : Int32)).toInt64 = am
  rw [hame] at ham
  refine Go.of (mkF m 31 #[.val (.int p0), .val (.int p1), .val (.int p2), .val (.int p3), .val (.int p4), .val (.double (FP.i2d (p0 &&& (1023 : Int32)))), .second, .val (.double u), .second, .val (.double (FP.l2d am)), .second, .unset, .unset, .unset, .unset, .unset, .unset, .unset, .unset, .unset] [(.int (2 : Int32))]) (fun tt0 kk0 => XS.iconst X0.here hx rfl (hb hby at_30) kk0) ?_
  obtain ⟨T1, h1, k1, X1, e1, E1, A1, Q1, O1, st1⟩ := newRA X0 hx hZ (ty := .int) (C := "[I") hown (by decide +kernel) (tw1 hw) (tw2 hw) e0 (g := (mkF m 31 #[.val (.int p0), .val (.int p1), .val (.int p2), .val (.int p3), .val (.int p4), .val (.double (FP.i2d (p0 &&& (1023 : Int32)))), .second, .val (.double u), .second, .val (.double (FP.l2d am)), .second, .unset, .unset, .unset, .unset, .unset, .unset, .unset, .unset, .unset] [(.int (2 : Int32))])) rfl (hb hby at_31) rfl (by decide) (cap := 2) (by decide) (by decide) (by decide) (by decide) (ad := "[[I") (by decide +kernel)
  obtain ⟨b1, g1⟩ : ∃ z, z = h0.size := ⟨_, rfl⟩
  rw [← g1] at A1 Q1 st1
  have gb_b1 : n0 ≤ b1 := Nat.le_trans hz (Nat.le_of_eq g1.symm)
  replace hz := Nat.le_trans hz E1.1
  have V_b1 : Fa Z h1 b1 (.array .int) (2 : Int32) (fun _ => Value.null) := Fa.new A1 (by decide)
  have U_b1 : UtA Z h1 b1 .int "[I" := ⟨_, A1.1, O1⟩
  refine Go.of (mkF m 34 #[.val (.int p0), .val (.int p1), .val (.int p2), .val (.int p3), .val (.int p4), .val (.double (FP.i2d (p0 &&& (1023 : Int32)))), .second, .val (.double u), .second, .val (.double (FP.l2d am)), .second, .unset, .unset, .unset, .unset, .unset, .unset, .unset, .unset, .unset] [(.ref b1)]) (st1) ?_
  refine Go.of (mkF m 36 #[.val (.int p0), .val (.int p1), .val (.int p2), .val (.int p3), .val (.int p4), .val (.double (FP.i2d (p0 &&& (1023 : Int32)))), .second, .val (.double u), .second, .val (.double (FP.l2d am)), .second, .val (.ref b1), .unset, .unset, .unset, .unset, .unset, .unset, .unset, .unset] []) (fun tt0 kk0 => XS.astore X1.here hx rfl (hb hby at_34) rfl rfl (l' := #[.val (.int p0), .val (.int p1), .val (.int p2), .val (.int p3), .val (.int p4), .val (.double (FP.i2d (p0 &&& (1023 : Int32)))), .second, .val (.double u), .second, .val (.double (FP.l2d am)), .second, .val (.ref b1), .unset, .unset, .unset, .unset, .unset, .unset, .unset, .unset]) rfl kk0) ?_
  refine Go.of (mkF m 38 #[.val (.int p0), .val (.int p1), .val (.int p2), .val (.int p3), .val (.int p4), .val (.double (FP.i2d (p0 &&& (1023 : Int32)))), .second, .val (.double u), .second, .val (.double (FP.l2d am)), .second, .val (.ref b1), .unset, .unset, .unset, .unset, .unset, .unset, .unset, .unset] [(.ref b1)]) (fun tt0 kk0 => XS.aload X1.here hx rfl (hb hby at_36) rfl rfl kk0) ?_
  refine Go.of (mkF m 39 #[.val (.int p0), .val (.int p1), .val (.int p2), .val (.int p3), .val (.int p4), .val (.double (FP.i2d (p0 &&& (1023 : Int32)))), .second, .val (.double u), .second, .val (.double (FP.l2d am)), .second, .val (.ref b1), .unset, .unset, .unset, .unset, .unset, .unset, .unset, .unset] [(.int (0 : Int32)), (.ref b1)]) (fun tt0 kk0 => XS.iconst X1.here hx rfl (hb hby at_38) kk0) ?_
  refine Go.of (mkF m 40 #[.val (.int p0), .val (.int p1), .val (.int p2), .val (.int p3), .val (.int p4), .val (.double (FP.i2d (p0 &&& (1023 : Int32)))), .second, .val (.double u), .second, .val (.double (FP.l2d am)), .second, .val (.ref b1), .unset, .unset, .unset, .unset, .unset, .unset, .unset, .unset] [(.int (2 : Int32)), (.int (0 : Int32)), (.ref b1)]) (fun tt0 kk0 => XS.iconst X1.here hx rfl (hb hby at_39) kk0) ?_
  obtain ⟨T2, h2, k2, X2, e2, E2, A2, Q2, st2⟩ := newPE X1 hx hZ (aty := .int) (tw3 hw) e1 (g := (mkF m 40 #[.val (.int p0), .val (.int p1), .val (.int p2), .val (.int p3), .val (.int p4), .val (.double (FP.i2d (p0 &&& (1023 : Int32)))), .second, .val (.double u), .second, .val (.double (FP.l2d am)), .second, .val (.ref b1), .unset, .unset, .unset, .unset, .unset, .unset, .unset, .unset] [(.int (2 : Int32)), (.int (0 : Int32)), (.ref b1)])) rfl (hb hby at_40) rfl (by decide) (cap := 2) (by decide) (by decide) (by decide) (by decide) (ad := "[I") (by decide +kernel)
  obtain ⟨b2, g2⟩ : ∃ z, z = h1.size := ⟨_, rfl⟩
  rw [← g2] at A2 Q2 st2
  have ne_b1_b2 : b1 ≠ b2 := Nat.ne_of_lt (Nat.lt_of_lt_of_le Q1.lt (Nat.le_of_eq g2.symm))
  have gb_b2 : n0 ≤ b2 := Nat.le_trans hz (Nat.le_of_eq g2.symm)
  replace Q1 := Q1.ext E2
  replace V_b1 := V_b1.ext E2
  replace U_b1 := U_b1.ext E2
  replace hz := Nat.le_trans hz E2.1
  have V_b2 : Fa Z h2 b2 .int (2 : Int32) (fun i => .int ((fun _ => (0 : Int32)) i)) := Fa.new A2 (by decide)
  refine Go.of (mkF m 42 #[.val (.int p0), .val (.int p1), .val (.int p2), .val (.int p3), .val (.int p4), .val (.double (FP.i2d (p0 &&& (1023 : Int32)))), .second, .val (.double u), .second, .val (.double (FP.l2d am)), .second, .val (.ref b1), .unset, .unset, .unset, .unset, .unset, .unset, .unset, .unset] [(.ref b2), (.int (0 : Int32)), (.ref b1)]) (st2) ?_
  refine Go.of (mkF m 43 #[.val (.int p0), .val (.int p1), .val (.int p2), .val (.int p3), .val (.int p4), .val (.double (FP.i2d (p0 &&& (1023 : Int32)))), .second, .val (.double u), .second, .val (.double (FP.l2d am)), .second, .val (.ref b1), .unset, .unset, .unset, .unset, .unset, .unset, .unset, .unset] [(.ref b2), (.ref b2), (.int (0 : Int32)), (.ref b1)]) (fun tt0 kk0 => XS.dup X2.here hx rfl (hb hby at_42) rfl rfl kk0) ?_
  refine Go.of (mkF m 44 #[.val (.int p0), .val (.int p1), .val (.int p2), .val (.int p3), .val (.int p4), .val (.double (FP.i2d (p0 &&& (1023 : Int32)))), .second, .val (.double u), .second, .val (.double (FP.l2d am)), .second, .val (.ref b1), .unset, .unset, .unset, .unset, .unset, .unset, .unset, .unset] [(.int (0 : Int32)), (.ref b2), (.ref b2), (.int (0 : Int32)), (.ref b1)]) (fun tt0 kk0 => XS.iconst X2.here hx rfl (hb hby at_43) kk0) ?_
  refine Go.of (mkF m 45 #[.val (.int p0), .val (.int p1), .val (.int p2), .val (.int p3), .val (.int p4), .val (.double (FP.i2d (p0 &&& (1023 : Int32)))), .second, .val (.double u), .second, .val (.double (FP.l2d am)), .second, .val (.ref b1), .unset, .unset, .unset, .unset, .unset, .unset, .unset, .unset] [(.int p3), (.int (0 : Int32)), (.ref b2), (.ref b2), (.int (0 : Int32)), (.ref b1)]) (fun tt0 kk0 => XS.iloadN X2.here hx rfl (hb hby at_44) rfl kk0) ?_
  refine Go.of (mkF m 46 #[.val (.int p0), .val (.int p1), .val (.int p2), .val (.int p3), .val (.int p4), .val (.double (FP.i2d (p0 &&& (1023 : Int32)))), .second, .val (.double u), .second, .val (.double (FP.l2d am)), .second, .val (.ref b1), .unset, .unset, .unset, .unset, .unset, .unset, .unset, .unset] [(.int (1 : Int32)), (.int p3), (.int (0 : Int32)), (.ref b2), (.ref b2), (.int (0 : Int32)), (.ref b1)]) (fun tt0 kk0 => XS.iconst X2.here hx rfl (hb hby at_45) kk0) ?_
  refine Go.of (mkF m 47 #[.val (.int p0), .val (.int p1), .val (.int p2), .val (.int p3), .val (.int p4), .val (.double (FP.i2d (p0 &&& (1023 : Int32)))), .second, .val (.double u), .second, .val (.double (FP.l2d am)), .second, .val (.ref b1), .unset, .unset, .unset, .unset, .unset, .unset, .unset, .unset] [(.int (p3 &&& (1 : Int32))), (.int (0 : Int32)), (.ref b2), (.ref b2), (.int (0 : Int32)), (.ref b1)]) (fun tt0 kk0 => XS.iand X2.here hx rfl (hb hby at_46) rfl kk0) ?_
  refine Go.iastore X2 hx hZ e2 V_b2 (by decide) (by decide) (g := (mkF m 47 #[.val (.int p0), .val (.int p1), .val (.int p2), .val (.int p3), .val (.int p4), .val (.double (FP.i2d (p0 &&& (1023 : Int32)))), .second, .val (.double u), .second, .val (.double (FP.l2d am)), .second, .val (.ref b1), .unset, .unset, .unset, .unset, .unset, .unset, .unset, .unset] [(.int (p3 &&& (1 : Int32))), (.int (0 : Int32)), (.ref b2), (.ref b2), (.int (0 : Int32)), (.ref b1)])) rfl rfl (hb hby at_47) ?_
  rintro T3 h3 X3 e3 W3 V3
  replace Q1 := Q1.wr W3
  replace Q2 := Q2.wr W3
  replace U_b1 := U_b1.wr W3
  replace V_b1 := V_b1.other W3 ne_b1_b2
  replace hz := Nat.le_trans hz (Nat.le_of_eq W3.size.symm)
  replace V_b2 := V3
  have N3 := Fr.snoc X3 N0 gb_b2
  show Go pr ev below _ T3 (mkF m 48 #[.val (.int p0), .val (.int p1), .val (.int p2), .val (.int p3), .val (.int p4), .val (.double (FP.i2d (p0 &&& (1023 : Int32)))), .second, .val (.double u), .second, .val (.double (FP.l2d am)), .second, .val (.ref b1), .unset, .unset, .unset, .unset, .unset, .unset, .unset, .unset] [(.ref b2), (.int (0 : Int32)), (.ref b1)])
  refine Go.of (mkF m 49 #[.val (.int p0), .val (.int p1), .val (.int p2), .val (.int p3), .val (.int p4), .val (.double (FP.i2d (p0 &&& (1023 : Int32)))), .second, .val (.double u), .second, .val (.double (FP.l2d am)), .second, .val (.ref b1), .unset, .unset, .unset, .unset, .unset, .unset, .unset, .unset] [(.ref b2), (.ref b2), (.int (0 : Int32)), (.ref b1)]) (fun tt0 kk0 => XS.dup X3.here hx rfl (hb hby at_48) rfl rfl kk0) ?_
  refine Go.of (mkF m 50 #[.val (.int p0), .val (.int p1), .val (.int p2), .val (.int p3), .val (.int p4), .val (.double (FP.i2d (p0 &&& (1023 : Int32)))), .second, .val (.double u), .second, .val (.double (FP.l2d am)), .second, .val (.ref b1), .unset, .unset, .unset, .unset, .unset, .unset, .unset, .unset] [(.int (1 : Int32)), (.ref b2), (.ref b2), (.int (0 : Int32)), (.ref b1)]) (fun tt0 kk0 => XS.iconst X3.here hx rfl (hb hby at_49) kk0) ?_
  refine Go.of (mkF m 51 #[.val (.int p0), .val (.int p1), .val (.int p2), .val (.int p3), .val (.int p4), .val (.double (FP.i2d (p0 &&& (1023 : Int32)))), .second, .val (.double u), .second, .val (.double (FP.l2d am)), .second, .val (.ref b1), .unset, .unset, .unset, .unset, .unset, .unset, .unset, .unset] [(.int p3), (.int (1 : Int32)), (.ref b2), (.ref b2), (.int (0 : Int32)), (.ref b1)]) (fun tt0 kk0 => XS.iloadN X3.here hx rfl (hb hby at_50) rfl kk0) ?_
  refine Go.of (mkF m 52 #[.val (.int p0), .val (.int p1), .val (.int p2), .val (.int p3), .val (.int p4), .val (.double (FP.i2d (p0 &&& (1023 : Int32)))), .second, .val (.double u), .second, .val (.double (FP.l2d am)), .second, .val (.ref b1), .unset, .unset, .unset, .unset, .unset, .unset, .unset, .unset] [(.int (1 : Int32)), (.int p3), (.int (1 : Int32)), (.ref b2), (.ref b2), (.int (0 : Int32)), (.ref b1)]) (fun tt0 kk0 => XS.iconst X3.here hx rfl (hb hby at_51) kk0) ?_
  refine Go.of (mkF m 53 #[.val (.int p0), .val (.int p1), .val (.int p2), .val (.int p3), .val (.int p4), .val (.double (FP.i2d (p0 &&& (1023 : Int32)))), .second, .val (.double u), .second, .val (.double (FP.l2d am)), .second, .val (.ref b1), .unset, .unset, .unset, .unset, .unset, .unset, .unset, .unset] [(.int ((p3.toUInt32 >>> ((1 : Int32) &&& 31).toUInt32).toInt32)), (.int (1 : Int32)), (.ref b2), (.ref b2), (.int (0 : Int32)), (.ref b1)]) (fun tt0 kk0 => XS.iushr X3.here hx rfl (hb hby at_52) rfl kk0) ?_
  refine Go.of (mkF m 54 #[.val (.int p0), .val (.int p1), .val (.int p2), .val (.int p3), .val (.int p4), .val (.double (FP.i2d (p0 &&& (1023 : Int32)))), .second, .val (.double u), .second, .val (.double (FP.l2d am)), .second, .val (.ref b1), .unset, .unset, .unset, .unset, .unset, .unset, .unset, .unset] [(.int (1 : Int32)), (.int ((p3.toUInt32 >>> ((1 : Int32) &&& 31).toUInt32).toInt32)), (.int (1 : Int32)), (.ref b2), (.ref b2), (.int (0 : Int32)), (.ref b1)]) (fun tt0 kk0 => XS.iconst X3.here hx rfl (hb hby at_53) kk0) ?_
  refine Go.of (mkF m 55 #[.val (.int p0), .val (.int p1), .val (.int p2), .val (.int p3), .val (.int p4), .val (.double (FP.i2d (p0 &&& (1023 : Int32)))), .second, .val (.double u), .second, .val (.double (FP.l2d am)), .second, .val (.ref b1), .unset, .unset, .unset, .unset, .unset, .unset, .unset, .unset] [(.int (((p3.toUInt32 >>> ((1 : Int32) &&& 31).toUInt32).toInt32) &&& (1 : Int32))), (.int (1 : Int32)), (.ref b2), (.ref b2), (.int (0 : Int32)), (.ref b1)]) (fun tt0 kk0 => XS.iand X3.here hx rfl (hb hby at_54) rfl kk0) ?_
  refine Go.iastore X3 hx hZ e3 V_b2 (by decide) (by decide) (g := (mkF m 55 #[.val (.int p0), .val (.int p1), .val (.int p2), .val (.int p3), .val (.int p4), .val (.double (FP.i2d (p0 &&& (1023 : Int32)))), .second, .val (.double u), .second, .val (.double (FP.l2d am)), .second, .val (.ref b1), .unset, .unset, .unset, .unset, .unset, .unset, .unset, .unset] [(.int (((p3.toUInt32 >>> ((1 : Int32) &&& 31).toUInt32).toInt32) &&& (1 : Int32))), (.int (1 : Int32)), (.ref b2), (.ref b2), (.int (0 : Int32)), (.ref b1)])) rfl rfl (hb hby at_55) ?_
  rintro T4 h4 X4 e4 W4 V4
  replace Q1 := Q1.wr W4
  replace Q2 := Q2.wr W4
  replace U_b1 := U_b1.wr W4
  replace V_b1 := V_b1.other W4 ne_b1_b2
  replace hz := Nat.le_trans hz (Nat.le_of_eq W4.size.symm)
  replace V_b2 := V4
  have N4 := Fr.snoc X4 N3 gb_b2
  show Go pr ev below _ T4 (mkF m 56 #[.val (.int p0), .val (.int p1), .val (.int p2), .val (.int p3), .val (.int p4), .val (.double (FP.i2d (p0 &&& (1023 : Int32)))), .second, .val (.double u), .second, .val (.double (FP.l2d am)), .second, .val (.ref b1), .unset, .unset, .unset, .unset, .unset, .unset, .unset, .unset] [(.ref b2), (.int (0 : Int32)), (.ref b1)])
  refine Go.aastore X4 hx hZ e4 V_b1 rfl rfl (Fa.stoA V_b1 U_b1 (Ins.self Q2)) (by decide) (by decide) (g := (mkF m 56 #[.val (.int p0), .val (.int p1), .val (.int p2), .val (.int p3), .val (.int p4), .val (.double (FP.i2d (p0 &&& (1023 : Int32)))), .second, .val (.double u), .second, .val (.double (FP.l2d am)), .second, .val (.ref b1), .unset, .unset, .unset, .unset, .unset, .unset, .unset, .unset] [(.ref b2), (.int (0 : Int32)), (.ref b1)])) rfl rfl (hb hby at_56) ?_
  rintro T5 h5 X5 e5 W5 V5
  replace Q1 := Q1.wr W5
  replace Q2 := Q2.wr W5
  replace U_b1 := U_b1.wr W5
  replace V_b2 := V_b2.other W5 (Ne.symm ne_b1_b2)
  replace hz := Nat.le_trans hz (Nat.le_of_eq W5.size.symm)
  replace V_b1 := V5
  have N5 := Fr.snoc X5 N4 gb_b1
  show Go pr ev below _ T5 (mkF m 57 #[.val (.int p0), .val (.int p1), .val (.int p2), .val (.int p3), .val (.int p4), .val (.double (FP.i2d (p0 &&& (1023 : Int32)))), .second, .val (.double u), .second, .val (.double (FP.l2d am)), .second, .val (.ref b1), .unset, .unset, .unset, .unset, .unset, .unset, .unset, .unset] [])
  refine Go.of (mkF m 59 #[.val (.int p0), .val (.int p1), .val (.int p2), .val (.int p3), .val (.int p4), .val (.double (FP.i2d (p0 &&& (1023 : Int32)))), .second, .val (.double u), .second, .val (.double (FP.l2d am)), .second, .val (.ref b1), .unset, .unset, .unset, .unset, .unset, .unset, .unset, .unset] [(.ref b1)]) (fun tt0 kk0 => XS.aload X5.here hx rfl (hb hby at_57) rfl rfl kk0) ?_
  refine Go.of (mkF m 60 #[.val (.int p0), .val (.int p1), .val (.int p2), .val (.int p3), .val (.int p4), .val (.double (FP.i2d (p0 &&& (1023 : Int32)))), .second, .val (.double u), .second, .val (.double (FP.l2d am)), .second, .val (.ref b1), .unset, .unset, .unset, .unset, .unset, .unset, .unset, .unset] [(.int (1 : Int32)), (.ref b1)]) (fun tt0 kk0 => XS.iconst X5.here hx rfl (hb hby at_59) kk0) ?_
  refine Go.of (mkF m 61 #[.val (.int p0), .val (.int p1), .val (.int p2), .val (.int p3), .val (.int p4), .val (.double (FP.i2d (p0 &&& (1023 : Int32)))), .second, .val (.double u), .second, .val (.double (FP.l2d am)), .second, .val (.ref b1), .unset, .unset, .unset, .unset, .unset, .unset, .unset, .unset] [(.int (1 : Int32)), (.int (1 : Int32)), (.ref b1)]) (fun tt0 kk0 => XS.iconst X5.here hx rfl (hb hby at_60) kk0) ?_
  obtain ⟨T6, h6, k6, X6, e6, E6, A6, Q6, st6⟩ := newPE X5 hx hZ (aty := .int) (tw3 hw) e5 (g := (mkF m 61 #[.val (.int p0), .val (.int p1), .val (.int p2), .val (.int p3), .val (.int p4), .val (.double (FP.i2d (p0 &&& (1023 : Int32)))), .second, .val (.double u), .second, .val (.double (FP.l2d am)), .second, .val (.ref b1), .unset, .unset, .unset, .unset, .unset, .unset, .unset, .unset] [(.int (1 : Int32)), (.int (1 : Int32)), (.ref b1)])) rfl (hb hby at_61) rfl (by decide) (cap := 1) (by decide) (by decide) (by decide) (by decide) (ad := "[I") (by decide +kernel)
  obtain ⟨b6, g6⟩ : ∃ z, z = h5.size := ⟨_, rfl⟩
  rw [← g6] at A6 Q6 st6
  have ne_b1_b6 : b1 ≠ b6 := Nat.ne_of_lt (Nat.lt_of_lt_of_le Q1.lt (Nat.le_of_eq g6.symm))
  have ne_b2_b6 : b2 ≠ b6 := Nat.ne_of_lt (Nat.lt_of_lt_of_le Q2.lt (Nat.le_of_eq g6.symm))
  have gb_b6 : n0 ≤ b6 := Nat.le_trans hz (Nat.le_of_eq g6.symm)
  replace Q1 := Q1.ext E6
  replace Q2 := Q2.ext E6
  replace V_b1 := V_b1.ext E6
  replace V_b2 := V_b2.ext E6
  replace U_b1 := U_b1.ext E6
  replace hz := Nat.le_trans hz E6.1
  have V_b6 : Fa Z h6 b6 .int (1 : Int32) (fun i => .int ((fun _ => (0 : Int32)) i)) := Fa.new A6 (by decide)
  refine Go.of (mkF m 63 #[.val (.int p0), .val (.int p1), .val (.int p2), .val (.int p3), .val (.int p4), .val (.double (FP.i2d (p0 &&& (1023 : Int32)))), .second, .val (.double u), .second, .val (.double (FP.l2d am)), .second, .val (.ref b1), .unset, .unset, .unset, .unset, .unset, .unset, .unset, .unset] [(.ref b6), (.int (1 : Int32)), (.ref b1)]) (st6) ?_
  refine Go.of (mkF m 64 #[.val (.int p0), .val (.int p1), .val (.int p2), .val (.int p3), .val (.int p4), .val (.double (FP.i2d (p0 &&& (1023 : Int32)))), .second, .val (.double u), .second, .val (.double (FP.l2d am)), .second, .val (.ref b1), .unset, .unset, .unset, .unset, .unset, .unset, .unset, .unset] [(.ref b6), (.ref b6), (.int (1 : Int32)), (.ref b1)]) (fun tt0 kk0 => XS.dup X6.here hx rfl (hb hby at_63) rfl rfl kk0) ?_
  refine Go.of (mkF m 65 #[.val (.int p0), .val (.int p1), .val (.int p2), .val (.int p3), .val (.int p4), .val (.double (FP.i2d (p0 &&& (1023 : Int32)))), .second, .val (.double u), .second, .val (.double (FP.l2d am)), .second, .val (.ref b1), .unset, .unset, .unset, .unset, .unset, .unset, .unset, .unset] [(.int (0 : Int32)), (.ref b6), (.ref b6), (.int (1 : Int32)), (.ref b1)]) (fun tt0 kk0 => XS.iconst X6.here hx rfl (hb hby at_64) kk0) ?_
  refine Go.of (mkF m 66 #[.val (.int p0), .val (.int p1), .val (.int p2), .val (.int p3), .val (.int p4), .val (.double (FP.i2d (p0 &&& (1023 : Int32)))), .second, .val (.double u), .second, .val (.double (FP.l2d am)), .second, .val (.ref b1), .unset, .unset, .unset, .unset, .unset, .unset, .unset, .unset] [(.int p3), (.int (0 : Int32)), (.ref b6), (.ref b6), (.int (1 : Int32)), (.ref b1)]) (fun tt0 kk0 => XS.iloadN X6.here hx rfl (hb hby at_65) rfl kk0) ?_
  refine Go.of (mkF m 67 #[.val (.int p0), .val (.int p1), .val (.int p2), .val (.int p3), .val (.int p4), .val (.double (FP.i2d (p0 &&& (1023 : Int32)))), .second, .val (.double u), .second, .val (.double (FP.l2d am)), .second, .val (.ref b1), .unset, .unset, .unset, .unset, .unset, .unset, .unset, .unset] [(.int (2 : Int32)), (.int p3), (.int (0 : Int32)), (.ref b6), (.ref b6), (.int (1 : Int32)), (.ref b1)]) (fun tt0 kk0 => XS.iconst X6.here hx rfl (hb hby at_66) kk0) ?_
  refine Go.of (mkF m 68 #[.val (.int p0), .val (.int p1), .val (.int p2), .val (.int p3), .val (.int p4), .val (.double (FP.i2d (p0 &&& (1023 : Int32)))), .second, .val (.double u), .second, .val (.double (FP.l2d am)), .second, .val (.ref b1), .unset, .unset, .unset, .unset, .unset, .unset, .unset, .unset] [(.int ((p3.toUInt32 >>> ((2 : Int32) &&& 31).toUInt32).toInt32)), (.int (0 : Int32)), (.ref b6), (.ref b6), (.int (1 : Int32)), (.ref b1)]) (fun tt0 kk0 => XS.iushr X6.here hx rfl (hb hby at_67) rfl kk0) ?_
  refine Go.of (mkF m 69 #[.val (.int p0), .val (.int p1), .val (.int p2), .val (.int p3), .val (.int p4), .val (.double (FP.i2d (p0 &&& (1023 : Int32)))), .second, .val (.double u), .second, .val (.double (FP.l2d am)), .second, .val (.ref b1), .unset, .unset, .unset, .unset, .unset, .unset, .unset, .unset] [(.int (1 : Int32)), (.int ((p3.toUInt32 >>> ((2 : Int32) &&& 31).toUInt32).toInt32)), (.int (0 : Int32)), (.ref b6), (.ref b6), (.int (1 : Int32)), (.ref b1)]) (fun tt0 kk0 => XS.iconst X6.here hx rfl (hb hby at_68) kk0) ?_
  refine Go.of (mkF m 70 #[.val (.int p0), .val (.int p1), .val (.int p2), .val (.int p3), .val (.int p4), .val (.double (FP.i2d (p0 &&& (1023 : Int32)))), .second, .val (.double u), .second, .val (.double (FP.l2d am)), .second, .val (.ref b1), .unset, .unset, .unset, .unset, .unset, .unset, .unset, .unset] [(.int (((p3.toUInt32 >>> ((2 : Int32) &&& 31).toUInt32).toInt32) &&& (1 : Int32))), (.int (0 : Int32)), (.ref b6), (.ref b6), (.int (1 : Int32)), (.ref b1)]) (fun tt0 kk0 => XS.iand X6.here hx rfl (hb hby at_69) rfl kk0) ?_
  refine Go.iastore X6 hx hZ e6 V_b6 (by decide) (by decide) (g := (mkF m 70 #[.val (.int p0), .val (.int p1), .val (.int p2), .val (.int p3), .val (.int p4), .val (.double (FP.i2d (p0 &&& (1023 : Int32)))), .second, .val (.double u), .second, .val (.double (FP.l2d am)), .second, .val (.ref b1), .unset, .unset, .unset, .unset, .unset, .unset, .unset, .unset] [(.int (((p3.toUInt32 >>> ((2 : Int32) &&& 31).toUInt32).toInt32) &&& (1 : Int32))), (.int (0 : Int32)), (.ref b6), (.ref b6), (.int (1 : Int32)), (.ref b1)])) rfl rfl (hb hby at_70) ?_
  rintro T7 h7 X7 e7 W7 V7
  replace Q1 := Q1.wr W7
  replace Q2 := Q2.wr W7
  replace Q6 := Q6.wr W7
  replace U_b1 := U_b1.wr W7
  replace V_b1 := V_b1.other W7 ne_b1_b6
  replace V_b2 := V_b2.other W7 ne_b2_b6
  replace hz := Nat.le_trans hz (Nat.le_of_eq W7.size.symm)
  replace V_b6 := V7
  have N7 := Fr.snoc X7 N5 gb_b6
  show Go pr ev below _ T7 (mkF m 71 #[.val (.int p0), .val (.int p1), .val (.int p2), .val (.int p3), .val (.int p4), .val (.double (FP.i2d (p0 &&& (1023 : Int32)))), .second, .val (.double u), .second, .val (.double (FP.l2d am)), .second, .val (.ref b1), .unset, .unset, .unset, .unset, .unset, .unset, .unset, .unset] [(.ref b6), (.int (1 : Int32)), (.ref b1)])
  refine Go.aastore X7 hx hZ e7 V_b1 rfl rfl (Fa.stoA V_b1 U_b1 (Ins.self Q6)) (by decide) (by decide) (g := (mkF m 71 #[.val (.int p0), .val (.int p1), .val (.int p2), .val (.int p3), .val (.int p4), .val (.double (FP.i2d (p0 &&& (1023 : Int32)))), .second, .val (.double u), .second, .val (.double (FP.l2d am)), .second, .val (.ref b1), .unset, .unset, .unset, .unset, .unset, .unset, .unset, .unset] [(.ref b6), (.int (1 : Int32)), (.ref b1)])) rfl rfl (hb hby at_71) ?_
  rintro T8 h8 X8 e8 W8 V8
  replace Q1 := Q1.wr W8
  replace Q2 := Q2.wr W8
  replace Q6 := Q6.wr W8
  replace U_b1 := U_b1.wr W8
  replace V_b2 := V_b2.other W8 (Ne.symm ne_b1_b2)
  replace V_b6 := V_b6.other W8 (Ne.symm ne_b1_b6)
  replace hz := Nat.le_trans hz (Nat.le_of_eq W8.size.symm)
  replace V_b1 := V8
  have N8 := Fr.snoc X8 N7 gb_b1
  show Go pr ev below _ T8 (mkF m 72 #[.val (.int p0), .val (.int p1), .val (.int p2), .val (.int p3), .val (.int p4), .val (.double (FP.i2d (p0 &&& (1023 : Int32)))), .second, .val (.double u), .second, .val (.double (FP.l2d am)), .second, .val (.ref b1), .unset, .unset, .unset, .unset, .unset, .unset, .unset, .unset] [])
  obtain ⟨T9, h9, X9, e9, E9, A9, D9, -, st9⟩ := newO X8 hx hZ hown (tw5 hw) (tw6 hw) (tw7 hw) e8 (g := (mkF m 72 #[.val (.int p0), .val (.int p1), .val (.int p2), .val (.int p3), .val (.int p4), .val (.double (FP.i2d (p0 &&& (1023 : Int32)))), .second, .val (.double u), .second, .val (.double (FP.l2d am)), .second, .val (.ref b1), .unset, .unset, .unset, .unset, .unset, .unset, .unset, .unset] [])) rfl (hb hby at_72) (by decide) (by decide)
  obtain ⟨b9, g9⟩ : ∃ z, z = h8.size := ⟨_, rfl⟩
  rw [← g9] at A9 D9 st9
  have ne_b1_b9 : b1 ≠ b9 := Nat.ne_of_lt (Nat.lt_of_lt_of_le Q1.lt (Nat.le_of_eq g9.symm))
  have ne_b2_b9 : b2 ≠ b9 := Nat.ne_of_lt (Nat.lt_of_lt_of_le Q2.lt (Nat.le_of_eq g9.symm))
  have ne_b6_b9 : b6 ≠ b9 := Nat.ne_of_lt (Nat.lt_of_lt_of_le Q6.lt (Nat.le_of_eq g9.symm))
  have gb_b9 : n0 ≤ b9 := Nat.le_trans hz (Nat.le_of_eq g9.symm)
  replace Q1 := Q1.ext E9
  replace Q2 := Q2.ext E9
  replace Q6 := Q6.ext E9
  replace V_b1 := V_b1.ext E9
  replace V_b2 := V_b2.ext E9
  replace V_b6 := V_b6.ext E9
  replace U_b1 := U_b1.ext E9
  replace hz := Nat.le_trans hz E9.1
  have F_b9_tasks : Fld Z h9 b9 "com/example/quench/quench/Pheromones" "tasks" "I" (.int (0 : Int32)) := D9 (Or.inr (tw15 hw)) (ty := .int) (by decide)
  have F_b9_trails : Fld Z h9 b9 "com/example/quench/quench/Pheromones" "trails" "[[D" .null := D9 (Or.inr (tw20 hw)) (ty := (.array (.array .double))) (by decide)
  refine Go.of (mkF m 75 #[.val (.int p0), .val (.int p1), .val (.int p2), .val (.int p3), .val (.int p4), .val (.double (FP.i2d (p0 &&& (1023 : Int32)))), .second, .val (.double u), .second, .val (.double (FP.l2d am)), .second, .val (.ref b1), .unset, .unset, .unset, .unset, .unset, .unset, .unset, .unset] [(.ref b9)]) (st9) ?_
  refine Go.of (mkF m 76 #[.val (.int p0), .val (.int p1), .val (.int p2), .val (.int p3), .val (.int p4), .val (.double (FP.i2d (p0 &&& (1023 : Int32)))), .second, .val (.double u), .second, .val (.double (FP.l2d am)), .second, .val (.ref b1), .unset, .unset, .unset, .unset, .unset, .unset, .unset, .unset] [(.ref b9), (.ref b9)]) (fun tt0 kk0 => XS.dup X9.here hx rfl (hb hby at_75) rfl rfl kk0) ?_
  refine Go.of (mkF m 77 #[.val (.int p0), .val (.int p1), .val (.int p2), .val (.int p3), .val (.int p4), .val (.double (FP.i2d (p0 &&& (1023 : Int32)))), .second, .val (.double u), .second, .val (.double (FP.l2d am)), .second, .val (.ref b1), .unset, .unset, .unset, .unset, .unset, .unset, .unset, .unset] [(.int (2 : Int32)), (.ref b9), (.ref b9)]) (fun tt0 kk0 => XS.iconst X9.here hx rfl (hb hby at_76) kk0) ?_
  refine Go.of (mkF m 78 #[.val (.int p0), .val (.int p1), .val (.int p2), .val (.int p3), .val (.int p4), .val (.double (FP.i2d (p0 &&& (1023 : Int32)))), .second, .val (.double u), .second, .val (.double (FP.l2d am)), .second, .val (.ref b1), .unset, .unset, .unset, .unset, .unset, .unset, .unset, .unset] [(.int (2 : Int32)), (.int (2 : Int32)), (.ref b9), (.ref b9)]) (fun tt0 kk0 => XS.iconst X9.here hx rfl (hb hby at_77) kk0) ?_
  refine Go.of (mkF m 80 #[.val (.int p0), .val (.int p1), .val (.int p2), .val (.int p3), .val (.int p4), .val (.double (FP.i2d (p0 &&& (1023 : Int32)))), .second, .val (.double u), .second, .val (.double (FP.l2d am)), .second, .val (.ref b1), .unset, .unset, .unset, .unset, .unset, .unset, .unset, .unset] [(.double (FP.i2d (p0 &&& (1023 : Int32)))), (.int (2 : Int32)), (.int (2 : Int32)), (.ref b9), (.ref b9)]) (fun tt0 kk0 => XS.dload X9.here hx rfl (hb hby at_78) rfl kk0) ?_
  refine Go.init X9 hx hZ (y := (⟨"com/example/quench/quench/Pheromones", "<init>", "(IID)V"⟩ : MethodName)) (a := b9) (argsL := [(.int (2 : Int32)), (.int (2 : Int32)), (.double (FP.i2d (p0 &&& (1023 : Int32))))]) (rest := [(.ref b9)]) hown rfl (tw8 hw) (tw9 hw) (tw7 hw) (tw10 hw) (by decide) e9 (rmPI l Z a0 hw [] b9 (FP.i2d (p0 &&& (1023 : Int32))) h9 n0 hz A9 gb_b9 F_b9_tasks F_b9_trails) (g := (mkF m 80 #[.val (.int p0), .val (.int p1), .val (.int p2), .val (.int p3), .val (.int p4), .val (.double (FP.i2d (p0 &&& (1023 : Int32)))), .second, .val (.double u), .second, .val (.double (FP.l2d am)), .second, .val (.ref b1), .unset, .unset, .unset, .unset, .unset, .unset, .unset, .unset] [(.double (FP.i2d (p0 &&& (1023 : Int32)))), (.int (2 : Int32)), (.int (2 : Int32)), (.ref b9), (.ref b9)])) rfl (by rw [hml]; rfl) (lenOf pd15 rfl) rfl (W := 1) (by show 2 * 0 + _ ≤ _; exact Nat.le_of_eq rfl) (hb hby at_80) (by decide) (by decide) (by decide) (by decide) ?_
  rintro T10 L10 v10 X10 ⟨t10, r010, r110, yt10, rfl, NL10, K10, st10, lt10, lu10, Ft10, Fq10, VT10, hy010, hy110, V0_10, V1_10⟩
  have N10 := Fr.app N8 NL10
  have ne_b1_t10 : b1 ≠ t10 := Nat.ne_of_lt (Nat.lt_of_lt_of_le Q1.lt st10)
  have ne_b2_t10 : b2 ≠ t10 := Nat.ne_of_lt (Nat.lt_of_lt_of_le Q2.lt st10)
  have ne_b6_t10 : b6 ≠ t10 := Nat.ne_of_lt (Nat.lt_of_lt_of_le Q6.lt st10)
  have ne_b9_t10 : b9 ≠ t10 := Nat.ne_of_lt (Nat.lt_of_lt_of_le A9.lt st10)
  have gb_t10 : n0 ≤ t10 := Nat.le_trans hz st10
  have ne_b1_r010 : b1 ≠ r010 := Nat.ne_of_lt (Nat.lt_of_lt_of_le Q1.lt (by omega))
  have ne_b2_r010 : b2 ≠ r010 := Nat.ne_of_lt (Nat.lt_of_lt_of_le Q2.lt (by omega))
  have ne_b6_r010 : b6 ≠ r010 := Nat.ne_of_lt (Nat.lt_of_lt_of_le Q6.lt (by omega))
  have ne_b9_r010 : b9 ≠ r010 := Nat.ne_of_lt (Nat.lt_of_lt_of_le A9.lt (by omega))
  have gb_r010 : n0 ≤ r010 := Nat.le_trans hz (by omega)
  have ne_b1_r110 : b1 ≠ r110 := Nat.ne_of_lt (Nat.lt_of_lt_of_le Q1.lt (by omega))
  have ne_b2_r110 : b2 ≠ r110 := Nat.ne_of_lt (Nat.lt_of_lt_of_le Q2.lt (by omega))
  have ne_b6_r110 : b6 ≠ r110 := Nat.ne_of_lt (Nat.lt_of_lt_of_le Q6.lt (by omega))
  have ne_b9_r110 : b9 ≠ r110 := Nat.ne_of_lt (Nat.lt_of_lt_of_le A9.lt (by omega))
  have gb_r110 : n0 ≤ r110 := Nat.le_trans hz (by omega)
  replace Q1 := Q1.keep K10
  replace Q2 := Q2.keep K10
  replace Q6 := Q6.keep K10
  replace A9 := A9.keep K10
  replace U_b1 := U_b1.keep K10
  replace V_b1 := V_b1.keep K10 (ninS ne_b1_b9 nin0)
  replace V_b2 := V_b2.keep K10 (ninS ne_b2_b9 nin0)
  replace V_b6 := V_b6.keep K10 (ninS ne_b6_b9 nin0)
  replace hz := Nat.le_trans hz K10.1
  have ne_t10_r010 : t10 ≠ r010 := by omega
  have ne_t10_r110 : t10 ≠ r110 := by omega
  have ne_r010_r110 : r010 ≠ r110 := by omega
  show Go pr ev below _ T10 (mkF m 83 #[.val (.int p0), .val (.int p1), .val (.int p2), .val (.int p3), .val (.int p4), .val (.double (FP.i2d (p0 &&& (1023 : Int32)))), .second, .val (.double u), .second, .val (.double (FP.l2d am)), .second, .val (.ref b1), .unset, .unset, .unset, .unset, .unset, .unset, .unset, .unset] [(.ref b9)])
  refine Go.of (mkF m 85 #[.val (.int p0), .val (.int p1), .val (.int p2), .val (.int p3), .val (.int p4), .val (.double (FP.i2d (p0 &&& (1023 : Int32)))), .second, .val (.double u), .second, .val (.double (FP.l2d am)), .second, .val (.ref b1), .val (.ref b9), .unset, .unset, .unset, .unset, .unset, .unset, .unset] []) (fun tt0 kk0 => XS.astore X10.here hx rfl (hb hby at_83) rfl rfl (l' := #[.val (.int p0), .val (.int p1), .val (.int p2), .val (.int p3), .val (.int p4), .val (.double (FP.i2d (p0 &&& (1023 : Int32)))), .second, .val (.double u), .second, .val (.double (FP.l2d am)), .second, .val (.ref b1), .val (.ref b9), .unset, .unset, .unset, .unset, .unset, .unset, .unset]) rfl kk0) ?_
  refine Go.of (mkF m 87 #[.val (.int p0), .val (.int p1), .val (.int p2), .val (.int p3), .val (.int p4), .val (.double (FP.i2d (p0 &&& (1023 : Int32)))), .second, .val (.double u), .second, .val (.double (FP.l2d am)), .second, .val (.ref b1), .val (.ref b9), .unset, .unset, .unset, .unset, .unset, .unset, .unset] [(.ref b9)]) (fun tt0 kk0 => XS.aload X10.here hx rfl (hb hby at_85) rfl rfl kk0) ?_
  obtain ⟨T11, h11, X11, e11, E11, A11, D11, -, st11⟩ := newO X10 hx hZ hown (tw25 hw) (tw26 hw) (tw27 hw) rfl (g := (mkF m 87 #[.val (.int p0), .val (.int p1), .val (.int p2), .val (.int p3), .val (.int p4), .val (.double (FP.i2d (p0 &&& (1023 : Int32)))), .second, .val (.double u), .second, .val (.double (FP.l2d am)), .second, .val (.ref b1), .val (.ref b9), .unset, .unset, .unset, .unset, .unset, .unset, .unset] [(.ref b9)])) rfl (hb hby at_87) (by decide) (by decide)
  obtain ⟨b11, g11⟩ : ∃ z, z = T10.heap.size := ⟨_, rfl⟩
  rw [← g11] at A11 D11 st11
  have ne_b1_b11 : b1 ≠ b11 := Nat.ne_of_lt (Nat.lt_of_lt_of_le Q1.lt (Nat.le_of_eq g11.symm))
  have ne_b2_b11 : b2 ≠ b11 := Nat.ne_of_lt (Nat.lt_of_lt_of_le Q2.lt (Nat.le_of_eq g11.symm))
  have ne_b6_b11 : b6 ≠ b11 := Nat.ne_of_lt (Nat.lt_of_lt_of_le Q6.lt (Nat.le_of_eq g11.symm))
  have ne_b9_b11 : b9 ≠ b11 := Nat.ne_of_lt (Nat.lt_of_lt_of_le A9.lt (Nat.le_of_eq g11.symm))
  have ne_t10_b11 : t10 ≠ b11 := Nat.ne_of_lt (Nat.lt_of_lt_of_le VT10.lt (Nat.le_of_eq g11.symm))
  have ne_r010_b11 : r010 ≠ b11 := Nat.ne_of_lt (Nat.lt_of_lt_of_le V0_10.lt (Nat.le_of_eq g11.symm))
  have ne_r110_b11 : r110 ≠ b11 := Nat.ne_of_lt (Nat.lt_of_lt_of_le V1_10.lt (Nat.le_of_eq g11.symm))
  have gb_b11 : n0 ≤ b11 := Nat.le_trans hz (Nat.le_of_eq g11.symm)
  replace Ft10 := Ft10.ext E11
  replace Fq10 := Fq10.ext E11
  replace Q1 := Q1.ext E11
  replace Q2 := Q2.ext E11
  replace Q6 := Q6.ext E11
  replace A9 := A9.ext E11
  replace V_b1 := V_b1.ext E11
  replace V_b2 := V_b2.ext E11
  replace V_b6 := V_b6.ext E11
  replace VT10 := VT10.ext E11
  replace V0_10 := V0_10.ext E11
  replace V1_10 := V1_10.ext E11
  replace U_b1 := U_b1.ext E11
  replace hz := Nat.le_trans hz E11.1
  have F_b11_routes : Fld Z h11 b11 "com/example/quench/quench/Plan" "routes" "[[I" .null := D11 (Or.inr (tw34 hw)) (ty := (.array (.array .int))) (by decide)
  refine Go.of (mkF m 90 #[.val (.int p0), .val (.int p1), .val (.int p2), .val (.int p3), .val (.int p4), .val (.double (FP.i2d (p0 &&& (1023 : Int32)))), .second, .val (.double u), .second, .val (.double (FP.l2d am)), .second, .val (.ref b1), .val (.ref b9), .unset, .unset, .unset, .unset, .unset, .unset, .unset] [(.ref b11), (.ref b9)]) (st11) ?_
  refine Go.of (mkF m 91 #[.val (.int p0), .val (.int p1), .val (.int p2), .val (.int p3), .val (.int p4), .val (.double (FP.i2d (p0 &&& (1023 : Int32)))), .second, .val (.double u), .second, .val (.double (FP.l2d am)), .second, .val (.ref b1), .val (.ref b9), .unset, .unset, .unset, .unset, .unset, .unset, .unset] [(.ref b11), (.ref b11), (.ref b9)]) (fun tt0 kk0 => XS.dup X11.here hx rfl (hb hby at_90) rfl rfl kk0) ?_
  refine Go.of (mkF m 93 #[.val (.int p0), .val (.int p1), .val (.int p2), .val (.int p3), .val (.int p4), .val (.double (FP.i2d (p0 &&& (1023 : Int32)))), .second, .val (.double u), .second, .val (.double (FP.l2d am)), .second, .val (.ref b1), .val (.ref b9), .unset, .unset, .unset, .unset, .unset, .unset, .unset] [(.ref b1), (.ref b11), (.ref b11), (.ref b9)]) (fun tt0 kk0 => XS.aload X11.here hx rfl (hb hby at_91) rfl rfl kk0) ?_
  refine Go.init X11 hx hZ (y := (⟨"com/example/quench/quench/Plan", "<init>", "([[I)V"⟩ : MethodName)) (a := b11) (argsL := [(.ref b1)]) (rest := [(.ref b11), (.ref b9)]) hown rfl (tw28 hw) (tw29 hw) (tw27 hw) (tw30 hw) (by decide) e11 (rmLI l Z a0 hw [] b11 b1 b2 b6 _ (fnup (fnup (fun _ => (0 : Int32)) (0 : Int32) (p3 &&& (1 : Int32))) (1 : Int32) (((p3.toUInt32 >>> ((1 : Int32) &&& 31).toUInt32).toInt32) &&& (1 : Int32))) (fnup (fun _ => (0 : Int32)) (0 : Int32) (((p3.toUInt32 >>> ((2 : Int32) &&& 31).toUInt32).toInt32) &&& (1 : Int32))) h11 n0 hz A11 gb_b11 F_b11_routes V_b1 (by first | rfl | simp [fnup]) (by first | rfl | simp [fnup]) V_b2 V_b6 Q2 Q6 (Ne.symm ne_b1_b11) (Ne.symm ne_b2_b11) (Ne.symm ne_b6_b11) (by rw [show ((fnup (fnup (fun _ => (0 : Int32)) (0 : Int32) (p3 &&& (1 : Int32))) (1 : Int32) (((p3.toUInt32 >>> ((1 : Int32) &&& 31).toUInt32).toInt32) &&& (1 : Int32))) 0) = (p3 &&& (1 : Int32)) from by first | rfl | simp [fnup]]; exact own_pos (own_bit _)) (by rw [show ((fnup (fnup (fun _ => (0 : Int32)) (0 : Int32) (p3 &&& (1 : Int32))) (1 : Int32) (((p3.toUInt32 >>> ((1 : Int32) &&& 31).toUInt32).toInt32) &&& (1 : Int32))) 1) = (((p3.toUInt32 >>> ((1 : Int32) &&& 31).toUInt32).toInt32) &&& (1 : Int32)) from by first | rfl | simp [fnup]]; exact own_pos (own_bit _)) (by rw [show ((fnup (fun _ => (0 : Int32)) (0 : Int32) (((p3.toUInt32 >>> ((2 : Int32) &&& 31).toUInt32).toInt32) &&& (1 : Int32))) 0) = (((p3.toUInt32 >>> ((2 : Int32) &&& 31).toUInt32).toInt32) &&& (1 : Int32)) from by first | rfl | simp [fnup]]; exact own_pos (own_bit _))) (g := (mkF m 93 #[.val (.int p0), .val (.int p1), .val (.int p2), .val (.int p3), .val (.int p4), .val (.double (FP.i2d (p0 &&& (1023 : Int32)))), .second, .val (.double u), .second, .val (.double (FP.l2d am)), .second, .val (.ref b1), .val (.ref b9), .unset, .unset, .unset, .unset, .unset, .unset, .unset] [(.ref b1), (.ref b11), (.ref b11), (.ref b9)])) rfl (by rw [hml]; rfl) (lenOf pd16 rfl) rfl (W := 2) (by show 2 * 0 + _ ≤ _; exact Nat.le_of_eq rfl) (hb hby at_93) (by decide) (by decide) (by decide) (by decide) ?_
  rintro T12 L12 v12 X12 ⟨pt12, b012, b112, yp12, rfl, NL12, K12, sp12, sb012, sb112, G12, VP12, hp012, hp112, W012, W112⟩
  have N12 := Fr.app N10 NL12
  have ne_b1_pt12 : b1 ≠ pt12 := Nat.ne_of_lt (Nat.lt_of_lt_of_le Q1.lt sp12)
  have ne_b2_pt12 : b2 ≠ pt12 := Nat.ne_of_lt (Nat.lt_of_lt_of_le Q2.lt sp12)
  have ne_b6_pt12 : b6 ≠ pt12 := Nat.ne_of_lt (Nat.lt_of_lt_of_le Q6.lt sp12)
  have ne_b9_pt12 : b9 ≠ pt12 := Nat.ne_of_lt (Nat.lt_of_lt_of_le A9.lt sp12)
  have ne_b11_pt12 : b11 ≠ pt12 := Nat.ne_of_lt (Nat.lt_of_lt_of_le A11.lt sp12)
  have ne_t10_pt12 : t10 ≠ pt12 := Nat.ne_of_lt (Nat.lt_of_lt_of_le VT10.lt sp12)
  have ne_r010_pt12 : r010 ≠ pt12 := Nat.ne_of_lt (Nat.lt_of_lt_of_le V0_10.lt sp12)
  have ne_r110_pt12 : r110 ≠ pt12 := Nat.ne_of_lt (Nat.lt_of_lt_of_le V1_10.lt sp12)
  have gb_pt12 : n0 ≤ pt12 := Nat.le_trans hz sp12
  have ne_b1_b012 : b1 ≠ b012 := Nat.ne_of_lt (Nat.lt_of_lt_of_le Q1.lt sb012)
  have ne_b2_b012 : b2 ≠ b012 := Nat.ne_of_lt (Nat.lt_of_lt_of_le Q2.lt sb012)
  have ne_b6_b012 : b6 ≠ b012 := Nat.ne_of_lt (Nat.lt_of_lt_of_le Q6.lt sb012)
  have ne_b9_b012 : b9 ≠ b012 := Nat.ne_of_lt (Nat.lt_of_lt_of_le A9.lt sb012)
  have ne_b11_b012 : b11 ≠ b012 := Nat.ne_of_lt (Nat.lt_of_lt_of_le A11.lt sb012)
  have ne_t10_b012 : t10 ≠ b012 := Nat.ne_of_lt (Nat.lt_of_lt_of_le VT10.lt sb012)
  have ne_r010_b012 : r010 ≠ b012 := Nat.ne_of_lt (Nat.lt_of_lt_of_le V0_10.lt sb012)
  have ne_r110_b012 : r110 ≠ b012 := Nat.ne_of_lt (Nat.lt_of_lt_of_le V1_10.lt sb012)
  have gb_b012 : n0 ≤ b012 := Nat.le_trans hz sb012
  have ne_b1_b112 : b1 ≠ b112 := Nat.ne_of_lt (Nat.lt_of_lt_of_le Q1.lt sb112)
  have ne_b2_b112 : b2 ≠ b112 := Nat.ne_of_lt (Nat.lt_of_lt_of_le Q2.lt sb112)
  have ne_b6_b112 : b6 ≠ b112 := Nat.ne_of_lt (Nat.lt_of_lt_of_le Q6.lt sb112)
  have ne_b9_b112 : b9 ≠ b112 := Nat.ne_of_lt (Nat.lt_of_lt_of_le A9.lt sb112)
  have ne_b11_b112 : b11 ≠ b112 := Nat.ne_of_lt (Nat.lt_of_lt_of_le A11.lt sb112)
  have ne_t10_b112 : t10 ≠ b112 := Nat.ne_of_lt (Nat.lt_of_lt_of_le VT10.lt sb112)
  have ne_r010_b112 : r010 ≠ b112 := Nat.ne_of_lt (Nat.lt_of_lt_of_le V0_10.lt sb112)
  have ne_r110_b112 : r110 ≠ b112 := Nat.ne_of_lt (Nat.lt_of_lt_of_le V1_10.lt sb112)
  have gb_b112 : n0 ≤ b112 := Nat.le_trans hz sb112
  replace Ft10 := Ft10.keep K12 (ninS ne_b9_b11 nin0)
  replace Fq10 := Fq10.keep K12 (ninS ne_b9_b11 nin0)
  replace Q1 := Q1.keep K12
  replace Q2 := Q2.keep K12
  replace Q6 := Q6.keep K12
  replace A9 := A9.keep K12
  replace A11 := A11.keep K12
  replace U_b1 := U_b1.keep K12
  replace V_b1 := V_b1.keep K12 (ninS ne_b1_b11 nin0)
  replace V_b2 := V_b2.keep K12 (ninS ne_b2_b11 nin0)
  replace V_b6 := V_b6.keep K12 (ninS ne_b6_b11 nin0)
  replace VT10 := VT10.keep K12 (ninS ne_t10_b11 nin0)
  replace V0_10 := V0_10.keep K12 (ninS ne_r010_b11 nin0)
  replace V1_10 := V1_10.keep K12 (ninS ne_r110_b11 nin0)
  replace hz := Nat.le_trans hz K12.1
  show Go pr ev below _ T12 (mkF m 96 #[.val (.int p0), .val (.int p1), .val (.int p2), .val (.int p3), .val (.int p4), .val (.double (FP.i2d (p0 &&& (1023 : Int32)))), .second, .val (.double u), .second, .val (.double (FP.l2d am)), .second, .val (.ref b1), .val (.ref b9), .unset, .unset, .unset, .unset, .unset, .unset, .unset] [(.ref b11), (.ref b9)])
  refine Go.of (mkF m 98 #[.val (.int p0), .val (.int p1), .val (.int p2), .val (.int p3), .val (.int p4), .val (.double (FP.i2d (p0 &&& (1023 : Int32)))), .second, .val (.double u), .second, .val (.double (FP.l2d am)), .second, .val (.ref b1), .val (.ref b9), .unset, .unset, .unset, .unset, .unset, .unset, .unset] [(.double (FP.l2d am)), (.ref b11), (.ref b9)]) (fun tt0 kk0 => XS.dload X12.here hx rfl (hb hby at_96) rfl kk0) ?_
  have hWs : own_W (fun _ => (FP.i2d (p0 &&& (1023 : Int32)))) 1023 := fun j => ⟨_, hst, by have := hs0; omega, by have := hs0; omega⟩
  refine Go.virt X12 hx hZ (y := (⟨"com/example/quench/quench/Pheromones", "deposit", "(Lcom/example/quench/quench/Plan;D)V"⟩ : MethodName)) (z := (⟨"com/example/quench/quench/Pheromones", "deposit", "(Lcom/example/quench/quench/Plan;D)V"⟩ : MethodName)) (a := b9) (argsL := [(.ref b11), (.double (FP.l2d am))]) (rest := []) hown (tw42 hw) (tw43 hw) (notFace_of_selects (args := #[]) (mvT hZ (tw45 hw))) (tw45 hw) (tw44 hw) (tw7 hw) (tw46 hw) (by decide) rfl A9 (rmDep l Z a0 hw [] b9 b11 t10 r010 r110 yt10 (fun _ => (FP.i2d (p0 &&& (1023 : Int32)))) (fun _ => (FP.i2d (p0 &&& (1023 : Int32)))) pt12 b012 b112 yp12 (fnup (fnup (fun _ => (0 : Int32)) (0 : Int32) (p3 &&& (1 : Int32))) (1 : Int32) (((p3.toUInt32 >>> ((1 : Int32) &&& 31).toUInt32).toInt32) &&& (1 : Int32))) (fnup (fun _ => (0 : Int32)) (0 : Int32) (((p3.toUInt32 >>> ((2 : Int32) &&& 31).toUInt32).toInt32) &&& (1 : Int32))) am 1023 T12.heap n0 hz A9 Ft10 Fq10 VT10 hy010 hy110 V0_10 V1_10 ne_b9_t10 ne_b9_r010 ne_b9_r110 ne_t10_r010 ne_t10_r110 ne_r010_r110 gb_r010 gb_r110 A11 G12 VP12 hp012 hp112 W012 W112 (Ne.symm ne_r010_b11) (Ne.symm ne_r110_b11) (Ne.symm ne_r010_pt12) (Ne.symm ne_r110_pt12) (Ne.symm ne_r010_b012) (Ne.symm ne_r110_b012) (Ne.symm ne_r010_b112) (Ne.symm ne_r110_b112) (by rw [show ((fnup (fnup (fun _ => (0 : Int32)) (0 : Int32) (p3 &&& (1 : Int32))) (1 : Int32) (((p3.toUInt32 >>> ((1 : Int32) &&& 31).toUInt32).toInt32) &&& (1 : Int32))) 0) = (p3 &&& (1 : Int32)) from by first | rfl | simp [fnup]]; exact own_bit _) (by rw [show ((fnup (fnup (fun _ => (0 : Int32)) (0 : Int32) (p3 &&& (1 : Int32))) (1 : Int32) (((p3.toUInt32 >>> ((1 : Int32) &&& 31).toUInt32).toInt32) &&& (1 : Int32))) 1) = (((p3.toUInt32 >>> ((1 : Int32) &&& 31).toUInt32).toInt32) &&& (1 : Int32)) from by first | rfl | simp [fnup]]; exact own_bit _) (by rw [show ((fnup (fun _ => (0 : Int32)) (0 : Int32) (((p3.toUInt32 >>> ((2 : Int32) &&& 31).toUInt32).toInt32) &&& (1 : Int32))) 0) = (((p3.toUInt32 >>> ((2 : Int32) &&& 31).toUInt32).toInt32) &&& (1 : Int32)) from by first | rfl | simp [fnup]]; exact own_bit _) hWs hWs (by omega) (by omega)) (g := (mkF m 98 #[.val (.int p0), .val (.int p1), .val (.int p2), .val (.int p3), .val (.int p4), .val (.double (FP.i2d (p0 &&& (1023 : Int32)))), .second, .val (.double u), .second, .val (.double (FP.l2d am)), .second, .val (.ref b1), .val (.ref b9), .unset, .unset, .unset, .unset, .unset, .unset, .unset] [(.double (FP.l2d am)), (.ref b11), (.ref b9)])) rfl (by rw [hml]; rfl) (lenOf pd17 rfl) rfl (W := 0) (by show 2 * 0 + _ ≤ _; exact Nat.le_of_eq rfl) (hb hby at_98) (by decide) (by decide) (by decide) (by decide) ?_
  rintro T13 L13 v13 X13 ⟨w0, w1, rfl, NL13, K13, hW0, hW1, V0_13, V1_13⟩
  have N13 := Fr.app N12 NL13
  replace Ft10 := Ft10.keep K13 (ninS ne_b9_r010 (ninS ne_b9_r110 nin0))
  replace Fq10 := Fq10.keep K13 (ninS ne_b9_r010 (ninS ne_b9_r110 nin0))
  replace G12 := G12.keep K13 (ninS (Ne.symm ne_r010_b11) (ninS (Ne.symm ne_r110_b11) nin0))
  replace Q1 := Q1.keep K13
  replace Q2 := Q2.keep K13
  replace Q6 := Q6.keep K13
  replace A9 := A9.keep K13
  replace A11 := A11.keep K13
  replace U_b1 := U_b1.keep K13
  replace V_b1 := V_b1.keep K13 (ninS ne_b1_r010 (ninS ne_b1_r110 nin0))
  replace V_b2 := V_b2.keep K13 (ninS ne_b2_r010 (ninS ne_b2_r110 nin0))
  replace V_b6 := V_b6.keep K13 (ninS ne_b6_r010 (ninS ne_b6_r110 nin0))
  replace VT10 := VT10.keep K13 (ninS ne_t10_r010 (ninS ne_t10_r110 nin0))
  replace VP12 := VP12.keep K13 (ninS (Ne.symm ne_r010_pt12) (ninS (Ne.symm ne_r110_pt12) nin0))
  replace W012 := W012.keep K13 (ninS (Ne.symm ne_r010_b012) (ninS (Ne.symm ne_r110_b012) nin0))
  replace W112 := W112.keep K13 (ninS (Ne.symm ne_r010_b112) (ninS (Ne.symm ne_r110_b112) nin0))
  replace hz := Nat.le_trans hz K13.1
  show Go pr ev below _ T13 (mkF m 101 #[.val (.int p0), .val (.int p1), .val (.int p2), .val (.int p3), .val (.int p4), .val (.double (FP.i2d (p0 &&& (1023 : Int32)))), .second, .val (.double u), .second, .val (.double (FP.l2d am)), .second, .val (.ref b1), .val (.ref b9), .unset, .unset, .unset, .unset, .unset, .unset, .unset] [])
  refine Go.of (mkF m 103 #[.val (.int p0), .val (.int p1), .val (.int p2), .val (.int p3), .val (.int p4), .val (.double (FP.i2d (p0 &&& (1023 : Int32)))), .second, .val (.double u), .second, .val (.double (FP.l2d am)), .second, .val (.ref b1), .val (.ref b9), .unset, .unset, .unset, .unset, .unset, .unset, .unset] [(.int p4)]) (fun tt0 kk0 => XS.iload X13.here hx rfl (hb hby at_101) rfl kk0) ?_
  refine Go.of (mkF m 104 #[.val (.int p0), .val (.int p1), .val (.int p2), .val (.int p3), .val (.int p4), .val (.double (FP.i2d (p0 &&& (1023 : Int32)))), .second, .val (.double u), .second, .val (.double (FP.l2d am)), .second, .val (.ref b1), .val (.ref b9), .unset, .unset, .unset, .unset, .unset, .unset, .unset] [(.int (1 : Int32)), (.int p4)]) (fun tt0 kk0 => XS.iconst X13.here hx rfl (hb hby at_103) kk0) ?_
  refine Go.of (mkF m 105 #[.val (.int p0), .val (.int p1), .val (.int p2), .val (.int p3), .val (.int p4), .val (.double (FP.i2d (p0 &&& (1023 : Int32)))), .second, .val (.double u), .second, .val (.double (FP.l2d am)), .second, .val (.ref b1), .val (.ref b9), .unset, .unset, .unset, .unset, .unset, .unset, .unset] [(.int (p4 &&& (1 : Int32)))]) (fun tt0 kk0 => XS.iand X13.here hx rfl (hb hby at_104) rfl kk0) ?_
  refine Go.of (mkF m 107 #[.val (.int p0), .val (.int p1), .val (.int p2), .val (.int p3), .val (.int p4), .val (.double (FP.i2d (p0 &&& (1023 : Int32)))), .second, .val (.double u), .second, .val (.double (FP.l2d am)), .second, .val (.ref b1), .val (.ref b9), .val (.int (p4 &&& (1 : Int32))), .unset, .unset, .unset, .unset, .unset, .unset] []) (fun tt0 kk0 => XS.istore X13.here hx rfl (hb hby at_105) rfl (l' := #[.val (.int p0), .val (.int p1), .val (.int p2), .val (.int p3), .val (.int p4), .val (.double (FP.i2d (p0 &&& (1023 : Int32)))), .second, .val (.double u), .second, .val (.double (FP.l2d am)), .second, .val (.ref b1), .val (.ref b9), .val (.int (p4 &&& (1 : Int32))), .unset, .unset, .unset, .unset, .unset, .unset]) rfl kk0) ?_
  have hro := own_bit p4
  generalize hroe : (p4 &&& (1 : Int32)) = ro
  rw [hroe] at hro
  refine Go.of (mkF m 109 #[.val (.int p0), .val (.int p1), .val (.int p2), .val (.int p3), .val (.int p4), .val (.double (FP.i2d (p0 &&& (1023 : Int32)))), .second, .val (.double u), .second, .val (.double (FP.l2d am)), .second, .val (.ref b1), .val (.ref b9), .val (.int ro), .unset, .unset, .unset, .unset, .unset, .unset] [(.int p4)]) (fun tt0 kk0 => XS.iload X13.here hx rfl (hb hby at_107) rfl kk0) ?_
  refine Go.of (mkF m 110 #[.val (.int p0), .val (.int p1), .val (.int p2), .val (.int p3), .val (.int p4), .val (.double (FP.i2d (p0 &&& (1023 : Int32)))), .second, .val (.double u), .second, .val (.double (FP.l2d am)), .second, .val (.ref b1), .val (.ref b9), .val (.int ro), .unset, .unset, .unset, .unset, .unset, .unset] [(.int (1 : Int32)), (.int p4)]) (fun tt0 kk0 => XS.iconst X13.here hx rfl (hb hby at_109) kk0) ?_
  refine Go.of (mkF m 111 #[.val (.int p0), .val (.int p1), .val (.int p2), .val (.int p3), .val (.int p4), .val (.double (FP.i2d (p0 &&& (1023 : Int32)))), .second, .val (.double u), .second, .val (.double (FP.l2d am)), .second, .val (.ref b1), .val (.ref b9), .val (.int ro), .unset, .unset, .unset, .unset, .unset, .unset] [(.int ((p4.toUInt32 >>> ((1 : Int32) &&& 31).toUInt32).toInt32))]) (fun tt0 kk0 => XS.iushr X13.here hx rfl (hb hby at_110) rfl kk0) ?_
  refine Go.of (mkF m 112 #[.val (.int p0), .val (.int p1), .val (.int p2), .val (.int p3), .val (.int p4), .val (.double (FP.i2d (p0 &&& (1023 : Int32)))), .second, .val (.double u), .second, .val (.double (FP.l2d am)), .second, .val (.ref b1), .val (.ref b9), .val (.int ro), .unset, .unset, .unset, .unset, .unset, .unset] [(.int (3 : Int32)), (.int ((p4.toUInt32 >>> ((1 : Int32) &&& 31).toUInt32).toInt32))]) (fun tt0 kk0 => XS.iconst X13.here hx rfl (hb hby at_111) kk0) ?_
  refine Go.of (mkF m 113 #[.val (.int p0), .val (.int p1), .val (.int p2), .val (.int p3), .val (.int p4), .val (.double (FP.i2d (p0 &&& (1023 : Int32)))), .second, .val (.double u), .second, .val (.double (FP.l2d am)), .second, .val (.ref b1), .val (.ref b9), .val (.int ro), .unset, .unset, .unset, .unset, .unset, .unset] [(.int (((p4.toUInt32 >>> ((1 : Int32) &&& 31).toUInt32).toInt32) &&& (3 : Int32)))]) (fun tt0 kk0 => XS.iand X13.here hx rfl (hb hby at_112) rfl kk0) ?_
  refine Go.of (mkF m 114 #[.val (.int p0), .val (.int p1), .val (.int p2), .val (.int p3), .val (.int p4), .val (.double (FP.i2d (p0 &&& (1023 : Int32)))), .second, .val (.double u), .second, .val (.double (FP.l2d am)), .second, .val (.ref b1), .val (.ref b9), .val (.int ro), .unset, .unset, .unset, .unset, .unset, .unset] [(.int (3 : Int32)), (.int (((p4.toUInt32 >>> ((1 : Int32) &&& 31).toUInt32).toInt32) &&& (3 : Int32)))]) (fun tt0 kk0 => XS.iconst X13.here hx rfl (hb hby at_113) kk0) ?_
  refine Go.of (mkF m 115 #[.val (.int p0), .val (.int p1), .val (.int p2), .val (.int p3), .val (.int p4), .val (.double (FP.i2d (p0 &&& (1023 : Int32)))), .second, .val (.double u), .second, .val (.double (FP.l2d am)), .second, .val (.ref b1), .val (.ref b9), .val (.int ro), .unset, .unset, .unset, .unset, .unset, .unset] [(.int ((((p4.toUInt32 >>> ((1 : Int32) &&& 31).toUInt32).toInt32) &&& (3 : Int32)) % (3 : Int32)))]) (fun tt0 kk0 => iremM X13 hx rfl (hb hby at_114) rfl (by decide) kk0) ?_
  refine Go.of (mkF m 116 #[.val (.int p0), .val (.int p1), .val (.int p2), .val (.int p3), .val (.int p4), .val (.double (FP.i2d (p0 &&& (1023 : Int32)))), .second, .val (.double u), .second, .val (.double (FP.l2d am)), .second, .val (.ref b1), .val (.ref b9), .val (.int ro), .unset, .unset, .unset, .unset, .unset, .unset] [(.int (1 : Int32)), (.int ((((p4.toUInt32 >>> ((1 : Int32) &&& 31).toUInt32).toInt32) &&& (3 : Int32)) % (3 : Int32)))]) (fun tt0 kk0 => XS.iconst X13.here hx rfl (hb hby at_115) kk0) ?_
  refine Go.of (mkF m 117 #[.val (.int p0), .val (.int p1), .val (.int p2), .val (.int p3), .val (.int p4), .val (.double (FP.i2d (p0 &&& (1023 : Int32)))), .second, .val (.double u), .second, .val (.double (FP.l2d am)), .second, .val (.ref b1), .val (.ref b9), .val (.int ro), .unset, .unset, .unset, .unset, .unset, .unset] [(.int (((((p4.toUInt32 >>> ((1 : Int32) &&& 31).toUInt32).toInt32) &&& (3 : Int32)) % (3 : Int32)) - (1 : Int32)))]) (fun tt0 kk0 => XS.isub X13.here hx rfl (hb hby at_116) rfl kk0) ?_
  refine Go.of (mkF m 119 #[.val (.int p0), .val (.int p1), .val (.int p2), .val (.int p3), .val (.int p4), .val (.double (FP.i2d (p0 &&& (1023 : Int32)))), .second, .val (.double u), .second, .val (.double (FP.l2d am)), .second, .val (.ref b1), .val (.ref b9), .val (.int ro), .val (.int (((((p4.toUInt32 >>> ((1 : Int32) &&& 31).toUInt32).toInt32) &&& (3 : Int32)) % (3 : Int32)) - (1 : Int32))), .unset, .unset, .unset, .unset, .unset] []) (fun tt0 kk0 => XS.istore X13.here hx rfl (hb hby at_117) rfl (l' := #[.val (.int p0), .val (.int p1), .val (.int p2), .val (.int p3), .val (.int p4), .val (.double (FP.i2d (p0 &&& (1023 : Int32)))), .second, .val (.double u), .second, .val (.double (FP.l2d am)), .second, .val (.ref b1), .val (.ref b9), .val (.int ro), .val (.int (((((p4.toUInt32 >>> ((1 : Int32) &&& 31).toUInt32).toInt32) &&& (3 : Int32)) % (3 : Int32)) - (1 : Int32))), .unset, .unset, .unset, .unset, .unset]) rfl kk0) ?_
  have hfr := own_from ((p4.toUInt32 >>> ((1 : Int32) &&& 31).toUInt32).toInt32)
  generalize hfe : (((((p4.toUInt32 >>> ((1 : Int32) &&& 31).toUInt32).toInt32) &&& (3 : Int32)) % (3 : Int32)) - (1 : Int32)) = f
  rw [hfe] at hfr
  refine Go.of (mkF m 121 #[.val (.int p0), .val (.int p1), .val (.int p2), .val (.int p3), .val (.int p4), .val (.double (FP.i2d (p0 &&& (1023 : Int32)))), .second, .val (.double u), .second, .val (.double (FP.l2d am)), .second, .val (.ref b1), .val (.ref b9), .val (.int ro), .val (.int f), .unset, .unset, .unset, .unset, .unset] [(.int p4)]) (fun tt0 kk0 => XS.iload X13.here hx rfl (hb hby at_119) rfl kk0) ?_
  refine Go.of (mkF m 122 #[.val (.int p0), .val (.int p1), .val (.int p2), .val (.int p3), .val (.int p4), .val (.double (FP.i2d (p0 &&& (1023 : Int32)))), .second, .val (.double u), .second, .val (.double (FP.l2d am)), .second, .val (.ref b1), .val (.ref b9), .val (.int ro), .val (.int f), .unset, .unset, .unset, .unset, .unset] [(.int (3 : Int32)), (.int p4)]) (fun tt0 kk0 => XS.iconst X13.here hx rfl (hb hby at_121) kk0) ?_
  refine Go.of (mkF m 123 #[.val (.int p0), .val (.int p1), .val (.int p2), .val (.int p3), .val (.int p4), .val (.double (FP.i2d (p0 &&& (1023 : Int32)))), .second, .val (.double u), .second, .val (.double (FP.l2d am)), .second, .val (.ref b1), .val (.ref b9), .val (.int ro), .val (.int f), .unset, .unset, .unset, .unset, .unset] [(.int ((p4.toUInt32 >>> ((3 : Int32) &&& 31).toUInt32).toInt32))]) (fun tt0 kk0 => XS.iushr X13.here hx rfl (hb hby at_122) rfl kk0) ?_
  refine Go.of (mkF m 124 #[.val (.int p0), .val (.int p1), .val (.int p2), .val (.int p3), .val (.int p4), .val (.double (FP.i2d (p0 &&& (1023 : Int32)))), .second, .val (.double u), .second, .val (.double (FP.l2d am)), .second, .val (.ref b1), .val (.ref b9), .val (.int ro), .val (.int f), .unset, .unset, .unset, .unset, .unset] [(.int (1 : Int32)), (.int ((p4.toUInt32 >>> ((3 : Int32) &&& 31).toUInt32).toInt32))]) (fun tt0 kk0 => XS.iconst X13.here hx rfl (hb hby at_123) kk0) ?_
  refine Go.of (mkF m 125 #[.val (.int p0), .val (.int p1), .val (.int p2), .val (.int p3), .val (.int p4), .val (.double (FP.i2d (p0 &&& (1023 : Int32)))), .second, .val (.double u), .second, .val (.double (FP.l2d am)), .second, .val (.ref b1), .val (.ref b9), .val (.int ro), .val (.int f), .unset, .unset, .unset, .unset, .unset] [(.int (((p4.toUInt32 >>> ((3 : Int32) &&& 31).toUInt32).toInt32) &&& (1 : Int32)))]) (fun tt0 kk0 => XS.iand X13.here hx rfl (hb hby at_124) rfl kk0) ?_
  refine Go.of (mkF m 127 #[.val (.int p0), .val (.int p1), .val (.int p2), .val (.int p3), .val (.int p4), .val (.double (FP.i2d (p0 &&& (1023 : Int32)))), .second, .val (.double u), .second, .val (.double (FP.l2d am)), .second, .val (.ref b1), .val (.ref b9), .val (.int ro), .val (.int f), .val (.int (((p4.toUInt32 >>> ((3 : Int32) &&& 31).toUInt32).toInt32) &&& (1 : Int32))), .unset, .unset, .unset, .unset] []) (fun tt0 kk0 => XS.istore X13.here hx rfl (hb hby at_125) rfl (l' := #[.val (.int p0), .val (.int p1), .val (.int p2), .val (.int p3), .val (.int p4), .val (.double (FP.i2d (p0 &&& (1023 : Int32)))), .second, .val (.double u), .second, .val (.double (FP.l2d am)), .second, .val (.ref b1), .val (.ref b9), .val (.int ro), .val (.int f), .val (.int (((p4.toUInt32 >>> ((3 : Int32) &&& 31).toUInt32).toInt32) &&& (1 : Int32))), .unset, .unset, .unset, .unset]) rfl kk0) ?_
  have hta := own_bit ((p4.toUInt32 >>> ((3 : Int32) &&& 31).toUInt32).toInt32)
  generalize hge : (((p4.toUInt32 >>> ((3 : Int32) &&& 31).toUInt32).toInt32) &&& (1 : Int32)) = g
  rw [hge] at hta
  have hrg := own_rng hfr hta
  clear hroe
  rcases hro with rfl | rfl
  ·
    refine Go.of (mkF m 129 #[.val (.int p0), .val (.int p1), .val (.int p2), .val (.int p3), .val (.int p4), .val (.double (FP.i2d (p0 &&& (1023 : Int32)))), .second, .val (.double u), .second, .val (.double (FP.l2d am)), .second, .val (.ref b1), .val (.ref b9), .val (.int (0 : Int32)), .val (.int f), .val (.int g), .unset, .unset, .unset, .unset] [(.ref b9)]) (fun tt0 kk0 => XS.aload X13.here hx rfl (hb hby at_127) rfl rfl kk0) ?_
    refine Go.of (mkF m 131 #[.val (.int p0), .val (.int p1), .val (.int p2), .val (.int p3), .val (.int p4), .val (.double (FP.i2d (p0 &&& (1023 : Int32)))), .second, .val (.double u), .second, .val (.double (FP.l2d am)), .second, .val (.ref b1), .val (.ref b9), .val (.int (0 : Int32)), .val (.int f), .val (.int g), .unset, .unset, .unset, .unset] [(.int (0 : Int32)), (.ref b9)]) (fun tt0 kk0 => XS.iload X13.here hx rfl (hb hby at_129) rfl kk0) ?_
    refine Go.of (mkF m 133 #[.val (.int p0), .val (.int p1), .val (.int p2), .val (.int p3), .val (.int p4), .val (.double (FP.i2d (p0 &&& (1023 : Int32)))), .second, .val (.double u), .second, .val (.double (FP.l2d am)), .second, .val (.ref b1), .val (.ref b9), .val (.int (0 : Int32)), .val (.int f), .val (.int g), .unset, .unset, .unset, .unset] [(.int f), (.int (0 : Int32)), (.ref b9)]) (fun tt0 kk0 => XS.iload X13.here hx rfl (hb hby at_131) rfl kk0) ?_
    refine Go.of (mkF m 135 #[.val (.int p0), .val (.int p1), .val (.int p2), .val (.int p3), .val (.int p4), .val (.double (FP.i2d (p0 &&& (1023 : Int32)))), .second, .val (.double u), .second, .val (.double (FP.l2d am)), .second, .val (.ref b1), .val (.ref b9), .val (.int (0 : Int32)), .val (.int f), .val (.int g), .unset, .unset, .unset, .unset] [(.int g), (.int f), (.int (0 : Int32)), (.ref b9)]) (fun tt0 kk0 => XS.iload X13.here hx rfl (hb hby at_133) rfl kk0) ?_
    refine Go.virt X13 hx hZ (y := (⟨"com/example/quench/quench/Pheromones", "on", "(III)D"⟩ : MethodName)) (z := (⟨"com/example/quench/quench/Pheromones", "on", "(III)D"⟩ : MethodName)) (a := b9) (argsL := [(.int (0 : Int32)), (.int f), (.int g)]) (rest := []) hown (tw66 hw) (tw67 hw) (notFace_of_selects (args := #[]) (mvT hZ (tw69 hw))) (tw69 hw) (tw68 hw) (tw7 hw) (tw70 hw) (by decide) rfl A9 (rmOn0 l Z a0 hw [] b9 t10 r010 r110 yt10 w0 w1 f g T13.heap A9 Ft10 Fq10 VT10 hy010 hy110 V0_13 V1_13 hrg) (g := (mkF m 135 #[.val (.int p0), .val (.int p1), .val (.int p2), .val (.int p3), .val (.int p4), .val (.double (FP.i2d (p0 &&& (1023 : Int32)))), .second, .val (.double u), .second, .val (.double (FP.l2d am)), .second, .val (.ref b1), .val (.ref b9), .val (.int (0 : Int32)), .val (.int f), .val (.int g), .unset, .unset, .unset, .unset] [(.int g), (.int f), (.int (0 : Int32)), (.ref b9)])) rfl (by rw [hml]; rfl) (lenOf pd18 rfl) rfl (W := 0) (by show 2 * 0 + _ ≤ _; exact Nat.le_of_eq rfl) (hb hby at_135) (by decide) (by decide) (by decide) (by decide) ?_
    rintro T14 L14 v14 X14 ⟨rfl, rfl, hh14⟩
    have N14 := Fr.app N13 (Fr.nil n0)
    show Go pr ev below _ T14 (mkF m 138 #[.val (.int p0), .val (.int p1), .val (.int p2), .val (.int p3), .val (.int p4), .val (.double (FP.i2d (p0 &&& (1023 : Int32)))), .second, .val (.double u), .second, .val (.double (FP.l2d am)), .second, .val (.ref b1), .val (.ref b9), .val (.int (0 : Int32)), .val (.int f), .val (.int g), .unset, .unset, .unset, .unset] [(.double (w0 (own_mv f g)))])
    refine Go.of (mkF m 140 #[.val (.int p0), .val (.int p1), .val (.int p2), .val (.int p3), .val (.int p4), .val (.double (FP.i2d (p0 &&& (1023 : Int32)))), .second, .val (.double u), .second, .val (.double (FP.l2d am)), .second, .val (.ref b1), .val (.ref b9), .val (.int (0 : Int32)), .val (.int f), .val (.int g), .val (.double (w0 (own_mv f g))), .second, .unset, .unset] []) (fun tt0 kk0 => XS.dstore X14.here hx rfl (hb hby at_138) rfl (l' := #[.val (.int p0), .val (.int p1), .val (.int p2), .val (.int p3), .val (.int p4), .val (.double (FP.i2d (p0 &&& (1023 : Int32)))), .second, .val (.double u), .second, .val (.double (FP.l2d am)), .second, .val (.ref b1), .val (.ref b9), .val (.int (0 : Int32)), .val (.int f), .val (.int g), .val (.double (w0 (own_mv f g))), .second, .unset, .unset]) rfl kk0) ?_
    refine Go.of (mkF m 142 #[.val (.int p0), .val (.int p1), .val (.int p2), .val (.int p3), .val (.int p4), .val (.double (FP.i2d (p0 &&& (1023 : Int32)))), .second, .val (.double u), .second, .val (.double (FP.l2d am)), .second, .val (.ref b1), .val (.ref b9), .val (.int (0 : Int32)), .val (.int f), .val (.int g), .val (.double (w0 (own_mv f g))), .second, .unset, .unset] [(.ref b9)]) (fun tt0 kk0 => XS.aload X14.here hx rfl (hb hby at_140) rfl rfl kk0) ?_
    refine Go.of (mkF m 144 #[.val (.int p0), .val (.int p1), .val (.int p2), .val (.int p3), .val (.int p4), .val (.double (FP.i2d (p0 &&& (1023 : Int32)))), .second, .val (.double u), .second, .val (.double (FP.l2d am)), .second, .val (.ref b1), .val (.ref b9), .val (.int (0 : Int32)), .val (.int f), .val (.int g), .val (.double (w0 (own_mv f g))), .second, .unset, .unset] [(.double u), (.ref b9)]) (fun tt0 kk0 => XS.dload X14.here hx rfl (hb hby at_142) rfl kk0) ?_
    refine Go.virt X14 hx hZ (y := (⟨"com/example/quench/quench/Pheromones", "evaporate", "(D)V"⟩ : MethodName)) (z := (⟨"com/example/quench/quench/Pheromones", "evaporate", "(D)V"⟩ : MethodName)) (a := b9) (argsL := [(.double u)]) (rest := []) hown (tw71 hw) (tw72 hw) (notFace_of_selects (args := #[]) (mvT hZ (tw74 hw))) (tw74 hw) (tw73 hw) (tw7 hw) (tw75 hw) (by decide) hh14 A9 (rmEv l Z a0 hw [] b9 t10 r010 r110 yt10 w0 w1 u _ T13.heap n0 hz A9 Ft10 Fq10 VT10 hy010 hy110 V0_13 V1_13 ne_b9_t10 ne_b9_r010 ne_b9_r110 ne_t10_r010 ne_t10_r110 ne_r010_r110 gb_r010 gb_r110 hW0 hW1 hF) (g := (mkF m 144 #[.val (.int p0), .val (.int p1), .val (.int p2), .val (.int p3), .val (.int p4), .val (.double (FP.i2d (p0 &&& (1023 : Int32)))), .second, .val (.double u), .second, .val (.double (FP.l2d am)), .second, .val (.ref b1), .val (.ref b9), .val (.int (0 : Int32)), .val (.int f), .val (.int g), .val (.double (w0 (own_mv f g))), .second, .unset, .unset] [(.double u), (.ref b9)])) rfl (by rw [hml]; rfl) (lenOf pd19 rfl) rfl (W := 0) (by show 2 * 0 + _ ≤ _; exact Nat.le_of_eq rfl) (hb hby at_144) (by decide) (by decide) (by decide) (by decide) ?_
    rintro T15 L15 v15 X15 ⟨rfl, NL15, K15, V0_15, V1_15⟩
    have N15 := Fr.app N14 NL15
    replace Ft10 := Ft10.keep K15 (ninS ne_b9_r010 (ninS ne_b9_r110 nin0))
    replace Fq10 := Fq10.keep K15 (ninS ne_b9_r010 (ninS ne_b9_r110 nin0))
    replace G12 := G12.keep K15 (ninS (Ne.symm ne_r010_b11) (ninS (Ne.symm ne_r110_b11) nin0))
    replace Q1 := Q1.keep K15
    replace Q2 := Q2.keep K15
    replace Q6 := Q6.keep K15
    replace A9 := A9.keep K15
    replace A11 := A11.keep K15
    replace U_b1 := U_b1.keep K15
    replace V_b1 := V_b1.keep K15 (ninS ne_b1_r010 (ninS ne_b1_r110 nin0))
    replace V_b2 := V_b2.keep K15 (ninS ne_b2_r010 (ninS ne_b2_r110 nin0))
    replace V_b6 := V_b6.keep K15 (ninS ne_b6_r010 (ninS ne_b6_r110 nin0))
    replace VT10 := VT10.keep K15 (ninS ne_t10_r010 (ninS ne_t10_r110 nin0))
    replace VP12 := VP12.keep K15 (ninS (Ne.symm ne_r010_pt12) (ninS (Ne.symm ne_r110_pt12) nin0))
    replace W012 := W012.keep K15 (ninS (Ne.symm ne_r010_b012) (ninS (Ne.symm ne_r110_b012) nin0))
    replace W112 := W112.keep K15 (ninS (Ne.symm ne_r010_b112) (ninS (Ne.symm ne_r110_b112) nin0))
    replace hz := Nat.le_trans hz K15.1
    show Go pr ev below _ T15 (mkF m 147 #[.val (.int p0), .val (.int p1), .val (.int p2), .val (.int p3), .val (.int p4), .val (.double (FP.i2d (p0 &&& (1023 : Int32)))), .second, .val (.double u), .second, .val (.double (FP.l2d am)), .second, .val (.ref b1), .val (.ref b9), .val (.int (0 : Int32)), .val (.int f), .val (.int g), .val (.double (w0 (own_mv f g))), .second, .unset, .unset] [])
    refine Go.of (mkF m 149 #[.val (.int p0), .val (.int p1), .val (.int p2), .val (.int p3), .val (.int p4), .val (.double (FP.i2d (p0 &&& (1023 : Int32)))), .second, .val (.double u), .second, .val (.double (FP.l2d am)), .second, .val (.ref b1), .val (.ref b9), .val (.int (0 : Int32)), .val (.int f), .val (.int g), .val (.double (w0 (own_mv f g))), .second, .unset, .unset] [(.ref b9)]) (fun tt0 kk0 => XS.aload X15.here hx rfl (hb hby at_147) rfl rfl kk0) ?_
    refine Go.of (mkF m 151 #[.val (.int p0), .val (.int p1), .val (.int p2), .val (.int p3), .val (.int p4), .val (.double (FP.i2d (p0 &&& (1023 : Int32)))), .second, .val (.double u), .second, .val (.double (FP.l2d am)), .second, .val (.ref b1), .val (.ref b9), .val (.int (0 : Int32)), .val (.int f), .val (.int g), .val (.double (w0 (own_mv f g))), .second, .unset, .unset] [(.int (0 : Int32)), (.ref b9)]) (fun tt0 kk0 => XS.iload X15.here hx rfl (hb hby at_149) rfl kk0) ?_
    refine Go.of (mkF m 153 #[.val (.int p0), .val (.int p1), .val (.int p2), .val (.int p3), .val (.int p4), .val (.double (FP.i2d (p0 &&& (1023 : Int32)))), .second, .val (.double u), .second, .val (.double (FP.l2d am)), .second, .val (.ref b1), .val (.ref b9), .val (.int (0 : Int32)), .val (.int f), .val (.int g), .val (.double (w0 (own_mv f g))), .second, .unset, .unset] [(.int f), (.int (0 : Int32)), (.ref b9)]) (fun tt0 kk0 => XS.iload X15.here hx rfl (hb hby at_151) rfl kk0) ?_
    refine Go.of (mkF m 155 #[.val (.int p0), .val (.int p1), .val (.int p2), .val (.int p3), .val (.int p4), .val (.double (FP.i2d (p0 &&& (1023 : Int32)))), .second, .val (.double u), .second, .val (.double (FP.l2d am)), .second, .val (.ref b1), .val (.ref b9), .val (.int (0 : Int32)), .val (.int f), .val (.int g), .val (.double (w0 (own_mv f g))), .second, .unset, .unset] [(.int g), (.int f), (.int (0 : Int32)), (.ref b9)]) (fun tt0 kk0 => XS.iload X15.here hx rfl (hb hby at_153) rfl kk0) ?_
    refine Go.virt X15 hx hZ (y := (⟨"com/example/quench/quench/Pheromones", "on", "(III)D"⟩ : MethodName)) (z := (⟨"com/example/quench/quench/Pheromones", "on", "(III)D"⟩ : MethodName)) (a := b9) (argsL := [(.int (0 : Int32)), (.int f), (.int g)]) (rest := []) hown (tw66 hw) (tw67 hw) (notFace_of_selects (args := #[]) (mvT hZ (tw69 hw))) (tw69 hw) (tw68 hw) (tw7 hw) (tw70 hw) (by decide) rfl A9 (rmOn0 l Z a0 hw [] b9 t10 r010 r110 yt10 (fun j => FP.dmul (w0 j) (FP.dsub FP.dconst1 u)) (fun j => FP.dmul (w1 j) (FP.dsub FP.dconst1 u)) f g T15.heap A9 Ft10 Fq10 VT10 hy010 hy110 V0_15 V1_15 hrg) (g := (mkF m 155 #[.val (.int p0), .val (.int p1), .val (.int p2), .val (.int p3), .val (.int p4), .val (.double (FP.i2d (p0 &&& (1023 : Int32)))), .second, .val (.double u), .second, .val (.double (FP.l2d am)), .second, .val (.ref b1), .val (.ref b9), .val (.int (0 : Int32)), .val (.int f), .val (.int g), .val (.double (w0 (own_mv f g))), .second, .unset, .unset] [(.int g), (.int f), (.int (0 : Int32)), (.ref b9)])) rfl (by rw [hml]; rfl) (lenOf pd18 rfl) rfl (W := 0) (by show 2 * 0 + _ ≤ _; exact Nat.le_of_eq rfl) (hb hby at_155) (by decide) (by decide) (by decide) (by decide) ?_
    rintro T16 L16 v16 X16 ⟨rfl, rfl, hh16⟩
    have N16 := Fr.app N15 (Fr.nil n0)
    show Go pr ev below _ T16 (mkF m 158 #[.val (.int p0), .val (.int p1), .val (.int p2), .val (.int p3), .val (.int p4), .val (.double (FP.i2d (p0 &&& (1023 : Int32)))), .second, .val (.double u), .second, .val (.double (FP.l2d am)), .second, .val (.ref b1), .val (.ref b9), .val (.int (0 : Int32)), .val (.int f), .val (.int g), .val (.double (w0 (own_mv f g))), .second, .unset, .unset] [(.double ((fun j => FP.dmul (w0 j) (FP.dsub FP.dconst1 u)) (own_mv f g)))])
    show Go pr ev below _ T16 (mkF m 158 #[.val (.int p0), .val (.int p1), .val (.int p2), .val (.int p3), .val (.int p4), .val (.double (FP.i2d (p0 &&& (1023 : Int32)))), .second, .val (.double u), .second, .val (.double (FP.l2d am)), .second, .val (.ref b1), .val (.ref b9), .val (.int (0 : Int32)), .val (.int f), .val (.int g), .val (.double (w0 (own_mv f g))), .second, .unset, .unset] [(.double (FP.dmul (w0 (own_mv f g)) (FP.dsub FP.dconst1 u)))])
    refine Go.of (mkF m 160 #[.val (.int p0), .val (.int p1), .val (.int p2), .val (.int p3), .val (.int p4), .val (.double (FP.i2d (p0 &&& (1023 : Int32)))), .second, .val (.double u), .second, .val (.double (FP.l2d am)), .second, .val (.ref b1), .val (.ref b9), .val (.int (0 : Int32)), .val (.int f), .val (.int g), .val (.double (w0 (own_mv f g))), .second, .val (.double (FP.dmul (w0 (own_mv f g)) (FP.dsub FP.dconst1 u))), .second] []) (fun tt0 kk0 => XS.dstore X16.here hx rfl (hb hby at_158) rfl (l' := #[.val (.int p0), .val (.int p1), .val (.int p2), .val (.int p3), .val (.int p4), .val (.double (FP.i2d (p0 &&& (1023 : Int32)))), .second, .val (.double u), .second, .val (.double (FP.l2d am)), .second, .val (.ref b1), .val (.ref b9), .val (.int (0 : Int32)), .val (.int f), .val (.int g), .val (.double (w0 (own_mv f g))), .second, .val (.double (FP.dmul (w0 (own_mv f g)) (FP.dsub FP.dconst1 u))), .second]) rfl kk0) ?_
    refine Go.of (mkF m 162 #[.val (.int p0), .val (.int p1), .val (.int p2), .val (.int p3), .val (.int p4), .val (.double (FP.i2d (p0 &&& (1023 : Int32)))), .second, .val (.double u), .second, .val (.double (FP.l2d am)), .second, .val (.ref b1), .val (.ref b9), .val (.int (0 : Int32)), .val (.int f), .val (.int g), .val (.double (w0 (own_mv f g))), .second, .val (.double (FP.dmul (w0 (own_mv f g)) (FP.dsub FP.dconst1 u))), .second] [(.double (FP.dmul (w0 (own_mv f g)) (FP.dsub FP.dconst1 u)))]) (fun tt0 kk0 => XS.dload X16.here hx rfl (hb hby at_160) rfl kk0) ?_
    refine Go.of (mkF m 164 #[.val (.int p0), .val (.int p1), .val (.int p2), .val (.int p3), .val (.int p4), .val (.double (FP.i2d (p0 &&& (1023 : Int32)))), .second, .val (.double u), .second, .val (.double (FP.l2d am)), .second, .val (.ref b1), .val (.ref b9), .val (.int (0 : Int32)), .val (.int f), .val (.int g), .val (.double (w0 (own_mv f g))), .second, .val (.double (FP.dmul (w0 (own_mv f g)) (FP.dsub FP.dconst1 u))), .second] [(.double (w0 (own_mv f g))), (.double (FP.dmul (w0 (own_mv f g)) (FP.dsub FP.dconst1 u)))]) (fun tt0 kk0 => XS.dload X16.here hx rfl (hb hby at_162) rfl kk0) ?_
    refine Go.of (mkF m 165 #[.val (.int p0), .val (.int p1), .val (.int p2), .val (.int p3), .val (.int p4), .val (.double (FP.i2d (p0 &&& (1023 : Int32)))), .second, .val (.double u), .second, .val (.double (FP.l2d am)), .second, .val (.ref b1), .val (.ref b9), .val (.int (0 : Int32)), .val (.int f), .val (.int g), .val (.double (w0 (own_mv f g))), .second, .val (.double (FP.dmul (w0 (own_mv f g)) (FP.dsub FP.dconst1 u))), .second] [(.double FP.dconst1), (.double (w0 (own_mv f g))), (.double (FP.dmul (w0 (own_mv f g)) (FP.dsub FP.dconst1 u)))]) (fun tt0 kk0 => XS.dconst1 X16.here hx rfl (hb hby at_164) rfl kk0) ?_
    refine Go.of (mkF m 167 #[.val (.int p0), .val (.int p1), .val (.int p2), .val (.int p3), .val (.int p4), .val (.double (FP.i2d (p0 &&& (1023 : Int32)))), .second, .val (.double u), .second, .val (.double (FP.l2d am)), .second, .val (.ref b1), .val (.ref b9), .val (.int (0 : Int32)), .val (.int f), .val (.int g), .val (.double (w0 (own_mv f g))), .second, .val (.double (FP.dmul (w0 (own_mv f g)) (FP.dsub FP.dconst1 u))), .second] [(.double u), (.double FP.dconst1), (.double (w0 (own_mv f g))), (.double (FP.dmul (w0 (own_mv f g)) (FP.dsub FP.dconst1 u)))]) (fun tt0 kk0 => XS.dload X16.here hx rfl (hb hby at_165) rfl kk0) ?_
    refine Go.of (mkF m 168 #[.val (.int p0), .val (.int p1), .val (.int p2), .val (.int p3), .val (.int p4), .val (.double (FP.i2d (p0 &&& (1023 : Int32)))), .second, .val (.double u), .second, .val (.double (FP.l2d am)), .second, .val (.ref b1), .val (.ref b9), .val (.int (0 : Int32)), .val (.int f), .val (.int g), .val (.double (w0 (own_mv f g))), .second, .val (.double (FP.dmul (w0 (own_mv f g)) (FP.dsub FP.dconst1 u))), .second] [(.double (FP.dsub FP.dconst1 u)), (.double (w0 (own_mv f g))), (.double (FP.dmul (w0 (own_mv f g)) (FP.dsub FP.dconst1 u)))]) (fun tt0 kk0 => XS.dsubS X16.here hx rfl (hb hby at_167) rfl hF.noNaN rfl kk0) ?_
    refine Go.of (mkF m 169 #[.val (.int p0), .val (.int p1), .val (.int p2), .val (.int p3), .val (.int p4), .val (.double (FP.i2d (p0 &&& (1023 : Int32)))), .second, .val (.double u), .second, .val (.double (FP.l2d am)), .second, .val (.ref b1), .val (.ref b9), .val (.int (0 : Int32)), .val (.int f), .val (.int g), .val (.double (w0 (own_mv f g))), .second, .val (.double (FP.dmul (w0 (own_mv f g)) (FP.dsub FP.dconst1 u))), .second] [(.double (FP.dmul (w0 (own_mv f g)) (FP.dsub FP.dconst1 u))), (.double (FP.dmul (w0 (own_mv f g)) (FP.dsub FP.dconst1 u)))]) (fun tt0 kk0 => XS.dmulS X16.here hx rfl (hb hby at_168) rfl (own_mm hW0 hF _) rfl kk0) ?_
    refine Go.of (mkF m 170 #[.val (.int p0), .val (.int p1), .val (.int p2), .val (.int p3), .val (.int p4), .val (.double (FP.i2d (p0 &&& (1023 : Int32)))), .second, .val (.double u), .second, .val (.double (FP.l2d am)), .second, .val (.ref b1), .val (.ref b9), .val (.int (0 : Int32)), .val (.int f), .val (.int g), .val (.double (w0 (own_mv f g))), .second, .val (.double (FP.dmul (w0 (own_mv f g)) (FP.dsub FP.dconst1 u))), .second] [(.int (cmpValue (FP.dcmp (FP.dmul (w0 (own_mv f g)) (FP.dsub FP.dconst1 u)) (FP.dmul (w0 (own_mv f g)) (FP.dsub FP.dconst1 u))) .l))]) (fun tt0 kk0 => XS.dcmpS X16.here hx rfl (hb hby at_169) rfl rfl kk0) ?_
    refine Go.of (mkF m 173 #[.val (.int p0), .val (.int p1), .val (.int p2), .val (.int p3), .val (.int p4), .val (.double (FP.i2d (p0 &&& (1023 : Int32)))), .second, .val (.double u), .second, .val (.double (FP.l2d am)), .second, .val (.ref b1), .val (.ref b9), .val (.int (0 : Int32)), .val (.int f), .val (.int g), .val (.double (w0 (own_mv f g))), .second, .val (.double (FP.dmul (w0 (own_mv f g)) (FP.dsub FP.dconst1 u))), .second] []) (fun tt0 kk0 => XS.ifNo X16.here hx rfl (hb hby at_170) rfl ((if0 _ _).trans (teq (dcmpV_self (own_mm hW0 hF _) .l)).2) kk0) ?_
    refine Go.of (mkF m 174 #[.val (.int p0), .val (.int p1), .val (.int p2), .val (.int p3), .val (.int p4), .val (.double (FP.i2d (p0 &&& (1023 : Int32)))), .second, .val (.double u), .second, .val (.double (FP.l2d am)), .second, .val (.ref b1), .val (.ref b9), .val (.int (0 : Int32)), .val (.int f), .val (.int g), .val (.double (w0 (own_mv f g))), .second, .val (.double (FP.dmul (w0 (own_mv f g)) (FP.dsub FP.dconst1 u))), .second] [(.int (1 : Int32))]) (fun tt0 kk0 => XS.iconst X16.here hx rfl (hb hby at_173) kk0) ?_
    refine Go.of (mkF m 178 #[.val (.int p0), .val (.int p1), .val (.int p2), .val (.int p3), .val (.int p4), .val (.double (FP.i2d (p0 &&& (1023 : Int32)))), .second, .val (.double u), .second, .val (.double (FP.l2d am)), .second, .val (.ref b1), .val (.ref b9), .val (.int (0 : Int32)), .val (.int f), .val (.int g), .val (.double (w0 (own_mv f g))), .second, .val (.double (FP.dmul (w0 (own_mv f g)) (FP.dsub FP.dconst1 u))), .second] [(.int (1 : Int32))]) (fun tt0 kk0 => XS.goto X16.here hx rfl (pc0 := 174) (pc' := 178) rfl (hb hby at_174) (by decide) (by decide) kk0) ?_
    exact Go.retW X16 hx (t := .boolean) hret hlk rfl (Or.inl ⟨rfl, by simp, _, rfl⟩) (hb hby at_178) (by decide) (by decide) ⟨rfl, N16⟩
  ·
    refine Go.of (mkF m 129 #[.val (.int p0), .val (.int p1), .val (.int p2), .val (.int p3), .val (.int p4), .val (.double (FP.i2d (p0 &&& (1023 : Int32)))), .second, .val (.double u), .second, .val (.double (FP.l2d am)), .second, .val (.ref b1), .val (.ref b9), .val (.int (1 : Int32)), .val (.int f), .val (.int g), .unset, .unset, .unset, .unset] [(.ref b9)]) (fun tt0 kk0 => XS.aload X13.here hx rfl (hb hby at_127) rfl rfl kk0) ?_
    refine Go.of (mkF m 131 #[.val (.int p0), .val (.int p1), .val (.int p2), .val (.int p3), .val (.int p4), .val (.double (FP.i2d (p0 &&& (1023 : Int32)))), .second, .val (.double u), .second, .val (.double (FP.l2d am)), .second, .val (.ref b1), .val (.ref b9), .val (.int (1 : Int32)), .val (.int f), .val (.int g), .unset, .unset, .unset, .unset] [(.int (1 : Int32)), (.ref b9)]) (fun tt0 kk0 => XS.iload X13.here hx rfl (hb hby at_129) rfl kk0) ?_
    refine Go.of (mkF m 133 #[.val (.int p0), .val (.int p1), .val (.int p2), .val (.int p3), .val (.int p4), .val (.double (FP.i2d (p0 &&& (1023 : Int32)))), .second, .val (.double u), .second, .val (.double (FP.l2d am)), .second, .val (.ref b1), .val (.ref b9), .val (.int (1 : Int32)), .val (.int f), .val (.int g), .unset, .unset, .unset, .unset] [(.int f), (.int (1 : Int32)), (.ref b9)]) (fun tt0 kk0 => XS.iload X13.here hx rfl (hb hby at_131) rfl kk0) ?_
    refine Go.of (mkF m 135 #[.val (.int p0), .val (.int p1), .val (.int p2), .val (.int p3), .val (.int p4), .val (.double (FP.i2d (p0 &&& (1023 : Int32)))), .second, .val (.double u), .second, .val (.double (FP.l2d am)), .second, .val (.ref b1), .val (.ref b9), .val (.int (1 : Int32)), .val (.int f), .val (.int g), .unset, .unset, .unset, .unset] [(.int g), (.int f), (.int (1 : Int32)), (.ref b9)]) (fun tt0 kk0 => XS.iload X13.here hx rfl (hb hby at_133) rfl kk0) ?_
    refine Go.virt X13 hx hZ (y := (⟨"com/example/quench/quench/Pheromones", "on", "(III)D"⟩ : MethodName)) (z := (⟨"com/example/quench/quench/Pheromones", "on", "(III)D"⟩ : MethodName)) (a := b9) (argsL := [(.int (1 : Int32)), (.int f), (.int g)]) (rest := []) hown (tw66 hw) (tw67 hw) (notFace_of_selects (args := #[]) (mvT hZ (tw69 hw))) (tw69 hw) (tw68 hw) (tw7 hw) (tw70 hw) (by decide) rfl A9 (rmOn1 l Z a0 hw [] b9 t10 r010 r110 yt10 w0 w1 f g T13.heap A9 Ft10 Fq10 VT10 hy010 hy110 V0_13 V1_13 hrg) (g := (mkF m 135 #[.val (.int p0), .val (.int p1), .val (.int p2), .val (.int p3), .val (.int p4), .val (.double (FP.i2d (p0 &&& (1023 : Int32)))), .second, .val (.double u), .second, .val (.double (FP.l2d am)), .second, .val (.ref b1), .val (.ref b9), .val (.int (1 : Int32)), .val (.int f), .val (.int g), .unset, .unset, .unset, .unset] [(.int g), (.int f), (.int (1 : Int32)), (.ref b9)])) rfl (by rw [hml]; rfl) (lenOf pd18 rfl) rfl (W := 0) (by show 2 * 0 + _ ≤ _; exact Nat.le_of_eq rfl) (hb hby at_135) (by decide) (by decide) (by decide) (by decide) ?_
    rintro T17 L17 v17 X17 ⟨rfl, rfl, hh17⟩
    have N17 := Fr.app N13 (Fr.nil n0)
    show Go pr ev below _ T17 (mkF m 138 #[.val (.int p0), .val (.int p1), .val (.int p2), .val (.int p3), .val (.int p4), .val (.double (FP.i2d (p0 &&& (1023 : Int32)))), .second, .val (.double u), .second, .val (.double (FP.l2d am)), .second, .val (.ref b1), .val (.ref b9), .val (.int (1 : Int32)), .val (.int f), .val (.int g), .unset, .unset, .unset, .unset] [(.double (w1 (own_mv f g)))])
    refine Go.of (mkF m 140 #[.val (.int p0), .val (.int p1), .val (.int p2), .val (.int p3), .val (.int p4), .val (.double (FP.i2d (p0 &&& (1023 : Int32)))), .second, .val (.double u), .second, .val (.double (FP.l2d am)), .second, .val (.ref b1), .val (.ref b9), .val (.int (1 : Int32)), .val (.int f), .val (.int g), .val (.double (w1 (own_mv f g))), .second, .unset, .unset] []) (fun tt0 kk0 => XS.dstore X17.here hx rfl (hb hby at_138) rfl (l' := #[.val (.int p0), .val (.int p1), .val (.int p2), .val (.int p3), .val (.int p4), .val (.double (FP.i2d (p0 &&& (1023 : Int32)))), .second, .val (.double u), .second, .val (.double (FP.l2d am)), .second, .val (.ref b1), .val (.ref b9), .val (.int (1 : Int32)), .val (.int f), .val (.int g), .val (.double (w1 (own_mv f g))), .second, .unset, .unset]) rfl kk0) ?_
    refine Go.of (mkF m 142 #[.val (.int p0), .val (.int p1), .val (.int p2), .val (.int p3), .val (.int p4), .val (.double (FP.i2d (p0 &&& (1023 : Int32)))), .second, .val (.double u), .second, .val (.double (FP.l2d am)), .second, .val (.ref b1), .val (.ref b9), .val (.int (1 : Int32)), .val (.int f), .val (.int g), .val (.double (w1 (own_mv f g))), .second, .unset, .unset] [(.ref b9)]) (fun tt0 kk0 => XS.aload X17.here hx rfl (hb hby at_140) rfl rfl kk0) ?_
    refine Go.of (mkF m 144 #[.val (.int p0), .val (.int p1), .val (.int p2), .val (.int p3), .val (.int p4), .val (.double (FP.i2d (p0 &&& (1023 : Int32)))), .second, .val (.double u), .second, .val (.double (FP.l2d am)), .second, .val (.ref b1), .val (.ref b9), .val (.int (1 : Int32)), .val (.int f), .val (.int g), .val (.double (w1 (own_mv f g))), .second, .unset, .unset] [(.double u), (.ref b9)]) (fun tt0 kk0 => XS.dload X17.here hx rfl (hb hby at_142) rfl kk0) ?_
    refine Go.virt X17 hx hZ (y := (⟨"com/example/quench/quench/Pheromones", "evaporate", "(D)V"⟩ : MethodName)) (z := (⟨"com/example/quench/quench/Pheromones", "evaporate", "(D)V"⟩ : MethodName)) (a := b9) (argsL := [(.double u)]) (rest := []) hown (tw71 hw) (tw72 hw) (notFace_of_selects (args := #[]) (mvT hZ (tw74 hw))) (tw74 hw) (tw73 hw) (tw7 hw) (tw75 hw) (by decide) hh17 A9 (rmEv l Z a0 hw [] b9 t10 r010 r110 yt10 w0 w1 u _ T13.heap n0 hz A9 Ft10 Fq10 VT10 hy010 hy110 V0_13 V1_13 ne_b9_t10 ne_b9_r010 ne_b9_r110 ne_t10_r010 ne_t10_r110 ne_r010_r110 gb_r010 gb_r110 hW0 hW1 hF) (g := (mkF m 144 #[.val (.int p0), .val (.int p1), .val (.int p2), .val (.int p3), .val (.int p4), .val (.double (FP.i2d (p0 &&& (1023 : Int32)))), .second, .val (.double u), .second, .val (.double (FP.l2d am)), .second, .val (.ref b1), .val (.ref b9), .val (.int (1 : Int32)), .val (.int f), .val (.int g), .val (.double (w1 (own_mv f g))), .second, .unset, .unset] [(.double u), (.ref b9)])) rfl (by rw [hml]; rfl) (lenOf pd19 rfl) rfl (W := 0) (by show 2 * 0 + _ ≤ _; exact Nat.le_of_eq rfl) (hb hby at_144) (by decide) (by decide) (by decide) (by decide) ?_
    rintro T18 L18 v18 X18 ⟨rfl, NL18, K18, V0_18, V1_18⟩
    have N18 := Fr.app N17 NL18
    replace Ft10 := Ft10.keep K18 (ninS ne_b9_r010 (ninS ne_b9_r110 nin0))
    replace Fq10 := Fq10.keep K18 (ninS ne_b9_r010 (ninS ne_b9_r110 nin0))
    replace G12 := G12.keep K18 (ninS (Ne.symm ne_r010_b11) (ninS (Ne.symm ne_r110_b11) nin0))
    replace Q1 := Q1.keep K18
    replace Q2 := Q2.keep K18
    replace Q6 := Q6.keep K18
    replace A9 := A9.keep K18
    replace A11 := A11.keep K18
    replace U_b1 := U_b1.keep K18
    replace V_b1 := V_b1.keep K18 (ninS ne_b1_r010 (ninS ne_b1_r110 nin0))
    replace V_b2 := V_b2.keep K18 (ninS ne_b2_r010 (ninS ne_b2_r110 nin0))
    replace V_b6 := V_b6.keep K18 (ninS ne_b6_r010 (ninS ne_b6_r110 nin0))
    replace VT10 := VT10.keep K18 (ninS ne_t10_r010 (ninS ne_t10_r110 nin0))
    replace VP12 := VP12.keep K18 (ninS (Ne.symm ne_r010_pt12) (ninS (Ne.symm ne_r110_pt12) nin0))
    replace W012 := W012.keep K18 (ninS (Ne.symm ne_r010_b012) (ninS (Ne.symm ne_r110_b012) nin0))
    replace W112 := W112.keep K18 (ninS (Ne.symm ne_r010_b112) (ninS (Ne.symm ne_r110_b112) nin0))
    replace hz := Nat.le_trans hz K18.1
    show Go pr ev below _ T18 (mkF m 147 #[.val (.int p0), .val (.int p1), .val (.int p2), .val (.int p3), .val (.int p4), .val (.double (FP.i2d (p0 &&& (1023 : Int32)))), .second, .val (.double u), .second, .val (.double (FP.l2d am)), .second, .val (.ref b1), .val (.ref b9), .val (.int (1 : Int32)), .val (.int f), .val (.int g), .val (.double (w1 (own_mv f g))), .second, .unset, .unset] [])
    refine Go.of (mkF m 149 #[.val (.int p0), .val (.int p1), .val (.int p2), .val (.int p3), .val (.int p4), .val (.double (FP.i2d (p0 &&& (1023 : Int32)))), .second, .val (.double u), .second, .val (.double (FP.l2d am)), .second, .val (.ref b1), .val (.ref b9), .val (.int (1 : Int32)), .val (.int f), .val (.int g), .val (.double (w1 (own_mv f g))), .second, .unset, .unset] [(.ref b9)]) (fun tt0 kk0 => XS.aload X18.here hx rfl (hb hby at_147) rfl rfl kk0) ?_
    refine Go.of (mkF m 151 #[.val (.int p0), .val (.int p1), .val (.int p2), .val (.int p3), .val (.int p4), .val (.double (FP.i2d (p0 &&& (1023 : Int32)))), .second, .val (.double u), .second, .val (.double (FP.l2d am)), .second, .val (.ref b1), .val (.ref b9), .val (.int (1 : Int32)), .val (.int f), .val (.int g), .val (.double (w1 (own_mv f g))), .second, .unset, .unset] [(.int (1 : Int32)), (.ref b9)]) (fun tt0 kk0 => XS.iload X18.here hx rfl (hb hby at_149) rfl kk0) ?_
    refine Go.of (mkF m 153 #[.val (.int p0), .val (.int p1), .val (.int p2), .val (.int p3), .val (.int p4), .val (.double (FP.i2d (p0 &&& (1023 : Int32)))), .second, .val (.double u), .second, .val (.double (FP.l2d am)), .second, .val (.ref b1), .val (.ref b9), .val (.int (1 : Int32)), .val (.int f), .val (.int g), .val (.double (w1 (own_mv f g))), .second, .unset, .unset] [(.int f), (.int (1 : Int32)), (.ref b9)]) (fun tt0 kk0 => XS.iload X18.here hx rfl (hb hby at_151) rfl kk0) ?_
    refine Go.of (mkF m 155 #[.val (.int p0), .val (.int p1), .val (.int p2), .val (.int p3), .val (.int p4), .val (.double (FP.i2d (p0 &&& (1023 : Int32)))), .second, .val (.double u), .second, .val (.double (FP.l2d am)), .second, .val (.ref b1), .val (.ref b9), .val (.int (1 : Int32)), .val (.int f), .val (.int g), .val (.double (w1 (own_mv f g))), .second, .unset, .unset] [(.int g), (.int f), (.int (1 : Int32)), (.ref b9)]) (fun tt0 kk0 => XS.iload X18.here hx rfl (hb hby at_153) rfl kk0) ?_
    refine Go.virt X18 hx hZ (y := (⟨"com/example/quench/quench/Pheromones", "on", "(III)D"⟩ : MethodName)) (z := (⟨"com/example/quench/quench/Pheromones", "on", "(III)D"⟩ : MethodName)) (a := b9) (argsL := [(.int (1 : Int32)), (.int f), (.int g)]) (rest := []) hown (tw66 hw) (tw67 hw) (notFace_of_selects (args := #[]) (mvT hZ (tw69 hw))) (tw69 hw) (tw68 hw) (tw7 hw) (tw70 hw) (by decide) rfl A9 (rmOn1 l Z a0 hw [] b9 t10 r010 r110 yt10 (fun j => FP.dmul (w0 j) (FP.dsub FP.dconst1 u)) (fun j => FP.dmul (w1 j) (FP.dsub FP.dconst1 u)) f g T18.heap A9 Ft10 Fq10 VT10 hy010 hy110 V0_18 V1_18 hrg) (g := (mkF m 155 #[.val (.int p0), .val (.int p1), .val (.int p2), .val (.int p3), .val (.int p4), .val (.double (FP.i2d (p0 &&& (1023 : Int32)))), .second, .val (.double u), .second, .val (.double (FP.l2d am)), .second, .val (.ref b1), .val (.ref b9), .val (.int (1 : Int32)), .val (.int f), .val (.int g), .val (.double (w1 (own_mv f g))), .second, .unset, .unset] [(.int g), (.int f), (.int (1 : Int32)), (.ref b9)])) rfl (by rw [hml]; rfl) (lenOf pd18 rfl) rfl (W := 0) (by show 2 * 0 + _ ≤ _; exact Nat.le_of_eq rfl) (hb hby at_155) (by decide) (by decide) (by decide) (by decide) ?_
    rintro T19 L19 v19 X19 ⟨rfl, rfl, hh19⟩
    have N19 := Fr.app N18 (Fr.nil n0)
    show Go pr ev below _ T19 (mkF m 158 #[.val (.int p0), .val (.int p1), .val (.int p2), .val (.int p3), .val (.int p4), .val (.double (FP.i2d (p0 &&& (1023 : Int32)))), .second, .val (.double u), .second, .val (.double (FP.l2d am)), .second, .val (.ref b1), .val (.ref b9), .val (.int (1 : Int32)), .val (.int f), .val (.int g), .val (.double (w1 (own_mv f g))), .second, .unset, .unset] [(.double ((fun j => FP.dmul (w1 j) (FP.dsub FP.dconst1 u)) (own_mv f g)))])
    show Go pr ev below _ T19 (mkF m 158 #[.val (.int p0), .val (.int p1), .val (.int p2), .val (.int p3), .val (.int p4), .val (.double (FP.i2d (p0 &&& (1023 : Int32)))), .second, .val (.double u), .second, .val (.double (FP.l2d am)), .second, .val (.ref b1), .val (.ref b9), .val (.int (1 : Int32)), .val (.int f), .val (.int g), .val (.double (w1 (own_mv f g))), .second, .unset, .unset] [(.double (FP.dmul (w1 (own_mv f g)) (FP.dsub FP.dconst1 u)))])
    refine Go.of (mkF m 160 #[.val (.int p0), .val (.int p1), .val (.int p2), .val (.int p3), .val (.int p4), .val (.double (FP.i2d (p0 &&& (1023 : Int32)))), .second, .val (.double u), .second, .val (.double (FP.l2d am)), .second, .val (.ref b1), .val (.ref b9), .val (.int (1 : Int32)), .val (.int f), .val (.int g), .val (.double (w1 (own_mv f g))), .second, .val (.double (FP.dmul (w1 (own_mv f g)) (FP.dsub FP.dconst1 u))), .second] []) (fun tt0 kk0 => XS.dstore X19.here hx rfl (hb hby at_158) rfl (l' := #[.val (.int p0), .val (.int p1), .val (.int p2), .val (.int p3), .val (.int p4), .val (.double (FP.i2d (p0 &&& (1023 : Int32)))), .second, .val (.double u), .second, .val (.double (FP.l2d am)), .second, .val (.ref b1), .val (.ref b9), .val (.int (1 : Int32)), .val (.int f), .val (.int g), .val (.double (w1 (own_mv f g))), .second, .val (.double (FP.dmul (w1 (own_mv f g)) (FP.dsub FP.dconst1 u))), .second]) rfl kk0) ?_
    refine Go.of (mkF m 162 #[.val (.int p0), .val (.int p1), .val (.int p2), .val (.int p3), .val (.int p4), .val (.double (FP.i2d (p0 &&& (1023 : Int32)))), .second, .val (.double u), .second, .val (.double (FP.l2d am)), .second, .val (.ref b1), .val (.ref b9), .val (.int (1 : Int32)), .val (.int f), .val (.int g), .val (.double (w1 (own_mv f g))), .second, .val (.double (FP.dmul (w1 (own_mv f g)) (FP.dsub FP.dconst1 u))), .second] [(.double (FP.dmul (w1 (own_mv f g)) (FP.dsub FP.dconst1 u)))]) (fun tt0 kk0 => XS.dload X19.here hx rfl (hb hby at_160) rfl kk0) ?_
    refine Go.of (mkF m 164 #[.val (.int p0), .val (.int p1), .val (.int p2), .val (.int p3), .val (.int p4), .val (.double (FP.i2d (p0 &&& (1023 : Int32)))), .second, .val (.double u), .second, .val (.double (FP.l2d am)), .second, .val (.ref b1), .val (.ref b9), .val (.int (1 : Int32)), .val (.int f), .val (.int g), .val (.double (w1 (own_mv f g))), .second, .val (.double (FP.dmul (w1 (own_mv f g)) (FP.dsub FP.dconst1 u))), .second] [(.double (w1 (own_mv f g))), (.double (FP.dmul (w1 (own_mv f g)) (FP.dsub FP.dconst1 u)))]) (fun tt0 kk0 => XS.dload X19.here hx rfl (hb hby at_162) rfl kk0) ?_
    refine Go.of (mkF m 165 #[.val (.int p0), .val (.int p1), .val (.int p2), .val (.int p3), .val (.int p4), .val (.double (FP.i2d (p0 &&& (1023 : Int32)))), .second, .val (.double u), .second, .val (.double (FP.l2d am)), .second, .val (.ref b1), .val (.ref b9), .val (.int (1 : Int32)), .val (.int f), .val (.int g), .val (.double (w1 (own_mv f g))), .second, .val (.double (FP.dmul (w1 (own_mv f g)) (FP.dsub FP.dconst1 u))), .second] [(.double FP.dconst1), (.double (w1 (own_mv f g))), (.double (FP.dmul (w1 (own_mv f g)) (FP.dsub FP.dconst1 u)))]) (fun tt0 kk0 => XS.dconst1 X19.here hx rfl (hb hby at_164) rfl kk0) ?_
    refine Go.of (mkF m 167 #[.val (.int p0), .val (.int p1), .val (.int p2), .val (.int p3), .val (.int p4), .val (.double (FP.i2d (p0 &&& (1023 : Int32)))), .second, .val (.double u), .second, .val (.double (FP.l2d am)), .second, .val (.ref b1), .val (.ref b9), .val (.int (1 : Int32)), .val (.int f), .val (.int g), .val (.double (w1 (own_mv f g))), .second, .val (.double (FP.dmul (w1 (own_mv f g)) (FP.dsub FP.dconst1 u))), .second] [(.double u), (.double FP.dconst1), (.double (w1 (own_mv f g))), (.double (FP.dmul (w1 (own_mv f g)) (FP.dsub FP.dconst1 u)))]) (fun tt0 kk0 => XS.dload X19.here hx rfl (hb hby at_165) rfl kk0) ?_
    refine Go.of (mkF m 168 #[.val (.int p0), .val (.int p1), .val (.int p2), .val (.int p3), .val (.int p4), .val (.double (FP.i2d (p0 &&& (1023 : Int32)))), .second, .val (.double u), .second, .val (.double (FP.l2d am)), .second, .val (.ref b1), .val (.ref b9), .val (.int (1 : Int32)), .val (.int f), .val (.int g), .val (.double (w1 (own_mv f g))), .second, .val (.double (FP.dmul (w1 (own_mv f g)) (FP.dsub FP.dconst1 u))), .second] [(.double (FP.dsub FP.dconst1 u)), (.double (w1 (own_mv f g))), (.double (FP.dmul (w1 (own_mv f g)) (FP.dsub FP.dconst1 u)))]) (fun tt0 kk0 => XS.dsubS X19.here hx rfl (hb hby at_167) rfl hF.noNaN rfl kk0) ?_
    refine Go.of (mkF m 169 #[.val (.int p0), .val (.int p1), .val (.int p2), .val (.int p3), .val (.int p4), .val (.double (FP.i2d (p0 &&& (1023 : Int32)))), .second, .val (.double u), .second, .val (.double (FP.l2d am)), .second, .val (.ref b1), .val (.ref b9), .val (.int (1 : Int32)), .val (.int f), .val (.int g), .val (.double (w1 (own_mv f g))), .second, .val (.double (FP.dmul (w1 (own_mv f g)) (FP.dsub FP.dconst1 u))), .second] [(.double (FP.dmul (w1 (own_mv f g)) (FP.dsub FP.dconst1 u))), (.double (FP.dmul (w1 (own_mv f g)) (FP.dsub FP.dconst1 u)))]) (fun tt0 kk0 => XS.dmulS X19.here hx rfl (hb hby at_168) rfl (own_mm hW1 hF _) rfl kk0) ?_
    refine Go.of (mkF m 170 #[.val (.int p0), .val (.int p1), .val (.int p2), .val (.int p3), .val (.int p4), .val (.double (FP.i2d (p0 &&& (1023 : Int32)))), .second, .val (.double u), .second, .val (.double (FP.l2d am)), .second, .val (.ref b1), .val (.ref b9), .val (.int (1 : Int32)), .val (.int f), .val (.int g), .val (.double (w1 (own_mv f g))), .second, .val (.double (FP.dmul (w1 (own_mv f g)) (FP.dsub FP.dconst1 u))), .second] [(.int (cmpValue (FP.dcmp (FP.dmul (w1 (own_mv f g)) (FP.dsub FP.dconst1 u)) (FP.dmul (w1 (own_mv f g)) (FP.dsub FP.dconst1 u))) .l))]) (fun tt0 kk0 => XS.dcmpS X19.here hx rfl (hb hby at_169) rfl rfl kk0) ?_
    refine Go.of (mkF m 173 #[.val (.int p0), .val (.int p1), .val (.int p2), .val (.int p3), .val (.int p4), .val (.double (FP.i2d (p0 &&& (1023 : Int32)))), .second, .val (.double u), .second, .val (.double (FP.l2d am)), .second, .val (.ref b1), .val (.ref b9), .val (.int (1 : Int32)), .val (.int f), .val (.int g), .val (.double (w1 (own_mv f g))), .second, .val (.double (FP.dmul (w1 (own_mv f g)) (FP.dsub FP.dconst1 u))), .second] []) (fun tt0 kk0 => XS.ifNo X19.here hx rfl (hb hby at_170) rfl ((if0 _ _).trans (teq (dcmpV_self (own_mm hW1 hF _) .l)).2) kk0) ?_
    refine Go.of (mkF m 174 #[.val (.int p0), .val (.int p1), .val (.int p2), .val (.int p3), .val (.int p4), .val (.double (FP.i2d (p0 &&& (1023 : Int32)))), .second, .val (.double u), .second, .val (.double (FP.l2d am)), .second, .val (.ref b1), .val (.ref b9), .val (.int (1 : Int32)), .val (.int f), .val (.int g), .val (.double (w1 (own_mv f g))), .second, .val (.double (FP.dmul (w1 (own_mv f g)) (FP.dsub FP.dconst1 u))), .second] [(.int (1 : Int32))]) (fun tt0 kk0 => XS.iconst X19.here hx rfl (hb hby at_173) kk0) ?_
    refine Go.of (mkF m 178 #[.val (.int p0), .val (.int p1), .val (.int p2), .val (.int p3), .val (.int p4), .val (.double (FP.i2d (p0 &&& (1023 : Int32)))), .second, .val (.double u), .second, .val (.double (FP.l2d am)), .second, .val (.ref b1), .val (.ref b9), .val (.int (1 : Int32)), .val (.int f), .val (.int g), .val (.double (w1 (own_mv f g))), .second, .val (.double (FP.dmul (w1 (own_mv f g)) (FP.dsub FP.dconst1 u))), .second] [(.int (1 : Int32))]) (fun tt0 kk0 => XS.goto X19.here hx rfl (pc0 := 174) (pc' := 178) rfl (hb hby at_174) (by decide) (by decide) kk0) ?_
    exact Go.retW X19 hx (t := .boolean) hret hlk rfl (Or.inl ⟨rfl, by simp, _, rfl⟩) (hb hby at_178) (by decide) (by decide) ⟨rfl, N19⟩
set_option maxRecDepth 65536 in
set_option maxHeartbeats 40000000 in
theorem comes_1 {Post : Tables → Env → Array Value → State → Outcome → State → Prop} (hpost : ∀ tb e args s v u, (limb_1_1.after args s (.returned v) u = true ∧ limb_1_2.after args s (.returned v) u = true ∧ True) → FrameEnd s (.returned v) u (Jvm.fieldLocs frame_1_writes args s ++ Jvm.arrayLocs frame_1_arrays args s ++ Jvm.staticLocs frame_1_statics s) 32 128 → Post tb e args s (.returned v) u) :
    ArmFor flags0 classFile x code maxLocals ret World_1 tables_1 room_1 Calls_1 rest_1 Pre_1 Post := by
  intro l hfl _ _ p e ha hc hk s m args below hf hA hF happ hP
  obtain ⟨hcalls, hrest, hpre⟩ := hP
  obtain ⟨-, -, -, hnamed, -, -, -, hat⟩ := (Spec.applies_iff hf).mp happ
  obtain ⟨hg, hn⟩ := and_e (Cond.before_iff.mp (show (Jvm.Cond.and given_1 narrow_1).before args s = true from hpre))
  obtain ⟨gc, gr⟩ := and_e hg
  obtain ⟨gi0, gr⟩ := and_e gr
  obtain ⟨gi1, gr⟩ := and_e gr
  obtain ⟨gi2, gr⟩ := and_e gr
  obtain ⟨gi3, gr⟩ := and_e gr
  have gi4 := gr
  obtain ⟨w0, w1, w2, w3, w4, rfl⟩ : ∃ w0 w1 w2 w3 w4 : Value, args = #[w0, w1, w2, w3, w4] := by
    have hs : args.size = 5 := by simpa [Cond.value, given_1] using gc
    obtain ⟨L⟩ := args
    match L, hs with
    | [w0, w1, w2, w3, w4], _ => exact ⟨w0, w1, w2, w3, w4, rfl⟩
  have hw := fun d (hd : d ∈ tables_1) => atoms_spec (ws := Jvm.Cond.code x code maxLocals ret :: tables_1) hat d (List.mem_cons_of_mem _ hd)
  have hfit : Fit s := fun {y c} hc i hi => by
    obtain ⟨ha, rfl⟩ := Array.getElem?_eq_some_iff.mp hc
    have q := List.all_eq_true.mp ((Array.all_eq_true_iff_forall_mem.mp hF) _ (Array.getElem_mem ha)) i (List.mem_range.mpr hi)
    simpa [Array.getElem?_eq_getElem hi] using q
  obtain ⟨i0, ei0⟩ := is_v gi0
  obtain rfl : w0 = (.int i0) := Option.some.inj ei0
  obtain ⟨i1, ei1⟩ := is_v gi1
  obtain rfl : w1 = (.int i1) := Option.some.inj ei1
  obtain ⟨i2, ei2⟩ := is_v gi2
  obtain rfl : w2 = (.int i2) := Option.some.inj ei2
  obtain ⟨i3, ei3⟩ := is_v gi3
  obtain rfl : w3 = (.int i3) := Option.some.inj ei3
  obtain ⟨i4, ei4⟩ := is_v gi4
  obtain rfl : w4 = (.int i4) := Option.some.inj ei4
  obtain ⟨n, o, h1, h2, h3, _, L, rfl, ⟨rfl, N⟩, hq⟩ := rm0 l s _ hw tables_1 i0 i1 i2 i3 i4 s.heap s.heap.size (Nat.le_refl _) p e ha hc hk s m _ below hf ((Spec.applies_iff_loose hf).mp happ).1 ⟨rfl, State.Warmed39.refl s, rfl⟩ trivial
  refine ⟨n, _, h1, h2, h3, hpost _ _ _ _ _ _ ⟨Cond.after_iff.mpr rfl, Cond.after_iff.mpr (eq_i res_at (Term.int_eval (1)) rfl), trivial⟩ ⟨hq.1, hq.2.1, (hq.2.2.sift fun y hy => Or.inr (N y hy)).mono (by decide) (by decide)⟩⟩
theorem main_1_1 : Claimed_1_1 := comes_1 fun _ _ _ _ _ _ h hF => ⟨h.1, hF⟩
theorem main_1_2 : Claimed_1_2 := comes_1 fun _ _ _ _ _ _ h hF => ⟨h.2.1, hF⟩
end Jvm.Pilot.@@N@@
namespace Jvm.Pilot.@@N@@
open Jvm Jvm.ClassFile Sem Op Lib Jvm.Free Jvm.Stand Jvm.Pilot.@@N@@.Jvm.D
/-! MADE BY PROGRAM (witnessworld.py) out of the Statement's table words and the real class files: 11 classes; the members and pool entries that the words name. The judged class is class 1, her method 1. -/
namespace start1
open Jvm.ClassFile
def u (s : String) : CpInfo := .utf8 (stringToUtf16 s)
/-- a pool by its gaps: so many unusable entries, then the entry; so many at the end -/
def gap : Nat → List CpInfo → List CpInfo
  | 0, r => r
  | n + 1, r => .unusable :: gap n r
def poolList (es : List (Nat × CpInfo)) (last : Nat) : List CpInfo := es.foldr (fun e r => gap e.1 (e.2 :: r)) (gap last [])
def pool (es : List (Nat × CpInfo)) (last : Nat) : Array CpInfo := ⟨poolList es last⟩
def fileOf (pool : Array CpInfo) (this : Nat) (attrs : Array Attribute := #[]) (ms : Array MethodInfo := #[]) (fl : Nat := 33) (sup : Nat := 0) (ifs : Array Nat := #[]) (fds : Array FieldInfo := #[]) : ClassFile where
  minorVersion := 0
  majorVersion := 65
  constantPool := pool
  accessFlags := fl
  thisClass := this
  superClass := sup
  interfaces := ifs
  fields := fds
  methods := ms
  attributes := attrs
def plain (name : String) (sup : Option ClassId) : Class where
  name := name
  kind := .ordinary
  loader := none
  accessFlags := 33
  super := sup
  interfaces := #[]
  cf := none
  fields := #[]
  methods := #[]
  instanceTypes := #[]
  staticTypes := #[]
  resolved := #[]
  callSites := []
  init := .initialized
  statics := none
  mirror := none

def pool0 : Array CpInfo := pool [(5, u "<init>"), (0, u "()V"), (1, .class_ 10), (1, u "java/lang/Object"), (85, u "clone"), (0, u "()Ljava/lang/Object;")] 26

def k0c0 : Code := { maxStack := 0, maxLocals := 1, code := object_method_1_code, exceptionTable := #[], attributes := #[] }
def k0m0 : Method := { name := "<init>", desc := "()V", sig := { parameters := [], returnType := none }, accessFlags := 1, code := some k0c0 }
def k0m1 : Method := { name := "clone", desc := "()Ljava/lang/Object;", sig := { parameters := [], returnType := some (.object "java/lang/Object") }, accessFlags := 260, code := none }
/-- java/lang/Object -/
def k0 : Class := { plain "java/lang/Object" none with
  accessFlags := 33
  interfaces := #[]
  cf := some (fileOf pool0 8 #[] #[{ accessFlags := 1, nameIndex := 5, descriptorIndex := 6, attributes := #[] }, { accessFlags := 260, nameIndex := 96, descriptorIndex := 97, attributes := #[] }] 33 0 #[] #[])
  fields := #[]
  methods := #[k0m0, k0m1]
  instanceTypes := #[]
  staticTypes := #[]
  resolved := Array.replicate 124 none
  statics := none }

def pool1 : Array CpInfo := pool [(2, .class_ 4), (1, u "java/lang/Object"), (0, u "<init>"), (0, u "()V"), (0, .double 4620693217682128896), (1, .class_ 10), (0, u "[I"), (0, .class_ 12), (0, u "com/example/quench/quench/Pheromones"), (0, .methodref 11 14), (0, .nameAndType 5 15), (0, u "(IID)V"), (0, .class_ 17), (0, u "com/example/quench/quench/Plan"), (0, .methodref 16 19), (0, .nameAndType 5 20), (0, u "([[I)V"), (0, .methodref 11 22), (0, .nameAndType 23 24), (0, u "deposit"), (0, u "(Lcom/example/quench/quench/Plan;D)V"), (0, .methodref 11 26), (0, .nameAndType 27 28), (0, u "on"), (0, u "(III)D"), (0, .methodref 11 30), (0, .nameAndType 31 32), (0, u "evaporate"), (0, u "(D)V"), (0, .class_ 34), (0, u "com/example/quench/quench/PheromonesEvaporatePinLaw"), (2, u "law"), (0, u "(IIIII)Z")] 5

def k1m0 : Method := { name := "<init>", desc := "()V", sig := { parameters := [], returnType := none }, accessFlags := 1, code := none }
def k1c1 : Code := { maxStack := 8, maxLocals := 20, code := code, exceptionTable := #[], attributes := #[] }
def k1m1 : Method := { name := "law", desc := "(IIIII)Z", sig := { parameters := [.int, .int, .int, .int, .int], returnType := some .boolean }, accessFlags := 9, code := some k1c1 }
/-- com/example/quench/quench/PheromonesEvaporatePinLaw -/
def k1 : Class := { plain "com/example/quench/quench/PheromonesEvaporatePinLaw" (some 0) with
  accessFlags := 49
  interfaces := #[]
  cf := some (fileOf pool1 33 #[] #[{ accessFlags := 1, nameIndex := 5, descriptorIndex := 6, attributes := #[] }, { accessFlags := 9, nameIndex := 37, descriptorIndex := 38, attributes := #[] }] 49 2 #[] #[])
  fields := #[]
  methods := #[k1m0, k1m1]
  instanceTypes := #[]
  staticTypes := #[]
  resolved := Array.replicate 44 none
  statics := none }

def pool2 : Array CpInfo := pool [(1, .methodref 2 3), (0, .class_ 4), (0, .nameAndType 5 6), (0, u "java/lang/Object"), (0, u "<init>"), (0, u "()V"), (0, .fieldref 8 9), (0, .class_ 10), (0, .nameAndType 11 12), (0, u "com/example/quench/quench/Pheromones"), (0, u "tasks"), (0, u "I"), (0, .class_ 14), (0, u "[[D"), (0, .fieldref 8 16), (0, .nameAndType 17 14), (0, u "trails"), (0, .methodref 19 20), (0, .class_ 21), (0, .nameAndType 22 23), (0, u "java/util/Arrays"), (0, u "fill"), (0, u "([DD)V"), (0, .methodref 8 25), (0, .nameAndType 26 27), (0, u "move"), (0, u "(II)I"), (0, .methodref 29 30), (0, .class_ 31), (0, .nameAndType 32 33), (0, u "com/example/quench/quench/Plan"), (0, u "robots"), (0, u "()I"), (0, .methodref 29 35), (0, .nameAndType 36 37), (0, u "routeLength"), (0, u "(I)I"), (0, .methodref 29 39), (0, .nameAndType 40 27), (0, u "task"), (0, u "(IID)V"), (3, u "on"), (0, u "(III)D"), (0, u "evaporate"), (0, u "(D)V"), (2, u "deposit"), (0, u "(Lcom/example/quench/quench/Plan;D)V")] 2

def k2c0 : Code := { maxStack := 4, maxLocals := 9, code := prog_40_method_1_code, exceptionTable := #[], attributes := #[] }
def k2m0 : Method := { name := "<init>", desc := "(IID)V", sig := { parameters := [.int, .int, .double], returnType := none }, accessFlags := 0, code := some k2c0 }
def k2c1 : Code := { maxStack := 4, maxLocals := 4, code := prog_40_method_2_code, exceptionTable := #[], attributes := #[] }
def k2m1 : Method := { name := "on", desc := "(III)D", sig := { parameters := [.int, .int, .int], returnType := some .double }, accessFlags := 0, code := some k2c1 }
def k2c2 : Code := { maxStack := 2, maxLocals := 3, code := prog_40_method_3_code, exceptionTable := #[], attributes := #[] }
def k2m2 : Method := { name := "move", desc := "(II)I", sig := { parameters := [.int, .int], returnType := some .int }, accessFlags := 2, code := some k2c2 }
def k2c3 : Code := { maxStack := 8, maxLocals := 8, code := prog_40_method_4_code, exceptionTable := #[], attributes := #[] }
def k2m3 : Method := { name := "evaporate", desc := "(D)V", sig := { parameters := [.double], returnType := none }, accessFlags := 0, code := some k2c3 }
def k2c4 : Code := { maxStack := 6, maxLocals := 8, code := prog_40_method_5_code, exceptionTable := #[], attributes := #[] }
def k2m4 : Method := { name := "deposit", desc := "(Lcom/example/quench/quench/Plan;D)V", sig := { parameters := [(.object "com/example/quench/quench/Plan"), .double], returnType := none }, accessFlags := 0, code := some k2c4 }
/-- com/example/quench/quench/Pheromones -/
def k2 : Class := { plain "com/example/quench/quench/Pheromones" (some 0) with
  accessFlags := 48
  interfaces := #[]
  cf := some (fileOf pool2 8 #[] #[{ accessFlags := 0, nameIndex := 5, descriptorIndex := 41, attributes := #[] }, { accessFlags := 0, nameIndex := 45, descriptorIndex := 46, attributes := #[] }, { accessFlags := 2, nameIndex := 26, descriptorIndex := 27, attributes := #[] }, { accessFlags := 0, nameIndex := 47, descriptorIndex := 48, attributes := #[] }, { accessFlags := 0, nameIndex := 51, descriptorIndex := 52, attributes := #[] }] 48 2 #[] #[{ accessFlags := 18, nameIndex := 11, descriptorIndex := 12, attributes := #[] }, { accessFlags := 18, nameIndex := 17, descriptorIndex := 14, attributes := #[] }])
  fields := #[{ name := "tasks", type := .int, accessFlags := 18, slot := 0, constantValue := 0 }, { name := "trails", type := (.array (.array .double)), accessFlags := 18, slot := 1, constantValue := 0 }]
  methods := #[k2m0, k2m1, k2m2, k2m3, k2m4]
  instanceTypes := #[.int, (.array (.array .double))]
  staticTypes := #[]
  resolved := Array.replicate 55 none
  statics := none }

def pool3 : Array CpInfo := pool [(2, .class_ 4), (1, u "java/lang/Object"), (0, u "<init>"), (0, u "()V"), (7, .class_ 16), (1, u "java/util/Arrays"), (57, .class_ 76), (1, u "java/util/Arrays$NaturalOrder"), (36, .class_ 115), (1, u "java/util/Arrays$LegacyMergeSort"), (1, u "Z"), (257, .class_ 376), (0, u "java/util/Arrays$ArrayList"), (68, u "$assertionsDisabled"), (269, u "MIN_ARRAY_SORT_GRAN"), (0, u "I"), (2, u "INSERTIONSORT_THRESHOLD"), (120, u "fill"), (13, u "([DD)V"), (120, .class_ 976), (0, u "java/util/Arrays$ArrayItr")] 52

def k3m0 : Method := { name := "<init>", desc := "()V", sig := { parameters := [], returnType := none }, accessFlags := 2, code := none }
def k3c1 : Code := { maxStack := 4, maxLocals := 5, code := jdk_65_method_113_code, exceptionTable := #[], attributes := #[] }
def k3m1 : Method := { name := "fill", desc := "([DD)V", sig := { parameters := [(.array .double), .double], returnType := none }, accessFlags := 9, code := some k3c1 }
/-- java/util/Arrays -/
def k3 : Class := { plain "java/util/Arrays" (some 0) with
  accessFlags := 49
  interfaces := #[]
  cf := some (fileOf pool3 14 #[.nestMembers #[975, 375, 113, 74]] #[{ accessFlags := 2, nameIndex := 5, descriptorIndex := 6, attributes := #[] }, { accessFlags := 9, nameIndex := 840, descriptorIndex := 854, attributes := #[] }] 49 2 #[] #[{ accessFlags := 26, nameIndex := 715, descriptorIndex := 716, attributes := #[] }, { accessFlags := 26, nameIndex := 719, descriptorIndex := 716, attributes := #[] }, { accessFlags := 4120, nameIndex := 445, descriptorIndex := 117, attributes := #[] }])
  fields := #[{ name := "MIN_ARRAY_SORT_GRAN", type := .int, accessFlags := 26, slot := 0, constantValue := 0 }, { name := "INSERTIONSORT_THRESHOLD", type := .int, accessFlags := 26, slot := 1, constantValue := 0 }, { name := "$assertionsDisabled", type := .boolean, accessFlags := 4120, slot := 2, constantValue := 0 }]
  methods := #[k3m0, k3m1]
  instanceTypes := #[]
  staticTypes := #[.int, .int, .boolean]
  resolved := Array.replicate 1029 none
  statics := none }

def pool4 : Array CpInfo := pool [(1, .methodref 2 3), (0, .class_ 4), (0, .nameAndType 5 6), (0, u "java/lang/Object"), (0, u "<init>"), (0, u "()V"), (0, .class_ 8), (0, u "[I"), (0, .fieldref 10 11), (0, .class_ 12), (0, .nameAndType 13 14), (0, u "com/example/quench/quench/Plan"), (0, u "routes"), (0, u "[[I"), (6, .methodref 7 22), (0, .nameAndType 23 24), (0, u "clone"), (0, u "()Ljava/lang/Object;"), (11, u "()I"), (2, u "robots"), (15, u "([[I)V"), (4, u "routeLength"), (0, u "(I)I"), (0, u "task"), (0, u "(II)I")] 23

def k4c0 : Code := { maxStack := 4, maxLocals := 7, code := prog_42_method_1_code, exceptionTable := #[], attributes := #[] }
def k4m0 : Method := { name := "<init>", desc := "([[I)V", sig := { parameters := [(.array (.array .int))], returnType := none }, accessFlags := 1, code := some k4c0 }
def k4c1 : Code := { maxStack := 1, maxLocals := 1, code := prog_42_method_2_code, exceptionTable := #[], attributes := #[] }
def k4m1 : Method := { name := "robots", desc := "()I", sig := { parameters := [], returnType := some .int }, accessFlags := 1, code := some k4c1 }
def k4c2 : Code := { maxStack := 2, maxLocals := 2, code := prog_42_method_3_code, exceptionTable := #[], attributes := #[] }
def k4m2 : Method := { name := "routeLength", desc := "(I)I", sig := { parameters := [.int], returnType := some .int }, accessFlags := 1, code := some k4c2 }
def k4c3 : Code := { maxStack := 2, maxLocals := 3, code := prog_42_method_4_code, exceptionTable := #[], attributes := #[] }
def k4m3 : Method := { name := "task", desc := "(II)I", sig := { parameters := [.int, .int], returnType := some .int }, accessFlags := 1, code := some k4c3 }
/-- com/example/quench/quench/Plan -/
def k4 : Class := { plain "com/example/quench/quench/Plan" (some 0) with
  accessFlags := 49
  interfaces := #[]
  cf := some (fileOf pool4 10 #[] #[{ accessFlags := 1, nameIndex := 5, descriptorIndex := 55, attributes := #[] }, { accessFlags := 1, nameIndex := 39, descriptorIndex := 36, attributes := #[] }, { accessFlags := 1, nameIndex := 60, descriptorIndex := 61, attributes := #[] }, { accessFlags := 1, nameIndex := 62, descriptorIndex := 63, attributes := #[] }] 49 2 #[] #[{ accessFlags := 18, nameIndex := 13, descriptorIndex := 14, attributes := #[] }])
  fields := #[{ name := "routes", type := (.array (.array .int)), accessFlags := 18, slot := 0, constantValue := 0 }]
  methods := #[k4m0, k4m1, k4m2, k4m3]
  instanceTypes := #[(.array (.array .int))]
  staticTypes := #[]
  resolved := Array.replicate 87 none
  statics := none }

def pool5 : Array CpInfo := pool [(1, .class_ 2), (0, u "java/lang/Cloneable"), (0, .class_ 4), (0, u "java/lang/Object")] 2

/-- java/lang/Cloneable -/
def k5 : Class := { plain "java/lang/Cloneable" (some 0) with
  accessFlags := 1537
  interfaces := #[]
  cf := some (fileOf pool5 1 #[] #[] 1537 3 #[] #[])
  fields := #[]
  methods := #[]
  instanceTypes := #[]
  staticTypes := #[]
  resolved := Array.replicate 7 none
  statics := none }

def pool6 : Array CpInfo := pool [(1, u "java/io/Serializable"), (0, .class_ 1), (0, u "java/lang/Object"), (0, .class_ 3)] 3

/-- java/io/Serializable -/
def k6 : Class := { plain "java/io/Serializable" (some 0) with
  accessFlags := 1537
  interfaces := #[]
  cf := some (fileOf pool6 2 #[] #[] 1537 4 #[] #[])
  fields := #[]
  methods := #[]
  instanceTypes := #[]
  staticTypes := #[]
  resolved := Array.replicate 8 none
  statics := none }

/-- the primitive byte -/
def k7 : Class := { plain "byte" none with kind := .primitive 'B', accessFlags := 0x411 }
/-- [B -/
def k8 : Class := { plain "[B" (some 0) with kind := .array 7 .byte, interfaces := #[5, 6], accessFlags := 1041 }

/-- the primitive int -/
def k9 : Class := { plain "int" none with kind := .primitive 'I', accessFlags := 0x411 }
/-- [I -/
def k10 : Class := { plain "[I" (some 0) with kind := .array 9 .int, interfaces := #[5, 6], accessFlags := 1041 }

def heap : Heap := #[]
def k11 : Class := { plain "double" none with kind := .primitive 'D', accessFlags := 0x411 }
def k12 : Class := { plain "[D" (some 0) with kind := .array 11 .double, interfaces := #[5, 6], accessFlags := 1041 }
def k13 : Class := { plain "[[D" (some 0) with kind := .array 12 (.array .double), interfaces := #[5, 6], accessFlags := 1041 }
def k14 : Class := { plain "[[I" (some 0) with kind := .array 10 (.array .int), interfaces := #[5, 6], accessFlags := 1041 }
def classes : Array Class := #[k0, k1, k2, k3, k4, k5, k6, k7, k8, k9, k10, k11, k12, k13, k14]
def interned : List (Array UInt16 × Addr) := []
def slotsUsed : Nat := 0
def theMethod : MethodId := ⟨1, 1⟩
def args0 : Array Value := #[.int 5, .int 3, .int 7, .int 9, .int 6]
def aboutOver (below : List Frame) : State where
  vm := { classes := classes, interned := interned.toArray }
  heap := heap
  slotsUsed := slotsUsed
  threads := #[{ frames := .invoking theMethod args0 :: below }]
def below0 : List Frame := [.native { method := ⟨0, 0⟩, args := #[] }]
def about1 : State := aboutOver below0
def p0 : Program := .bare "" "" ""
def e0 : Env := launch0.env 0 0 0
theorem w_frames : about1.frames = Frame.invoking theMethod args0 :: below0 := rfl
set_option maxRecDepth 65536 in
theorem w_args : argsFit about1.vm theMethod args0 = true := by decide +kernel
set_option maxRecDepth 65536 in
theorem w_heap : heapFits about1 = true := by decide +kernel
set_option maxRecDepth 65536 in
theorem w_runnable : about1.curStatus? = some .runnable := by decide +kernel
set_option maxRecDepth 65536 in
theorem w_alone : about1.alone = true := by decide +kernel
set_option maxRecDepth 65536 in
theorem w_named : about1.methodNamed? x = some theMethod := by decide +kernel
set_option maxRecDepth 65536 in
theorem w_hears : about1.hears theMethod below0 = true := by decide +kernel
set_option maxRecDepth 65536 in
theorem w_ripe : about1.ripe theMethod args0 below0 = true := by decide +kernel
theorem w_running : about1.status = .running := rfl
set_option maxRecDepth 65536 in
theorem w_room : about1.hasRoom e0.platform room_1 = true :=
  launch0.hasRoom_least _ room_1 (by decide +kernel) (by decide +kernel) (by decide +kernel) (by decide +kernel) (by decide +kernel) (by decide +kernel)
theorem allAtoms_all (ts : List Jvm.Cond) (a : Array Jvm.Value) (st : Jvm.State) : (allAtoms ts).before a st = ts.all (fun c => c.before a st) := by
  induction ts with
  | nil => rfl
  | cons c t ih =>
    show (Jvm.Cond.and c (allAtoms t)).before a st = _
    rw [Jvm.Cond.before_and, ih, List.all_cons]
def words1 : List Jvm.Cond := Jvm.Cond.code x code maxLocals ret :: tables_1
/-- a 'code' word, met by the world's own term for the bytes: nothing is compared byte by byte -/
theorem code_word {y : MethodName} {bytes : ByteArray} {mx : Nat} {rt : Option FieldType} {a : Array Value} {s : State} {m : MethodId} {meth : Method} {c : Code} (h1 : s.methodNamed? y = some m) (h2 : s.vm.method? m = some meth) (h3 : meth.code = some c) (h4 : c.code = bytes)
    (h5 : (c.maxLocals == mx && c.exceptionTable.isEmpty && decide (c.maxStack ≤ mostOperands) && decide (meth.sig.returnType = rt) && !meth.locks && decide (parseMethodDescriptor y.desc = some meth.sig)) = true) : (Jvm.Cond.code y bytes mx rt).before a s = true := by
  simp only [Bool.and_eq_true, beq_iff_eq, Bool.not_eq_true', decide_eq_true_eq] at h5
  obtain ⟨⟨⟨⟨⟨g1, g2⟩, g3⟩, g4⟩, g5⟩, g6⟩ := h5
  simp [Cond.before, Cond.holds, Cond.value, h1, h2, h3, h4, g1, g2, g3, g4, g5, g6]
def isCode : Jvm.Cond → Bool
  | .code _ _ _ _ => true
  | _ => false
theorem all_split {L : List Jvm.Cond} {P : Jvm.Cond → Bool} (h1 : L.all (fun c => isCode c || P c) = true) (h2 : ∀ c ∈ L.filter isCode, P c = true) : L.all P = true := by
  refine List.all_eq_true.mpr fun c hc => ?_
  have h := List.all_eq_true.mp h1 c hc
  rcases Bool.eq_false_or_eq_true (isCode c) with hi | hi
  · exact h2 c (List.mem_filter.mpr ⟨hc, hi⟩)
  · simpa [hi] using h
set_option maxRecDepth 65536 in
theorem w_c0 : (Jvm.Cond.code x code maxLocals ret).before args0 about1 = true := code_word (m := ⟨1, 1⟩) (meth := k1m1) (c := k1c1) (by decide +kernel) rfl rfl rfl (by decide +kernel)
set_option maxRecDepth 65536 in
theorem w_c1 : (Jvm.Cond.code ({ cls := "com/example/quench/quench/Pheromones", name := "<init>", desc := "(IID)V" } : Jvm.MethodName) prog_40_method_1_code (9 : Nat) (Option.none : Option Jvm.ClassFile.FieldType)).before args0 about1 = true := code_word (m := ⟨2, 0⟩) (meth := k2m0) (c := k2c0) (by decide +kernel) rfl rfl rfl (by decide +kernel)
set_option maxRecDepth 65536 in
theorem w_c2 : (Jvm.Cond.code ({ cls := "java/lang/Object", name := "<init>", desc := "()V" } : Jvm.MethodName) object_method_1_code (1 : Nat) (Option.none : Option Jvm.ClassFile.FieldType)).before args0 about1 = true := code_word (m := ⟨0, 0⟩) (meth := k0m0) (c := k0c0) (by decide +kernel) rfl rfl rfl (by decide +kernel)
set_option maxRecDepth 65536 in
theorem w_c3 : (Jvm.Cond.code ({ cls := "java/util/Arrays", name := "fill", desc := "([DD)V" } : Jvm.MethodName) jdk_65_method_113_code (5 : Nat) (Option.none : Option Jvm.ClassFile.FieldType)).before args0 about1 = true := code_word (m := ⟨3, 1⟩) (meth := k3m1) (c := k3c1) (by decide +kernel) rfl rfl rfl (by decide +kernel)
set_option maxRecDepth 65536 in
theorem w_c4 : (Jvm.Cond.code ({ cls := "com/example/quench/quench/Plan", name := "<init>", desc := "([[I)V" } : Jvm.MethodName) prog_42_method_1_code (7 : Nat) (Option.none : Option Jvm.ClassFile.FieldType)).before args0 about1 = true := code_word (m := ⟨4, 0⟩) (meth := k4m0) (c := k4c0) (by decide +kernel) rfl rfl rfl (by decide +kernel)
set_option maxRecDepth 65536 in
theorem w_c5 : (Jvm.Cond.code ({ cls := "com/example/quench/quench/Pheromones", name := "deposit", desc := "(Lcom/example/quench/quench/Plan;D)V" } : Jvm.MethodName) prog_40_method_5_code (8 : Nat) (Option.none : Option Jvm.ClassFile.FieldType)).before args0 about1 = true := code_word (m := ⟨2, 4⟩) (meth := k2m4) (c := k2c4) (by decide +kernel) rfl rfl rfl (by decide +kernel)
set_option maxRecDepth 65536 in
theorem w_c6 : (Jvm.Cond.code ({ cls := "com/example/quench/quench/Plan", name := "robots", desc := "()I" } : Jvm.MethodName) prog_42_method_2_code (1 : Nat) (Option.some Jvm.ClassFile.FieldType.int)).before args0 about1 = true := code_word (m := ⟨4, 1⟩) (meth := k4m1) (c := k4c1) (by decide +kernel) rfl rfl rfl (by decide +kernel)
set_option maxRecDepth 65536 in
theorem w_c7 : (Jvm.Cond.code ({ cls := "com/example/quench/quench/Plan", name := "routeLength", desc := "(I)I" } : Jvm.MethodName) prog_42_method_3_code (2 : Nat) (Option.some Jvm.ClassFile.FieldType.int)).before args0 about1 = true := code_word (m := ⟨4, 2⟩) (meth := k4m2) (c := k4c2) (by decide +kernel) rfl rfl rfl (by decide +kernel)
set_option maxRecDepth 65536 in
theorem w_c8 : (Jvm.Cond.code ({ cls := "com/example/quench/quench/Plan", name := "task", desc := "(II)I" } : Jvm.MethodName) prog_42_method_4_code (3 : Nat) (Option.some Jvm.ClassFile.FieldType.int)).before args0 about1 = true := code_word (m := ⟨4, 3⟩) (meth := k4m3) (c := k4c3) (by decide +kernel) rfl rfl rfl (by decide +kernel)
set_option maxRecDepth 65536 in
theorem w_c9 : (Jvm.Cond.code ({ cls := "com/example/quench/quench/Pheromones", name := "move", desc := "(II)I" } : Jvm.MethodName) prog_40_method_3_code (3 : Nat) (Option.some Jvm.ClassFile.FieldType.int)).before args0 about1 = true := code_word (m := ⟨2, 2⟩) (meth := k2m2) (c := k2c2) (by decide +kernel) rfl rfl rfl (by decide +kernel)
set_option maxRecDepth 65536 in
theorem w_c10 : (Jvm.Cond.code ({ cls := "com/example/quench/quench/Pheromones", name := "on", desc := "(III)D" } : Jvm.MethodName) prog_40_method_2_code (4 : Nat) (Option.some Jvm.ClassFile.FieldType.double)).before args0 about1 = true := code_word (m := ⟨2, 1⟩) (meth := k2m1) (c := k2c1) (by decide +kernel) rfl rfl rfl (by decide +kernel)
set_option maxRecDepth 65536 in
theorem w_c11 : (Jvm.Cond.code ({ cls := "com/example/quench/quench/Pheromones", name := "evaporate", desc := "(D)V" } : Jvm.MethodName) prog_40_method_4_code (8 : Nat) (Option.none : Option Jvm.ClassFile.FieldType)).before args0 about1 = true := code_word (m := ⟨2, 3⟩) (meth := k2m3) (c := k2c3) (by decide +kernel) rfl rfl rfl (by decide +kernel)
def codes1 : List Jvm.Cond := [Jvm.Cond.code x code maxLocals ret, Jvm.Cond.code ({ cls := "com/example/quench/quench/Pheromones", name := "<init>", desc := "(IID)V" } : Jvm.MethodName) prog_40_method_1_code (9 : Nat) (Option.none : Option Jvm.ClassFile.FieldType), Jvm.Cond.code ({ cls := "java/lang/Object", name := "<init>", desc := "()V" } : Jvm.MethodName) object_method_1_code (1 : Nat) (Option.none : Option Jvm.ClassFile.FieldType), Jvm.Cond.code ({ cls := "java/util/Arrays", name := "fill", desc := "([DD)V" } : Jvm.MethodName) jdk_65_method_113_code (5 : Nat) (Option.none : Option Jvm.ClassFile.FieldType), Jvm.Cond.code ({ cls := "com/example/quench/quench/Plan", name := "<init>", desc := "([[I)V" } : Jvm.MethodName) prog_42_method_1_code (7 : Nat) (Option.none : Option Jvm.ClassFile.FieldType), Jvm.Cond.code ({ cls := "com/example/quench/quench/Pheromones", name := "deposit", desc := "(Lcom/example/quench/quench/Plan;D)V" } : Jvm.MethodName) prog_40_method_5_code (8 : Nat) (Option.none : Option Jvm.ClassFile.FieldType), Jvm.Cond.code ({ cls := "com/example/quench/quench/Plan", name := "robots", desc := "()I" } : Jvm.MethodName) prog_42_method_2_code (1 : Nat) (Option.some Jvm.ClassFile.FieldType.int), Jvm.Cond.code ({ cls := "com/example/quench/quench/Plan", name := "routeLength", desc := "(I)I" } : Jvm.MethodName) prog_42_method_3_code (2 : Nat) (Option.some Jvm.ClassFile.FieldType.int), Jvm.Cond.code ({ cls := "com/example/quench/quench/Plan", name := "task", desc := "(II)I" } : Jvm.MethodName) prog_42_method_4_code (3 : Nat) (Option.some Jvm.ClassFile.FieldType.int), Jvm.Cond.code ({ cls := "com/example/quench/quench/Pheromones", name := "move", desc := "(II)I" } : Jvm.MethodName) prog_40_method_3_code (3 : Nat) (Option.some Jvm.ClassFile.FieldType.int), Jvm.Cond.code ({ cls := "com/example/quench/quench/Pheromones", name := "on", desc := "(III)D" } : Jvm.MethodName) prog_40_method_2_code (4 : Nat) (Option.some Jvm.ClassFile.FieldType.double), Jvm.Cond.code ({ cls := "com/example/quench/quench/Pheromones", name := "evaporate", desc := "(D)V" } : Jvm.MethodName) prog_40_method_4_code (8 : Nat) (Option.none : Option Jvm.ClassFile.FieldType)]
set_option maxRecDepth 65536 in
theorem codes_eq : words1.filter isCode = codes1 := rfl
theorem w_codes : ∀ c ∈ words1.filter isCode, c.before args0 about1 = true := by
  rw [codes_eq]
  intro c hc
  simp only [codes1, List.mem_cons, List.not_mem_nil, or_false] at hc
  rcases hc with rfl | rfl | rfl | rfl | rfl | rfl | rfl | rfl | rfl | rfl | rfl | rfl
  · exact w_c0
  · exact w_c1
  · exact w_c2
  · exact w_c3
  · exact w_c4
  · exact w_c5
  · exact w_c6
  · exact w_c7
  · exact w_c8
  · exact w_c9
  · exact w_c10
  · exact w_c11
set_option maxRecDepth 65536 in
theorem w_t1 : (words1.take 24).all (fun c => isCode c || c.before args0 about1) = true := by decide +kernel
set_option maxRecDepth 65536 in
theorem w_t2 : ((words1.drop 24).take 24).all (fun c => isCode c || c.before args0 about1) = true := by decide +kernel
set_option maxRecDepth 65536 in
theorem w_t3 : (((words1.drop 24).drop 24).take 24).all (fun c => isCode c || c.before args0 about1) = true := by decide +kernel
set_option maxRecDepth 65536 in
theorem w_t4 : (((words1.drop 24).drop 24).drop 24).all (fun c => isCode c || c.before args0 about1) = true := by decide +kernel
theorem w_tables : (allAtoms (Jvm.Cond.code x code maxLocals ret :: tables_1)).before args0 about1 = true := by
  rw [allAtoms_all]
  show words1.all (fun c => c.before args0 about1) = true
  refine all_split ?_ w_codes
  rw [← List.take_append_drop 24 words1, List.all_append, w_t1, ← List.take_append_drop 24 (words1.drop 24), List.all_append, w_t2, ← List.take_append_drop 24 ((words1.drop 24).drop 24), List.all_append, w_t3, w_t4]
  rfl
set_option maxRecDepth 65536 in
theorem w_case : (Jvm.Cond.and given_1 narrow_1).before args0 about1 = true := by decide +kernel
theorem w_applies : (headSpec (Jvm.Cond.code x code maxLocals ret :: tables_1) room_1).applies x e0.platform about1 = true :=
  (Spec.applies_iff w_frames).mpr ⟨w_running, w_runnable, w_alone, w_named, w_hears, w_ripe, w_room, w_tables⟩
theorem atStart : AtStart classFile x code maxLocals ret World_1 tables_1 room_1 Calls_1 rest_1 Pre_1 launch0 p0 e0 about1 theMethod args0 below0 :=
  ⟨lists_1, trivial, launch0.admits_env _ _ _, launch0.least_env, fairChoices_fair.cas, fairChoices_fair.clock, w_frames, w_args, w_heap, w_applies, trivial, trivial, w_case⟩
end start1
theorem witness_1 : WitnessClaimed_1 := ⟨start1.p0, start1.e0, start1.about1, start1.theMethod, start1.args0, start1.below0, start1.atStart⟩
end Jvm.Pilot.@@N@@
