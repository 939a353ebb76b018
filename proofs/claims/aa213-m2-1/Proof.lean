import JvmDerived
import JvmDerived.Pilot.@@N@@Statement
import JvmDerived.Pilot.@@N@@Code
set_option linter.unusedVariables false
set_option linter.unusedSimpArgs false
namespace Jvm.OwnGo
open Jvm Jvm.ClassFile Sem Op Lib Jvm.Free Jvm.Stand Jvm.LawKit Jvm.RoadKit
section Own
variable {p : Program} {l : Launch} {e : Env} {R : Room} {s : State} {m : MethodId} {args : Array Value} {below : List Frame} {meth : Method} {c : Code} {T T' : State} {locs : List Loc} {cells slots : Nat} {Z : State} {a0 : Array Value} {h : Heap} {g g' : JFrame} {P : Outcome → State → Prop}
/-- the run goes on from T with the frame g on top and comes to an end at which P holds -/
def Go (p : Program) (e : Env) (below : List Frame) (P : Outcome → State → Prop) (T : State) (g : JFrame) : Prop := ∃ t o, Steps p.tables e below (T.setTop g) t ∧ t.status = .running ∧ Ended t below o ∧ P o t
theorem Go.of (g' : JFrame) (st : ∀ t, Steps p.tables e below (T'.setTop g') t → Steps p.tables e below (T.setTop g) t) (k : Go p e below P T' g') : Go p e below P T g := by
  obtain ⟨t, o, h1, h2⟩ := k; exact ⟨t, o, st t h1, h2⟩
theorem Go.via (g' : JFrame) (st : Steps p.tables e below (T.setTop g) (T'.setTop g')) (k : Go p e below P T' g') : Go p e below P T g := by
  obtain ⟨t, o, h1, h2⟩ := k; exact ⟨t, o, st.trans h1, h2⟩
theorem Go.cast (q : g = g') (k : Go p e below P T g') : Go p e below P T g := q ▸ k
abbrev EndP (s : State) (rm : Room) (Q : Option Value → Heap → List Loc → Prop) : Outcome → State → Prop := fun o U' => ∃ v L, o = .returned v ∧ Q v U'.heap L ∧ FrameEnd s o U' L rm.cells rm.slots
def Met (l : Launch) (Z : State) (y : MethodName) (bytes : ByteArray) (maxL : Nat) (ret : Option FieldType) (ws : List Cond) (rm : Room) (as' : Array Value) (h0 : Heap) (Q : Option Value → Heap → List Loc → Prop) : Prop :=
  MetFree l y (head1 (Cond.code y bytes maxL ret :: ws) rm) (fun a U => a = as' ∧ Z.Warmed39 U.vm ∧ U.heap = h0) (fun _ _ _ _ _ => True) (fun _ U o U' => ∃ v L, o = .returned v ∧ Q v U'.heap L ∧ FrameEnd U o U' L rm.cells rm.slots)
variable {y : MethodName} {bytes : ByteArray} {maxL : Nat} {ret : Option FieldType} {ws : List Cond} {rm : Room} {as' : Array Value} {h0 : Heap} {Q : Option Value → Heap → List Loc → Prop}
theorem Met.intro (hpl : plainFor y = true)
    (body : ∀ p e s m below meth c s₁, Stand p l e rm s m as' below meth c s₁ [] 0 0 → p.tables.exec = Jvm.exec → Z.Warmed39 s.vm → s.vm.findClass y.cls = some m.cls → c.code = bytes → c.maxLocals = maxL →
      meth.sig.returnType = ret → meth.locks = false → meth.name = y.name → s₁.heap = h0 → Go p e below (EndP s rm Q) s₁ (entryFrame m as' maxL)) : Met l Z y bytes maxL ret ws rm as' h0 Q := by
  refine MetFree.of_bodySF hpl hisR ?_
  intro p e s m args below meth c s₁ Bd hml0 hP hK
  obtain ⟨rfl, hZ, hh⟩ := hP
  exact body p e s m below meth c s₁ (Stand.of_body Bd) Bd.exec hZ (findClass_of_methodNamed Bd.named) Bd.bytes hml0 Bd.returns Bd.notSynchronized (name_of_methodNamed Bd.named Bd.method).1 (by rw [← hh, Bd.state]; rfl)
theorem Met.mono {Q' : Option Value → Heap → List Loc → Prop} (h : Met l Z y bytes maxL ret ws rm as' h0 Q) (q : ∀ v h L, Q v h L → Q' v h L) : Met l Z y bytes maxL ret ws rm as' h0 Q' := by
  intro p e ha hc hk s m args below hf happ hP hK
  obtain ⟨n, o, h1, h2, h3, v, L, h4, h5, h6⟩ := h p e ha hc hk s m args below hf happ hP hK
  exact ⟨n, o, h1, h2, h3, v, L, h4, q _ _ _ h5, h6⟩
theorem Go.fin (X : Stand p l e R s m args below meth c T locs cells slots) {v : Option Value} (hv : meth.sig.returnType = none → v = none) (hlk : meth.locks = false) (hc : cells ≤ rm.cells) (hs : slots ≤ rm.slots)
    (st : ∀ fs, (∀ (f : JFrame) (acts : List Action), f.method = m → f.locked = none → f.entered = [] → (doReturn e (T.setTop f) acts v).1 = T.setFrames fs) → Steps p.tables e below (T.setTop g) (T.setFrames fs)) (hQ : Q v T.heap locs) : Go p e below (EndP s rm Q) T g := by
  obtain ⟨fs, hr, hrun, hended, hW, hsame⟩ := X.leave (v := v) hv hlk
  exact ⟨_, _, st fs hr, hrun, hended, v, locs, rfl, hQ, ⟨v, rfl⟩, hW, hsame.mono hc hs⟩
/-- a value is returned -/
theorem Go.retW (X : Stand p l e R s m args below meth c T locs cells slots) (hx : p.tables.exec = Jvm.exec) {pc : Nat} {Ls : Array Slot} {w : Value} {t : FieldType} {i : Instr} {rest : List Value} (hret : meth.sig.returnType = some t) (hlk : meth.locks = false) (hn : narrow t w = w)
    (hi : (i = .ireturn ∧ (t = .int ∨ t = .boolean ∨ t = .byte ∨ t = .char ∨ t = .short) ∧ ∃ z, w = .int z) ∨ (i = .lreturn ∧ t = .long ∧ ∃ z, w = .long z) ∨ (i = .dreturn ∧ t = .double ∧ ∃ z, w = .double z) ∨ (i = .freturn ∧ t = .float ∧ ∃ z, w = .float z) ∨ (i = .areturn ∧ t.isReference = true ∧ w.isRef = true))
    (hd : decode c.code pc = .ok (i, 1)) (hc : cells ≤ rm.cells) (hs : slots ≤ rm.slots) (hQ : Q (some w) T.heap locs) : Go p e below (EndP s rm Q) T (mkF m pc Ls (w :: rest)) :=
  Go.fin X (fun q => by rw [hret] at q; cases q) hlk hc hs (fun fs hr => retOut X hx hret hn hi hd hr) hQ
/-- nothing is returned -/
theorem Go.retV (X : Stand p l e R s m args below meth c T locs cells slots) (hx : p.tables.exec = Jvm.exec) {pc : Nat} {Ls : Array Slot} (hret : meth.sig.returnType = none) (hlk : meth.locks = false)
    (hd : decode c.code pc = .ok (.return_, 1)) (hc : cells ≤ rm.cells) (hs : slots ≤ rm.slots) (hQ : Q none T.heap locs) : Go p e below (EndP s rm Q) T (mkF m pc Ls []) :=
  Go.fin X (fun _ => rfl) hlk hc hs (fun fs hr => X.returnOut hx hret hd hr) hQ
theorem ri_int {z : Int32} {t : FieldType} (ht : t = .int ∨ t = .boolean ∨ t = .byte ∨ t = .char ∨ t = .short) : ((.ireturn : Instr) = .ireturn ∧ (t = .int ∨ t = .boolean ∨ t = .byte ∨ t = .char ∨ t = .short) ∧ ∃ z', (Value.int z) = .int z') ∨ ((.ireturn : Instr) = .lreturn ∧ t = .long ∧ ∃ z', (Value.int z) = .long z') ∨ ((.ireturn : Instr) = .dreturn ∧ t = .double ∧ ∃ z', (Value.int z) = .double z') ∨ ((.ireturn : Instr) = .freturn ∧ t = .float ∧ ∃ z', (Value.int z) = .float z') ∨ ((.ireturn : Instr) = .areturn ∧ t.isReference = true ∧ (Value.int z).isRef = true) := Or.inl ⟨rfl, ht, z, rfl⟩
/-- a static call, by the callee's contract -/
theorem Go.callS (X : Stand p l e R s m args below meth c T locs cells slots) (hx : p.tables.exec = Jvm.exec) (hZ : Z.Warmed39 s.vm) {own : String} {index W : Nat} {argsL rest : List Value} (hown : s.vm.findClass own = some m.cls)
    (w1 : (Cond.methodLink own index y).before a0 Z = true) (w2 : (Cond.static y).before a0 Z = true) (w3 : (Cond.initialized y.cls).before a0 Z = true) (w4 : (Cond.code y bytes maxL ret).before a0 Z = true)
    (hy : y.cls ≠ "java/lang/invoke/MethodHandle" ∧ y.cls ≠ "java/lang/invoke/VarHandle") (eT : T.heap = h) (hM : Met l Z y bytes maxL ret [] rm argsL.toArray h Q)
    (hg : g.method = m) (hsize : g.locals.size = c.maxLocals) (hlen : ∀ sig, parseMethodDescriptor y.desc = some sig → argsL.length = sig.parameters.length) (hs : g.stack = argsL.reverse ++ rest)
    (hW : 2 * g.monitorRoom + (rest.map fun v => v.category).sum ≤ W) (hd : decode c.code g.pc = .ok (.invokestatic index, 3)) (hf : rm.frames + 1 ≤ R.frames) (hl : W + (maxL + 11) + rm.locals ≤ R.locals) (hc : cells + rm.cells ≤ R.cells) (hsl : slots + rm.slots ≤ R.slots)
    (k : ∀ T' L v, Stand p l e R s m args below meth c T' (locs ++ L) (cells + rm.cells) (slots + rm.slots) → Q v T'.heap L → Go p e below P T' { g with pc := g.pc + 3, stack := v.toList ++ rest }) : Go p e below P T g := by
  obtain ⟨v, _, ⟨U, L, q1, q2⟩, -, X', ⟨Lc, hQ, l1, l2, l3⟩, st⟩ := Jvm.LawKit.callS X hx (y := y) hown (mvT hZ w1) (mvT hZ w2) (mvT hZ w3) (mvT hZ w4) hy (backOf (W := W) hM hZ w4 w3 hf hl) hg hsize hlen hs hW hd (fun _ _ => ⟨rfl, eT, hc, hsl⟩)
  dsimp only [Pt.U, Pt.locs, Pt.cells, Pt.slots] at X' l1 l2 l3 st hQ
  subst l1 l2 l3
  exact Go.of _ st (k _ _ _ X' hQ)
/-- a constructor, by its contract -/
theorem Go.init (X : Stand p l e R s m args below meth c T locs cells slots) (hx : p.tables.exec = Jvm.exec) (hZ : Z.Warmed39 s.vm) {own : String} {index W : Nat} {a : Addr} {argsL rest : List Value} (hown : s.vm.findClass own = some m.cls) (hy1 : y.name = "<init>")
    (w1 : (Cond.methodLink own index y).before a0 Z = true) (w2 : (Cond.instanceMethod y).before a0 Z = true) (w3 : (Cond.initialized y.cls).before a0 Z = true) (w4 : (Cond.code y bytes maxL none).before a0 Z = true)
    (hy : y.cls ≠ "java/lang/invoke/MethodHandle" ∧ y.cls ≠ "java/lang/invoke/VarHandle") (eT : T.heap = h) (hM : Met l Z y bytes maxL none [] rm (.ref a :: argsL).toArray h Q)
    (hg : g.method = m) (hsize : g.locals.size = c.maxLocals) (hlen : ∀ sig, parseMethodDescriptor y.desc = some sig → argsL.length = sig.parameters.length) (hs : g.stack = argsL.reverse ++ .ref a :: rest)
    (hW : 2 * g.monitorRoom + (rest.map fun v => v.category).sum ≤ W) (hd : decode c.code g.pc = .ok (.invokespecial index, 3)) (hf : rm.frames + 1 ≤ R.frames) (hl : W + (maxL + 11) + rm.locals ≤ R.locals) (hc : cells + rm.cells ≤ R.cells) (hsl : slots + rm.slots ≤ R.slots)
    (k : ∀ T' L v, Stand p l e R s m args below meth c T' (locs ++ L) (cells + rm.cells) (slots + rm.slots) → Q v T'.heap L → Go p e below P T' { g with pc := g.pc + 3, stack := v.toList ++ rest }) : Go p e below P T g := by
  obtain ⟨v, _, ⟨U, L, q1, q2⟩, -, X', ⟨Lc, hQ, l1, l2, l3⟩, st⟩ := X.specialBack hx (y := y) hy1 hown (mvT hZ w1) (mvT hZ w2) (mvT hZ w4) hy (backOf (W := W) hM hZ w4 w3 hf hl) hg hsize (Steps.refl _) hlen hs hW hd (fun _ _ => ⟨rfl, eT, hc, hsl⟩)
  dsimp only [Pt.U, Pt.locs, Pt.cells, Pt.slots] at X' l1 l2 l3 st hQ
  subst l1 l2 l3
  exact Go.via _ st (k _ _ _ X' hQ)
/-- an instance method, by the contract of the method that the receiver's class selects -/
theorem Go.virt (X : Stand p l e R s m args below meth c T locs cells slots) (hx : p.tables.exec = Jvm.exec) (hZ : Z.Warmed39 s.vm) {own C : String} {z : MethodName} {index W : Nat} {a : Addr} {argsL rest : List Value} (hown : s.vm.findClass own = some m.cls)
    (w1 : (Cond.methodLink own index z).before a0 Z = true) (w2 : (Cond.declares z).before a0 Z = true) (nf : NotFace s z) (w5 : (Cond.selects C z y).before a0 Z = true) (w6 : (Cond.instanceMethod y).before a0 Z = true) (w3 : (Cond.initialized y.cls).before a0 Z = true) (w4 : (Cond.code y bytes maxL ret).before a0 Z = true)
    (hy : z.cls ≠ "java/lang/invoke/MethodHandle" ∧ z.cls ≠ "java/lang/invoke/VarHandle") (eT : T.heap = h) (E : Exa Z h a C) (hM : Met l Z y bytes maxL ret [] rm (.ref a :: argsL).toArray h Q)
    (hg : g.method = m) (hsize : g.locals.size = c.maxLocals) (hlen : ∀ sig, parseMethodDescriptor z.desc = some sig → argsL.length = sig.parameters.length) (hs : g.stack = argsL.reverse ++ .ref a :: rest)
    (hW : 2 * g.monitorRoom + (rest.map fun v => v.category).sum ≤ W) (hd : decode c.code g.pc = .ok (.invokevirtual index, 3)) (hf : rm.frames + 1 ≤ R.frames) (hl : W + (maxL + 11) + rm.locals ≤ R.locals) (hc : cells + rm.cells ≤ R.cells) (hsl : slots + rm.slots ≤ R.slots)
    (k : ∀ T' L v, Stand p l e R s m args below meth c T' (locs ++ L) (cells + rm.cells) (slots + rm.slots) → Q v T'.heap L → Go p e below P T' { g with pc := g.pc + 3, stack := v.toList ++ rest }) : Go p e below P T g := by
  obtain ⟨cq, kq, qa, qb, qc⟩ := isOf hZ eT E
  obtain ⟨v, _, ⟨U, L, q1, q2⟩, -, X', ⟨Lc, hQ, l1, l2, l3⟩, st⟩ := X.virtualBack hx (y := z) (z := y) hown (mvT hZ w1) (mvT hZ w2) nf (mvT hZ w5) (mvT hZ w6) hy (backOf (W := W) hM hZ w4 w3 hf hl) qa qc hg hsize (Steps.refl _) hlen hs hW hd (fun _ _ => ⟨rfl, eT, hc, hsl⟩)
  dsimp only [Pt.U, Pt.locs, Pt.cells, Pt.slots] at X' l1 l2 l3 st hQ
  subst l1 l2 l3
  exact Go.via _ st (k _ _ _ X' hQ)
/-- a private method (invokevirtual) -/
theorem Go.priv (X : Stand p l e R s m args below meth c T locs cells slots) (hx : p.tables.exec = Jvm.exec) (hZ : Z.Warmed39 s.vm) {own C : String} {index W : Nat} {a : Addr} {argsL rest : List Value} (hown : s.vm.findClass own = some m.cls)
    (w1 : (Cond.methodLink own index y).before a0 Z = true) (w6 : (Cond.instanceMethod y).before a0 Z = true) (w5 : (Cond.selects y.cls y y).before a0 Z = true) (w7 : (Cond.privateMethod y).before a0 Z = true) (w3 : (Cond.initialized y.cls).before a0 Z = true) (w4 : (Cond.code y bytes maxL ret).before a0 Z = true)
    (hy : y.cls ≠ "java/lang/invoke/MethodHandle" ∧ y.cls ≠ "java/lang/invoke/VarHandle") (eT : T.heap = h) (E : Exa Z h a C) (hM : Met l Z y bytes maxL ret [] rm (.ref a :: argsL).toArray h Q)
    (hg : g.method = m) (hsize : g.locals.size = c.maxLocals) (hlen : ∀ sig, parseMethodDescriptor y.desc = some sig → argsL.length = sig.parameters.length) (hs : g.stack = argsL.reverse ++ .ref a :: rest)
    (hW : 2 * g.monitorRoom + (rest.map fun v => v.category).sum ≤ W) (hd : decode c.code g.pc = .ok (.invokevirtual index, 3)) (hf : rm.frames + 1 ≤ R.frames) (hl : W + (maxL + 11) + rm.locals ≤ R.locals) (hc : cells + rm.cells ≤ R.cells) (hsl : slots + rm.slots ≤ R.slots)
    (k : ∀ T' L v, Stand p l e R s m args below meth c T' (locs ++ L) (cells + rm.cells) (slots + rm.slots) → Q v T'.heap L → Go p e below P T' { g with pc := g.pc + 3, stack := v.toList ++ rest }) : Go p e below P T g := by
  obtain ⟨cq, q, q'⟩ := E.cell
  obtain ⟨v, _, ⟨U, L, q1, q2⟩, -, X', ⟨Lc, hQ, l1, l2, l3⟩, st⟩ := X.privateBack hx (y := y) hown (mvT hZ w1) (mvT hZ w6) (mvT hZ w5) (Cond.privateMethod_at (mvP hZ w7 (args := #[]))) (mvT hZ w4) hy (backOf (W := W) hM hZ w4 w3 hf hl) hg hsize (Steps.refl _) (a := a) (by rw [eT]; exact q) q' hlen hs hW hd (fun _ _ => ⟨rfl, eT, hc, hsl⟩)
  dsimp only [Pt.U, Pt.locs, Pt.cells, Pt.slots] at X' l1 l2 l3 st hQ
  subst l1 l2 l3
  exact Go.via _ st (k _ _ _ X' hQ)
/-! arrays by a function of the place -/
def fnup {α : Type} (y : Int32 → α) (j : Int32) (v : α) : Int32 → α := fun i => if i = j then v else y i
theorem fnup_same {α : Type} (y : Int32 → α) (j : Int32) (v : α) : fnup y j v j = v := if_pos rfl
theorem fnup_ne {α : Type} {y : Int32 → α} {i j : Int32} {v : α} (h : ¬ i = j) : fnup y j v i = y i := if_neg h
def Fa (Z : State) (h : Heap) (a : Addr) (ty : FieldType) (n : Int32) (y : Int32 → Value) : Prop :=
  ∃ c : Cell, Arr Z h a c ty ∧ c.slots.size = n.toNatClampNeg ∧ ¬ n < 0 ∧ ∀ j : Int32, ¬ j < 0 → j < n → c.slots[j.toNatClampNeg]? = some (y j) ∧ fits ty (y j) = true
variable {a b : Addr} {ty : FieldType} {n : Int32} {yv : Int32 → Value} {h' : Heap} {j : Int32} {v : Value} {sl : Nat} {hws : List Addr}
theorem Fa.lt (F : Fa Z h a ty n yv) : a < h.size := by obtain ⟨c, A, -⟩ := F; exact A.lt
theorem Fa.ext (F : Fa Z h a ty n yv) (E : Ext h h') : Fa Z h' a ty n yv := by obtain ⟨c, A, r⟩ := F; exact ⟨c, A.ext E, r⟩
theorem Fa.other (F : Fa Z h b ty n yv) (W : Wr h h' a sl v) (q : b ≠ a) : Fa Z h' b ty n yv := by obtain ⟨c, A, r⟩ := F; exact ⟨c, A.other W q, r⟩
theorem Fa.keep (F : Fa Z h a ty n yv) (K : Keep h h' hws) (q : a ∉ hws) : Fa Z h' a ty n yv := by obtain ⟨c, A, r⟩ := F; exact ⟨c, ⟨K.2.1 a c A.1 q, A.2⟩, r⟩
theorem Fa.new {k : ClassId} (A : Arr Z h a (newA k ty n) ty) (q : ¬ n < 0) : Fa Z h a ty n (fun _ => defaultValue ty) :=
  ⟨_, A, sz_new _ _ _, q, fun i h0 h1 => ⟨get_new (by have := inb_of (c := newA k ty n) (sz_new k ty n) ⟨h0, h1⟩; rwa [sz_new] at this), by cases ty <;> rfl⟩⟩
theorem Fa.set (F : Fa Z h a ty n yv) (W : Wr h h' a j.toNatClampNeg v) (hj : ¬ j < 0) (hv : fits ty v = true) : Fa Z h' a ty n (fnup yv j v) := by
  obtain ⟨c, A, S, M, H⟩ := F
  refine ⟨c.setSlot j.toNatClampNeg v, A.same W, by rw [sz_set]; exact S, M, fun i h0 h1 => ?_⟩
  by_cases e : i = j
  · subst e; rw [fnup_same]; exact ⟨get_hit (inb_of S ⟨h0, h1⟩) rfl, hv⟩
  · rw [fnup_ne e, get_miss hj h0 e]; exact H i h0 h1
theorem Fa.congr {yw : Int32 → Value} (F : Fa Z h a ty n yv) (q : ∀ j, ¬ j < 0 → j < n → yw j = yv j) : Fa Z h a ty n yw := by
  obtain ⟨c, A, S, M, H⟩ := F
  exact ⟨c, A, S, M, fun j h0 h1 => by rw [q j h0 h1]; exact H j h0 h1⟩
theorem Fa.pos (F : Fa Z h a ty n yv) : ¬ n < 0 := by obtain ⟨c, A, S, M, H⟩ := F; exact M
theorem Fa.ofArv {k : ClassId} {vs : List Value} {dv : Value} (F : Arv Z h a k ty n vs dv) : Fa Z h a ty n (fun j => vs.getD j.toNatClampNeg dv) := by
  obtain ⟨c, A, q1, S, M, H, G⟩ := F
  exact ⟨c, A, S, M, fun j h0 h1 => by
    have q : j.toNatClampNeg < c.slots.size := Nat.lt_of_not_le fun z => inb_of S ⟨h0, h1⟩ (Or.inr z)
    exact ⟨H _ q, G _ q⟩⟩
theorem fnup_int (y : Int32 → Int32) (j x : Int32) : fnup (fun i => Value.int (y i)) j (.int x) = fun i => Value.int (fnup y j x i) := by funext i; unfold fnup; split <;> rfl
theorem fnup_long (y : Int32 → Int64) (j : Int32) (x : Int64) : fnup (fun i => Value.long (y i)) j (.long x) = fun i => Value.long (fnup y j x i) := by funext i; unfold fnup; split <;> rfl
theorem fnup_dbl (y : Int32 → UInt64) (j : Int32) (x : UInt64) : fnup (fun i => Value.double (y i)) j (.double x) = fun i => Value.double (fnup y j x i) := by funext i; unfold fnup; split <;> rfl
variable {rest : List Value}
theorem Go.arraylength (X : Stand p l e R s m args below meth c T locs cells slots) (hx : p.tables.exec = Jvm.exec) (hZ : Z.Warmed39 s.vm) (eT : T.heap = h) (F : Fa Z h a ty n yv) (hg : g.method = m) (hs : g.stack = .ref a :: rest) (hd : decode c.code g.pc = .ok (.arraylength, 1))
    (k : Go p e below P T { g with pc := g.pc + 1, stack := .int n :: rest }) : Go p e below P T g := by
  obtain ⟨cl, A, S, M, H⟩ := F
  refine Go.of _ (fun t k => X.arraylength hx (by rw [eT]; exact A.1) (State.isArrayOf_alike hZ.alike A.2.1) hg hs hd _ k) ?_
  rw [len_of S M]; exact k
theorem Go.iaload (X : Stand p l e R s m args below meth c T locs cells slots) (hx : p.tables.exec = Jvm.exec) (hZ : Z.Warmed39 s.vm) (eT : T.heap = h) {y : Int32 → Int32} (F : Fa Z h a .int n (fun i => .int (y i))) (h0 : ¬ j < 0) (h1 : j < n) (hg : g.method = m) (hs : g.stack = .int j :: .ref a :: rest) (hd : decode c.code g.pc = .ok (.iaload, 1))
    (k : Go p e below P T { g with pc := g.pc + 1, stack := .int (y j) :: rest }) : Go p e below P T g := by
  obtain ⟨cl, A, S, M, H⟩ := F
  exact Go.of _ (fun t k => X.iaload hx (by rw [eT]; exact A.1) (State.isArrayOf_alike hZ.alike A.2.1) A.2.2 (inb_of S ⟨h0, h1⟩) (H j h0 h1).1 hg hs hd _ k) k
theorem Go.caload (X : Stand p l e R s m args below meth c T locs cells slots) (hx : p.tables.exec = Jvm.exec) (hZ : Z.Warmed39 s.vm) (eT : T.heap = h) {y : Int32 → Int32} (F : Fa Z h a .char n (fun i => .int (y i))) (h0 : ¬ j < 0) (h1 : j < n) (hg : g.method = m) (hs : g.stack = .int j :: .ref a :: rest) (hd : decode c.code g.pc = .ok (.caload, 1))
    (k : Go p e below P T { g with pc := g.pc + 1, stack := .int (y j) :: rest }) : Go p e below P T g := by
  obtain ⟨cl, A, S, M, H⟩ := F
  exact Go.of _ (fun t k => X.caload hx (by rw [eT]; exact A.1) (State.isArrayOf_alike hZ.alike A.2.1) A.2.2 (inb_of S ⟨h0, h1⟩) (H j h0 h1).1 hg hs hd _ k) k
theorem Go.saload (X : Stand p l e R s m args below meth c T locs cells slots) (hx : p.tables.exec = Jvm.exec) (hZ : Z.Warmed39 s.vm) (eT : T.heap = h) {y : Int32 → Int32} (F : Fa Z h a .short n (fun i => .int (y i))) (h0 : ¬ j < 0) (h1 : j < n) (hg : g.method = m) (hs : g.stack = .int j :: .ref a :: rest) (hd : decode c.code g.pc = .ok (.saload, 1))
    (k : Go p e below P T { g with pc := g.pc + 1, stack := .int (y j) :: rest }) : Go p e below P T g := by
  obtain ⟨cl, A, S, M, H⟩ := F
  exact Go.of _ (fun t k => X.saload hx (by rw [eT]; exact A.1) (State.isArrayOf_alike hZ.alike A.2.1) A.2.2 (inb_of S ⟨h0, h1⟩) (H j h0 h1).1 hg hs hd _ k) k
theorem Go.baload (X : Stand p l e R s m args below meth c T locs cells slots) (hx : p.tables.exec = Jvm.exec) (hZ : Z.Warmed39 s.vm) (eT : T.heap = h) {y : Int32 → Int32} (F : Fa Z h a .byte n (fun i => .int (y i))) (h0 : ¬ j < 0) (h1 : j < n) (hg : g.method = m) (hs : g.stack = .int j :: .ref a :: rest) (hd : decode c.code g.pc = .ok (.baload, 1))
    (k : Go p e below P T { g with pc := g.pc + 1, stack := .int (y j) :: rest }) : Go p e below P T g := by
  obtain ⟨cl, A, S, M, H⟩ := F
  exact Go.of _ (fun t k => X.baloadBytes hx (by rw [eT]; exact A.1) (State.isArrayOf_alike hZ.alike A.2.1) A.2.2 (inb_of S ⟨h0, h1⟩) (H j h0 h1).1 hg hs hd _ k) k
theorem Go.zaload (X : Stand p l e R s m args below meth c T locs cells slots) (hx : p.tables.exec = Jvm.exec) (hZ : Z.Warmed39 s.vm) (eT : T.heap = h) {y : Int32 → Int32} (F : Fa Z h a .boolean n (fun i => .int (y i))) (h0 : ¬ j < 0) (h1 : j < n) (hg : g.method = m) (hs : g.stack = .int j :: .ref a :: rest) (hd : decode c.code g.pc = .ok (.baload, 1))
    (k : Go p e below P T { g with pc := g.pc + 1, stack := .int (y j) :: rest }) : Go p e below P T g := by
  obtain ⟨cl, A, S, M, H⟩ := F
  exact Go.of _ (fun t k => X.baloadBooleans hx (by rw [eT]; exact A.1) (State.isArrayOf_alike hZ.alike A.2.1) A.2.2 (inb_of S ⟨h0, h1⟩) (H j h0 h1).1 hg hs hd _ k) k
theorem Go.laload (X : Stand p l e R s m args below meth c T locs cells slots) (hx : p.tables.exec = Jvm.exec) (hZ : Z.Warmed39 s.vm) (eT : T.heap = h) {y : Int32 → Int64} (F : Fa Z h a .long n (fun i => .long (y i))) (h0 : ¬ j < 0) (h1 : j < n) (hg : g.method = m) (hs : g.stack = .int j :: .ref a :: rest) (hd : decode c.code g.pc = .ok (.laload, 1))
    (k : Go p e below P T { g with pc := g.pc + 1, stack := .long (y j) :: rest }) : Go p e below P T g := by
  obtain ⟨cl, A, S, M, H⟩ := F
  exact Go.of _ (fun t k => X.laload hx (by rw [eT]; exact A.1) (State.isArrayOf_alike hZ.alike A.2.1) A.2.2 (inb_of S ⟨h0, h1⟩) (H j h0 h1).1 hg hs hd _ k) k
theorem Go.aaload (X : Stand p l e R s m args below meth c T locs cells slots) (hx : p.tables.exec = Jvm.exec) (hZ : Z.Warmed39 s.vm) (eT : T.heap = h) (F : Fa Z h a ty n yv) (hty : ty.isReference = true) (h0 : ¬ j < 0) (h1 : j < n) (hg : g.method = m) (hs : g.stack = .int j :: .ref a :: rest) (hd : decode c.code g.pc = .ok (.aaload, 1))
    (k : Go p e below P T { g with pc := g.pc + 1, stack := yv j :: rest }) : Go p e below P T g := by
  obtain ⟨cl, A, S, M, H⟩ := F
  exact Go.of _ (fun t k => X.aaload hx (by rw [eT]; exact A.1) (State.isArrayOf_alike hZ.alike A.2.1) hty A.2.2 (inb_of S ⟨h0, h1⟩) (H j h0 h1).1 hg hs hd _ k) k
theorem Go.iastore (X : Stand p l e R s m args below meth c T locs cells slots) (hx : p.tables.exec = Jvm.exec) (hZ : Z.Warmed39 s.vm) (eT : T.heap = h) {y : Int32 → Int32} {x : Int32} (F : Fa Z h a .int n (fun i => .int (y i))) (h0 : ¬ j < 0) (h1 : j < n) (hg : g.method = m) (hs : g.stack = .int x :: .int j :: .ref a :: rest) (hd : decode c.code g.pc = .ok (.iastore, 1))
    (k : ∀ T' h', Stand p l e R s m args below meth c T' (locs ++ [⟨a, j.toNatClampNeg⟩]) cells slots → T'.heap = h' → Wr h h' a j.toNatClampNeg (.int x) → Fa Z h' a .int n (fun i => .int (fnup y j x i)) → Go p e below P T' { g with pc := g.pc + 1, stack := rest }) : Go p e below P T g := by
  obtain ⟨cl, A, S, M, H⟩ := id F
  obtain ⟨T', h', X', e', W, st⟩ := stI X hx hZ eT A (inb_of S ⟨h0, h1⟩) hg hs hd
  exact Go.of _ st (k _ _ X' e' W (by have := F.set W h0 rfl; rwa [fnup_int] at this))
theorem Go.castore (X : Stand p l e R s m args below meth c T locs cells slots) (hx : p.tables.exec = Jvm.exec) (hZ : Z.Warmed39 s.vm) (eT : T.heap = h) {y : Int32 → Int32} {x : Int32} (F : Fa Z h a .char n (fun i => .int (y i))) (h0 : ¬ j < 0) (h1 : j < n) (hg : g.method = m) (hs : g.stack = .int x :: .int j :: .ref a :: rest) (hd : decode c.code g.pc = .ok (.castore, 1))
    (k : ∀ T' h', Stand p l e R s m args below meth c T' (locs ++ [⟨a, j.toNatClampNeg⟩]) cells slots → T'.heap = h' → Wr h h' a j.toNatClampNeg (.int (nar .char x)) → Fa Z h' a .char n (fun i => .int (fnup y j (nar .char x) i)) → Go p e below P T' { g with pc := g.pc + 1, stack := rest }) : Go p e below P T g := by
  obtain ⟨cl, A, S, M, H⟩ := id F
  obtain ⟨T', h', X', e', W, st⟩ := stC X hx hZ eT A (inb_of S ⟨h0, h1⟩) hg hs hd
  exact Go.of _ st (k _ _ X' e' W (by have := F.set W h0 (fits_nar_char _); rwa [fnup_int] at this))
theorem Go.bastore (X : Stand p l e R s m args below meth c T locs cells slots) (hx : p.tables.exec = Jvm.exec) (hZ : Z.Warmed39 s.vm) (eT : T.heap = h) {y : Int32 → Int32} {x : Int32} (F : Fa Z h a .byte n (fun i => .int (y i))) (h0 : ¬ j < 0) (h1 : j < n) (hg : g.method = m) (hs : g.stack = .int x :: .int j :: .ref a :: rest) (hd : decode c.code g.pc = .ok (.bastore, 1))
    (k : ∀ T' h', Stand p l e R s m args below meth c T' (locs ++ [⟨a, j.toNatClampNeg⟩]) cells slots → T'.heap = h' → Wr h h' a j.toNatClampNeg (.int (nar .byte x)) → Fa Z h' a .byte n (fun i => .int (fnup y j (nar .byte x) i)) → Go p e below P T' { g with pc := g.pc + 1, stack := rest }) : Go p e below P T g := by
  obtain ⟨cl, A, S, M, H⟩ := id F
  obtain ⟨T', h', X', e', W, st⟩ := stB X hx hZ eT A (inb_of S ⟨h0, h1⟩) hg hs hd
  exact Go.of _ st (k _ _ X' e' W (by have := F.set W h0 (fits_nar_byte _); rwa [fnup_int] at this))
theorem Go.zastore (X : Stand p l e R s m args below meth c T locs cells slots) (hx : p.tables.exec = Jvm.exec) (hZ : Z.Warmed39 s.vm) (eT : T.heap = h) {y : Int32 → Int32} {x : Int32} (F : Fa Z h a .boolean n (fun i => .int (y i))) (h0 : ¬ j < 0) (h1 : j < n) (hg : g.method = m) (hs : g.stack = .int x :: .int j :: .ref a :: rest) (hd : decode c.code g.pc = .ok (.bastore, 1))
    (k : ∀ T' h', Stand p l e R s m args below meth c T' (locs ++ [⟨a, j.toNatClampNeg⟩]) cells slots → T'.heap = h' → Wr h h' a j.toNatClampNeg (.int (nar .boolean x)) → Fa Z h' a .boolean n (fun i => .int (fnup y j (nar .boolean x) i)) → Go p e below P T' { g with pc := g.pc + 1, stack := rest }) : Go p e below P T g := by
  obtain ⟨cl, A, S, M, H⟩ := id F
  obtain ⟨T', h', X', e', W, st⟩ := stZ X hx hZ eT A (inb_of S ⟨h0, h1⟩) hg hs hd
  exact Go.of _ st (k _ _ X' e' W (by have := F.set W h0 (fits_nar_bool _); rwa [fnup_int] at this))
theorem Go.lastore (X : Stand p l e R s m args below meth c T locs cells slots) (hx : p.tables.exec = Jvm.exec) (hZ : Z.Warmed39 s.vm) (eT : T.heap = h) {y : Int32 → Int64} {x : Int64} (F : Fa Z h a .long n (fun i => .long (y i))) (h0 : ¬ j < 0) (h1 : j < n) (hg : g.method = m) (hs : g.stack = .long x :: .int j :: .ref a :: rest) (hd : decode c.code g.pc = .ok (.lastore, 1))
    (k : ∀ T' h', Stand p l e R s m args below meth c T' (locs ++ [⟨a, j.toNatClampNeg⟩]) cells slots → T'.heap = h' → Wr h h' a j.toNatClampNeg (.long x) → Fa Z h' a .long n (fun i => .long (fnup y j x i)) → Go p e below P T' { g with pc := g.pc + 1, stack := rest }) : Go p e below P T g := by
  obtain ⟨cl, A, S, M, H⟩ := id F
  obtain ⟨T', h', X', e', W, st⟩ := stJ X hx hZ eT A (inb_of S ⟨h0, h1⟩) hg hs hd
  exact Go.of _ st (k _ _ X' e' W (by have := F.set W h0 rfl; rwa [fnup_long] at this))
theorem Go.aastore (X : Stand p l e R s m args below meth c T locs cells slots) (hx : p.tables.exec = Jvm.exec) (hZ : Z.Warmed39 s.vm) (eT : T.heap = h) (F : Fa Z h a ty n yv) (hty : ty.isReference = true) (hf : fits ty v = true) (O : Sto Z h a v) (h0 : ¬ j < 0) (h1 : j < n) (hg : g.method = m) (hs : g.stack = v :: .int j :: .ref a :: rest) (hd : decode c.code g.pc = .ok (.aastore, 1))
    (k : ∀ T' h', Stand p l e R s m args below meth c T' (locs ++ [⟨a, j.toNatClampNeg⟩]) cells slots → T'.heap = h' → Wr h h' a j.toNatClampNeg v → Fa Z h' a ty n (fnup yv j v) → Go p e below P T' { g with pc := g.pc + 1, stack := rest }) : Go p e below P T g := by
  obtain ⟨cl, A, S, M, H⟩ := id F
  obtain ⟨T', h', X', e', W, st⟩ := stR X hx hZ eT A (inb_of S ⟨h0, h1⟩) hty O hg hs hd
  exact Go.of _ st (k _ _ X' e' W (F.set W h0 hf))
/-- the array's class is that of the arrays over C -/
def Uty (Z : State) (h : Heap) (a : Addr) (C : String) : Prop := ∃ c : Cell, h[a]? = some c ∧ Ovr Z c.cls C
theorem Uty.ext {C : String} (F : Uty Z h a C) (E : Ext h h') : Uty Z h' a C := by obtain ⟨c, A, r⟩ := F; exact ⟨c, E.2 _ _ A, r⟩
theorem Uty.wr {C : String} (F : Uty Z h b C) (W : Wr h h' a sl v) : Uty Z h' b C := by
  obtain ⟨c, A, r⟩ := F
  obtain ⟨c', e1, e2, -⟩ := wr_at W A
  exact ⟨c', e1, by rw [e2]; exact r⟩
theorem Uty.keep {C : String} (F : Uty Z h a C) (K : Keep h h' hws) : Uty Z h' a C := by
  obtain ⟨c, A, r⟩ := F
  obtain ⟨c', e1, e2, -⟩ := K.2.2 _ _ A
  exact ⟨c', e1, by rw [e2]; exact r⟩
theorem Fa.sto {C : String} (F : Fa Z h a ty n yv) (U : Uty Z h a C) (I : Ins Z h b C true) : Sto Z h a (.ref b) := by
  obtain ⟨c, A, -⟩ := F
  obtain ⟨c', A', O⟩ := U
  cases A.1.symm.trans A'
  exact Sto.of A O I
theorem nat_back {i : Nat} (hi : i < 2 ^ 31) : i.toInt32.toNatClampNeg = i ∧ ¬ i.toInt32 < 0 := by
  have e : i.toInt32.toInt = i := len_toInt hi
  refine ⟨?_, ?_⟩
  · show i.toInt32.toInt.toNat = i
    rw [e]; rfl
  · rw [Int32.lt_iff_toInt_lt, e]
    have z : (0 : Int32).toInt = 0 := by decide
    omega
theorem lt_of_nat {i : Nat} {z : Int32} (hz : ¬ z < 0) (hi : i < z.toNatClampNeg) : i.toInt32 < z ∧ i < 2 ^ 31 := by
  have q := nat_of hz
  have b := rng32 z
  have hb : i < 2 ^ 31 := by omega
  refine ⟨?_, hb⟩
  rw [Int32.lt_iff_toInt_lt, len_toInt hb]
  omega
theorem Fa.fitC {cl : Cell} (A : Arr Z h a cl ty) (S : cl.slots.size = n.toNatClampNeg) (M : ¬ n < 0) (H : ∀ j : Int32, ¬ j < 0 → j < n → cl.slots[j.toNatClampNeg]? = some (yv j) ∧ fits ty (yv j) = true) : FitC Z cl :=
  fitC_of A fun i hi w hw => by
    have q := lt_of_nat M (S ▸ hi)
    have r := nat_back q.2
    have u := H i.toInt32 r.2 q.1
    rw [r.1] at u
    cases hw.symm.trans u.1
    exact u.2
theorem Go.clone (X : Stand p l e R s m args below meth c T locs cells slots) (hx : p.tables.exec = Jvm.exec) (hZ : Z.Warmed39 s.vm) {own ad : String} {index : Nat} (hown : s.vm.findClass own = some m.cls)
    (w1 : (Cond.methodLink own index ⟨ad, "clone", "()Ljava/lang/Object;"⟩).before a0 Z = true) (w2 : (Cond.sameMethod ad "java/lang/Object" "clone" "()Ljava/lang/Object;").before a0 Z = true) (w3 : (Cond.native ⟨"java/lang/Object", "clone", "()Ljava/lang/Object;"⟩).before a0 Z = true)
    (w4 : (Cond.instanceMethod ⟨"java/lang/Object", "clone", "()Ljava/lang/Object;"⟩).before a0 Z = true) (w5 : (Cond.selects ad ⟨ad, "clone", "()Ljava/lang/Object;"⟩ ⟨"java/lang/Object", "clone", "()Ljava/lang/Object;"⟩).before a0 Z = true) (w6 : (Cond.castable ad "java/lang/Cloneable").before a0 Z = true)
    (eT : T.heap = h) (F : Fa Z h a ty n yv) (E : Exa Z h a ad) (hg : g.method = m) (hsize : g.locals.size = c.maxLocals) (hs : g.stack = .ref a :: rest) (hd : decode c.code g.pc = .ok (.invokevirtual index, 3))
    (hf : 1 ≤ R.frames) {W cap : Nat} (hW : 2 * g.monitorRoom + (rest.map fun v => v.category).sum ≤ W) (hl : W + 14 ≤ R.locals) (hcap : n.toNatClampNeg ≤ cap) (hc : cells + 1 ≤ R.cells) (hsl : slots + cap ≤ R.slots)
    (k : ∀ T' h' b, b = h.size → Stand p l e R s m args below meth c T' locs (cells + 1) (slots + cap) → T'.heap = h' → Ext h h' → Fa Z h' b ty n yv → Exa Z h' b ad → Go p e below P T' { g with pc := g.pc + 3, stack := .ref b :: rest }) : Go p e below P T g := by
  obtain ⟨cl, A, S, M, H⟩ := id F
  obtain ⟨T', h', X', e', ex, A', E', st⟩ := cloneA X hx hZ hown w1 w2 w3 w4 w5 w6 eT A E (Fa.fitC A S M H) hg hsize hs hd hf hW hl (by rw [S]; exact hcap) hc hsl
  exact Go.of _ st (k _ _ _ rfl X' e' ex ⟨cloneOf cl, A', S, M, H⟩ E')
theorem exa_ns {C : String} (E : Exa Z h a C) : ∀ c : Cell, h[a]? = some c → c.vm.isStatics = false := fun c hc => by
  obtain ⟨c', k, h1, -, -, h4, -⟩ := E
  cases h1.symm.trans hc; exact h4
theorem Sta.keep {C nn d : String} (F : Sta Z h C nn d v) (K : Keep h h' hws) (q : ∀ x ∈ hws, ∀ c : Cell, h[x]? = some c → c.vm.isStatics = false) : Sta Z h' C nn d v := by
  obtain ⟨cf, i, k, f, st, cell, h1, h2, h3, h4, h5, h6, h7⟩ := F
  refine ⟨cf, i, k, f, st, cell, h1, h2, h3, h4, K.2.1 _ _ h5 fun z => ?_, h6, h7⟩
  rw [q _ z _ h5] at h6; cases h6
/-- an inherited instance method (the entry names it through the subclass) -/
theorem Go.virtUp (X : Stand p l e R s m args below meth c T locs cells slots) (hx : p.tables.exec = Jvm.exec) (hZ : Z.Warmed39 s.vm) {own C owner : String} {z : MethodName} {index W : Nat} {argsL : List Value} (hown : s.vm.findClass own = some m.cls)
    (w1 : (Cond.methodLink own index z).before a0 Z = true) (w2 : (Cond.sameMethod z.cls owner z.name z.desc).before a0 Z = true) (w8 : (Cond.declares ⟨owner, z.name, z.desc⟩).before a0 Z = true) (hy : owner ≠ "java/lang/invoke/MethodHandle" ∧ owner ≠ "java/lang/invoke/VarHandle") (w5 : (Cond.selects C z y).before a0 Z = true) (w6 : (Cond.instanceMethod y).before a0 Z = true) (w3 : (Cond.initialized y.cls).before a0 Z = true) (w4 : (Cond.code y bytes maxL ret).before a0 Z = true)
    (eT : T.heap = h) (E : Exa Z h a C) (hM : Met l Z y bytes maxL ret [] rm (.ref a :: argsL).toArray h Q)
    (hg : g.method = m) (hsize : g.locals.size = c.maxLocals) (hlen : ∀ sig, parseMethodDescriptor z.desc = some sig → argsL.length = sig.parameters.length) (hs : g.stack = argsL.reverse ++ .ref a :: rest)
    (hW : 2 * g.monitorRoom + (rest.map fun v => v.category).sum ≤ W) (hd : decode c.code g.pc = .ok (.invokevirtual index, 3)) (hf : rm.frames + 1 ≤ R.frames) (hl : W + (maxL + 11) + rm.locals ≤ R.locals) (hc : cells + rm.cells ≤ R.cells) (hsl : slots + rm.slots ≤ R.slots)
    (k : ∀ T' L v, Stand p l e R s m args below meth c T' (locs ++ L) (cells + rm.cells) (slots + rm.slots) → Q v T'.heap L → Go p e below P T' { g with pc := g.pc + 3, stack := v.toList ++ rest }) : Go p e below P T g := by
  obtain ⟨cq, kq, qa, qb, qc⟩ := isOf hZ eT E
  obtain ⟨v, _, ⟨U, L, q1, q2⟩, -, X', ⟨Lc, hQ, l1, l2, l3⟩, st⟩ := X.virtualBackUp hx (x := z) (y := y) hown (mvT hZ w1) (mvT hZ w2) (mvT hZ w8) hy (mvT hZ w5) (mvT hZ w6) (backOf (W := W) hM hZ w4 w3 hf hl) qa qc hg hsize (Steps.refl _) hlen hs hW hd (fun _ _ => ⟨rfl, eT, hc, hsl⟩)
  dsimp only [Pt.U, Pt.locs, Pt.cells, Pt.slots] at X' l1 l2 l3 st hQ
  subst l1 l2 l3
  exact Go.via _ st (k _ _ _ X' hQ)
/-- the two sides of a call as the pasted laws of String have them -/
abbrev BPre (R : Room) (as' : Array Value) (h : Heap) (kc ks : Nat) : Pt → Array Value → Prop := fun P a => a = as' ∧ P.U.heap = h ∧ P.cells + kc ≤ R.cells ∧ P.slots + ks ≤ R.slots
abbrev BPost (Q : Option Value → Heap → List Loc → Prop) (kc ks : Nat) : Pt → Array Value → Option Value → Pt → Prop := fun P _ v B => ∃ L, Q v B.U.heap L ∧ B.locs = P.locs ++ L ∧ B.cells = P.cells + kc ∧ B.slots = P.slots + ks
theorem Go.initB (X : Stand p l e R s m args below meth c T locs cells slots) (hx : p.tables.exec = Jvm.exec) (hZ : Z.Warmed39 s.vm) {own : String} {index W kc ks : Nat} {argsL : List Value} (hown : s.vm.findClass own = some m.cls) (hy1 : y.name = "<init>")
    (w1 : (Cond.methodLink own index y).before a0 Z = true) (w2 : (Cond.instanceMethod y).before a0 Z = true) (w4 : (Cond.code y bytes maxL none).before a0 Z = true)
    (hy : y.cls ≠ "java/lang/invoke/MethodHandle" ∧ y.cls ≠ "java/lang/invoke/VarHandle") (eT : T.heap = h) (hK : Back l R p e below s args y 3 W (BPre R (.ref a :: argsL).toArray h kc ks) (BPost Q kc ks))
    (hg : g.method = m) (hsize : g.locals.size = c.maxLocals) (hlen : ∀ sig, parseMethodDescriptor y.desc = some sig → argsL.length = sig.parameters.length) (hs : g.stack = argsL.reverse ++ .ref a :: rest)
    (hW : 2 * g.monitorRoom + (rest.map fun v => v.category).sum ≤ W) (hd : decode c.code g.pc = .ok (.invokespecial index, 3)) (hc : cells + kc ≤ R.cells) (hsl : slots + ks ≤ R.slots)
    (k : ∀ T' L v, Stand p l e R s m args below meth c T' (locs ++ L) (cells + kc) (slots + ks) → Q v T'.heap L → Go p e below P T' { g with pc := g.pc + 3, stack := v.toList ++ rest }) : Go p e below P T g := by
  obtain ⟨v, _, ⟨U, L, q1, q2⟩, -, X', ⟨Lc, hQ, l1, l2, l3⟩, st⟩ := X.specialBack hx (y := y) hy1 hown (mvT hZ w1) (mvT hZ w2) (mvT hZ w4) hy hK hg hsize (Steps.refl _) hlen hs hW hd (fun _ _ => ⟨rfl, eT, hc, hsl⟩)
  dsimp only [Pt.U, Pt.locs, Pt.cells, Pt.slots] at X' l1 l2 l3 st hQ
  subst l1 l2 l3
  exact Go.via _ st (k _ _ _ X' hQ)
theorem Go.virtB (X : Stand p l e R s m args below meth c T locs cells slots) (hx : p.tables.exec = Jvm.exec) (hZ : Z.Warmed39 s.vm) {own C : String} {z : MethodName} {index W kc ks : Nat} {argsL : List Value} (hown : s.vm.findClass own = some m.cls)
    (w1 : (Cond.methodLink own index z).before a0 Z = true) (w2 : (Cond.declares z).before a0 Z = true) (nf : NotFace s z) (w5 : (Cond.selects C z y).before a0 Z = true) (w6 : (Cond.instanceMethod y).before a0 Z = true)
    (hy : z.cls ≠ "java/lang/invoke/MethodHandle" ∧ z.cls ≠ "java/lang/invoke/VarHandle") (eT : T.heap = h) (E : Exa Z h a C) (hK : Back l R p e below s args y 3 W (BPre R (.ref a :: argsL).toArray h kc ks) (BPost Q kc ks))
    (hg : g.method = m) (hsize : g.locals.size = c.maxLocals) (hlen : ∀ sig, parseMethodDescriptor z.desc = some sig → argsL.length = sig.parameters.length) (hs : g.stack = argsL.reverse ++ .ref a :: rest)
    (hW : 2 * g.monitorRoom + (rest.map fun v => v.category).sum ≤ W) (hd : decode c.code g.pc = .ok (.invokevirtual index, 3)) (hc : cells + kc ≤ R.cells) (hsl : slots + ks ≤ R.slots)
    (k : ∀ T' L v, Stand p l e R s m args below meth c T' (locs ++ L) (cells + kc) (slots + ks) → Q v T'.heap L → Go p e below P T' { g with pc := g.pc + 3, stack := v.toList ++ rest }) : Go p e below P T g := by
  obtain ⟨cq, kq, qa, qb, qc⟩ := isOf hZ eT E
  obtain ⟨v, _, ⟨U, L, q1, q2⟩, -, X', ⟨Lc, hQ, l1, l2, l3⟩, st⟩ := X.virtualBack hx (y := z) (z := y) hown (mvT hZ w1) (mvT hZ w2) nf (mvT hZ w5) (mvT hZ w6) hy hK qa qc hg hsize (Steps.refl _) hlen hs hW hd (fun _ _ => ⟨rfl, eT, hc, hsl⟩)
  dsimp only [Pt.U, Pt.locs, Pt.cells, Pt.slots] at X' l1 l2 l3 st hQ
  subst l1 l2 l3
  exact Go.via _ st (k _ _ _ X' hQ)
theorem Fa.toArv {vs : List Value} {dv : Value} (F : Fa Z h a ty n yv) (q : ∀ i : Nat, i < n.toNatClampNeg → vs.getD i dv = yv i.toInt32) : ∃ k, Arv Z h a k ty n vs dv := by
  obtain ⟨cl, A, S, M, H⟩ := F
  refine ⟨cl.cls, cl, A, rfl, S, M, fun i hi => ?_, fun i hi => ?_⟩
  · rw [S] at hi
    have b := lt_of_nat M hi
    have r := nat_back b.2
    have u := (H _ r.2 b.1).1
    rw [r.1] at u; rw [q i hi]; exact u
  · rw [S] at hi
    have b := lt_of_nat M hi
    have r := nat_back b.2
    rw [q i hi]; exact (H _ r.2 b.1).2
/-- the array's class is that of the arrays over an array class C of components ty -/
def UtA (Z : State) (h : Heap) (a : Addr) (ty : FieldType) (C : String) : Prop := ∃ c : Cell, h[a]? = some c ∧ OvrA Z c.cls ty C
theorem UtA.ext {C : String} (F : UtA Z h a ty C) (E : Ext h h') : UtA Z h' a ty C := by obtain ⟨c, A, r⟩ := F; exact ⟨c, E.2 _ _ A, r⟩
theorem UtA.wr {C : String} (F : UtA Z h b ty C) (W : Wr h h' a sl v) : UtA Z h' b ty C := by
  obtain ⟨c, A, r⟩ := F
  obtain ⟨c', e1, e2, -⟩ := wr_at W A
  exact ⟨c', e1, by rw [e2]; exact r⟩
theorem UtA.keep {C : String} (F : UtA Z h a ty C) (K : Keep h h' hws) : UtA Z h' a ty C := by
  obtain ⟨c, A, r⟩ := F
  obtain ⟨c', e1, e2, -⟩ := K.2.2 _ _ A
  exact ⟨c', e1, by rw [e2]; exact r⟩
theorem Fa.stoA {C : String} {ty' : FieldType} (F : Fa Z h a ty n yv) (U : UtA Z h a ty' C) (I : Ins Z h b C true) : Sto Z h a (.ref b) := by
  obtain ⟨c, A, -⟩ := F
  obtain ⟨c', A', O⟩ := U
  cases A.1.symm.trans A'
  exact Sto.ofVA A rfl O I
theorem Go.daload (X : Stand p l e R s m args below meth c T locs cells slots) (hx : p.tables.exec = Jvm.exec) (hZ : Z.Warmed39 s.vm) (eT : T.heap = h) {y : Int32 → UInt64} (F : Fa Z h a .double n (fun i => .double (y i))) (h0 : ¬ j < 0) (h1 : j < n) (hg : g.method = m) (hs : g.stack = .int j :: .ref a :: rest) (hd : decode c.code g.pc = .ok (.daload, 1))
    (k : Go p e below P T { g with pc := g.pc + 1, stack := .double (y j) :: rest }) : Go p e below P T g := by
  obtain ⟨cl, A, S, M, H⟩ := F
  exact Go.of _ (fun t k => X.daload hx (by rw [eT]; exact A.1) (State.isArrayOf_alike hZ.alike A.2.1) A.2.2 (inb_of S ⟨h0, h1⟩) (H j h0 h1).1 hg hs hd _ k) k
theorem Go.dastore (X : Stand p l e R s m args below meth c T locs cells slots) (hx : p.tables.exec = Jvm.exec) (hZ : Z.Warmed39 s.vm) (eT : T.heap = h) {y : Int32 → UInt64} {x : UInt64} (F : Fa Z h a .double n (fun i => .double (y i))) (h0 : ¬ j < 0) (h1 : j < n) (hg : g.method = m) (hs : g.stack = .double x :: .int j :: .ref a :: rest) (hd : decode c.code g.pc = .ok (.dastore, 1))
    (k : ∀ T' h', Stand p l e R s m args below meth c T' (locs ++ [⟨a, j.toNatClampNeg⟩]) cells slots → T'.heap = h' → Wr h h' a j.toNatClampNeg (.double x) → Fa Z h' a .double n (fun i => .double (fnup y j x i)) → Go p e below P T' { g with pc := g.pc + 1, stack := rest }) : Go p e below P T g := by
  obtain ⟨cl, A, S, M, H⟩ := id F
  obtain ⟨T', h', X', e', W, st⟩ := stD X hx hZ eT A (inb_of S ⟨h0, h1⟩) hg hs hd
  exact Go.of _ st (k _ _ X' e' W (by have := F.set W h0 rfl; rwa [fnup_dbl] at this))
end Own
end Jvm.OwnGo
namespace Jvm.Pilot.@@N@@
open Jvm Jvm.ClassFile Sem Op Lib Jvm.Free Jvm.Stand Jvm.LawKit Jvm.RoadKit Bundle Jvm.OwnGo Jvm.Pilot.@@N@@.Jvm.D Jvm.Free.Fl

def own_des (k a p t r f : Int32) : UInt64 := if p < t then FP.dconst0 else if r < a ∧ f = 0 then FP.ddiv FP.dconst1 (FP.i2d (k + 1)) else FP.i2d (k + 1)
theorem own_l (p t : Int32) : p.toInt64 < t.toInt64 ↔ p < t := by rw [Int64.lt_iff_toInt_lt, Int32.lt_iff_toInt_lt, c_i2l, c_i2l]
theorem own_b (p : Int32) : B53 p.toInt64 := by
  have r := rng32 p; have e := c_i2l p; unfold B53; omega
theorem own_cmp (p t : Int32) : cmpValue (FP.dcmp (FP.i2d p) (FP.i2d t)) .g = lcmpW p.toInt64 t.toInt64 := by rw [i2d_w, i2d_w]; exact dcmpV_w (own_b p) (own_b t) .g
theorem own_k (x : Int32) : ¬ (x &&& 1073741823) + 1 = 0 := by
  have e : (x &&& 1073741823).toInt = x.toInt % (2 ^ 30 : Nat) := c_mask x 1073741823 30 (by decide) (by decide)
  intro h
  have q := c_iadd (x &&& 1073741823) 1
  rw [h] at q
  have z : (0 : Int32).toInt = 0 := by decide
  have z1 : (1 : Int32).toInt = 1 := by decide
  omega
theorem own_nn (k : Int32) (h : ¬ k + 1 = 0) : NoNaN64 (FP.ddiv FP.dconst1 (FP.i2d (k + 1))) := ddiv_out (by unfold NoNaN64 FP.dconst1; decide) (i2d_fin _) (i2d_nz h)
theorem own_d0 : NoNaN64 FP.dconst0 := by unfold NoNaN64 FP.dconst0; decide
theorem own_fin (k a p t r f : Int32) (h : ¬ k + 1 = 0) : NoNaN64 (own_des k a p t r f) := by
  unfold own_des
  split
  · exact own_d0
  · split
    · exact own_nn k h
    · exact (i2d_fin _).noNaN
theorem own_eq (k a p t r f : Int32) (h : ¬ k + 1 = 0) : cmpValue (FP.dcmp (own_des k a p t r f) (own_des k a p t r f)) .l = 0 := dcmpV_self (own_fin k a p t r f h) .l
theorem tw0 {Z : State} {a0 : Array Value} (hw : ∀ d ∈ tables_1, d.before a0 Z = true) : (Jvm.Cond.constant "com/example/quench/quench/AntTeamDesirabilityPinLaw" (7 : Nat) (1073741823 : Int32)).before a0 Z = true := hw _ (List.mem_of_getElem? (i := 0) rfl)
theorem tw1 {Z : State} {a0 : Array Value} (hw : ∀ d ∈ tables_1, d.before a0 Z = true) : (Jvm.Cond.methodLink "com/example/quench/quench/AntTeamDesirabilityPinLaw" (8 : Nat) ({ cls := "com/example/quench/quench/AntTeam", name := "desirability", desc := "(IDDDDZ)D" } : Jvm.MethodName)).before a0 Z = true := hw _ (List.mem_of_getElem? (i := 1) rfl)
theorem tw2 {Z : State} {a0 : Array Value} (hw : ∀ d ∈ tables_1, d.before a0 Z = true) : (Jvm.Cond.static ({ cls := "com/example/quench/quench/AntTeam", name := "desirability", desc := "(IDDDDZ)D" } : Jvm.MethodName)).before a0 Z = true := hw _ (List.mem_of_getElem? (i := 2) rfl)
theorem tw3 {Z : State} {a0 : Array Value} (hw : ∀ d ∈ tables_1, d.before a0 Z = true) : (Jvm.Cond.initialized "com/example/quench/quench/AntTeam").before a0 Z = true := hw _ (List.mem_of_getElem? (i := 3) rfl)
theorem tw4 {Z : State} {a0 : Array Value} (hw : ∀ d ∈ tables_1, d.before a0 Z = true) : (Jvm.Cond.code ({ cls := "com/example/quench/quench/AntTeam", name := "desirability", desc := "(IDDDDZ)D" } : Jvm.MethodName) prog_3_method_6_code (10 : Nat) (Option.some Jvm.ClassFile.FieldType.double)).before a0 Z = true := hw _ (List.mem_of_getElem? (i := 4) rfl)
theorem tw5 {Z : State} {a0 : Array Value} (hw : ∀ d ∈ tables_1, d.before a0 Z = true) : (Jvm.Cond.methodLink "com/example/quench/quench/AntTeamDesirabilityPinLaw" (14 : Nat) ({ cls := "com/example/quench/quench/AntTeamDesirabilityPinLaw", name := "expected", desc := "(IIIIIZ)D" } : Jvm.MethodName)).before a0 Z = true := hw _ (List.mem_of_getElem? (i := 5) rfl)
theorem tw6 {Z : State} {a0 : Array Value} (hw : ∀ d ∈ tables_1, d.before a0 Z = true) : (Jvm.Cond.static ({ cls := "com/example/quench/quench/AntTeamDesirabilityPinLaw", name := "expected", desc := "(IIIIIZ)D" } : Jvm.MethodName)).before a0 Z = true := hw _ (List.mem_of_getElem? (i := 6) rfl)
theorem tw7 {Z : State} {a0 : Array Value} (hw : ∀ d ∈ tables_1, d.before a0 Z = true) : (Jvm.Cond.initialized "com/example/quench/quench/AntTeamDesirabilityPinLaw").before a0 Z = true := hw _ (List.mem_of_getElem? (i := 7) rfl)
theorem tw8 {Z : State} {a0 : Array Value} (hw : ∀ d ∈ tables_1, d.before a0 Z = true) : (Jvm.Cond.code ({ cls := "com/example/quench/quench/AntTeamDesirabilityPinLaw", name := "expected", desc := "(IIIIIZ)D" } : Jvm.MethodName) method_3_code (10 : Nat) (Option.some Jvm.ClassFile.FieldType.double)).before a0 Z = true := hw _ (List.mem_of_getElem? (i := 8) rfl)
theorem pn0 : plainFor (⟨"com/example/quench/quench/AntTeam", "desirability", "(IDDDDZ)D"⟩ : MethodName) = true := plainFor_of_name (by first | (simp [plainName, overriddenIn]; done) | decide +kernel)
theorem d1_0 : decode prog_3_method_6_code 0 = .ok (.dload_n 3, 1) := by decide +kernel
theorem d1_1 : decode prog_3_method_6_code 1 = .ok (.dload 5, 2) := by decide +kernel
theorem d1_3 : decode prog_3_method_6_code 3 = .ok (.dcmp .g, 1) := by decide +kernel
theorem d1_4 : decode prog_3_method_6_code 4 = .ok (.ifCond .ge 5, 3) := by decide +kernel
theorem d1_7 : decode prog_3_method_6_code 7 = .ok (.dconst 0, 1) := by decide +kernel
theorem d1_8 : decode prog_3_method_6_code 8 = .ok (.dreturn, 1) := by decide +kernel
theorem d1_9 : decode prog_3_method_6_code 9 = .ok (.dload_n 1, 1) := by decide +kernel
theorem d1_10 : decode prog_3_method_6_code 10 = .ok (.dload 7, 2) := by decide +kernel
theorem d1_12 : decode prog_3_method_6_code 12 = .ok (.dcmp .g, 1) := by decide +kernel
theorem d1_13 : decode prog_3_method_6_code 13 = .ok (.ifCond .le 8, 3) := by decide +kernel
theorem d1_16 : decode prog_3_method_6_code 16 = .ok (.iload 9, 2) := by decide +kernel
theorem d1_18 : decode prog_3_method_6_code 18 = .ok (.ifCond .eq 8, 3) := by decide +kernel
theorem d1_26 : decode prog_3_method_6_code 26 = .ok (.dconst 1, 1) := by decide +kernel
theorem d1_27 : decode prog_3_method_6_code 27 = .ok (.iload_n 0, 1) := by decide +kernel
theorem d1_28 : decode prog_3_method_6_code 28 = .ok (.iconst 1, 1) := by decide +kernel
theorem d1_29 : decode prog_3_method_6_code 29 = .ok (.iadd, 1) := by decide +kernel
theorem d1_30 : decode prog_3_method_6_code 30 = .ok (.i2d, 1) := by decide +kernel
theorem d1_31 : decode prog_3_method_6_code 31 = .ok (.ddiv, 1) := by decide +kernel
theorem d1_32 : decode prog_3_method_6_code 32 = .ok (.dreturn, 1) := by decide +kernel
theorem d1_21 : decode prog_3_method_6_code 21 = .ok (.iload_n 0, 1) := by decide +kernel
theorem d1_22 : decode prog_3_method_6_code 22 = .ok (.iconst 1, 1) := by decide +kernel
theorem d1_23 : decode prog_3_method_6_code 23 = .ok (.iadd, 1) := by decide +kernel
theorem d1_24 : decode prog_3_method_6_code 24 = .ok (.i2d, 1) := by decide +kernel
theorem d1_25 : decode prog_3_method_6_code 25 = .ok (.dreturn, 1) := by decide +kernel
theorem pn1 : plainFor (⟨"com/example/quench/quench/AntTeamDesirabilityPinLaw", "expected", "(IIIIIZ)D"⟩ : MethodName) = true := plainFor_of_name (by first | (simp [plainName, overriddenIn]; done) | decide +kernel)
theorem d2_0 : decode method_3_code 0 = .ok (.iload_n 2, 1) := by decide +kernel
theorem d2_1 : decode method_3_code 1 = .ok (.iload_n 3, 1) := by decide +kernel
theorem d2_2 : decode method_3_code 2 = .ok (.if_icmp .ge 7, 3) := by decide +kernel
theorem d2_5 : decode method_3_code 5 = .ok (.iconst 1, 1) := by decide +kernel
theorem d2_6 : decode method_3_code 6 = .ok (.goto 4, 3) := by decide +kernel
theorem d2_10 : decode method_3_code 10 = .ok (.istore 6, 2) := by decide +kernel
theorem d2_12 : decode method_3_code 12 = .ok (.iload_n 1, 1) := by decide +kernel
theorem d2_13 : decode method_3_code 13 = .ok (.iload 4, 2) := by decide +kernel
theorem d2_15 : decode method_3_code 15 = .ok (.if_icmp .le 8, 3) := by decide +kernel
theorem d2_18 : decode method_3_code 18 = .ok (.iload 5, 2) := by decide +kernel
theorem d2_20 : decode method_3_code 20 = .ok (.ifCond .eq 7, 3) := by decide +kernel
theorem d2_27 : decode method_3_code 27 = .ok (.iconst 0, 1) := by decide +kernel
theorem d2_28 : decode method_3_code 28 = .ok (.istore 7, 2) := by decide +kernel
theorem d2_30 : decode method_3_code 30 = .ok (.iload_n 0, 1) := by decide +kernel
theorem d2_31 : decode method_3_code 31 = .ok (.iconst 1, 1) := by decide +kernel
theorem d2_32 : decode method_3_code 32 = .ok (.iadd, 1) := by decide +kernel
theorem d2_33 : decode method_3_code 33 = .ok (.i2d, 1) := by decide +kernel
theorem d2_34 : decode method_3_code 34 = .ok (.dstore 8, 2) := by decide +kernel
theorem d2_36 : decode method_3_code 36 = .ok (.iload 6, 2) := by decide +kernel
theorem d2_38 : decode method_3_code 38 = .ok (.ifCond .eq 5, 3) := by decide +kernel
theorem d2_41 : decode method_3_code 41 = .ok (.dconst 0, 1) := by decide +kernel
theorem d2_42 : decode method_3_code 42 = .ok (.dreturn, 1) := by decide +kernel
theorem d2_23 : decode method_3_code 23 = .ok (.iconst 1, 1) := by decide +kernel
theorem d2_24 : decode method_3_code 24 = .ok (.goto 4, 3) := by decide +kernel
theorem d2_9 : decode method_3_code 9 = .ok (.iconst 0, 1) := by decide +kernel
theorem d2_43 : decode method_3_code 43 = .ok (.iload 7, 2) := by decide +kernel
theorem d2_45 : decode method_3_code 45 = .ok (.ifCond .eq 6, 3) := by decide +kernel
theorem d2_51 : decode method_3_code 51 = .ok (.dconst 1, 1) := by decide +kernel
theorem d2_52 : decode method_3_code 52 = .ok (.dload 8, 2) := by decide +kernel
theorem d2_54 : decode method_3_code 54 = .ok (.ddiv, 1) := by decide +kernel
theorem d2_55 : decode method_3_code 55 = .ok (.dreturn, 1) := by decide +kernel
theorem d2_48 : decode method_3_code 48 = .ok (.dload 8, 2) := by decide +kernel
theorem d2_50 : decode method_3_code 50 = .ok (.dreturn, 1) := by decide +kernel
theorem pn2 : plainFor (⟨"com/example/quench/quench/AntTeamDesirabilityPinLaw", "law", "(IIIIII)Z"⟩ : MethodName) = true := plainFor_of_name (by first | (simp [plainName, overriddenIn]; done) | decide +kernel)
theorem pd3 : parseMethodDescriptor "(IDDDDZ)D" = some ⟨[.int, .double, .double, .double, .double, .boolean], some .double⟩ := by decide +kernel
theorem pd4 : parseMethodDescriptor "(IIIIIZ)D" = some ⟨[.int, .int, .int, .int, .int, .boolean], some .double⟩ := by decide +kernel
theorem ef_rmD (m : MethodId) (x0 : Int32) (x1 : UInt64) (x2 : UInt64) (x3 : UInt64) (x4 : UInt64) (x5 : Int32) : entryFrame m #[(.int x0), (.double x1), (.double x2), (.double x3), (.double x4), (.int x5)] 10 = mkF m 0 #[.val (.int x0), .val (.double x1), .second, .val (.double x2), .second, .val (.double x3), .second, .val (.double x4), .second, .val (.int x5)] [] := by first | (simp [entryFrame, mkF, argsToLocals, Value.category]; done) | rfl
set_option maxRecDepth 65536 in
set_option maxHeartbeats 40000000 in
theorem rmD (l : Launch) (Z : State) (a0 : Array Value) (hw : ∀ d ∈ tables_1, d.before a0 Z = true) (ws : List Jvm.Cond) (k a p t r f : Int32) (h0 : Heap) (hk : ¬ k + 1 = 0) :
    Met l Z (⟨"com/example/quench/quench/AntTeam", "desirability", "(IDDDDZ)D"⟩ : MethodName) prog_3_method_6_code 10 (some .double) ws ({ frames := 0, cells := 0, slots := 0, locals := 0 } : Room) #[(.int k), (.double (FP.i2d a)), (.double (FP.i2d p)), (.double (FP.i2d t)), (.double (FP.i2d r)), (.int f)] h0 (fun v h L => v = some (.double (own_des k a p t r f)) ∧ L = [] ∧ h = h0) := by
  refine Met.intro pn0 ?_
  intro pr ev s m below meth c T0 X0 hx hZ hown hby hml hret hlk hnm e0
  refine Go.cast (ef_rmD m k (FP.i2d a) (FP.i2d p) (FP.i2d t) (FP.i2d r) f) ?_
  refine Go.of (mkF m 1 #[.val (.int k), .val (.double (FP.i2d a)), .second, .val (.double (FP.i2d p)), .second, .val (.double (FP.i2d t)), .second, .val (.double (FP.i2d r)), .second, .val (.int f)] [(.double (FP.i2d p))]) (fun tt0 kk0 => XS.dloadN X0.here hx rfl (hb hby d1_0) rfl kk0) ?_
  refine Go.of (mkF m 3 #[.val (.int k), .val (.double (FP.i2d a)), .second, .val (.double (FP.i2d p)), .second, .val (.double (FP.i2d t)), .second, .val (.double (FP.i2d r)), .second, .val (.int f)] [(.double (FP.i2d t)), (.double (FP.i2d p))]) (fun tt0 kk0 => XS.dload X0.here hx rfl (hb hby d1_1) rfl kk0) ?_
  refine Go.of (mkF m 4 #[.val (.int k), .val (.double (FP.i2d a)), .second, .val (.double (FP.i2d p)), .second, .val (.double (FP.i2d t)), .second, .val (.double (FP.i2d r)), .second, .val (.int f)] [(.int (cmpValue (FP.dcmp (FP.i2d p) (FP.i2d t)) .g))]) (fun tt0 kk0 => XS.dcmpS X0.here hx rfl (hb hby d1_3) rfl rfl kk0) ?_
  rw [show (cmpValue (FP.dcmp (FP.i2d p) (FP.i2d t)) .g) = (lcmpW p.toInt64 t.toInt64) from own_cmp _ _]
  by_cases hc4 : p.toInt64 < t.toInt64
  ·
    refine Go.of (mkF m 7 #[.val (.int k), .val (.double (FP.i2d a)), .second, .val (.double (FP.i2d p)), .second, .val (.double (FP.i2d t)), .second, .val (.double (FP.i2d r)), .second, .val (.int f)] []) (fun tt0 kk0 => XS.ifNo X0.here hx rfl (hb hby d1_4) rfl ((if0 _ _).trans (tlt ((lw_lt _ _).mpr hc4)).2.1) kk0) ?_
    refine Go.of (mkF m 8 #[.val (.int k), .val (.double (FP.i2d a)), .second, .val (.double (FP.i2d p)), .second, .val (.double (FP.i2d t)), .second, .val (.double (FP.i2d r)), .second, .val (.int f)] [(.double FP.dconst0)]) (fun tt0 kk0 => XS.dconst0 X0.here hx rfl (hb hby d1_7) rfl kk0) ?_
    exact Go.retW X0 hx (t := .double) hret hlk rfl (Or.inr (Or.inr (Or.inl ⟨rfl, rfl, _, rfl⟩))) (hb hby d1_8) (by decide) (by decide) ⟨by simp [own_des, (own_l p t).mp hc4], rfl, e0⟩
  ·
    refine Go.of (mkF m 9 #[.val (.int k), .val (.double (FP.i2d a)), .second, .val (.double (FP.i2d p)), .second, .val (.double (FP.i2d t)), .second, .val (.double (FP.i2d r)), .second, .val (.int f)] []) (fun tt0 kk0 => XS.ifYes X0.here hx rfl (pc0 := 4) (pc' := 9) rfl (hb hby d1_4) rfl ((if0 _ _).trans (flt (mt (lw_lt _ _).mp hc4)).2.1) (by decide) (by decide) kk0) ?_
    refine Go.of (mkF m 10 #[.val (.int k), .val (.double (FP.i2d a)), .second, .val (.double (FP.i2d p)), .second, .val (.double (FP.i2d t)), .second, .val (.double (FP.i2d r)), .second, .val (.int f)] [(.double (FP.i2d a))]) (fun tt0 kk0 => XS.dloadN X0.here hx rfl (hb hby d1_9) rfl kk0) ?_
    refine Go.of (mkF m 12 #[.val (.int k), .val (.double (FP.i2d a)), .second, .val (.double (FP.i2d p)), .second, .val (.double (FP.i2d t)), .second, .val (.double (FP.i2d r)), .second, .val (.int f)] [(.double (FP.i2d r)), (.double (FP.i2d a))]) (fun tt0 kk0 => XS.dload X0.here hx rfl (hb hby d1_10) rfl kk0) ?_
    refine Go.of (mkF m 13 #[.val (.int k), .val (.double (FP.i2d a)), .second, .val (.double (FP.i2d p)), .second, .val (.double (FP.i2d t)), .second, .val (.double (FP.i2d r)), .second, .val (.int f)] [(.int (cmpValue (FP.dcmp (FP.i2d a) (FP.i2d r)) .g))]) (fun tt0 kk0 => XS.dcmpS X0.here hx rfl (hb hby d1_12) rfl rfl kk0) ?_
    rw [show (cmpValue (FP.dcmp (FP.i2d a) (FP.i2d r)) .g) = (lcmpW a.toInt64 r.toInt64) from own_cmp _ _]
    by_cases hc13 : r.toInt64 < a.toInt64
    ·
      refine Go.of (mkF m 16 #[.val (.int k), .val (.double (FP.i2d a)), .second, .val (.double (FP.i2d p)), .second, .val (.double (FP.i2d t)), .second, .val (.double (FP.i2d r)), .second, .val (.int f)] []) (fun tt0 kk0 => XS.ifNo X0.here hx rfl (hb hby d1_13) rfl ((if0 _ _).trans (tlt ((lw_gt _ _).mpr hc13)).2.2.2) kk0) ?_
      refine Go.of (mkF m 18 #[.val (.int k), .val (.double (FP.i2d a)), .second, .val (.double (FP.i2d p)), .second, .val (.double (FP.i2d t)), .second, .val (.double (FP.i2d r)), .second, .val (.int f)] [(.int f)]) (fun tt0 kk0 => XS.iload X0.here hx rfl (hb hby d1_16) rfl kk0) ?_
      by_cases hc18 : f = (0 : Int32)
      ·
        refine Go.of (mkF m 26 #[.val (.int k), .val (.double (FP.i2d a)), .second, .val (.double (FP.i2d p)), .second, .val (.double (FP.i2d t)), .second, .val (.double (FP.i2d r)), .second, .val (.int f)] []) (fun tt0 kk0 => XS.ifYes X0.here hx rfl (pc0 := 18) (pc' := 26) rfl (hb hby d1_18) rfl ((if0 _ _).trans (teq hc18).1) (by decide) (by decide) kk0) ?_
        refine Go.of (mkF m 27 #[.val (.int k), .val (.double (FP.i2d a)), .second, .val (.double (FP.i2d p)), .second, .val (.double (FP.i2d t)), .second, .val (.double (FP.i2d r)), .second, .val (.int f)] [(.double FP.dconst1)]) (fun tt0 kk0 => XS.dconst1 X0.here hx rfl (hb hby d1_26) rfl kk0) ?_
        refine Go.of (mkF m 28 #[.val (.int k), .val (.double (FP.i2d a)), .second, .val (.double (FP.i2d p)), .second, .val (.double (FP.i2d t)), .second, .val (.double (FP.i2d r)), .second, .val (.int f)] [(.int k), (.double FP.dconst1)]) (fun tt0 kk0 => XS.iloadN X0.here hx rfl (hb hby d1_27) rfl kk0) ?_
        refine Go.of (mkF m 29 #[.val (.int k), .val (.double (FP.i2d a)), .second, .val (.double (FP.i2d p)), .second, .val (.double (FP.i2d t)), .second, .val (.double (FP.i2d r)), .second, .val (.int f)] [(.int (1 : Int32)), (.int k), (.double FP.dconst1)]) (fun tt0 kk0 => XS.iconst X0.here hx rfl (hb hby d1_28) kk0) ?_
        refine Go.of (mkF m 30 #[.val (.int k), .val (.double (FP.i2d a)), .second, .val (.double (FP.i2d p)), .second, .val (.double (FP.i2d t)), .second, .val (.double (FP.i2d r)), .second, .val (.int f)] [(.int (k + (1 : Int32))), (.double FP.dconst1)]) (fun tt0 kk0 => XS.iadd X0.here hx rfl (hb hby d1_29) rfl kk0) ?_
        refine Go.of (mkF m 31 #[.val (.int k), .val (.double (FP.i2d a)), .second, .val (.double (FP.i2d p)), .second, .val (.double (FP.i2d t)), .second, .val (.double (FP.i2d r)), .second, .val (.int f)] [(.double (FP.i2d (k + (1 : Int32)))), (.double FP.dconst1)]) (fun tt0 kk0 => XS.i2dS X0.here hx rfl (hb hby d1_30) rfl rfl kk0) ?_
        refine Go.of (mkF m 32 #[.val (.int k), .val (.double (FP.i2d a)), .second, .val (.double (FP.i2d p)), .second, .val (.double (FP.i2d t)), .second, .val (.double (FP.i2d r)), .second, .val (.int f)] [(.double (FP.ddiv FP.dconst1 (FP.i2d (k + (1 : Int32)))))]) (fun tt0 kk0 => XS.ddivS X0.here hx rfl (hb hby d1_31) rfl (own_nn k hk) rfl kk0) ?_
        exact Go.retW X0 hx (t := .double) hret hlk rfl (Or.inr (Or.inr (Or.inl ⟨rfl, rfl, _, rfl⟩))) (hb hby d1_32) (by decide) (by decide) ⟨by simp [own_des, mt (own_l p t).mpr hc4, (own_l r a).mp hc13, hc18], rfl, e0⟩
      ·
        refine Go.of (mkF m 21 #[.val (.int k), .val (.double (FP.i2d a)), .second, .val (.double (FP.i2d p)), .second, .val (.double (FP.i2d t)), .second, .val (.double (FP.i2d r)), .second, .val (.int f)] []) (fun tt0 kk0 => XS.ifNo X0.here hx rfl (hb hby d1_18) rfl ((if0 _ _).trans (feq hc18).1) kk0) ?_
        refine Go.of (mkF m 22 #[.val (.int k), .val (.double (FP.i2d a)), .second, .val (.double (FP.i2d p)), .second, .val (.double (FP.i2d t)), .second, .val (.double (FP.i2d r)), .second, .val (.int f)] [(.int k)]) (fun tt0 kk0 => XS.iloadN X0.here hx rfl (hb hby d1_21) rfl kk0) ?_
        refine Go.of (mkF m 23 #[.val (.int k), .val (.double (FP.i2d a)), .second, .val (.double (FP.i2d p)), .second, .val (.double (FP.i2d t)), .second, .val (.double (FP.i2d r)), .second, .val (.int f)] [(.int (1 : Int32)), (.int k)]) (fun tt0 kk0 => XS.iconst X0.here hx rfl (hb hby d1_22) kk0) ?_
        refine Go.of (mkF m 24 #[.val (.int k), .val (.double (FP.i2d a)), .second, .val (.double (FP.i2d p)), .second, .val (.double (FP.i2d t)), .second, .val (.double (FP.i2d r)), .second, .val (.int f)] [(.int (k + (1 : Int32)))]) (fun tt0 kk0 => XS.iadd X0.here hx rfl (hb hby d1_23) rfl kk0) ?_
        refine Go.of (mkF m 25 #[.val (.int k), .val (.double (FP.i2d a)), .second, .val (.double (FP.i2d p)), .second, .val (.double (FP.i2d t)), .second, .val (.double (FP.i2d r)), .second, .val (.int f)] [(.double (FP.i2d (k + (1 : Int32))))]) (fun tt0 kk0 => XS.i2dS X0.here hx rfl (hb hby d1_24) rfl rfl kk0) ?_
        exact Go.retW X0 hx (t := .double) hret hlk rfl (Or.inr (Or.inr (Or.inl ⟨rfl, rfl, _, rfl⟩))) (hb hby d1_25) (by decide) (by decide) ⟨by simp [own_des, mt (own_l p t).mpr hc4, (own_l r a).mp hc13, hc18], rfl, e0⟩
    ·
      refine Go.of (mkF m 21 #[.val (.int k), .val (.double (FP.i2d a)), .second, .val (.double (FP.i2d p)), .second, .val (.double (FP.i2d t)), .second, .val (.double (FP.i2d r)), .second, .val (.int f)] []) (fun tt0 kk0 => XS.ifYes X0.here hx rfl (pc0 := 13) (pc' := 21) rfl (hb hby d1_13) rfl ((if0 _ _).trans (flt (mt (lw_gt _ _).mp hc13)).2.2.2) (by decide) (by decide) kk0) ?_
      refine Go.of (mkF m 22 #[.val (.int k), .val (.double (FP.i2d a)), .second, .val (.double (FP.i2d p)), .second, .val (.double (FP.i2d t)), .second, .val (.double (FP.i2d r)), .second, .val (.int f)] [(.int k)]) (fun tt0 kk0 => XS.iloadN X0.here hx rfl (hb hby d1_21) rfl kk0) ?_
      refine Go.of (mkF m 23 #[.val (.int k), .val (.double (FP.i2d a)), .second, .val (.double (FP.i2d p)), .second, .val (.double (FP.i2d t)), .second, .val (.double (FP.i2d r)), .second, .val (.int f)] [(.int (1 : Int32)), (.int k)]) (fun tt0 kk0 => XS.iconst X0.here hx rfl (hb hby d1_22) kk0) ?_
      refine Go.of (mkF m 24 #[.val (.int k), .val (.double (FP.i2d a)), .second, .val (.double (FP.i2d p)), .second, .val (.double (FP.i2d t)), .second, .val (.double (FP.i2d r)), .second, .val (.int f)] [(.int (k + (1 : Int32)))]) (fun tt0 kk0 => XS.iadd X0.here hx rfl (hb hby d1_23) rfl kk0) ?_
      refine Go.of (mkF m 25 #[.val (.int k), .val (.double (FP.i2d a)), .second, .val (.double (FP.i2d p)), .second, .val (.double (FP.i2d t)), .second, .val (.double (FP.i2d r)), .second, .val (.int f)] [(.double (FP.i2d (k + (1 : Int32))))]) (fun tt0 kk0 => XS.i2dS X0.here hx rfl (hb hby d1_24) rfl rfl kk0) ?_
      exact Go.retW X0 hx (t := .double) hret hlk rfl (Or.inr (Or.inr (Or.inl ⟨rfl, rfl, _, rfl⟩))) (hb hby d1_25) (by decide) (by decide) ⟨by simp [own_des, mt (own_l p t).mpr hc4, mt (own_l r a).mpr hc13], rfl, e0⟩
theorem ef_rmE (m : MethodId) (x0 : Int32) (x1 : Int32) (x2 : Int32) (x3 : Int32) (x4 : Int32) (x5 : Int32) : entryFrame m #[(.int x0), (.int x1), (.int x2), (.int x3), (.int x4), (.int x5)] 10 = mkF m 0 #[.val (.int x0), .val (.int x1), .val (.int x2), .val (.int x3), .val (.int x4), .val (.int x5), .unset, .unset, .unset, .unset] [] := by first | (simp [entryFrame, mkF, argsToLocals, Value.category]; done) | rfl
set_option maxRecDepth 65536 in
set_option maxHeartbeats 40000000 in
theorem rmE (l : Launch) (Z : State) (a0 : Array Value) (hw : ∀ d ∈ tables_1, d.before a0 Z = true) (ws : List Jvm.Cond) (k a p t r f : Int32) (h0 : Heap) (hk : ¬ k + 1 = 0) :
    Met l Z (⟨"com/example/quench/quench/AntTeamDesirabilityPinLaw", "expected", "(IIIIIZ)D"⟩ : MethodName) method_3_code 10 (some .double) ws ({ frames := 0, cells := 0, slots := 0, locals := 0 } : Room) #[(.int k), (.int a), (.int p), (.int t), (.int r), (.int f)] h0 (fun v h L => v = some (.double (own_des k a p t r f)) ∧ L = [] ∧ h = h0) := by
  refine Met.intro pn1 ?_
  intro pr ev s m below meth c T0 X0 hx hZ hown hby hml hret hlk hnm e0
  refine Go.cast (ef_rmE m k a p t r f) ?_
  refine Go.of (mkF m 1 #[.val (.int k), .val (.int a), .val (.int p), .val (.int t), .val (.int r), .val (.int f), .unset, .unset, .unset, .unset] [(.int p)]) (fun tt0 kk0 => XS.iloadN X0.here hx rfl (hb hby d2_0) rfl kk0) ?_
  refine Go.of (mkF m 2 #[.val (.int k), .val (.int a), .val (.int p), .val (.int t), .val (.int r), .val (.int f), .unset, .unset, .unset, .unset] [(.int t), (.int p)]) (fun tt0 kk0 => XS.iloadN X0.here hx rfl (hb hby d2_1) rfl kk0) ?_
  by_cases hc2 : p < t
  ·
    refine Go.of (mkF m 5 #[.val (.int k), .val (.int a), .val (.int p), .val (.int t), .val (.int r), .val (.int f), .unset, .unset, .unset, .unset] []) (fun tt0 kk0 => XS.icmpNo X0.here hx rfl (hb hby d2_2) rfl (tlt hc2).2.1 kk0) ?_
    refine Go.of (mkF m 6 #[.val (.int k), .val (.int a), .val (.int p), .val (.int t), .val (.int r), .val (.int f), .unset, .unset, .unset, .unset] [(.int (1 : Int32))]) (fun tt0 kk0 => XS.iconst X0.here hx rfl (hb hby d2_5) kk0) ?_
    refine Go.of (mkF m 10 #[.val (.int k), .val (.int a), .val (.int p), .val (.int t), .val (.int r), .val (.int f), .unset, .unset, .unset, .unset] [(.int (1 : Int32))]) (fun tt0 kk0 => XS.goto X0.here hx rfl (pc0 := 6) (pc' := 10) rfl (hb hby d2_6) (by decide) (by decide) kk0) ?_
    refine Go.of (mkF m 12 #[.val (.int k), .val (.int a), .val (.int p), .val (.int t), .val (.int r), .val (.int f), .val (.int (1 : Int32)), .unset, .unset, .unset] []) (fun tt0 kk0 => XS.istore X0.here hx rfl (hb hby d2_10) rfl (l' := #[.val (.int k), .val (.int a), .val (.int p), .val (.int t), .val (.int r), .val (.int f), .val (.int (1 : Int32)), .unset, .unset, .unset]) rfl kk0) ?_
    refine Go.of (mkF m 13 #[.val (.int k), .val (.int a), .val (.int p), .val (.int t), .val (.int r), .val (.int f), .val (.int (1 : Int32)), .unset, .unset, .unset] [(.int a)]) (fun tt0 kk0 => XS.iloadN X0.here hx rfl (hb hby d2_12) rfl kk0) ?_
    refine Go.of (mkF m 15 #[.val (.int k), .val (.int a), .val (.int p), .val (.int t), .val (.int r), .val (.int f), .val (.int (1 : Int32)), .unset, .unset, .unset] [(.int r), (.int a)]) (fun tt0 kk0 => XS.iload X0.here hx rfl (hb hby d2_13) rfl kk0) ?_
    by_cases hc15 : r < a
    ·
      refine Go.of (mkF m 18 #[.val (.int k), .val (.int a), .val (.int p), .val (.int t), .val (.int r), .val (.int f), .val (.int (1 : Int32)), .unset, .unset, .unset] []) (fun tt0 kk0 => XS.icmpNo X0.here hx rfl (hb hby d2_15) rfl (tlt hc15).2.2.2 kk0) ?_
      refine Go.of (mkF m 20 #[.val (.int k), .val (.int a), .val (.int p), .val (.int t), .val (.int r), .val (.int f), .val (.int (1 : Int32)), .unset, .unset, .unset] [(.int f)]) (fun tt0 kk0 => XS.iload X0.here hx rfl (hb hby d2_18) rfl kk0) ?_
      by_cases hc20 : f = (0 : Int32)
      ·
        refine Go.of (mkF m 27 #[.val (.int k), .val (.int a), .val (.int p), .val (.int t), .val (.int r), .val (.int f), .val (.int (1 : Int32)), .unset, .unset, .unset] []) (fun tt0 kk0 => XS.ifYes X0.here hx rfl (pc0 := 20) (pc' := 27) rfl (hb hby d2_20) rfl ((if0 _ _).trans (teq hc20).1) (by decide) (by decide) kk0) ?_
        refine Go.of (mkF m 28 #[.val (.int k), .val (.int a), .val (.int p), .val (.int t), .val (.int r), .val (.int f), .val (.int (1 : Int32)), .unset, .unset, .unset] [(.int (0 : Int32))]) (fun tt0 kk0 => XS.iconst X0.here hx rfl (hb hby d2_27) kk0) ?_
        refine Go.of (mkF m 30 #[.val (.int k), .val (.int a), .val (.int p), .val (.int t), .val (.int r), .val (.int f), .val (.int (1 : Int32)), .val (.int (0 : Int32)), .unset, .unset] []) (fun tt0 kk0 => XS.istore X0.here hx rfl (hb hby d2_28) rfl (l' := #[.val (.int k), .val (.int a), .val (.int p), .val (.int t), .val (.int r), .val (.int f), .val (.int (1 : Int32)), .val (.int (0 : Int32)), .unset, .unset]) rfl kk0) ?_
        refine Go.of (mkF m 31 #[.val (.int k), .val (.int a), .val (.int p), .val (.int t), .val (.int r), .val (.int f), .val (.int (1 : Int32)), .val (.int (0 : Int32)), .unset, .unset] [(.int k)]) (fun tt0 kk0 => XS.iloadN X0.here hx rfl (hb hby d2_30) rfl kk0) ?_
        refine Go.of (mkF m 32 #[.val (.int k), .val (.int a), .val (.int p), .val (.int t), .val (.int r), .val (.int f), .val (.int (1 : Int32)), .val (.int (0 : Int32)), .unset, .unset] [(.int (1 : Int32)), (.int k)]) (fun tt0 kk0 => XS.iconst X0.here hx rfl (hb hby d2_31) kk0) ?_
        refine Go.of (mkF m 33 #[.val (.int k), .val (.int a), .val (.int p), .val (.int t), .val (.int r), .val (.int f), .val (.int (1 : Int32)), .val (.int (0 : Int32)), .unset, .unset] [(.int (k + (1 : Int32)))]) (fun tt0 kk0 => XS.iadd X0.here hx rfl (hb hby d2_32) rfl kk0) ?_
        refine Go.of (mkF m 34 #[.val (.int k), .val (.int a), .val (.int p), .val (.int t), .val (.int r), .val (.int f), .val (.int (1 : Int32)), .val (.int (0 : Int32)), .unset, .unset] [(.double (FP.i2d (k + (1 : Int32))))]) (fun tt0 kk0 => XS.i2dS X0.here hx rfl (hb hby d2_33) rfl rfl kk0) ?_
        refine Go.of (mkF m 36 #[.val (.int k), .val (.int a), .val (.int p), .val (.int t), .val (.int r), .val (.int f), .val (.int (1 : Int32)), .val (.int (0 : Int32)), .val (.double (FP.i2d (k + (1 : Int32)))), .second] []) (fun tt0 kk0 => XS.dstore X0.here hx rfl (hb hby d2_34) rfl (l' := #[.val (.int k), .val (.int a), .val (.int p), .val (.int t), .val (.int r), .val (.int f), .val (.int (1 : Int32)), .val (.int (0 : Int32)), .val (.double (FP.i2d (k + (1 : Int32)))), .second]) rfl kk0) ?_
        refine Go.of (mkF m 38 #[.val (.int k), .val (.int a), .val (.int p), .val (.int t), .val (.int r), .val (.int f), .val (.int (1 : Int32)), .val (.int (0 : Int32)), .val (.double (FP.i2d (k + (1 : Int32)))), .second] [(.int (1 : Int32))]) (fun tt0 kk0 => XS.iload X0.here hx rfl (hb hby d2_36) rfl kk0) ?_
        refine Go.of (mkF m 41 #[.val (.int k), .val (.int a), .val (.int p), .val (.int t), .val (.int r), .val (.int f), .val (.int (1 : Int32)), .val (.int (0 : Int32)), .val (.double (FP.i2d (k + (1 : Int32)))), .second] []) (fun tt0 kk0 => XS.ifNo X0.here hx rfl (hb hby d2_38) rfl ((if0 _ _).trans (feq (by decide)).1) kk0) ?_
        refine Go.of (mkF m 42 #[.val (.int k), .val (.int a), .val (.int p), .val (.int t), .val (.int r), .val (.int f), .val (.int (1 : Int32)), .val (.int (0 : Int32)), .val (.double (FP.i2d (k + (1 : Int32)))), .second] [(.double FP.dconst0)]) (fun tt0 kk0 => XS.dconst0 X0.here hx rfl (hb hby d2_41) rfl kk0) ?_
        exact Go.retW X0 hx (t := .double) hret hlk rfl (Or.inr (Or.inr (Or.inl ⟨rfl, rfl, _, rfl⟩))) (hb hby d2_42) (by decide) (by decide) ⟨by simp [own_des, hc2, hc15, hc20], rfl, e0⟩
      ·
        refine Go.of (mkF m 23 #[.val (.int k), .val (.int a), .val (.int p), .val (.int t), .val (.int r), .val (.int f), .val (.int (1 : Int32)), .unset, .unset, .unset] []) (fun tt0 kk0 => XS.ifNo X0.here hx rfl (hb hby d2_20) rfl ((if0 _ _).trans (feq hc20).1) kk0) ?_
        refine Go.of (mkF m 24 #[.val (.int k), .val (.int a), .val (.int p), .val (.int t), .val (.int r), .val (.int f), .val (.int (1 : Int32)), .unset, .unset, .unset] [(.int (1 : Int32))]) (fun tt0 kk0 => XS.iconst X0.here hx rfl (hb hby d2_23) kk0) ?_
        refine Go.of (mkF m 28 #[.val (.int k), .val (.int a), .val (.int p), .val (.int t), .val (.int r), .val (.int f), .val (.int (1 : Int32)), .unset, .unset, .unset] [(.int (1 : Int32))]) (fun tt0 kk0 => XS.goto X0.here hx rfl (pc0 := 24) (pc' := 28) rfl (hb hby d2_24) (by decide) (by decide) kk0) ?_
        refine Go.of (mkF m 30 #[.val (.int k), .val (.int a), .val (.int p), .val (.int t), .val (.int r), .val (.int f), .val (.int (1 : Int32)), .val (.int (1 : Int32)), .unset, .unset] []) (fun tt0 kk0 => XS.istore X0.here hx rfl (hb hby d2_28) rfl (l' := #[.val (.int k), .val (.int a), .val (.int p), .val (.int t), .val (.int r), .val (.int f), .val (.int (1 : Int32)), .val (.int (1 : Int32)), .unset, .unset]) rfl kk0) ?_
        refine Go.of (mkF m 31 #[.val (.int k), .val (.int a), .val (.int p), .val (.int t), .val (.int r), .val (.int f), .val (.int (1 : Int32)), .val (.int (1 : Int32)), .unset, .unset] [(.int k)]) (fun tt0 kk0 => XS.iloadN X0.here hx rfl (hb hby d2_30) rfl kk0) ?_
        refine Go.of (mkF m 32 #[.val (.int k), .val (.int a), .val (.int p), .val (.int t), .val (.int r), .val (.int f), .val (.int (1 : Int32)), .val (.int (1 : Int32)), .unset, .unset] [(.int (1 : Int32)), (.int k)]) (fun tt0 kk0 => XS.iconst X0.here hx rfl (hb hby d2_31) kk0) ?_
        refine Go.of (mkF m 33 #[.val (.int k), .val (.int a), .val (.int p), .val (.int t), .val (.int r), .val (.int f), .val (.int (1 : Int32)), .val (.int (1 : Int32)), .unset, .unset] [(.int (k + (1 : Int32)))]) (fun tt0 kk0 => XS.iadd X0.here hx rfl (hb hby d2_32) rfl kk0) ?_
        refine Go.of (mkF m 34 #[.val (.int k), .val (.int a), .val (.int p), .val (.int t), .val (.int r), .val (.int f), .val (.int (1 : Int32)), .val (.int (1 : Int32)), .unset, .unset] [(.double (FP.i2d (k + (1 : Int32))))]) (fun tt0 kk0 => XS.i2dS X0.here hx rfl (hb hby d2_33) rfl rfl kk0) ?_
        refine Go.of (mkF m 36 #[.val (.int k), .val (.int a), .val (.int p), .val (.int t), .val (.int r), .val (.int f), .val (.int (1 : Int32)), .val (.int (1 : Int32)), .val (.double (FP.i2d (k + (1 : Int32)))), .second] []) (fun tt0 kk0 => XS.dstore X0.here hx rfl (hb hby d2_34) rfl (l' := #[.val (.int k), .val (.int a), .val (.int p), .val (.int t), .val (.int r), .val (.int f), .val (.int (1 : Int32)), .val (.int (1 : Int32)), .val (.double (FP.i2d (k + (1 : Int32)))), .second]) rfl kk0) ?_
        refine Go.of (mkF m 38 #[.val (.int k), .val (.int a), .val (.int p), .val (.int t), .val (.int r), .val (.int f), .val (.int (1 : Int32)), .val (.int (1 : Int32)), .val (.double (FP.i2d (k + (1 : Int32)))), .second] [(.int (1 : Int32))]) (fun tt0 kk0 => XS.iload X0.here hx rfl (hb hby d2_36) rfl kk0) ?_
        refine Go.of (mkF m 41 #[.val (.int k), .val (.int a), .val (.int p), .val (.int t), .val (.int r), .val (.int f), .val (.int (1 : Int32)), .val (.int (1 : Int32)), .val (.double (FP.i2d (k + (1 : Int32)))), .second] []) (fun tt0 kk0 => XS.ifNo X0.here hx rfl (hb hby d2_38) rfl ((if0 _ _).trans (feq (by decide)).1) kk0) ?_
        refine Go.of (mkF m 42 #[.val (.int k), .val (.int a), .val (.int p), .val (.int t), .val (.int r), .val (.int f), .val (.int (1 : Int32)), .val (.int (1 : Int32)), .val (.double (FP.i2d (k + (1 : Int32)))), .second] [(.double FP.dconst0)]) (fun tt0 kk0 => XS.dconst0 X0.here hx rfl (hb hby d2_41) rfl kk0) ?_
        exact Go.retW X0 hx (t := .double) hret hlk rfl (Or.inr (Or.inr (Or.inl ⟨rfl, rfl, _, rfl⟩))) (hb hby d2_42) (by decide) (by decide) ⟨by simp [own_des, hc2, hc15, hc20], rfl, e0⟩
    ·
      refine Go.of (mkF m 23 #[.val (.int k), .val (.int a), .val (.int p), .val (.int t), .val (.int r), .val (.int f), .val (.int (1 : Int32)), .unset, .unset, .unset] []) (fun tt0 kk0 => XS.icmpYes X0.here hx rfl (pc0 := 15) (pc' := 23) rfl (hb hby d2_15) rfl (flt hc15).2.2.2 (by decide) (by decide) kk0) ?_
      refine Go.of (mkF m 24 #[.val (.int k), .val (.int a), .val (.int p), .val (.int t), .val (.int r), .val (.int f), .val (.int (1 : Int32)), .unset, .unset, .unset] [(.int (1 : Int32))]) (fun tt0 kk0 => XS.iconst X0.here hx rfl (hb hby d2_23) kk0) ?_
      refine Go.of (mkF m 28 #[.val (.int k), .val (.int a), .val (.int p), .val (.int t), .val (.int r), .val (.int f), .val (.int (1 : Int32)), .unset, .unset, .unset] [(.int (1 : Int32))]) (fun tt0 kk0 => XS.goto X0.here hx rfl (pc0 := 24) (pc' := 28) rfl (hb hby d2_24) (by decide) (by decide) kk0) ?_
      refine Go.of (mkF m 30 #[.val (.int k), .val (.int a), .val (.int p), .val (.int t), .val (.int r), .val (.int f), .val (.int (1 : Int32)), .val (.int (1 : Int32)), .unset, .unset] []) (fun tt0 kk0 => XS.istore X0.here hx rfl (hb hby d2_28) rfl (l' := #[.val (.int k), .val (.int a), .val (.int p), .val (.int t), .val (.int r), .val (.int f), .val (.int (1 : Int32)), .val (.int (1 : Int32)), .unset, .unset]) rfl kk0) ?_
      refine Go.of (mkF m 31 #[.val (.int k), .val (.int a), .val (.int p), .val (.int t), .val (.int r), .val (.int f), .val (.int (1 : Int32)), .val (.int (1 : Int32)), .unset, .unset] [(.int k)]) (fun tt0 kk0 => XS.iloadN X0.here hx rfl (hb hby d2_30) rfl kk0) ?_
      refine Go.of (mkF m 32 #[.val (.int k), .val (.int a), .val (.int p), .val (.int t), .val (.int r), .val (.int f), .val (.int (1 : Int32)), .val (.int (1 : Int32)), .unset, .unset] [(.int (1 : Int32)), (.int k)]) (fun tt0 kk0 => XS.iconst X0.here hx rfl (hb hby d2_31) kk0) ?_
      refine Go.of (mkF m 33 #[.val (.int k), .val (.int a), .val (.int p), .val (.int t), .val (.int r), .val (.int f), .val (.int (1 : Int32)), .val (.int (1 : Int32)), .unset, .unset] [(.int (k + (1 : Int32)))]) (fun tt0 kk0 => XS.iadd X0.here hx rfl (hb hby d2_32) rfl kk0) ?_
      refine Go.of (mkF m 34 #[.val (.int k), .val (.int a), .val (.int p), .val (.int t), .val (.int r), .val (.int f), .val (.int (1 : Int32)), .val (.int (1 : Int32)), .unset, .unset] [(.double (FP.i2d (k + (1 : Int32))))]) (fun tt0 kk0 => XS.i2dS X0.here hx rfl (hb hby d2_33) rfl rfl kk0) ?_
      refine Go.of (mkF m 36 #[.val (.int k), .val (.int a), .val (.int p), .val (.int t), .val (.int r), .val (.int f), .val (.int (1 : Int32)), .val (.int (1 : Int32)), .val (.double (FP.i2d (k + (1 : Int32)))), .second] []) (fun tt0 kk0 => XS.dstore X0.here hx rfl (hb hby d2_34) rfl (l' := #[.val (.int k), .val (.int a), .val (.int p), .val (.int t), .val (.int r), .val (.int f), .val (.int (1 : Int32)), .val (.int (1 : Int32)), .val (.double (FP.i2d (k + (1 : Int32)))), .second]) rfl kk0) ?_
      refine Go.of (mkF m 38 #[.val (.int k), .val (.int a), .val (.int p), .val (.int t), .val (.int r), .val (.int f), .val (.int (1 : Int32)), .val (.int (1 : Int32)), .val (.double (FP.i2d (k + (1 : Int32)))), .second] [(.int (1 : Int32))]) (fun tt0 kk0 => XS.iload X0.here hx rfl (hb hby d2_36) rfl kk0) ?_
      refine Go.of (mkF m 41 #[.val (.int k), .val (.int a), .val (.int p), .val (.int t), .val (.int r), .val (.int f), .val (.int (1 : Int32)), .val (.int (1 : Int32)), .val (.double (FP.i2d (k + (1 : Int32)))), .second] []) (fun tt0 kk0 => XS.ifNo X0.here hx rfl (hb hby d2_38) rfl ((if0 _ _).trans (feq (by decide)).1) kk0) ?_
      refine Go.of (mkF m 42 #[.val (.int k), .val (.int a), .val (.int p), .val (.int t), .val (.int r), .val (.int f), .val (.int (1 : Int32)), .val (.int (1 : Int32)), .val (.double (FP.i2d (k + (1 : Int32)))), .second] [(.double FP.dconst0)]) (fun tt0 kk0 => XS.dconst0 X0.here hx rfl (hb hby d2_41) rfl kk0) ?_
      exact Go.retW X0 hx (t := .double) hret hlk rfl (Or.inr (Or.inr (Or.inl ⟨rfl, rfl, _, rfl⟩))) (hb hby d2_42) (by decide) (by decide) ⟨by simp [own_des, hc2, hc15], rfl, e0⟩
  ·
    refine Go.of (mkF m 9 #[.val (.int k), .val (.int a), .val (.int p), .val (.int t), .val (.int r), .val (.int f), .unset, .unset, .unset, .unset] []) (fun tt0 kk0 => XS.icmpYes X0.here hx rfl (pc0 := 2) (pc' := 9) rfl (hb hby d2_2) rfl (flt hc2).2.1 (by decide) (by decide) kk0) ?_
    refine Go.of (mkF m 10 #[.val (.int k), .val (.int a), .val (.int p), .val (.int t), .val (.int r), .val (.int f), .unset, .unset, .unset, .unset] [(.int (0 : Int32))]) (fun tt0 kk0 => XS.iconst X0.here hx rfl (hb hby d2_9) kk0) ?_
    refine Go.of (mkF m 12 #[.val (.int k), .val (.int a), .val (.int p), .val (.int t), .val (.int r), .val (.int f), .val (.int (0 : Int32)), .unset, .unset, .unset] []) (fun tt0 kk0 => XS.istore X0.here hx rfl (hb hby d2_10) rfl (l' := #[.val (.int k), .val (.int a), .val (.int p), .val (.int t), .val (.int r), .val (.int f), .val (.int (0 : Int32)), .unset, .unset, .unset]) rfl kk0) ?_
    refine Go.of (mkF m 13 #[.val (.int k), .val (.int a), .val (.int p), .val (.int t), .val (.int r), .val (.int f), .val (.int (0 : Int32)), .unset, .unset, .unset] [(.int a)]) (fun tt0 kk0 => XS.iloadN X0.here hx rfl (hb hby d2_12) rfl kk0) ?_
    refine Go.of (mkF m 15 #[.val (.int k), .val (.int a), .val (.int p), .val (.int t), .val (.int r), .val (.int f), .val (.int (0 : Int32)), .unset, .unset, .unset] [(.int r), (.int a)]) (fun tt0 kk0 => XS.iload X0.here hx rfl (hb hby d2_13) rfl kk0) ?_
    by_cases hc15 : r < a
    ·
      refine Go.of (mkF m 18 #[.val (.int k), .val (.int a), .val (.int p), .val (.int t), .val (.int r), .val (.int f), .val (.int (0 : Int32)), .unset, .unset, .unset] []) (fun tt0 kk0 => XS.icmpNo X0.here hx rfl (hb hby d2_15) rfl (tlt hc15).2.2.2 kk0) ?_
      refine Go.of (mkF m 20 #[.val (.int k), .val (.int a), .val (.int p), .val (.int t), .val (.int r), .val (.int f), .val (.int (0 : Int32)), .unset, .unset, .unset] [(.int f)]) (fun tt0 kk0 => XS.iload X0.here hx rfl (hb hby d2_18) rfl kk0) ?_
      by_cases hc20 : f = (0 : Int32)
      ·
        refine Go.of (mkF m 27 #[.val (.int k), .val (.int a), .val (.int p), .val (.int t), .val (.int r), .val (.int f), .val (.int (0 : Int32)), .unset, .unset, .unset] []) (fun tt0 kk0 => XS.ifYes X0.here hx rfl (pc0 := 20) (pc' := 27) rfl (hb hby d2_20) rfl ((if0 _ _).trans (teq hc20).1) (by decide) (by decide) kk0) ?_
        refine Go.of (mkF m 28 #[.val (.int k), .val (.int a), .val (.int p), .val (.int t), .val (.int r), .val (.int f), .val (.int (0 : Int32)), .unset, .unset, .unset] [(.int (0 : Int32))]) (fun tt0 kk0 => XS.iconst X0.here hx rfl (hb hby d2_27) kk0) ?_
        refine Go.of (mkF m 30 #[.val (.int k), .val (.int a), .val (.int p), .val (.int t), .val (.int r), .val (.int f), .val (.int (0 : Int32)), .val (.int (0 : Int32)), .unset, .unset] []) (fun tt0 kk0 => XS.istore X0.here hx rfl (hb hby d2_28) rfl (l' := #[.val (.int k), .val (.int a), .val (.int p), .val (.int t), .val (.int r), .val (.int f), .val (.int (0 : Int32)), .val (.int (0 : Int32)), .unset, .unset]) rfl kk0) ?_
        refine Go.of (mkF m 31 #[.val (.int k), .val (.int a), .val (.int p), .val (.int t), .val (.int r), .val (.int f), .val (.int (0 : Int32)), .val (.int (0 : Int32)), .unset, .unset] [(.int k)]) (fun tt0 kk0 => XS.iloadN X0.here hx rfl (hb hby d2_30) rfl kk0) ?_
        refine Go.of (mkF m 32 #[.val (.int k), .val (.int a), .val (.int p), .val (.int t), .val (.int r), .val (.int f), .val (.int (0 : Int32)), .val (.int (0 : Int32)), .unset, .unset] [(.int (1 : Int32)), (.int k)]) (fun tt0 kk0 => XS.iconst X0.here hx rfl (hb hby d2_31) kk0) ?_
        refine Go.of (mkF m 33 #[.val (.int k), .val (.int a), .val (.int p), .val (.int t), .val (.int r), .val (.int f), .val (.int (0 : Int32)), .val (.int (0 : Int32)), .unset, .unset] [(.int (k + (1 : Int32)))]) (fun tt0 kk0 => XS.iadd X0.here hx rfl (hb hby d2_32) rfl kk0) ?_
        refine Go.of (mkF m 34 #[.val (.int k), .val (.int a), .val (.int p), .val (.int t), .val (.int r), .val (.int f), .val (.int (0 : Int32)), .val (.int (0 : Int32)), .unset, .unset] [(.double (FP.i2d (k + (1 : Int32))))]) (fun tt0 kk0 => XS.i2dS X0.here hx rfl (hb hby d2_33) rfl rfl kk0) ?_
        refine Go.of (mkF m 36 #[.val (.int k), .val (.int a), .val (.int p), .val (.int t), .val (.int r), .val (.int f), .val (.int (0 : Int32)), .val (.int (0 : Int32)), .val (.double (FP.i2d (k + (1 : Int32)))), .second] []) (fun tt0 kk0 => XS.dstore X0.here hx rfl (hb hby d2_34) rfl (l' := #[.val (.int k), .val (.int a), .val (.int p), .val (.int t), .val (.int r), .val (.int f), .val (.int (0 : Int32)), .val (.int (0 : Int32)), .val (.double (FP.i2d (k + (1 : Int32)))), .second]) rfl kk0) ?_
        refine Go.of (mkF m 38 #[.val (.int k), .val (.int a), .val (.int p), .val (.int t), .val (.int r), .val (.int f), .val (.int (0 : Int32)), .val (.int (0 : Int32)), .val (.double (FP.i2d (k + (1 : Int32)))), .second] [(.int (0 : Int32))]) (fun tt0 kk0 => XS.iload X0.here hx rfl (hb hby d2_36) rfl kk0) ?_
        refine Go.of (mkF m 43 #[.val (.int k), .val (.int a), .val (.int p), .val (.int t), .val (.int r), .val (.int f), .val (.int (0 : Int32)), .val (.int (0 : Int32)), .val (.double (FP.i2d (k + (1 : Int32)))), .second] []) (fun tt0 kk0 => XS.ifYes X0.here hx rfl (pc0 := 38) (pc' := 43) rfl (hb hby d2_38) rfl ((if0 _ _).trans (teq (by decide)).1) (by decide) (by decide) kk0) ?_
        refine Go.of (mkF m 45 #[.val (.int k), .val (.int a), .val (.int p), .val (.int t), .val (.int r), .val (.int f), .val (.int (0 : Int32)), .val (.int (0 : Int32)), .val (.double (FP.i2d (k + (1 : Int32)))), .second] [(.int (0 : Int32))]) (fun tt0 kk0 => XS.iload X0.here hx rfl (hb hby d2_43) rfl kk0) ?_
        refine Go.of (mkF m 51 #[.val (.int k), .val (.int a), .val (.int p), .val (.int t), .val (.int r), .val (.int f), .val (.int (0 : Int32)), .val (.int (0 : Int32)), .val (.double (FP.i2d (k + (1 : Int32)))), .second] []) (fun tt0 kk0 => XS.ifYes X0.here hx rfl (pc0 := 45) (pc' := 51) rfl (hb hby d2_45) rfl ((if0 _ _).trans (teq (by decide)).1) (by decide) (by decide) kk0) ?_
        refine Go.of (mkF m 52 #[.val (.int k), .val (.int a), .val (.int p), .val (.int t), .val (.int r), .val (.int f), .val (.int (0 : Int32)), .val (.int (0 : Int32)), .val (.double (FP.i2d (k + (1 : Int32)))), .second] [(.double FP.dconst1)]) (fun tt0 kk0 => XS.dconst1 X0.here hx rfl (hb hby d2_51) rfl kk0) ?_
        refine Go.of (mkF m 54 #[.val (.int k), .val (.int a), .val (.int p), .val (.int t), .val (.int r), .val (.int f), .val (.int (0 : Int32)), .val (.int (0 : Int32)), .val (.double (FP.i2d (k + (1 : Int32)))), .second] [(.double (FP.i2d (k + (1 : Int32)))), (.double FP.dconst1)]) (fun tt0 kk0 => XS.dload X0.here hx rfl (hb hby d2_52) rfl kk0) ?_
        refine Go.of (mkF m 55 #[.val (.int k), .val (.int a), .val (.int p), .val (.int t), .val (.int r), .val (.int f), .val (.int (0 : Int32)), .val (.int (0 : Int32)), .val (.double (FP.i2d (k + (1 : Int32)))), .second] [(.double (FP.ddiv FP.dconst1 (FP.i2d (k + (1 : Int32)))))]) (fun tt0 kk0 => XS.ddivS X0.here hx rfl (hb hby d2_54) rfl (own_nn k hk) rfl kk0) ?_
        exact Go.retW X0 hx (t := .double) hret hlk rfl (Or.inr (Or.inr (Or.inl ⟨rfl, rfl, _, rfl⟩))) (hb hby d2_55) (by decide) (by decide) ⟨by simp [own_des, hc2, hc15, hc20], rfl, e0⟩
      ·
        refine Go.of (mkF m 23 #[.val (.int k), .val (.int a), .val (.int p), .val (.int t), .val (.int r), .val (.int f), .val (.int (0 : Int32)), .unset, .unset, .unset] []) (fun tt0 kk0 => XS.ifNo X0.here hx rfl (hb hby d2_20) rfl ((if0 _ _).trans (feq hc20).1) kk0) ?_
        refine Go.of (mkF m 24 #[.val (.int k), .val (.int a), .val (.int p), .val (.int t), .val (.int r), .val (.int f), .val (.int (0 : Int32)), .unset, .unset, .unset] [(.int (1 : Int32))]) (fun tt0 kk0 => XS.iconst X0.here hx rfl (hb hby d2_23) kk0) ?_
        refine Go.of (mkF m 28 #[.val (.int k), .val (.int a), .val (.int p), .val (.int t), .val (.int r), .val (.int f), .val (.int (0 : Int32)), .unset, .unset, .unset] [(.int (1 : Int32))]) (fun tt0 kk0 => XS.goto X0.here hx rfl (pc0 := 24) (pc' := 28) rfl (hb hby d2_24) (by decide) (by decide) kk0) ?_
        refine Go.of (mkF m 30 #[.val (.int k), .val (.int a), .val (.int p), .val (.int t), .val (.int r), .val (.int f), .val (.int (0 : Int32)), .val (.int (1 : Int32)), .unset, .unset] []) (fun tt0 kk0 => XS.istore X0.here hx rfl (hb hby d2_28) rfl (l' := #[.val (.int k), .val (.int a), .val (.int p), .val (.int t), .val (.int r), .val (.int f), .val (.int (0 : Int32)), .val (.int (1 : Int32)), .unset, .unset]) rfl kk0) ?_
        refine Go.of (mkF m 31 #[.val (.int k), .val (.int a), .val (.int p), .val (.int t), .val (.int r), .val (.int f), .val (.int (0 : Int32)), .val (.int (1 : Int32)), .unset, .unset] [(.int k)]) (fun tt0 kk0 => XS.iloadN X0.here hx rfl (hb hby d2_30) rfl kk0) ?_
        refine Go.of (mkF m 32 #[.val (.int k), .val (.int a), .val (.int p), .val (.int t), .val (.int r), .val (.int f), .val (.int (0 : Int32)), .val (.int (1 : Int32)), .unset, .unset] [(.int (1 : Int32)), (.int k)]) (fun tt0 kk0 => XS.iconst X0.here hx rfl (hb hby d2_31) kk0) ?_
        refine Go.of (mkF m 33 #[.val (.int k), .val (.int a), .val (.int p), .val (.int t), .val (.int r), .val (.int f), .val (.int (0 : Int32)), .val (.int (1 : Int32)), .unset, .unset] [(.int (k + (1 : Int32)))]) (fun tt0 kk0 => XS.iadd X0.here hx rfl (hb hby d2_32) rfl kk0) ?_
        refine Go.of (mkF m 34 #[.val (.int k), .val (.int a), .val (.int p), .val (.int t), .val (.int r), .val (.int f), .val (.int (0 : Int32)), .val (.int (1 : Int32)), .unset, .unset] [(.double (FP.i2d (k + (1 : Int32))))]) (fun tt0 kk0 => XS.i2dS X0.here hx rfl (hb hby d2_33) rfl rfl kk0) ?_
        refine Go.of (mkF m 36 #[.val (.int k), .val (.int a), .val (.int p), .val (.int t), .val (.int r), .val (.int f), .val (.int (0 : Int32)), .val (.int (1 : Int32)), .val (.double (FP.i2d (k + (1 : Int32)))), .second] []) (fun tt0 kk0 => XS.dstore X0.here hx rfl (hb hby d2_34) rfl (l' := #[.val (.int k), .val (.int a), .val (.int p), .val (.int t), .val (.int r), .val (.int f), .val (.int (0 : Int32)), .val (.int (1 : Int32)), .val (.double (FP.i2d (k + (1 : Int32)))), .second]) rfl kk0) ?_
        refine Go.of (mkF m 38 #[.val (.int k), .val (.int a), .val (.int p), .val (.int t), .val (.int r), .val (.int f), .val (.int (0 : Int32)), .val (.int (1 : Int32)), .val (.double (FP.i2d (k + (1 : Int32)))), .second] [(.int (0 : Int32))]) (fun tt0 kk0 => XS.iload X0.here hx rfl (hb hby d2_36) rfl kk0) ?_
        refine Go.of (mkF m 43 #[.val (.int k), .val (.int a), .val (.int p), .val (.int t), .val (.int r), .val (.int f), .val (.int (0 : Int32)), .val (.int (1 : Int32)), .val (.double (FP.i2d (k + (1 : Int32)))), .second] []) (fun tt0 kk0 => XS.ifYes X0.here hx rfl (pc0 := 38) (pc' := 43) rfl (hb hby d2_38) rfl ((if0 _ _).trans (teq (by decide)).1) (by decide) (by decide) kk0) ?_
        refine Go.of (mkF m 45 #[.val (.int k), .val (.int a), .val (.int p), .val (.int t), .val (.int r), .val (.int f), .val (.int (0 : Int32)), .val (.int (1 : Int32)), .val (.double (FP.i2d (k + (1 : Int32)))), .second] [(.int (1 : Int32))]) (fun tt0 kk0 => XS.iload X0.here hx rfl (hb hby d2_43) rfl kk0) ?_
        refine Go.of (mkF m 48 #[.val (.int k), .val (.int a), .val (.int p), .val (.int t), .val (.int r), .val (.int f), .val (.int (0 : Int32)), .val (.int (1 : Int32)), .val (.double (FP.i2d (k + (1 : Int32)))), .second] []) (fun tt0 kk0 => XS.ifNo X0.here hx rfl (hb hby d2_45) rfl ((if0 _ _).trans (feq (by decide)).1) kk0) ?_
        refine Go.of (mkF m 50 #[.val (.int k), .val (.int a), .val (.int p), .val (.int t), .val (.int r), .val (.int f), .val (.int (0 : Int32)), .val (.int (1 : Int32)), .val (.double (FP.i2d (k + (1 : Int32)))), .second] [(.double (FP.i2d (k + (1 : Int32))))]) (fun tt0 kk0 => XS.dload X0.here hx rfl (hb hby d2_48) rfl kk0) ?_
        exact Go.retW X0 hx (t := .double) hret hlk rfl (Or.inr (Or.inr (Or.inl ⟨rfl, rfl, _, rfl⟩))) (hb hby d2_50) (by decide) (by decide) ⟨by simp [own_des, hc2, hc15, hc20], rfl, e0⟩
    ·
      refine Go.of (mkF m 23 #[.val (.int k), .val (.int a), .val (.int p), .val (.int t), .val (.int r), .val (.int f), .val (.int (0 : Int32)), .unset, .unset, .unset] []) (fun tt0 kk0 => XS.icmpYes X0.here hx rfl (pc0 := 15) (pc' := 23) rfl (hb hby d2_15) rfl (flt hc15).2.2.2 (by decide) (by decide) kk0) ?_
      refine Go.of (mkF m 24 #[.val (.int k), .val (.int a), .val (.int p), .val (.int t), .val (.int r), .val (.int f), .val (.int (0 : Int32)), .unset, .unset, .unset] [(.int (1 : Int32))]) (fun tt0 kk0 => XS.iconst X0.here hx rfl (hb hby d2_23) kk0) ?_
      refine Go.of (mkF m 28 #[.val (.int k), .val (.int a), .val (.int p), .val (.int t), .val (.int r), .val (.int f), .val (.int (0 : Int32)), .unset, .unset, .unset] [(.int (1 : Int32))]) (fun tt0 kk0 => XS.goto X0.here hx rfl (pc0 := 24) (pc' := 28) rfl (hb hby d2_24) (by decide) (by decide) kk0) ?_
      refine Go.of (mkF m 30 #[.val (.int k), .val (.int a), .val (.int p), .val (.int t), .val (.int r), .val (.int f), .val (.int (0 : Int32)), .val (.int (1 : Int32)), .unset, .unset] []) (fun tt0 kk0 => XS.istore X0.here hx rfl (hb hby d2_28) rfl (l' := #[.val (.int k), .val (.int a), .val (.int p), .val (.int t), .val (.int r), .val (.int f), .val (.int (0 : Int32)), .val (.int (1 : Int32)), .unset, .unset]) rfl kk0) ?_
      refine Go.of (mkF m 31 #[.val (.int k), .val (.int a), .val (.int p), .val (.int t), .val (.int r), .val (.int f), .val (.int (0 : Int32)), .val (.int (1 : Int32)), .unset, .unset] [(.int k)]) (fun tt0 kk0 => XS.iloadN X0.here hx rfl (hb hby d2_30) rfl kk0) ?_
      refine Go.of (mkF m 32 #[.val (.int k), .val (.int a), .val (.int p), .val (.int t), .val (.int r), .val (.int f), .val (.int (0 : Int32)), .val (.int (1 : Int32)), .unset, .unset] [(.int (1 : Int32)), (.int k)]) (fun tt0 kk0 => XS.iconst X0.here hx rfl (hb hby d2_31) kk0) ?_
      refine Go.of (mkF m 33 #[.val (.int k), .val (.int a), .val (.int p), .val (.int t), .val (.int r), .val (.int f), .val (.int (0 : Int32)), .val (.int (1 : Int32)), .unset, .unset] [(.int (k + (1 : Int32)))]) (fun tt0 kk0 => XS.iadd X0.here hx rfl (hb hby d2_32) rfl kk0) ?_
      refine Go.of (mkF m 34 #[.val (.int k), .val (.int a), .val (.int p), .val (.int t), .val (.int r), .val (.int f), .val (.int (0 : Int32)), .val (.int (1 : Int32)), .unset, .unset] [(.double (FP.i2d (k + (1 : Int32))))]) (fun tt0 kk0 => XS.i2dS X0.here hx rfl (hb hby d2_33) rfl rfl kk0) ?_
      refine Go.of (mkF m 36 #[.val (.int k), .val (.int a), .val (.int p), .val (.int t), .val (.int r), .val (.int f), .val (.int (0 : Int32)), .val (.int (1 : Int32)), .val (.double (FP.i2d (k + (1 : Int32)))), .second] []) (fun tt0 kk0 => XS.dstore X0.here hx rfl (hb hby d2_34) rfl (l' := #[.val (.int k), .val (.int a), .val (.int p), .val (.int t), .val (.int r), .val (.int f), .val (.int (0 : Int32)), .val (.int (1 : Int32)), .val (.double (FP.i2d (k + (1 : Int32)))), .second]) rfl kk0) ?_
      refine Go.of (mkF m 38 #[.val (.int k), .val (.int a), .val (.int p), .val (.int t), .val (.int r), .val (.int f), .val (.int (0 : Int32)), .val (.int (1 : Int32)), .val (.double (FP.i2d (k + (1 : Int32)))), .second] [(.int (0 : Int32))]) (fun tt0 kk0 => XS.iload X0.here hx rfl (hb hby d2_36) rfl kk0) ?_
      refine Go.of (mkF m 43 #[.val (.int k), .val (.int a), .val (.int p), .val (.int t), .val (.int r), .val (.int f), .val (.int (0 : Int32)), .val (.int (1 : Int32)), .val (.double (FP.i2d (k + (1 : Int32)))), .second] []) (fun tt0 kk0 => XS.ifYes X0.here hx rfl (pc0 := 38) (pc' := 43) rfl (hb hby d2_38) rfl ((if0 _ _).trans (teq (by decide)).1) (by decide) (by decide) kk0) ?_
      refine Go.of (mkF m 45 #[.val (.int k), .val (.int a), .val (.int p), .val (.int t), .val (.int r), .val (.int f), .val (.int (0 : Int32)), .val (.int (1 : Int32)), .val (.double (FP.i2d (k + (1 : Int32)))), .second] [(.int (1 : Int32))]) (fun tt0 kk0 => XS.iload X0.here hx rfl (hb hby d2_43) rfl kk0) ?_
      refine Go.of (mkF m 48 #[.val (.int k), .val (.int a), .val (.int p), .val (.int t), .val (.int r), .val (.int f), .val (.int (0 : Int32)), .val (.int (1 : Int32)), .val (.double (FP.i2d (k + (1 : Int32)))), .second] []) (fun tt0 kk0 => XS.ifNo X0.here hx rfl (hb hby d2_45) rfl ((if0 _ _).trans (feq (by decide)).1) kk0) ?_
      refine Go.of (mkF m 50 #[.val (.int k), .val (.int a), .val (.int p), .val (.int t), .val (.int r), .val (.int f), .val (.int (0 : Int32)), .val (.int (1 : Int32)), .val (.double (FP.i2d (k + (1 : Int32)))), .second] [(.double (FP.i2d (k + (1 : Int32))))]) (fun tt0 kk0 => XS.dload X0.here hx rfl (hb hby d2_48) rfl kk0) ?_
      exact Go.retW X0 hx (t := .double) hret hlk rfl (Or.inr (Or.inr (Or.inl ⟨rfl, rfl, _, rfl⟩))) (hb hby d2_50) (by decide) (by decide) ⟨by simp [own_des, hc2, hc15], rfl, e0⟩
theorem ef_rm0 (m : MethodId) (x0 : Int32) (x1 : Int32) (x2 : Int32) (x3 : Int32) (x4 : Int32) (x5 : Int32) : entryFrame m #[(.int x0), (.int x1), (.int x2), (.int x3), (.int x4), (.int x5)] maxLocals = mkF m 0 #[.val (.int x0), .val (.int x1), .val (.int x2), .val (.int x3), .val (.int x4), .val (.int x5), .unset, .unset, .unset, .unset, .unset, .unset, .unset, .unset, .unset, .unset, .unset, .unset] [] := by first | (simp [entryFrame, mkF, argsToLocals, Value.category, maxLocals]; done) | rfl
set_option maxRecDepth 65536 in
set_option maxHeartbeats 40000000 in
theorem rm0 (l : Launch) (Z : State) (a0 : Array Value) (hw : ∀ d ∈ tables_1, d.before a0 Z = true) (ws : List Jvm.Cond) (p0 p1 p2 p3 p4 p5 : Int32) (h0 : Heap) (n0 : Nat) (hz0 : n0 ≤ h0.size) :
    Met l Z x code maxLocals ret ws room_1 #[(.int p0), (.int p1), (.int p2), (.int p3), (.int p4), (.int p5)] h0 (fun v h L => v = some (.int 1) ∧ Fr n0 L) := by
  refine Met.intro pn2 ?_
  intro pr ev s m below meth c T0 X0 hx hZ hown hby hml hret hlk hnm e0
  refine Go.cast (ef_rm0 m p0 p1 p2 p3 p4 p5) ?_
  have N0 := Fr.nil n0
  have hz := hz0
  refine Go.of (mkF m 1 #[.val (.int p0), .val (.int p1), .val (.int p2), .val (.int p3), .val (.int p4), .val (.int p5), .unset, .unset, .unset, .unset, .unset, .unset, .unset, .unset, .unset, .unset, .unset, .unset] [(.int p0)]) (fun tt0 kk0 => XS.iloadN X0.here hx rfl (hb hby at_0) rfl kk0) ?_
  refine Go.of (mkF m 3 #[.val (.int p0), .val (.int p1), .val (.int p2), .val (.int p3), .val (.int p4), .val (.int p5), .unset, .unset, .unset, .unset, .unset, .unset, .unset, .unset, .unset, .unset, .unset, .unset] [(.int (1073741823 : Int32)), (.int p0)]) (fun tt0 kk0 => X0.ldcInt hx hown (mvT hZ (tw0 hw)) (g := (mkF m 1 #[.val (.int p0), .val (.int p1), .val (.int p2), .val (.int p3), .val (.int p4), .val (.int p5), .unset, .unset, .unset, .unset, .unset, .unset, .unset, .unset, .unset, .unset, .unset, .unset] [(.int p0)])) rfl (hb hby at_1) _ kk0) ?_
  refine Go.of (mkF m 4 #[.val (.int p0), .val (.int p1), .val (.int p2), .val (.int p3), .val (.int p4), .val (.int p5), .unset, .unset, .unset, .unset, .unset, .unset, .unset, .unset, .unset, .unset, .unset, .unset] [(.int (p0 &&& (1073741823 : Int32)))]) (fun tt0 kk0 => XS.iand X0.here hx rfl (hb hby at_3) rfl kk0) ?_
  refine Go.of (mkF m 6 #[.val (.int p0), .val (.int p1), .val (.int p2), .val (.int p3), .val (.int p4), .val (.int p5), .val (.int (p0 &&& (1073741823 : Int32))), .unset, .unset, .unset, .unset, .unset, .unset, .unset, .unset, .unset, .unset, .unset] []) (fun tt0 kk0 => XS.istore X0.here hx rfl (hb hby at_4) rfl (l' := #[.val (.int p0), .val (.int p1), .val (.int p2), .val (.int p3), .val (.int p4), .val (.int p5), .val (.int (p0 &&& (1073741823 : Int32))), .unset, .unset, .unset, .unset, .unset, .unset, .unset, .unset, .unset, .unset, .unset]) rfl kk0) ?_
  have hk := own_k p0
  generalize hke : (p0 &&& (1073741823 : Int32)) = k
  rw [hke] at hk
  refine Go.of (mkF m 8 #[.val (.int p0), .val (.int p1), .val (.int p2), .val (.int p3), .val (.int p4), .val (.int p5), .val (.int k), .unset, .unset, .unset, .unset, .unset, .unset, .unset, .unset, .unset, .unset, .unset] [(.int p5)]) (fun tt0 kk0 => XS.iload X0.here hx rfl (hb hby at_6) rfl kk0) ?_
  refine Go.of (mkF m 9 #[.val (.int p0), .val (.int p1), .val (.int p2), .val (.int p3), .val (.int p4), .val (.int p5), .val (.int k), .unset, .unset, .unset, .unset, .unset, .unset, .unset, .unset, .unset, .unset, .unset] [(.int (1 : Int32)), (.int p5)]) (fun tt0 kk0 => XS.iconst X0.here hx rfl (hb hby at_8) kk0) ?_
  refine Go.of (mkF m 10 #[.val (.int p0), .val (.int p1), .val (.int p2), .val (.int p3), .val (.int p4), .val (.int p5), .val (.int k), .unset, .unset, .unset, .unset, .unset, .unset, .unset, .unset, .unset, .unset, .unset] [(.int (p5 &&& (1 : Int32)))]) (fun tt0 kk0 => XS.iand X0.here hx rfl (hb hby at_9) rfl kk0) ?_
  by_cases hc10 : (p5 &&& (1 : Int32)) = (0 : Int32)
  ·
    refine Go.of (mkF m 17 #[.val (.int p0), .val (.int p1), .val (.int p2), .val (.int p3), .val (.int p4), .val (.int p5), .val (.int k), .unset, .unset, .unset, .unset, .unset, .unset, .unset, .unset, .unset, .unset, .unset] []) (fun tt0 kk0 => XS.ifYes X0.here hx rfl (pc0 := 10) (pc' := 17) rfl (hb hby at_10) rfl ((if0 _ _).trans (teq hc10).1) (by decide) (by decide) kk0) ?_
    refine Go.of (mkF m 18 #[.val (.int p0), .val (.int p1), .val (.int p2), .val (.int p3), .val (.int p4), .val (.int p5), .val (.int k), .unset, .unset, .unset, .unset, .unset, .unset, .unset, .unset, .unset, .unset, .unset] [(.int (0 : Int32))]) (fun tt0 kk0 => XS.iconst X0.here hx rfl (hb hby at_17) kk0) ?_
    refine Go.of (mkF m 20 #[.val (.int p0), .val (.int p1), .val (.int p2), .val (.int p3), .val (.int p4), .val (.int p5), .val (.int k), .val (.int (0 : Int32)), .unset, .unset, .unset, .unset, .unset, .unset, .unset, .unset, .unset, .unset] []) (fun tt0 kk0 => XS.istore X0.here hx rfl (hb hby at_18) rfl (l' := #[.val (.int p0), .val (.int p1), .val (.int p2), .val (.int p3), .val (.int p4), .val (.int p5), .val (.int k), .val (.int (0 : Int32)), .unset, .unset, .unset, .unset, .unset, .unset, .unset, .unset, .unset, .unset]) rfl kk0) ?_
    refine Go.of (mkF m 21 #[.val (.int p0), .val (.int p1), .val (.int p2), .val (.int p3), .val (.int p4), .val (.int p5), .val (.int k), .val (.int (0 : Int32)), .unset, .unset, .unset, .unset, .unset, .unset, .unset, .unset, .unset, .unset] [(.int p1)]) (fun tt0 kk0 => XS.iloadN X0.here hx rfl (hb hby at_20) rfl kk0) ?_
    refine Go.of (mkF m 22 #[.val (.int p0), .val (.int p1), .val (.int p2), .val (.int p3), .val (.int p4), .val (.int p5), .val (.int k), .val (.int (0 : Int32)), .unset, .unset, .unset, .unset, .unset, .unset, .unset, .unset, .unset, .unset] [(.double (FP.i2d p1))]) (fun tt0 kk0 => XS.i2dS X0.here hx rfl (hb hby at_21) rfl rfl kk0) ?_
    refine Go.of (mkF m 24 #[.val (.int p0), .val (.int p1), .val (.int p2), .val (.int p3), .val (.int p4), .val (.int p5), .val (.int k), .val (.int (0 : Int32)), .val (.double (FP.i2d p1)), .second, .unset, .unset, .unset, .unset, .unset, .unset, .unset, .unset] []) (fun tt0 kk0 => XS.dstore X0.here hx rfl (hb hby at_22) rfl (l' := #[.val (.int p0), .val (.int p1), .val (.int p2), .val (.int p3), .val (.int p4), .val (.int p5), .val (.int k), .val (.int (0 : Int32)), .val (.double (FP.i2d p1)), .second, .unset, .unset, .unset, .unset, .unset, .unset, .unset, .unset]) rfl kk0) ?_
    refine Go.of (mkF m 25 #[.val (.int p0), .val (.int p1), .val (.int p2), .val (.int p3), .val (.int p4), .val (.int p5), .val (.int k), .val (.int (0 : Int32)), .val (.double (FP.i2d p1)), .second, .unset, .unset, .unset, .unset, .unset, .unset, .unset, .unset] [(.int p2)]) (fun tt0 kk0 => XS.iloadN X0.here hx rfl (hb hby at_24) rfl kk0) ?_
    refine Go.of (mkF m 26 #[.val (.int p0), .val (.int p1), .val (.int p2), .val (.int p3), .val (.int p4), .val (.int p5), .val (.int k), .val (.int (0 : Int32)), .val (.double (FP.i2d p1)), .second, .unset, .unset, .unset, .unset, .unset, .unset, .unset, .unset] [(.double (FP.i2d p2))]) (fun tt0 kk0 => XS.i2dS X0.here hx rfl (hb hby at_25) rfl rfl kk0) ?_
    refine Go.of (mkF m 28 #[.val (.int p0), .val (.int p1), .val (.int p2), .val (.int p3), .val (.int p4), .val (.int p5), .val (.int k), .val (.int (0 : Int32)), .val (.double (FP.i2d p1)), .second, .val (.double (FP.i2d p2)), .second, .unset, .unset, .unset, .unset, .unset, .unset] []) (fun tt0 kk0 => XS.dstore X0.here hx rfl (hb hby at_26) rfl (l' := #[.val (.int p0), .val (.int p1), .val (.int p2), .val (.int p3), .val (.int p4), .val (.int p5), .val (.int k), .val (.int (0 : Int32)), .val (.double (FP.i2d p1)), .second, .val (.double (FP.i2d p2)), .second, .unset, .unset, .unset, .unset, .unset, .unset]) rfl kk0) ?_
    refine Go.of (mkF m 29 #[.val (.int p0), .val (.int p1), .val (.int p2), .val (.int p3), .val (.int p4), .val (.int p5), .val (.int k), .val (.int (0 : Int32)), .val (.double (FP.i2d p1)), .second, .val (.double (FP.i2d p2)), .second, .unset, .unset, .unset, .unset, .unset, .unset] [(.int p3)]) (fun tt0 kk0 => XS.iloadN X0.here hx rfl (hb hby at_28) rfl kk0) ?_
    refine Go.of (mkF m 30 #[.val (.int p0), .val (.int p1), .val (.int p2), .val (.int p3), .val (.int p4), .val (.int p5), .val (.int k), .val (.int (0 : Int32)), .val (.double (FP.i2d p1)), .second, .val (.double (FP.i2d p2)), .second, .unset, .unset, .unset, .unset, .unset, .unset] [(.double (FP.i2d p3))]) (fun tt0 kk0 => XS.i2dS X0.here hx rfl (hb hby at_29) rfl rfl kk0) ?_
    refine Go.of (mkF m 32 #[.val (.int p0), .val (.int p1), .val (.int p2), .val (.int p3), .val (.int p4), .val (.int p5), .val (.int k), .val (.int (0 : Int32)), .val (.double (FP.i2d p1)), .second, .val (.double (FP.i2d p2)), .second, .val (.double (FP.i2d p3)), .second, .unset, .unset, .unset, .unset] []) (fun tt0 kk0 => XS.dstore X0.here hx rfl (hb hby at_30) rfl (l' := #[.val (.int p0), .val (.int p1), .val (.int p2), .val (.int p3), .val (.int p4), .val (.int p5), .val (.int k), .val (.int (0 : Int32)), .val (.double (FP.i2d p1)), .second, .val (.double (FP.i2d p2)), .second, .val (.double (FP.i2d p3)), .second, .unset, .unset, .unset, .unset]) rfl kk0) ?_
    refine Go.of (mkF m 34 #[.val (.int p0), .val (.int p1), .val (.int p2), .val (.int p3), .val (.int p4), .val (.int p5), .val (.int k), .val (.int (0 : Int32)), .val (.double (FP.i2d p1)), .second, .val (.double (FP.i2d p2)), .second, .val (.double (FP.i2d p3)), .second, .unset, .unset, .unset, .unset] [(.int p4)]) (fun tt0 kk0 => XS.iload X0.here hx rfl (hb hby at_32) rfl kk0) ?_
    refine Go.of (mkF m 35 #[.val (.int p0), .val (.int p1), .val (.int p2), .val (.int p3), .val (.int p4), .val (.int p5), .val (.int k), .val (.int (0 : Int32)), .val (.double (FP.i2d p1)), .second, .val (.double (FP.i2d p2)), .second, .val (.double (FP.i2d p3)), .second, .unset, .unset, .unset, .unset] [(.double (FP.i2d p4))]) (fun tt0 kk0 => XS.i2dS X0.here hx rfl (hb hby at_34) rfl rfl kk0) ?_
    refine Go.of (mkF m 37 #[.val (.int p0), .val (.int p1), .val (.int p2), .val (.int p3), .val (.int p4), .val (.int p5), .val (.int k), .val (.int (0 : Int32)), .val (.double (FP.i2d p1)), .second, .val (.double (FP.i2d p2)), .second, .val (.double (FP.i2d p3)), .second, .val (.double (FP.i2d p4)), .second, .unset, .unset] []) (fun tt0 kk0 => XS.dstore X0.here hx rfl (hb hby at_35) rfl (l' := #[.val (.int p0), .val (.int p1), .val (.int p2), .val (.int p3), .val (.int p4), .val (.int p5), .val (.int k), .val (.int (0 : Int32)), .val (.double (FP.i2d p1)), .second, .val (.double (FP.i2d p2)), .second, .val (.double (FP.i2d p3)), .second, .val (.double (FP.i2d p4)), .second, .unset, .unset]) rfl kk0) ?_
    refine Go.of (mkF m 39 #[.val (.int p0), .val (.int p1), .val (.int p2), .val (.int p3), .val (.int p4), .val (.int p5), .val (.int k), .val (.int (0 : Int32)), .val (.double (FP.i2d p1)), .second, .val (.double (FP.i2d p2)), .second, .val (.double (FP.i2d p3)), .second, .val (.double (FP.i2d p4)), .second, .unset, .unset] [(.int k)]) (fun tt0 kk0 => XS.iload X0.here hx rfl (hb hby at_37) rfl kk0) ?_
    refine Go.of (mkF m 41 #[.val (.int p0), .val (.int p1), .val (.int p2), .val (.int p3), .val (.int p4), .val (.int p5), .val (.int k), .val (.int (0 : Int32)), .val (.double (FP.i2d p1)), .second, .val (.double (FP.i2d p2)), .second, .val (.double (FP.i2d p3)), .second, .val (.double (FP.i2d p4)), .second, .unset, .unset] [(.double (FP.i2d p1)), (.int k)]) (fun tt0 kk0 => XS.dload X0.here hx rfl (hb hby at_39) rfl kk0) ?_
    refine Go.of (mkF m 43 #[.val (.int p0), .val (.int p1), .val (.int p2), .val (.int p3), .val (.int p4), .val (.int p5), .val (.int k), .val (.int (0 : Int32)), .val (.double (FP.i2d p1)), .second, .val (.double (FP.i2d p2)), .second, .val (.double (FP.i2d p3)), .second, .val (.double (FP.i2d p4)), .second, .unset, .unset] [(.double (FP.i2d p2)), (.double (FP.i2d p1)), (.int k)]) (fun tt0 kk0 => XS.dload X0.here hx rfl (hb hby at_41) rfl kk0) ?_
    refine Go.of (mkF m 45 #[.val (.int p0), .val (.int p1), .val (.int p2), .val (.int p3), .val (.int p4), .val (.int p5), .val (.int k), .val (.int (0 : Int32)), .val (.double (FP.i2d p1)), .second, .val (.double (FP.i2d p2)), .second, .val (.double (FP.i2d p3)), .second, .val (.double (FP.i2d p4)), .second, .unset, .unset] [(.double (FP.i2d p3)), (.double (FP.i2d p2)), (.double (FP.i2d p1)), (.int k)]) (fun tt0 kk0 => XS.dload X0.here hx rfl (hb hby at_43) rfl kk0) ?_
    refine Go.of (mkF m 47 #[.val (.int p0), .val (.int p1), .val (.int p2), .val (.int p3), .val (.int p4), .val (.int p5), .val (.int k), .val (.int (0 : Int32)), .val (.double (FP.i2d p1)), .second, .val (.double (FP.i2d p2)), .second, .val (.double (FP.i2d p3)), .second, .val (.double (FP.i2d p4)), .second, .unset, .unset] [(.double (FP.i2d p4)), (.double (FP.i2d p3)), (.double (FP.i2d p2)), (.double (FP.i2d p1)), (.int k)]) (fun tt0 kk0 => XS.dload X0.here hx rfl (hb hby at_45) rfl kk0) ?_
    refine Go.of (mkF m 49 #[.val (.int p0), .val (.int p1), .val (.int p2), .val (.int p3), .val (.int p4), .val (.int p5), .val (.int k), .val (.int (0 : Int32)), .val (.double (FP.i2d p1)), .second, .val (.double (FP.i2d p2)), .second, .val (.double (FP.i2d p3)), .second, .val (.double (FP.i2d p4)), .second, .unset, .unset] [(.int (0 : Int32)), (.double (FP.i2d p4)), (.double (FP.i2d p3)), (.double (FP.i2d p2)), (.double (FP.i2d p1)), (.int k)]) (fun tt0 kk0 => XS.iload X0.here hx rfl (hb hby at_47) rfl kk0) ?_
    refine Go.callS X0 hx hZ (y := (⟨"com/example/quench/quench/AntTeam", "desirability", "(IDDDDZ)D"⟩ : MethodName)) (argsL := [(.int k), (.double (FP.i2d p1)), (.double (FP.i2d p2)), (.double (FP.i2d p3)), (.double (FP.i2d p4)), (.int (0 : Int32))]) (rest := []) hown (tw1 hw) (tw2 hw) (tw3 hw) (tw4 hw) (by decide) e0 (rmD l Z a0 hw [] k p1 p2 p3 p4 (0 : Int32) h0 hk) (g := (mkF m 49 #[.val (.int p0), .val (.int p1), .val (.int p2), .val (.int p3), .val (.int p4), .val (.int p5), .val (.int k), .val (.int (0 : Int32)), .val (.double (FP.i2d p1)), .second, .val (.double (FP.i2d p2)), .second, .val (.double (FP.i2d p3)), .second, .val (.double (FP.i2d p4)), .second, .unset, .unset] [(.int (0 : Int32)), (.double (FP.i2d p4)), (.double (FP.i2d p3)), (.double (FP.i2d p2)), (.double (FP.i2d p1)), (.int k)])) rfl (by rw [hml]; rfl) (lenOf pd3 rfl) rfl (W := 0) (by show 2 * 0 + _ ≤ _; exact Nat.le_of_eq rfl) (hb hby at_49) (by decide) (by decide) (by decide) (by decide) ?_
    rintro T1 L1 v1 X1 ⟨rfl, rfl, hh1⟩
    have N1 := Fr.app N0 (Fr.nil n0)
    show Go pr ev below _ T1 (mkF m 52 #[.val (.int p0), .val (.int p1), .val (.int p2), .val (.int p3), .val (.int p4), .val (.int p5), .val (.int k), .val (.int (0 : Int32)), .val (.double (FP.i2d p1)), .second, .val (.double (FP.i2d p2)), .second, .val (.double (FP.i2d p3)), .second, .val (.double (FP.i2d p4)), .second, .unset, .unset] [(.double (own_des k p1 p2 p3 p4 (0 : Int32)))])
    refine Go.of (mkF m 54 #[.val (.int p0), .val (.int p1), .val (.int p2), .val (.int p3), .val (.int p4), .val (.int p5), .val (.int k), .val (.int (0 : Int32)), .val (.double (FP.i2d p1)), .second, .val (.double (FP.i2d p2)), .second, .val (.double (FP.i2d p3)), .second, .val (.double (FP.i2d p4)), .second, .val (.double (own_des k p1 p2 p3 p4 (0 : Int32))), .second] []) (fun tt0 kk0 => XS.dstore X1.here hx rfl (hb hby at_52) rfl (l' := #[.val (.int p0), .val (.int p1), .val (.int p2), .val (.int p3), .val (.int p4), .val (.int p5), .val (.int k), .val (.int (0 : Int32)), .val (.double (FP.i2d p1)), .second, .val (.double (FP.i2d p2)), .second, .val (.double (FP.i2d p3)), .second, .val (.double (FP.i2d p4)), .second, .val (.double (own_des k p1 p2 p3 p4 (0 : Int32))), .second]) rfl kk0) ?_
    refine Go.of (mkF m 56 #[.val (.int p0), .val (.int p1), .val (.int p2), .val (.int p3), .val (.int p4), .val (.int p5), .val (.int k), .val (.int (0 : Int32)), .val (.double (FP.i2d p1)), .second, .val (.double (FP.i2d p2)), .second, .val (.double (FP.i2d p3)), .second, .val (.double (FP.i2d p4)), .second, .val (.double (own_des k p1 p2 p3 p4 (0 : Int32))), .second] [(.double (own_des k p1 p2 p3 p4 (0 : Int32)))]) (fun tt0 kk0 => XS.dload X1.here hx rfl (hb hby at_54) rfl kk0) ?_
    refine Go.of (mkF m 58 #[.val (.int p0), .val (.int p1), .val (.int p2), .val (.int p3), .val (.int p4), .val (.int p5), .val (.int k), .val (.int (0 : Int32)), .val (.double (FP.i2d p1)), .second, .val (.double (FP.i2d p2)), .second, .val (.double (FP.i2d p3)), .second, .val (.double (FP.i2d p4)), .second, .val (.double (own_des k p1 p2 p3 p4 (0 : Int32))), .second] [(.int k), (.double (own_des k p1 p2 p3 p4 (0 : Int32)))]) (fun tt0 kk0 => XS.iload X1.here hx rfl (hb hby at_56) rfl kk0) ?_
    refine Go.of (mkF m 59 #[.val (.int p0), .val (.int p1), .val (.int p2), .val (.int p3), .val (.int p4), .val (.int p5), .val (.int k), .val (.int (0 : Int32)), .val (.double (FP.i2d p1)), .second, .val (.double (FP.i2d p2)), .second, .val (.double (FP.i2d p3)), .second, .val (.double (FP.i2d p4)), .second, .val (.double (own_des k p1 p2 p3 p4 (0 : Int32))), .second] [(.int p1), (.int k), (.double (own_des k p1 p2 p3 p4 (0 : Int32)))]) (fun tt0 kk0 => XS.iloadN X1.here hx rfl (hb hby at_58) rfl kk0) ?_
    refine Go.of (mkF m 60 #[.val (.int p0), .val (.int p1), .val (.int p2), .val (.int p3), .val (.int p4), .val (.int p5), .val (.int k), .val (.int (0 : Int32)), .val (.double (FP.i2d p1)), .second, .val (.double (FP.i2d p2)), .second, .val (.double (FP.i2d p3)), .second, .val (.double (FP.i2d p4)), .second, .val (.double (own_des k p1 p2 p3 p4 (0 : Int32))), .second] [(.int p2), (.int p1), (.int k), (.double (own_des k p1 p2 p3 p4 (0 : Int32)))]) (fun tt0 kk0 => XS.iloadN X1.here hx rfl (hb hby at_59) rfl kk0) ?_
    refine Go.of (mkF m 61 #[.val (.int p0), .val (.int p1), .val (.int p2), .val (.int p3), .val (.int p4), .val (.int p5), .val (.int k), .val (.int (0 : Int32)), .val (.double (FP.i2d p1)), .second, .val (.double (FP.i2d p2)), .second, .val (.double (FP.i2d p3)), .second, .val (.double (FP.i2d p4)), .second, .val (.double (own_des k p1 p2 p3 p4 (0 : Int32))), .second] [(.int p3), (.int p2), (.int p1), (.int k), (.double (own_des k p1 p2 p3 p4 (0 : Int32)))]) (fun tt0 kk0 => XS.iloadN X1.here hx rfl (hb hby at_60) rfl kk0) ?_
    refine Go.of (mkF m 63 #[.val (.int p0), .val (.int p1), .val (.int p2), .val (.int p3), .val (.int p4), .val (.int p5), .val (.int k), .val (.int (0 : Int32)), .val (.double (FP.i2d p1)), .second, .val (.double (FP.i2d p2)), .second, .val (.double (FP.i2d p3)), .second, .val (.double (FP.i2d p4)), .second, .val (.double (own_des k p1 p2 p3 p4 (0 : Int32))), .second] [(.int p4), (.int p3), (.int p2), (.int p1), (.int k), (.double (own_des k p1 p2 p3 p4 (0 : Int32)))]) (fun tt0 kk0 => XS.iload X1.here hx rfl (hb hby at_61) rfl kk0) ?_
    refine Go.of (mkF m 65 #[.val (.int p0), .val (.int p1), .val (.int p2), .val (.int p3), .val (.int p4), .val (.int p5), .val (.int k), .val (.int (0 : Int32)), .val (.double (FP.i2d p1)), .second, .val (.double (FP.i2d p2)), .second, .val (.double (FP.i2d p3)), .second, .val (.double (FP.i2d p4)), .second, .val (.double (own_des k p1 p2 p3 p4 (0 : Int32))), .second] [(.int (0 : Int32)), (.int p4), (.int p3), (.int p2), (.int p1), (.int k), (.double (own_des k p1 p2 p3 p4 (0 : Int32)))]) (fun tt0 kk0 => XS.iload X1.here hx rfl (hb hby at_63) rfl kk0) ?_
    refine Go.callS X1 hx hZ (y := (⟨"com/example/quench/quench/AntTeamDesirabilityPinLaw", "expected", "(IIIIIZ)D"⟩ : MethodName)) (argsL := [(.int k), (.int p1), (.int p2), (.int p3), (.int p4), (.int (0 : Int32))]) (rest := [(.double (own_des k p1 p2 p3 p4 (0 : Int32)))]) hown (tw5 hw) (tw6 hw) (tw7 hw) (tw8 hw) (by decide) hh1 (rmE l Z a0 hw [] k p1 p2 p3 p4 (0 : Int32) h0 hk) (g := (mkF m 65 #[.val (.int p0), .val (.int p1), .val (.int p2), .val (.int p3), .val (.int p4), .val (.int p5), .val (.int k), .val (.int (0 : Int32)), .val (.double (FP.i2d p1)), .second, .val (.double (FP.i2d p2)), .second, .val (.double (FP.i2d p3)), .second, .val (.double (FP.i2d p4)), .second, .val (.double (own_des k p1 p2 p3 p4 (0 : Int32))), .second] [(.int (0 : Int32)), (.int p4), (.int p3), (.int p2), (.int p1), (.int k), (.double (own_des k p1 p2 p3 p4 (0 : Int32)))])) rfl (by rw [hml]; rfl) (lenOf pd4 rfl) rfl (W := 2) (by show 2 * 0 + _ ≤ _; exact Nat.le_of_eq rfl) (hb hby at_65) (by decide) (by decide) (by decide) (by decide) ?_
    rintro T2 L2 v2 X2 ⟨rfl, rfl, hh2⟩
    have N2 := Fr.app N1 (Fr.nil n0)
    show Go pr ev below _ T2 (mkF m 68 #[.val (.int p0), .val (.int p1), .val (.int p2), .val (.int p3), .val (.int p4), .val (.int p5), .val (.int k), .val (.int (0 : Int32)), .val (.double (FP.i2d p1)), .second, .val (.double (FP.i2d p2)), .second, .val (.double (FP.i2d p3)), .second, .val (.double (FP.i2d p4)), .second, .val (.double (own_des k p1 p2 p3 p4 (0 : Int32))), .second] [(.double (own_des k p1 p2 p3 p4 (0 : Int32))), (.double (own_des k p1 p2 p3 p4 (0 : Int32)))])
    refine Go.of (mkF m 69 #[.val (.int p0), .val (.int p1), .val (.int p2), .val (.int p3), .val (.int p4), .val (.int p5), .val (.int k), .val (.int (0 : Int32)), .val (.double (FP.i2d p1)), .second, .val (.double (FP.i2d p2)), .second, .val (.double (FP.i2d p3)), .second, .val (.double (FP.i2d p4)), .second, .val (.double (own_des k p1 p2 p3 p4 (0 : Int32))), .second] [(.int (cmpValue (FP.dcmp (own_des k p1 p2 p3 p4 (0 : Int32)) (own_des k p1 p2 p3 p4 (0 : Int32))) .l))]) (fun tt0 kk0 => XS.dcmpS X2.here hx rfl (hb hby at_68) rfl rfl kk0) ?_
    refine Go.of (mkF m 72 #[.val (.int p0), .val (.int p1), .val (.int p2), .val (.int p3), .val (.int p4), .val (.int p5), .val (.int k), .val (.int (0 : Int32)), .val (.double (FP.i2d p1)), .second, .val (.double (FP.i2d p2)), .second, .val (.double (FP.i2d p3)), .second, .val (.double (FP.i2d p4)), .second, .val (.double (own_des k p1 p2 p3 p4 (0 : Int32))), .second] []) (fun tt0 kk0 => XS.ifNo X2.here hx rfl (hb hby at_69) rfl ((if0 _ _).trans (teq (own_eq _ _ _ _ _ _ hk)).2) kk0) ?_
    refine Go.of (mkF m 73 #[.val (.int p0), .val (.int p1), .val (.int p2), .val (.int p3), .val (.int p4), .val (.int p5), .val (.int k), .val (.int (0 : Int32)), .val (.double (FP.i2d p1)), .second, .val (.double (FP.i2d p2)), .second, .val (.double (FP.i2d p3)), .second, .val (.double (FP.i2d p4)), .second, .val (.double (own_des k p1 p2 p3 p4 (0 : Int32))), .second] [(.int (1 : Int32))]) (fun tt0 kk0 => XS.iconst X2.here hx rfl (hb hby at_72) kk0) ?_
    refine Go.of (mkF m 77 #[.val (.int p0), .val (.int p1), .val (.int p2), .val (.int p3), .val (.int p4), .val (.int p5), .val (.int k), .val (.int (0 : Int32)), .val (.double (FP.i2d p1)), .second, .val (.double (FP.i2d p2)), .second, .val (.double (FP.i2d p3)), .second, .val (.double (FP.i2d p4)), .second, .val (.double (own_des k p1 p2 p3 p4 (0 : Int32))), .second] [(.int (1 : Int32))]) (fun tt0 kk0 => XS.goto X2.here hx rfl (pc0 := 73) (pc' := 77) rfl (hb hby at_73) (by decide) (by decide) kk0) ?_
    exact Go.retW X2 hx (t := .boolean) hret hlk rfl (Or.inl ⟨rfl, by simp, _, rfl⟩) (hb hby at_77) (by decide) (by decide) ⟨rfl, N2⟩
  ·
    refine Go.of (mkF m 13 #[.val (.int p0), .val (.int p1), .val (.int p2), .val (.int p3), .val (.int p4), .val (.int p5), .val (.int k), .unset, .unset, .unset, .unset, .unset, .unset, .unset, .unset, .unset, .unset, .unset] []) (fun tt0 kk0 => XS.ifNo X0.here hx rfl (hb hby at_10) rfl ((if0 _ _).trans (feq hc10).1) kk0) ?_
    refine Go.of (mkF m 14 #[.val (.int p0), .val (.int p1), .val (.int p2), .val (.int p3), .val (.int p4), .val (.int p5), .val (.int k), .unset, .unset, .unset, .unset, .unset, .unset, .unset, .unset, .unset, .unset, .unset] [(.int (1 : Int32))]) (fun tt0 kk0 => XS.iconst X0.here hx rfl (hb hby at_13) kk0) ?_
    refine Go.of (mkF m 18 #[.val (.int p0), .val (.int p1), .val (.int p2), .val (.int p3), .val (.int p4), .val (.int p5), .val (.int k), .unset, .unset, .unset, .unset, .unset, .unset, .unset, .unset, .unset, .unset, .unset] [(.int (1 : Int32))]) (fun tt0 kk0 => XS.goto X0.here hx rfl (pc0 := 14) (pc' := 18) rfl (hb hby at_14) (by decide) (by decide) kk0) ?_
    refine Go.of (mkF m 20 #[.val (.int p0), .val (.int p1), .val (.int p2), .val (.int p3), .val (.int p4), .val (.int p5), .val (.int k), .val (.int (1 : Int32)), .unset, .unset, .unset, .unset, .unset, .unset, .unset, .unset, .unset, .unset] []) (fun tt0 kk0 => XS.istore X0.here hx rfl (hb hby at_18) rfl (l' := #[.val (.int p0), .val (.int p1), .val (.int p2), .val (.int p3), .val (.int p4), .val (.int p5), .val (.int k), .val (.int (1 : Int32)), .unset, .unset, .unset, .unset, .unset, .unset, .unset, .unset, .unset, .unset]) rfl kk0) ?_
    refine Go.of (mkF m 21 #[.val (.int p0), .val (.int p1), .val (.int p2), .val (.int p3), .val (.int p4), .val (.int p5), .val (.int k), .val (.int (1 : Int32)), .unset, .unset, .unset, .unset, .unset, .unset, .unset, .unset, .unset, .unset] [(.int p1)]) (fun tt0 kk0 => XS.iloadN X0.here hx rfl (hb hby at_20) rfl kk0) ?_
    refine Go.of (mkF m 22 #[.val (.int p0), .val (.int p1), .val (.int p2), .val (.int p3), .val (.int p4), .val (.int p5), .val (.int k), .val (.int (1 : Int32)), .unset, .unset, .unset, .unset, .unset, .unset, .unset, .unset, .unset, .unset] [(.double (FP.i2d p1))]) (fun tt0 kk0 => XS.i2dS X0.here hx rfl (hb hby at_21) rfl rfl kk0) ?_
    refine Go.of (mkF m 24 #[.val (.int p0), .val (.int p1), .val (.int p2), .val (.int p3), .val (.int p4), .val (.int p5), .val (.int k), .val (.int (1 : Int32)), .val (.double (FP.i2d p1)), .second, .unset, .unset, .unset, .unset, .unset, .unset, .unset, .unset] []) (fun tt0 kk0 => XS.dstore X0.here hx rfl (hb hby at_22) rfl (l' := #[.val (.int p0), .val (.int p1), .val (.int p2), .val (.int p3), .val (.int p4), .val (.int p5), .val (.int k), .val (.int (1 : Int32)), .val (.double (FP.i2d p1)), .second, .unset, .unset, .unset, .unset, .unset, .unset, .unset, .unset]) rfl kk0) ?_
    refine Go.of (mkF m 25 #[.val (.int p0), .val (.int p1), .val (.int p2), .val (.int p3), .val (.int p4), .val (.int p5), .val (.int k), .val (.int (1 : Int32)), .val (.double (FP.i2d p1)), .second, .unset, .unset, .unset, .unset, .unset, .unset, .unset, .unset] [(.int p2)]) (fun tt0 kk0 => XS.iloadN X0.here hx rfl (hb hby at_24) rfl kk0) ?_
    refine Go.of (mkF m 26 #[.val (.int p0), .val (.int p1), .val (.int p2), .val (.int p3), .val (.int p4), .val (.int p5), .val (.int k), .val (.int (1 : Int32)), .val (.double (FP.i2d p1)), .second, .unset, .unset, .unset, .unset, .unset, .unset, .unset, .unset] [(.double (FP.i2d p2))]) (fun tt0 kk0 => XS.i2dS X0.here hx rfl (hb hby at_25) rfl rfl kk0) ?_
    refine Go.of (mkF m 28 #[.val (.int p0), .val (.int p1), .val (.int p2), .val (.int p3), .val (.int p4), .val (.int p5), .val (.int k), .val (.int (1 : Int32)), .val (.double (FP.i2d p1)), .second, .val (.double (FP.i2d p2)), .second, .unset, .unset, .unset, .unset, .unset, .unset] []) (fun tt0 kk0 => XS.dstore X0.here hx rfl (hb hby at_26) rfl (l' := #[.val (.int p0), .val (.int p1), .val (.int p2), .val (.int p3), .val (.int p4), .val (.int p5), .val (.int k), .val (.int (1 : Int32)), .val (.double (FP.i2d p1)), .second, .val (.double (FP.i2d p2)), .second, .unset, .unset, .unset, .unset, .unset, .unset]) rfl kk0) ?_
    refine Go.of (mkF m 29 #[.val (.int p0), .val (.int p1), .val (.int p2), .val (.int p3), .val (.int p4), .val (.int p5), .val (.int k), .val (.int (1 : Int32)), .val (.double (FP.i2d p1)), .second, .val (.double (FP.i2d p2)), .second, .unset, .unset, .unset, .unset, .unset, .unset] [(.int p3)]) (fun tt0 kk0 => XS.iloadN X0.here hx rfl (hb hby at_28) rfl kk0) ?_
    refine Go.of (mkF m 30 #[.val (.int p0), .val (.int p1), .val (.int p2), .val (.int p3), .val (.int p4), .val (.int p5), .val (.int k), .val (.int (1 : Int32)), .val (.double (FP.i2d p1)), .second, .val (.double (FP.i2d p2)), .second, .unset, .unset, .unset, .unset, .unset, .unset] [(.double (FP.i2d p3))]) (fun tt0 kk0 => XS.i2dS X0.here hx rfl (hb hby at_29) rfl rfl kk0) ?_
    refine Go.of (mkF m 32 #[.val (.int p0), .val (.int p1), .val (.int p2), .val (.int p3), .val (.int p4), .val (.int p5), .val (.int k), .val (.int (1 : Int32)), .val (.double (FP.i2d p1)), .second, .val (.double (FP.i2d p2)), .second, .val (.double (FP.i2d p3)), .second, .unset, .unset, .unset, .unset] []) (fun tt0 kk0 => XS.dstore X0.here hx rfl (hb hby at_30) rfl (l' := #[.val (.int p0), .val (.int p1), .val (.int p2), .val (.int p3), .val (.int p4), .val (.int p5), .val (.int k), .val (.int (1 : Int32)), .val (.double (FP.i2d p1)), .second, .val (.double (FP.i2d p2)), .second, .val (.double (FP.i2d p3)), .second, .unset, .unset, .unset, .unset]) rfl kk0) ?_
    refine Go.of (mkF m 34 #[.val (.int p0), .val (.int p1), .val (.int p2), .val (.int p3), .val (.int p4), .val (.int p5), .val (.int k), .val (.int (1 : Int32)), .val (.double (FP.i2d p1)), .second, .val (.double (FP.i2d p2)), .second, .val (.double (FP.i2d p3)), .second, .unset, .unset, .unset, .unset] [(.int p4)]) (fun tt0 kk0 => XS.iload X0.here hx rfl (hb hby at_32) rfl kk0) ?_
    refine Go.of (mkF m 35 #[.val (.int p0), .val (.int p1), .val (.int p2), .val (.int p3), .val (.int p4), .val (.int p5), .val (.int k), .val (.int (1 : Int32)), .val (.double (FP.i2d p1)), .second, .val (.double (FP.i2d p2)), .second, .val (.double (FP.i2d p3)), .second, .unset, .unset, .unset, .unset] [(.double (FP.i2d p4))]) (fun tt0 kk0 => XS.i2dS X0.here hx rfl (hb hby at_34) rfl rfl kk0) ?_
    refine Go.of (mkF m 37 #[.val (.int p0), .val (.int p1), .val (.int p2), .val (.int p3), .val (.int p4), .val (.int p5), .val (.int k), .val (.int (1 : Int32)), .val (.double (FP.i2d p1)), .second, .val (.double (FP.i2d p2)), .second, .val (.double (FP.i2d p3)), .second, .val (.double (FP.i2d p4)), .second, .unset, .unset] []) (fun tt0 kk0 => XS.dstore X0.here hx rfl (hb hby at_35) rfl (l' := #[.val (.int p0), .val (.int p1), .val (.int p2), .val (.int p3), .val (.int p4), .val (.int p5), .val (.int k), .val (.int (1 : Int32)), .val (.double (FP.i2d p1)), .second, .val (.double (FP.i2d p2)), .second, .val (.double (FP.i2d p3)), .second, .val (.double (FP.i2d p4)), .second, .unset, .unset]) rfl kk0) ?_
    refine Go.of (mkF m 39 #[.val (.int p0), .val (.int p1), .val (.int p2), .val (.int p3), .val (.int p4), .val (.int p5), .val (.int k), .val (.int (1 : Int32)), .val (.double (FP.i2d p1)), .second, .val (.double (FP.i2d p2)), .second, .val (.double (FP.i2d p3)), .second, .val (.double (FP.i2d p4)), .second, .unset, .unset] [(.int k)]) (fun tt0 kk0 => XS.iload X0.here hx rfl (hb hby at_37) rfl kk0) ?_
    refine Go.of (mkF m 41 #[.val (.int p0), .val (.int p1), .val (.int p2), .val (.int p3), .val (.int p4), .val (.int p5), .val (.int k), .val (.int (1 : Int32)), .val (.double (FP.i2d p1)), .second, .val (.double (FP.i2d p2)), .second, .val (.double (FP.i2d p3)), .second, .val (.double (FP.i2d p4)), .second, .unset, .unset] [(.double (FP.i2d p1)), (.int k)]) (fun tt0 kk0 => XS.dload X0.here hx rfl (hb hby at_39) rfl kk0) ?_
    refine Go.of (mkF m 43 #[.val (.int p0), .val (.int p1), .val (.int p2), .val (.int p3), .val (.int p4), .val (.int p5), .val (.int k), .val (.int (1 : Int32)), .val (.double (FP.i2d p1)), .second, .val (.double (FP.i2d p2)), .second, .val (.double (FP.i2d p3)), .second, .val (.double (FP.i2d p4)), .second, .unset, .unset] [(.double (FP.i2d p2)), (.double (FP.i2d p1)), (.int k)]) (fun tt0 kk0 => XS.dload X0.here hx rfl (hb hby at_41) rfl kk0) ?_
    refine Go.of (mkF m 45 #[.val (.int p0), .val (.int p1), .val (.int p2), .val (.int p3), .val (.int p4), .val (.int p5), .val (.int k), .val (.int (1 : Int32)), .val (.double (FP.i2d p1)), .second, .val (.double (FP.i2d p2)), .second, .val (.double (FP.i2d p3)), .second, .val (.double (FP.i2d p4)), .second, .unset, .unset] [(.double (FP.i2d p3)), (.double (FP.i2d p2)), (.double (FP.i2d p1)), (.int k)]) (fun tt0 kk0 => XS.dload X0.here hx rfl (hb hby at_43) rfl kk0) ?_
    refine Go.of (mkF m 47 #[.val (.int p0), .val (.int p1), .val (.int p2), .val (.int p3), .val (.int p4), .val (.int p5), .val (.int k), .val (.int (1 : Int32)), .val (.double (FP.i2d p1)), .second, .val (.double (FP.i2d p2)), .second, .val (.double (FP.i2d p3)), .second, .val (.double (FP.i2d p4)), .second, .unset, .unset] [(.double (FP.i2d p4)), (.double (FP.i2d p3)), (.double (FP.i2d p2)), (.double (FP.i2d p1)), (.int k)]) (fun tt0 kk0 => XS.dload X0.here hx rfl (hb hby at_45) rfl kk0) ?_
    refine Go.of (mkF m 49 #[.val (.int p0), .val (.int p1), .val (.int p2), .val (.int p3), .val (.int p4), .val (.int p5), .val (.int k), .val (.int (1 : Int32)), .val (.double (FP.i2d p1)), .second, .val (.double (FP.i2d p2)), .second, .val (.double (FP.i2d p3)), .second, .val (.double (FP.i2d p4)), .second, .unset, .unset] [(.int (1 : Int32)), (.double (FP.i2d p4)), (.double (FP.i2d p3)), (.double (FP.i2d p2)), (.double (FP.i2d p1)), (.int k)]) (fun tt0 kk0 => XS.iload X0.here hx rfl (hb hby at_47) rfl kk0) ?_
    refine Go.callS X0 hx hZ (y := (⟨"com/example/quench/quench/AntTeam", "desirability", "(IDDDDZ)D"⟩ : MethodName)) (argsL := [(.int k), (.double (FP.i2d p1)), (.double (FP.i2d p2)), (.double (FP.i2d p3)), (.double (FP.i2d p4)), (.int (1 : Int32))]) (rest := []) hown (tw1 hw) (tw2 hw) (tw3 hw) (tw4 hw) (by decide) e0 (rmD l Z a0 hw [] k p1 p2 p3 p4 (1 : Int32) h0 hk) (g := (mkF m 49 #[.val (.int p0), .val (.int p1), .val (.int p2), .val (.int p3), .val (.int p4), .val (.int p5), .val (.int k), .val (.int (1 : Int32)), .val (.double (FP.i2d p1)), .second, .val (.double (FP.i2d p2)), .second, .val (.double (FP.i2d p3)), .second, .val (.double (FP.i2d p4)), .second, .unset, .unset] [(.int (1 : Int32)), (.double (FP.i2d p4)), (.double (FP.i2d p3)), (.double (FP.i2d p2)), (.double (FP.i2d p1)), (.int k)])) rfl (by rw [hml]; rfl) (lenOf pd3 rfl) rfl (W := 0) (by show 2 * 0 + _ ≤ _; exact Nat.le_of_eq rfl) (hb hby at_49) (by decide) (by decide) (by decide) (by decide) ?_
    rintro T3 L3 v3 X3 ⟨rfl, rfl, hh3⟩
    have N3 := Fr.app N0 (Fr.nil n0)
    show Go pr ev below _ T3 (mkF m 52 #[.val (.int p0), .val (.int p1), .val (.int p2), .val (.int p3), .val (.int p4), .val (.int p5), .val (.int k), .val (.int (1 : Int32)), .val (.double (FP.i2d p1)), .second, .val (.double (FP.i2d p2)), .second, .val (.double (FP.i2d p3)), .second, .val (.double (FP.i2d p4)), .second, .unset, .unset] [(.double (own_des k p1 p2 p3 p4 (1 : Int32)))])
    refine Go.of (mkF m 54 #[.val (.int p0), .val (.int p1), .val (.int p2), .val (.int p3), .val (.int p4), .val (.int p5), .val (.int k), .val (.int (1 : Int32)), .val (.double (FP.i2d p1)), .second, .val (.double (FP.i2d p2)), .second, .val (.double (FP.i2d p3)), .second, .val (.double (FP.i2d p4)), .second, .val (.double (own_des k p1 p2 p3 p4 (1 : Int32))), .second] []) (fun tt0 kk0 => XS.dstore X3.here hx rfl (hb hby at_52) rfl (l' := #[.val (.int p0), .val (.int p1), .val (.int p2), .val (.int p3), .val (.int p4), .val (.int p5), .val (.int k), .val (.int (1 : Int32)), .val (.double (FP.i2d p1)), .second, .val (.double (FP.i2d p2)), .second, .val (.double (FP.i2d p3)), .second, .val (.double (FP.i2d p4)), .second, .val (.double (own_des k p1 p2 p3 p4 (1 : Int32))), .second]) rfl kk0) ?_
    refine Go.of (mkF m 56 #[.val (.int p0), .val (.int p1), .val (.int p2), .val (.int p3), .val (.int p4), .val (.int p5), .val (.int k), .val (.int (1 : Int32)), .val (.double (FP.i2d p1)), .second, .val (.double (FP.i2d p2)), .second, .val (.double (FP.i2d p3)), .second, .val (.double (FP.i2d p4)), .second, .val (.double (own_des k p1 p2 p3 p4 (1 : Int32))), .second] [(.double (own_des k p1 p2 p3 p4 (1 : Int32)))]) (fun tt0 kk0 => XS.dload X3.here hx rfl (hb hby at_54) rfl kk0) ?_
    refine Go.of (mkF m 58 #[.val (.int p0), .val (.int p1), .val (.int p2), .val (.int p3), .val (.int p4), .val (.int p5), .val (.int k), .val (.int (1 : Int32)), .val (.double (FP.i2d p1)), .second, .val (.double (FP.i2d p2)), .second, .val (.double (FP.i2d p3)), .second, .val (.double (FP.i2d p4)), .second, .val (.double (own_des k p1 p2 p3 p4 (1 : Int32))), .second] [(.int k), (.double (own_des k p1 p2 p3 p4 (1 : Int32)))]) (fun tt0 kk0 => XS.iload X3.here hx rfl (hb hby at_56) rfl kk0) ?_
    refine Go.of (mkF m 59 #[.val (.int p0), .val (.int p1), .val (.int p2), .val (.int p3), .val (.int p4), .val (.int p5), .val (.int k), .val (.int (1 : Int32)), .val (.double (FP.i2d p1)), .second, .val (.double (FP.i2d p2)), .second, .val (.double (FP.i2d p3)), .second, .val (.double (FP.i2d p4)), .second, .val (.double (own_des k p1 p2 p3 p4 (1 : Int32))), .second] [(.int p1), (.int k), (.double (own_des k p1 p2 p3 p4 (1 : Int32)))]) (fun tt0 kk0 => XS.iloadN X3.here hx rfl (hb hby at_58) rfl kk0) ?_
    refine Go.of (mkF m 60 #[.val (.int p0), .val (.int p1), .val (.int p2), .val (.int p3), .val (.int p4), .val (.int p5), .val (.int k), .val (.int (1 : Int32)), .val (.double (FP.i2d p1)), .second, .val (.double (FP.i2d p2)), .second, .val (.double (FP.i2d p3)), .second, .val (.double (FP.i2d p4)), .second, .val (.double (own_des k p1 p2 p3 p4 (1 : Int32))), .second] [(.int p2), (.int p1), (.int k), (.double (own_des k p1 p2 p3 p4 (1 : Int32)))]) (fun tt0 kk0 => XS.iloadN X3.here hx rfl (hb hby at_59) rfl kk0) ?_
    refine Go.of (mkF m 61 #[.val (.int p0), .val (.int p1), .val (.int p2), .val (.int p3), .val (.int p4), .val (.int p5), .val (.int k), .val (.int (1 : Int32)), .val (.double (FP.i2d p1)), .second, .val (.double (FP.i2d p2)), .second, .val (.double (FP.i2d p3)), .second, .val (.double (FP.i2d p4)), .second, .val (.double (own_des k p1 p2 p3 p4 (1 : Int32))), .second] [(.int p3), (.int p2), (.int p1), (.int k), (.double (own_des k p1 p2 p3 p4 (1 : Int32)))]) (fun tt0 kk0 => XS.iloadN X3.here hx rfl (hb hby at_60) rfl kk0) ?_
    refine Go.of (mkF m 63 #[.val (.int p0), .val (.int p1), .val (.int p2), .val (.int p3), .val (.int p4), .val (.int p5), .val (.int k), .val (.int (1 : Int32)), .val (.double (FP.i2d p1)), .second, .val (.double (FP.i2d p2)), .second, .val (.double (FP.i2d p3)), .second, .val (.double (FP.i2d p4)), .second, .val (.double (own_des k p1 p2 p3 p4 (1 : Int32))), .second] [(.int p4), (.int p3), (.int p2), (.int p1), (.int k), (.double (own_des k p1 p2 p3 p4 (1 : Int32)))]) (fun tt0 kk0 => XS.iload X3.here hx rfl (hb hby at_61) rfl kk0) ?_
    refine Go.of (mkF m 65 #[.val (.int p0), .val (.int p1), .val (.int p2), .val (.int p3), .val (.int p4), .val (.int p5), .val (.int k), .val (.int (1 : Int32)), .val (.double (FP.i2d p1)), .second, .val (.double (FP.i2d p2)), .second, .val (.double (FP.i2d p3)), .second, .val (.double (FP.i2d p4)), .second, .val (.double (own_des k p1 p2 p3 p4 (1 : Int32))), .second] [(.int (1 : Int32)), (.int p4), (.int p3), (.int p2), (.int p1), (.int k), (.double (own_des k p1 p2 p3 p4 (1 : Int32)))]) (fun tt0 kk0 => XS.iload X3.here hx rfl (hb hby at_63) rfl kk0) ?_
    refine Go.callS X3 hx hZ (y := (⟨"com/example/quench/quench/AntTeamDesirabilityPinLaw", "expected", "(IIIIIZ)D"⟩ : MethodName)) (argsL := [(.int k), (.int p1), (.int p2), (.int p3), (.int p4), (.int (1 : Int32))]) (rest := [(.double (own_des k p1 p2 p3 p4 (1 : Int32)))]) hown (tw5 hw) (tw6 hw) (tw7 hw) (tw8 hw) (by decide) hh3 (rmE l Z a0 hw [] k p1 p2 p3 p4 (1 : Int32) h0 hk) (g := (mkF m 65 #[.val (.int p0), .val (.int p1), .val (.int p2), .val (.int p3), .val (.int p4), .val (.int p5), .val (.int k), .val (.int (1 : Int32)), .val (.double (FP.i2d p1)), .second, .val (.double (FP.i2d p2)), .second, .val (.double (FP.i2d p3)), .second, .val (.double (FP.i2d p4)), .second, .val (.double (own_des k p1 p2 p3 p4 (1 : Int32))), .second] [(.int (1 : Int32)), (.int p4), (.int p3), (.int p2), (.int p1), (.int k), (.double (own_des k p1 p2 p3 p4 (1 : Int32)))])) rfl (by rw [hml]; rfl) (lenOf pd4 rfl) rfl (W := 2) (by show 2 * 0 + _ ≤ _; exact Nat.le_of_eq rfl) (hb hby at_65) (by decide) (by decide) (by decide) (by decide) ?_
    rintro T4 L4 v4 X4 ⟨rfl, rfl, hh4⟩
    have N4 := Fr.app N3 (Fr.nil n0)
    show Go pr ev below _ T4 (mkF m 68 #[.val (.int p0), .val (.int p1), .val (.int p2), .val (.int p3), .val (.int p4), .val (.int p5), .val (.int k), .val (.int (1 : Int32)), .val (.double (FP.i2d p1)), .second, .val (.double (FP.i2d p2)), .second, .val (.double (FP.i2d p3)), .second, .val (.double (FP.i2d p4)), .second, .val (.double (own_des k p1 p2 p3 p4 (1 : Int32))), .second] [(.double (own_des k p1 p2 p3 p4 (1 : Int32))), (.double (own_des k p1 p2 p3 p4 (1 : Int32)))])
    refine Go.of (mkF m 69 #[.val (.int p0), .val (.int p1), .val (.int p2), .val (.int p3), .val (.int p4), .val (.int p5), .val (.int k), .val (.int (1 : Int32)), .val (.double (FP.i2d p1)), .second, .val (.double (FP.i2d p2)), .second, .val (.double (FP.i2d p3)), .second, .val (.double (FP.i2d p4)), .second, .val (.double (own_des k p1 p2 p3 p4 (1 : Int32))), .second] [(.int (cmpValue (FP.dcmp (own_des k p1 p2 p3 p4 (1 : Int32)) (own_des k p1 p2 p3 p4 (1 : Int32))) .l))]) (fun tt0 kk0 => XS.dcmpS X4.here hx rfl (hb hby at_68) rfl rfl kk0) ?_
    refine Go.of (mkF m 72 #[.val (.int p0), .val (.int p1), .val (.int p2), .val (.int p3), .val (.int p4), .val (.int p5), .val (.int k), .val (.int (1 : Int32)), .val (.double (FP.i2d p1)), .second, .val (.double (FP.i2d p2)), .second, .val (.double (FP.i2d p3)), .second, .val (.double (FP.i2d p4)), .second, .val (.double (own_des k p1 p2 p3 p4 (1 : Int32))), .second] []) (fun tt0 kk0 => XS.ifNo X4.here hx rfl (hb hby at_69) rfl ((if0 _ _).trans (teq (own_eq _ _ _ _ _ _ hk)).2) kk0) ?_
    refine Go.of (mkF m 73 #[.val (.int p0), .val (.int p1), .val (.int p2), .val (.int p3), .val (.int p4), .val (.int p5), .val (.int k), .val (.int (1 : Int32)), .val (.double (FP.i2d p1)), .second, .val (.double (FP.i2d p2)), .second, .val (.double (FP.i2d p3)), .second, .val (.double (FP.i2d p4)), .second, .val (.double (own_des k p1 p2 p3 p4 (1 : Int32))), .second] [(.int (1 : Int32))]) (fun tt0 kk0 => XS.iconst X4.here hx rfl (hb hby at_72) kk0) ?_
    refine Go.of (mkF m 77 #[.val (.int p0), .val (.int p1), .val (.int p2), .val (.int p3), .val (.int p4), .val (.int p5), .val (.int k), .val (.int (1 : Int32)), .val (.double (FP.i2d p1)), .second, .val (.double (FP.i2d p2)), .second, .val (.double (FP.i2d p3)), .second, .val (.double (FP.i2d p4)), .second, .val (.double (own_des k p1 p2 p3 p4 (1 : Int32))), .second] [(.int (1 : Int32))]) (fun tt0 kk0 => XS.goto X4.here hx rfl (pc0 := 73) (pc' := 77) rfl (hb hby at_73) (by decide) (by decide) kk0) ?_
    exact Go.retW X4 hx (t := .boolean) hret hlk rfl (Or.inl ⟨rfl, by simp, _, rfl⟩) (hb hby at_77) (by decide) (by decide) ⟨rfl, N4⟩
set_option maxRecDepth 65536 in
set_option maxHeartbeats 40000000 in
theorem comes_1 {Post : Tables → Env → Array Value → State → Outcome → State → Prop} (hpost : ∀ tb e args s v u, (limb_1_1.after args s (.returned v) u = true ∧ limb_1_2.after args s (.returned v) u = true ∧ True) → FrameEnd s (.returned v) u (Jvm.fieldLocs frame_1_writes args s ++ Jvm.arrayLocs frame_1_arrays args s ++ Jvm.staticLocs frame_1_statics s) 0 0 → Post tb e args s (.returned v) u) :
    ArmFor flags0 classFile x code maxLocals ret World_1 tables_1 room_1 Calls_1 rest_1 Pre_1 Post := by
  intro l hfl _ _ p e ha hc hk s m args below hf hA hF happ hP
  obtain ⟨hcalls, hrest, hpre⟩ := hP
  obtain ⟨-, -, -, hnamed, -, -, -, hat⟩ := (Spec.applies_iff hf).mp happ
  obtain ⟨hg, hn⟩ := and_e (Cond.before_iff.mp (show (Jvm.Cond.and given_1 narrow_1).before args s = true from hpre))
  obtain ⟨gc, gr⟩ := and_e hg
  obtain ⟨gi0, gr⟩ := and_e gr
  obtain ⟨gi1, gr⟩ := and_e gr
  obtain ⟨gi2, gr⟩ := and_e gr
  obtain ⟨gi3, gr⟩ := and_e gr
  obtain ⟨gi4, gr⟩ := and_e gr
  have gi5 := gr
  obtain ⟨w0, w1, w2, w3, w4, w5, rfl⟩ : ∃ w0 w1 w2 w3 w4 w5 : Value, args = #[w0, w1, w2, w3, w4, w5] := by
    have hs : args.size = 6 := by simpa [Cond.value, given_1] using gc
    obtain ⟨L⟩ := args
    match L, hs with
    | [w0, w1, w2, w3, w4, w5], _ => exact ⟨w0, w1, w2, w3, w4, w5, rfl⟩
  have hw := fun d (hd : d ∈ tables_1) => atoms_spec (ws := Jvm.Cond.code x code maxLocals ret :: tables_1) hat d (List.mem_cons_of_mem _ hd)
  have hfit : Fit s := fun {y c} hc i hi => by
    obtain ⟨ha, rfl⟩ := Array.getElem?_eq_some_iff.mp hc
    have q := List.all_eq_true.mp ((Array.all_eq_true_iff_forall_mem.mp hF) _ (Array.getElem_mem ha)) i (List.mem_range.mpr hi)
    simpa [Array.getElem?_eq_getElem hi] using q
  obtain ⟨i0, ei0⟩ := is_v gi0
  obtain rfl : w0 = (.int i0) := Option.some.inj ei0
  obtain ⟨i1, ei1⟩ := is_v gi1
  obtain rfl : w1 = (.int i1) := Option.some.inj ei1
  obtain ⟨i2, ei2⟩ := is_v gi2
  obtain rfl : w2 = (.int i2) := Option.some.inj ei2
  obtain ⟨i3, ei3⟩ := is_v gi3
  obtain rfl : w3 = (.int i3) := Option.some.inj ei3
  obtain ⟨i4, ei4⟩ := is_v gi4
  obtain rfl : w4 = (.int i4) := Option.some.inj ei4
  obtain ⟨i5, ei5⟩ := is_v gi5
  obtain rfl : w5 = (.int i5) := Option.some.inj ei5
  obtain ⟨n, o, h1, h2, h3, _, L, rfl, ⟨rfl, N⟩, hq⟩ := rm0 l s _ hw tables_1 i0 i1 i2 i3 i4 i5 s.heap s.heap.size (Nat.le_refl _) p e ha hc hk s m _ below hf ((Spec.applies_iff_loose hf).mp happ).1 ⟨rfl, State.Warmed39.refl s, rfl⟩ trivial
  refine ⟨n, _, h1, h2, h3, hpost _ _ _ _ _ _ ⟨Cond.after_iff.mpr rfl, Cond.after_iff.mpr (eq_i res_at (Term.int_eval (1)) rfl), trivial⟩ ⟨hq.1, hq.2.1, (hq.2.2.sift fun y hy => Or.inr (N y hy)).mono (by decide) (by decide)⟩⟩
theorem main_1_1 : Claimed_1_1 := comes_1 fun _ _ _ _ _ _ h hF => ⟨h.1, hF⟩
theorem main_1_2 : Claimed_1_2 := comes_1 fun _ _ _ _ _ _ h hF => ⟨h.2.1, hF⟩
end Jvm.Pilot.@@N@@
namespace Jvm.Pilot.@@N@@
open Jvm Jvm.ClassFile Sem Op Lib Jvm.Free Jvm.Stand Jvm.Pilot.@@N@@.Jvm.D
/-! MADE BY PROGRAM (witnessworld.py) out of the Statement's table words and the real class files: 10 classes; the members and pool entries that the words name. The judged class is class 1, her method 1. -/
namespace start1
open Jvm.ClassFile
def u (s : String) : CpInfo := .utf8 (stringToUtf16 s)
/-- a pool by its gaps: so many unusable entries, then the entry; so many at the end -/
def gap : Nat → List CpInfo → List CpInfo
  | 0, r => r
  | n + 1, r => .unusable :: gap n r
def poolList (es : List (Nat × CpInfo)) (last : Nat) : List CpInfo := es.foldr (fun e r => gap e.1 (e.2 :: r)) (gap last [])
def pool (es : List (Nat × CpInfo)) (last : Nat) : Array CpInfo := ⟨poolList es last⟩
def fileOf (pool : Array CpInfo) (this : Nat) (attrs : Array Attribute := #[]) (ms : Array MethodInfo := #[]) (fl : Nat := 33) (sup : Nat := 0) (ifs : Array Nat := #[]) (fds : Array FieldInfo := #[]) : ClassFile where
  minorVersion := 0
  majorVersion := 65
  constantPool := pool
  accessFlags := fl
  thisClass := this
  superClass := sup
  interfaces := ifs
  fields := fds
  methods := ms
  attributes := attrs
def plain (name : String) (sup : Option ClassId) : Class where
  name := name
  kind := .ordinary
  loader := none
  accessFlags := 33
  super := sup
  interfaces := #[]
  cf := none
  fields := #[]
  methods := #[]
  instanceTypes := #[]
  staticTypes := #[]
  resolved := #[]
  callSites := []
  init := .initialized
  statics := none
  mirror := none

def pool0 : Array CpInfo := pool [(5, u "<init>"), (0, u "()V"), (1, .class_ 10), (1, u "java/lang/Object")] 113

def k0m0 : Method := { name := "<init>", desc := "()V", sig := { parameters := [], returnType := none }, accessFlags := 1, code := none }
/-- java/lang/Object -/
def k0 : Class := { plain "java/lang/Object" none with
  accessFlags := 33
  interfaces := #[]
  cf := some (fileOf pool0 8 #[] #[{ accessFlags := 1, nameIndex := 5, descriptorIndex := 6, attributes := #[] }] 33 0 #[] #[])
  fields := #[]
  methods := #[k0m0]
  instanceTypes := #[]
  staticTypes := #[]
  resolved := Array.replicate 124 none
  statics := none }

def pool1 : Array CpInfo := pool [(2, .class_ 4), (1, u "java/lang/Object"), (0, u "<init>"), (0, u "()V"), (0, .integer 1073741823), (0, .methodref 9 10), (0, .class_ 11), (0, .nameAndType 12 13), (0, u "com/example/quench/quench/AntTeam"), (0, u "desirability"), (0, u "(IDDDDZ)D"), (0, .methodref 15 16), (0, .class_ 17), (0, .nameAndType 18 19), (0, u "com/example/quench/quench/AntTeamDesirabilityPinLaw"), (0, u "expected"), (0, u "(IIIIIZ)D"), (2, u "law"), (0, u "(IIIIII)Z")] 3

def k1m0 : Method := { name := "<init>", desc := "()V", sig := { parameters := [], returnType := none }, accessFlags := 2, code := none }
def k1c1 : Code := { maxStack := 10, maxLocals := 18, code := code, exceptionTable := #[], attributes := #[] }
def k1m1 : Method := { name := "law", desc := "(IIIIII)Z", sig := { parameters := [.int, .int, .int, .int, .int, .int], returnType := some .boolean }, accessFlags := 9, code := some k1c1 }
def k1c2 : Code := { maxStack := 4, maxLocals := 10, code := method_3_code, exceptionTable := #[], attributes := #[] }
def k1m2 : Method := { name := "expected", desc := "(IIIIIZ)D", sig := { parameters := [.int, .int, .int, .int, .int, .boolean], returnType := some .double }, accessFlags := 10, code := some k1c2 }
/-- com/example/quench/quench/AntTeamDesirabilityPinLaw -/
def k1 : Class := { plain "com/example/quench/quench/AntTeamDesirabilityPinLaw" (some 0) with
  accessFlags := 49
  interfaces := #[]
  cf := some (fileOf pool1 15 #[] #[{ accessFlags := 2, nameIndex := 5, descriptorIndex := 6, attributes := #[] }, { accessFlags := 9, nameIndex := 22, descriptorIndex := 23, attributes := #[] }, { accessFlags := 10, nameIndex := 18, descriptorIndex := 19, attributes := #[] }] 49 2 #[] #[])
  fields := #[]
  methods := #[k1m0, k1m1, k1m2]
  instanceTypes := #[]
  staticTypes := #[]
  resolved := Array.replicate 27 none
  statics := none }

def pool2 : Array CpInfo := pool [(1, .class_ 2), (0, u "com/example/quench/quench/Simulation$Chooser"), (0, .class_ 4), (0, u "java/lang/Object"), (13, .class_ 19), (0, u "com/example/quench/quench/Simulation")] 2

/-- com/example/quench/quench/Simulation$Chooser -/
def k2 : Class := { plain "com/example/quench/quench/Simulation$Chooser" (some 0) with
  accessFlags := 1536
  interfaces := #[]
  cf := some (fileOf pool2 1 #[.nestHost 18] #[] 1536 3 #[] #[])
  fields := #[]
  methods := #[]
  instanceTypes := #[]
  staticTypes := #[]
  resolved := Array.replicate 22 none
  statics := none }

def pool3 : Array CpInfo := pool [(2, .class_ 4), (1, u "java/lang/Object"), (6, .class_ 13), (1, u "com/example/quench/quench/AntTeam"), (0, u "freed"), (0, u "Ljava/util/List;"), (2, u "pheromones"), (0, u "Lcom/example/quench/quench/Pheromones;"), (2, u "travel"), (0, u "Lcom/example/quench/quench/TravelTimes;"), (2, u "crowded"), (0, u "Z"), (2, u "random"), (0, u "Ljava/util/Random;"), (14, u "sentTo"), (0, u "[I"), (11, u "candidates"), (2, u "weights"), (0, u "[D"), (100, u "desirability"), (0, u "(IDDDDZ)D"), (31, .class_ 198), (0, u "com/example/quench/quench/Simulation$Chooser"), (0, u "CROWDING"), (0, u "D"), (1, u "SHORTEST_TRAVEL"), (0, u "NOWHERE"), (0, u "I")] 16

def k3c0 : Code := { maxStack := 4, maxLocals := 10, code := prog_3_method_6_code, exceptionTable := #[], attributes := #[] }
def k3m0 : Method := { name := "desirability", desc := "(IDDDDZ)D", sig := { parameters := [.int, .double, .double, .double, .double, .boolean], returnType := some .double }, accessFlags := 8, code := some k3c0 }
/-- com/example/quench/quench/AntTeam -/
def k3 : Class := { plain "com/example/quench/quench/AntTeam" (some 0) with
  accessFlags := 48
  interfaces := #[2]
  cf := some (fileOf pool3 11 #[] #[{ accessFlags := 8, nameIndex := 164, descriptorIndex := 165, attributes := #[] }] 48 2 #[197] #[{ accessFlags := 26, nameIndex := 199, descriptorIndex := 200, attributes := #[] }, { accessFlags := 26, nameIndex := 202, descriptorIndex := 200, attributes := #[] }, { accessFlags := 26, nameIndex := 203, descriptorIndex := 204, attributes := #[] }, { accessFlags := 18, nameIndex := 18, descriptorIndex := 19, attributes := #[] }, { accessFlags := 18, nameIndex := 22, descriptorIndex := 23, attributes := #[] }, { accessFlags := 18, nameIndex := 26, descriptorIndex := 27, attributes := #[] }, { accessFlags := 18, nameIndex := 30, descriptorIndex := 31, attributes := #[] }, { accessFlags := 18, nameIndex := 14, descriptorIndex := 15, attributes := #[] }, { accessFlags := 18, nameIndex := 46, descriptorIndex := 47, attributes := #[] }, { accessFlags := 18, nameIndex := 59, descriptorIndex := 47, attributes := #[] }, { accessFlags := 18, nameIndex := 62, descriptorIndex := 63, attributes := #[] }])
  fields := #[{ name := "CROWDING", type := .double, accessFlags := 26, slot := 0, constantValue := 0 }, { name := "SHORTEST_TRAVEL", type := .double, accessFlags := 26, slot := 1, constantValue := 0 }, { name := "NOWHERE", type := .int, accessFlags := 26, slot := 2, constantValue := 0 }, { name := "pheromones", type := (.object "com/example/quench/quench/Pheromones"), accessFlags := 18, slot := 0, constantValue := 0 }, { name := "travel", type := (.object "com/example/quench/quench/TravelTimes"), accessFlags := 18, slot := 1, constantValue := 0 }, { name := "crowded", type := .boolean, accessFlags := 18, slot := 2, constantValue := 0 }, { name := "random", type := (.object "java/util/Random"), accessFlags := 18, slot := 3, constantValue := 0 }, { name := "freed", type := (.object "java/util/List"), accessFlags := 18, slot := 4, constantValue := 0 }, { name := "sentTo", type := (.array .int), accessFlags := 18, slot := 5, constantValue := 0 }, { name := "candidates", type := (.array .int), accessFlags := 18, slot := 6, constantValue := 0 }, { name := "weights", type := (.array .double), accessFlags := 18, slot := 7, constantValue := 0 }]
  methods := #[k3m0]
  instanceTypes := #[(.object "com/example/quench/quench/Pheromones"), (.object "com/example/quench/quench/TravelTimes"), .boolean, (.object "java/util/Random"), (.object "java/util/List"), (.array .int), (.array .int), (.array .double)]
  staticTypes := #[.double, .double, .int]
  resolved := Array.replicate 221 none
  statics := none }

def pool4 : Array CpInfo := pool [(1, u "java/lang/Cloneable"), (0, .class_ 1), (0, u "java/lang/Object"), (0, .class_ 3)] 3

/-- java/lang/Cloneable -/
def k4 : Class := { plain "java/lang/Cloneable" (some 0) with
  accessFlags := 1537
  interfaces := #[]
  cf := some (fileOf pool4 2 #[] #[] 1537 4 #[] #[])
  fields := #[]
  methods := #[]
  instanceTypes := #[]
  staticTypes := #[]
  resolved := Array.replicate 8 none
  statics := none }

def pool5 : Array CpInfo := pool [(1, u "java/io/Serializable"), (0, .class_ 1), (0, u "java/lang/Object"), (0, .class_ 3)] 3

/-- java/io/Serializable -/
def k5 : Class := { plain "java/io/Serializable" (some 0) with
  accessFlags := 1537
  interfaces := #[]
  cf := some (fileOf pool5 2 #[] #[] 1537 4 #[] #[])
  fields := #[]
  methods := #[]
  instanceTypes := #[]
  staticTypes := #[]
  resolved := Array.replicate 8 none
  statics := none }

/-- the primitive byte -/
def k6 : Class := { plain "byte" none with kind := .primitive 'B', accessFlags := 0x411 }
/-- [B -/
def k7 : Class := { plain "[B" (some 0) with kind := .array 6 .byte, interfaces := #[4, 5], accessFlags := 1041 }

/-- the primitive int -/
def k8 : Class := { plain "int" none with kind := .primitive 'I', accessFlags := 0x411 }
/-- [I -/
def k9 : Class := { plain "[I" (some 0) with kind := .array 8 .int, interfaces := #[4, 5], accessFlags := 1041 }

def heap : Heap := #[]
def classes : Array Class := #[k0, k1, k2, k3, k4, k5, k6, k7, k8, k9]
def interned : List (Array UInt16 × Addr) := []
def slotsUsed : Nat := 0
def theMethod : MethodId := ⟨1, 1⟩
def args0 : Array Value := #[.int 5, .int 3, .int 7, .int 9, .int 6, .int 1]
def aboutOver (below : List Frame) : State where
  vm := { classes := classes, interned := interned.toArray }
  heap := heap
  slotsUsed := slotsUsed
  threads := #[{ frames := .invoking theMethod args0 :: below }]
def below0 : List Frame := [.native { method := ⟨0, 0⟩, args := #[] }]
def about1 : State := aboutOver below0
def p0 : Program := .bare "" "" ""
def e0 : Env := launch0.env 0 0 0
theorem w_frames : about1.frames = Frame.invoking theMethod args0 :: below0 := rfl
set_option maxRecDepth 65536 in
theorem w_args : argsFit about1.vm theMethod args0 = true := by decide +kernel
set_option maxRecDepth 65536 in
theorem w_heap : heapFits about1 = true := by decide +kernel
set_option maxRecDepth 65536 in
theorem w_runnable : about1.curStatus? = some .runnable := by decide +kernel
set_option maxRecDepth 65536 in
theorem w_alone : about1.alone = true := by decide +kernel
set_option maxRecDepth 65536 in
theorem w_named : about1.methodNamed? x = some theMethod := by decide +kernel
set_option maxRecDepth 65536 in
theorem w_hears : about1.hears theMethod below0 = true := by decide +kernel
set_option maxRecDepth 65536 in
theorem w_ripe : about1.ripe theMethod args0 below0 = true := by decide +kernel
theorem w_running : about1.status = .running := rfl
set_option maxRecDepth 65536 in
theorem w_room : about1.hasRoom e0.platform room_1 = true :=
  launch0.hasRoom_least _ room_1 (by decide +kernel) (by decide +kernel) (by decide +kernel) (by decide +kernel) (by decide +kernel) (by decide +kernel)
theorem allAtoms_all (ts : List Jvm.Cond) (a : Array Jvm.Value) (st : Jvm.State) : (allAtoms ts).before a st = ts.all (fun c => c.before a st) := by
  induction ts with
  | nil => rfl
  | cons c t ih =>
    show (Jvm.Cond.and c (allAtoms t)).before a st = _
    rw [Jvm.Cond.before_and, ih, List.all_cons]
def words1 : List Jvm.Cond := Jvm.Cond.code x code maxLocals ret :: tables_1
/-- a 'code' word, met by the world's own term for the bytes: nothing is compared byte by byte -/
theorem code_word {y : MethodName} {bytes : ByteArray} {mx : Nat} {rt : Option FieldType} {a : Array Value} {s : State} {m : MethodId} {meth : Method} {c : Code} (h1 : s.methodNamed? y = some m) (h2 : s.vm.method? m = some meth) (h3 : meth.code = some c) (h4 : c.code = bytes)
    (h5 : (c.maxLocals == mx && c.exceptionTable.isEmpty && decide (c.maxStack ≤ mostOperands) && decide (meth.sig.returnType = rt) && !meth.locks && decide (parseMethodDescriptor y.desc = some meth.sig)) = true) : (Jvm.Cond.code y bytes mx rt).before a s = true := by
  simp only [Bool.and_eq_true, beq_iff_eq, Bool.not_eq_true', decide_eq_true_eq] at h5
  obtain ⟨⟨⟨⟨⟨g1, g2⟩, g3⟩, g4⟩, g5⟩, g6⟩ := h5
  simp [Cond.before, Cond.holds, Cond.value, h1, h2, h3, h4, g1, g2, g3, g4, g5, g6]
def isCode : Jvm.Cond → Bool
  | .code _ _ _ _ => true
  | _ => false
theorem all_split {L : List Jvm.Cond} {P : Jvm.Cond → Bool} (h1 : L.all (fun c => isCode c || P c) = true) (h2 : ∀ c ∈ L.filter isCode, P c = true) : L.all P = true := by
  refine List.all_eq_true.mpr fun c hc => ?_
  have h := List.all_eq_true.mp h1 c hc
  rcases Bool.eq_false_or_eq_true (isCode c) with hi | hi
  · exact h2 c (List.mem_filter.mpr ⟨hc, hi⟩)
  · simpa [hi] using h
set_option maxRecDepth 65536 in
theorem w_c0 : (Jvm.Cond.code x code maxLocals ret).before args0 about1 = true := code_word (m := ⟨1, 1⟩) (meth := k1m1) (c := k1c1) (by decide +kernel) rfl rfl rfl (by decide +kernel)
set_option maxRecDepth 65536 in
theorem w_c1 : (Jvm.Cond.code ({ cls := "com/example/quench/quench/AntTeam", name := "desirability", desc := "(IDDDDZ)D" } : Jvm.MethodName) prog_3_method_6_code (10 : Nat) (Option.some Jvm.ClassFile.FieldType.double)).before args0 about1 = true := code_word (m := ⟨3, 0⟩) (meth := k3m0) (c := k3c0) (by decide +kernel) rfl rfl rfl (by decide +kernel)
set_option maxRecDepth 65536 in
theorem w_c2 : (Jvm.Cond.code ({ cls := "com/example/quench/quench/AntTeamDesirabilityPinLaw", name := "expected", desc := "(IIIIIZ)D" } : Jvm.MethodName) method_3_code (10 : Nat) (Option.some Jvm.ClassFile.FieldType.double)).before args0 about1 = true := code_word (m := ⟨1, 2⟩) (meth := k1m2) (c := k1c2) (by decide +kernel) rfl rfl rfl (by decide +kernel)
def codes1 : List Jvm.Cond := [Jvm.Cond.code x code maxLocals ret, Jvm.Cond.code ({ cls := "com/example/quench/quench/AntTeam", name := "desirability", desc := "(IDDDDZ)D" } : Jvm.MethodName) prog_3_method_6_code (10 : Nat) (Option.some Jvm.ClassFile.FieldType.double), Jvm.Cond.code ({ cls := "com/example/quench/quench/AntTeamDesirabilityPinLaw", name := "expected", desc := "(IIIIIZ)D" } : Jvm.MethodName) method_3_code (10 : Nat) (Option.some Jvm.ClassFile.FieldType.double)]
set_option maxRecDepth 65536 in
theorem codes_eq : words1.filter isCode = codes1 := rfl
theorem w_codes : ∀ c ∈ words1.filter isCode, c.before args0 about1 = true := by
  rw [codes_eq]
  intro c hc
  simp only [codes1, List.mem_cons, List.not_mem_nil, or_false] at hc
  rcases hc with rfl | rfl | rfl
  · exact w_c0
  · exact w_c1
  · exact w_c2
set_option maxRecDepth 65536 in
theorem w_t1 : words1.all (fun c => isCode c || c.before args0 about1) = true := by decide +kernel
theorem w_tables : (allAtoms (Jvm.Cond.code x code maxLocals ret :: tables_1)).before args0 about1 = true := by
  rw [allAtoms_all]
  show words1.all (fun c => c.before args0 about1) = true
  refine all_split ?_ w_codes
  rw [w_t1]
set_option maxRecDepth 65536 in
theorem w_case : (Jvm.Cond.and given_1 narrow_1).before args0 about1 = true := by decide +kernel
theorem w_applies : (headSpec (Jvm.Cond.code x code maxLocals ret :: tables_1) room_1).applies x e0.platform about1 = true :=
  (Spec.applies_iff w_frames).mpr ⟨w_running, w_runnable, w_alone, w_named, w_hears, w_ripe, w_room, w_tables⟩
theorem atStart : AtStart classFile x code maxLocals ret World_1 tables_1 room_1 Calls_1 rest_1 Pre_1 launch0 p0 e0 about1 theMethod args0 below0 :=
  ⟨lists_1, trivial, launch0.admits_env _ _ _, launch0.least_env, fairChoices_fair.cas, fairChoices_fair.clock, w_frames, w_args, w_heap, w_applies, trivial, trivial, w_case⟩
end start1
theorem witness_1 : WitnessClaimed_1 := ⟨start1.p0, start1.e0, start1.about1, start1.theMethod, start1.args0, start1.below0, start1.atStart⟩
end Jvm.Pilot.@@N@@
