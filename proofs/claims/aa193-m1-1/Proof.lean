import JvmDerived
import JvmDerived.Pilot.@@N@@Statement
import JvmDerived.Pilot.@@N@@Code
set_option linter.unusedVariables false
set_option linter.unusedSimpArgs false
namespace Jvm.OwnGo
open Jvm Jvm.ClassFile Sem Op Lib Jvm.Free Jvm.Stand Jvm.LawKit Jvm.RoadKit
section Own
variable {p : Program} {l : Launch} {e : Env} {R : Room} {s : State} {m : MethodId} {args : Array Value} {below : List Frame} {meth : Method} {c : Code} {T T' : State} {locs : List Loc} {cells slots : Nat} {Z : State} {a0 : Array Value} {h : Heap} {g g' : JFrame} {P : Outcome → State → Prop}
/-- the run goes on from T with the frame g on top and comes to an end at which P holds -/
def Go (p : Program) (e : Env) (below : List Frame) (P : Outcome → State → Prop) (T : State) (g : JFrame) : Prop := ∃ t o, Steps p.tables e below (T.setTop g) t ∧ t.status = .running ∧ Ended t below o ∧ P o t
theorem Go.of (g' : JFrame) (st : ∀ t, Steps p.tables e below (T'.setTop g') t → Steps p.tables e below (T.setTop g) t) (k : Go p e below P T' g') : Go p e below P T g := by
  obtain ⟨t, o, h1, h2⟩ := k; exact ⟨t, o, st t h1, h2⟩
theorem Go.via (g' : JFrame) (st : Steps p.tables e below (T.setTop g) (T'.setTop g')) (k : Go p e below P T' g') : Go p e below P T g := by
  obtain ⟨t, o, h1, h2⟩ := k; exact ⟨t, o, st.trans h1, h2⟩
theorem Go.cast (q : g = g') (k : Go p e below P T g') : Go p e below P T g := q ▸ k
abbrev EndP (s : State) (rm : Room) (Q : Option Value → Heap → List Loc → Prop) : Outcome → State → Prop := fun o U' => ∃ v L, o = .returned v ∧ Q v U'.heap L ∧ FrameEnd s o U' L rm.cells rm.slots
def Met (l : Launch) (Z : State) (y : MethodName) (bytes : ByteArray) (maxL : Nat) (ret : Option FieldType) (ws : List Cond) (rm : Room) (as' : Array Value) (h0 : Heap) (Q : Option Value → Heap → List Loc → Prop) : Prop :=
  MetFree l y (head1 (Cond.code y bytes maxL ret :: ws) rm) (fun a U => a = as' ∧ Z.Warmed39 U.vm ∧ U.heap = h0) (fun _ _ _ _ _ => True) (fun _ U o U' => ∃ v L, o = .returned v ∧ Q v U'.heap L ∧ FrameEnd U o U' L rm.cells rm.slots)
variable {y : MethodName} {bytes : ByteArray} {maxL : Nat} {ret : Option FieldType} {ws : List Cond} {rm : Room} {as' : Array Value} {h0 : Heap} {Q : Option Value → Heap → List Loc → Prop}
theorem Met.intro (hpl : plainFor y = true)
    (body : ∀ p e s m below meth c s₁, Stand p l e rm s m as' below meth c s₁ [] 0 0 → p.tables.exec = Jvm.exec → Z.Warmed39 s.vm → s.vm.findClass y.cls = some m.cls → c.code = bytes → c.maxLocals = maxL →
      meth.sig.returnType = ret → meth.locks = false → meth.name = y.name → s₁.heap = h0 → Go p e below (EndP s rm Q) s₁ (entryFrame m as' maxL)) : Met l Z y bytes maxL ret ws rm as' h0 Q := by
  refine MetFree.of_bodySF hpl hisR ?_
  intro p e s m args below meth c s₁ Bd hml0 hP hK
  obtain ⟨rfl, hZ, hh⟩ := hP
  exact body p e s m below meth c s₁ (Stand.of_body Bd) Bd.exec hZ (findClass_of_methodNamed Bd.named) Bd.bytes hml0 Bd.returns Bd.notSynchronized (name_of_methodNamed Bd.named Bd.method).1 (by rw [← hh, Bd.state]; rfl)
theorem Met.mono {Q' : Option Value → Heap → List Loc → Prop} (h : Met l Z y bytes maxL ret ws rm as' h0 Q) (q : ∀ v h L, Q v h L → Q' v h L) : Met l Z y bytes maxL ret ws rm as' h0 Q' := by
  intro p e ha hc hk s m args below hf happ hP hK
  obtain ⟨n, o, h1, h2, h3, v, L, h4, h5, h6⟩ := h p e ha hc hk s m args below hf happ hP hK
  exact ⟨n, o, h1, h2, h3, v, L, h4, q _ _ _ h5, h6⟩
theorem Go.fin (X : Stand p l e R s m args below meth c T locs cells slots) {v : Option Value} (hv : meth.sig.returnType = none → v = none) (hlk : meth.locks = false) (hc : cells ≤ rm.cells) (hs : slots ≤ rm.slots)
    (st : ∀ fs, (∀ (f : JFrame) (acts : List Action), f.method = m → f.locked = none → f.entered = [] → (doReturn e (T.setTop f) acts v).1 = T.setFrames fs) → Steps p.tables e below (T.setTop g) (T.setFrames fs)) (hQ : Q v T.heap locs) : Go p e below (EndP s rm Q) T g := by
  obtain ⟨fs, hr, hrun, hended, hW, hsame⟩ := X.leave (v := v) hv hlk
  exact ⟨_, _, st fs hr, hrun, hended, v, locs, rfl, hQ, ⟨v, rfl⟩, hW, hsame.mono hc hs⟩
/-- a value is returned -/
theorem Go.retW (X : Stand p l e R s m args below meth c T locs cells slots) (hx : p.tables.exec = Jvm.exec) {pc : Nat} {Ls : Array Slot} {w : Value} {t : FieldType} {i : Instr} {rest : List Value} (hret : meth.sig.returnType = some t) (hlk : meth.locks = false) (hn : narrow t w = w)
    (hi : (i = .ireturn ∧ (t = .int ∨ t = .boolean ∨ t = .byte ∨ t = .char ∨ t = .short) ∧ ∃ z, w = .int z) ∨ (i = .lreturn ∧ t = .long ∧ ∃ z, w = .long z) ∨ (i = .dreturn ∧ t = .double ∧ ∃ z, w = .double z) ∨ (i = .freturn ∧ t = .float ∧ ∃ z, w = .float z) ∨ (i = .areturn ∧ t.isReference = true ∧ w.isRef = true))
    (hd : decode c.code pc = .ok (i, 1)) (hc : cells ≤ rm.cells) (hs : slots ≤ rm.slots) (hQ : Q (some w) T.heap locs) : Go p e below (EndP s rm Q) T (mkF m pc Ls (w :: rest)) :=
  Go.fin X (fun q => by rw [hret] at q; cases q) hlk hc hs (fun fs hr => retOut X hx hret hn hi hd hr) hQ
/-- nothing is returned -/
theorem Go.retV (X : Stand p l e R s m args below meth c T locs cells slots) (hx : p.tables.exec = Jvm.exec) {pc : Nat} {Ls : Array Slot} (hret : meth.sig.returnType = none) (hlk : meth.locks = false)
    (hd : decode c.code pc = .ok (.return_, 1)) (hc : cells ≤ rm.cells) (hs : slots ≤ rm.slots) (hQ : Q none T.heap locs) : Go p e below (EndP s rm Q) T (mkF m pc Ls []) :=
  Go.fin X (fun _ => rfl) hlk hc hs (fun fs hr => X.returnOut hx hret hd hr) hQ
theorem ri_int {z : Int32} {t : FieldType} (ht : t = .int ∨ t = .boolean ∨ t = .byte ∨ t = .char ∨ t = .short) : ((.ireturn : Instr) = .ireturn ∧ (t = .int ∨ t = .boolean ∨ t = .byte ∨ t = .char ∨ t = .short) ∧ ∃ z', (Value.int z) = .int z') ∨ ((.ireturn : Instr) = .lreturn ∧ t = .long ∧ ∃ z', (Value.int z) = .long z') ∨ ((.ireturn : Instr) = .dreturn ∧ t = .double ∧ ∃ z', (Value.int z) = .double z') ∨ ((.ireturn : Instr) = .freturn ∧ t = .float ∧ ∃ z', (Value.int z) = .float z') ∨ ((.ireturn : Instr) = .areturn ∧ t.isReference = true ∧ (Value.int z).isRef = true) := Or.inl ⟨rfl, ht, z, rfl⟩
/-- a static call, by the callee's contract -/
theorem Go.callS (X : Stand p l e R s m args below meth c T locs cells slots) (hx : p.tables.exec = Jvm.exec) (hZ : Z.Warmed39 s.vm) {own : String} {index W : Nat} {argsL rest : List Value} (hown : s.vm.findClass own = some m.cls)
    (w1 : (Cond.methodLink own index y).before a0 Z = true) (w2 : (Cond.static y).before a0 Z = true) (w3 : (Cond.initialized y.cls).before a0 Z = true) (w4 : (Cond.code y bytes maxL ret).before a0 Z = true)
    (hy : y.cls ≠ "java/lang/invoke/MethodHandle" ∧ y.cls ≠ "java/lang/invoke/VarHandle") (eT : T.heap = h) (hM : Met l Z y bytes maxL ret [] rm argsL.toArray h Q)
    (hg : g.method = m) (hsize : g.locals.size = c.maxLocals) (hlen : ∀ sig, parseMethodDescriptor y.desc = some sig → argsL.length = sig.parameters.length) (hs : g.stack = argsL.reverse ++ rest)
    (hW : 2 * g.monitorRoom + (rest.map fun v => v.category).sum ≤ W) (hd : decode c.code g.pc = .ok (.invokestatic index, 3)) (hf : rm.frames + 1 ≤ R.frames) (hl : W + (maxL + 11) + rm.locals ≤ R.locals) (hc : cells + rm.cells ≤ R.cells) (hsl : slots + rm.slots ≤ R.slots)
    (k : ∀ T' L v, Stand p l e R s m args below meth c T' (locs ++ L) (cells + rm.cells) (slots + rm.slots) → Q v T'.heap L → Go p e below P T' { g with pc := g.pc + 3, stack := v.toList ++ rest }) : Go p e below P T g := by
  obtain ⟨v, _, ⟨U, L, q1, q2⟩, -, X', ⟨Lc, hQ, l1, l2, l3⟩, st⟩ := Jvm.LawKit.callS X hx (y := y) hown (mvT hZ w1) (mvT hZ w2) (mvT hZ w3) (mvT hZ w4) hy (backOf (W := W) hM hZ w4 w3 hf hl) hg hsize hlen hs hW hd (fun _ _ => ⟨rfl, eT, hc, hsl⟩)
  dsimp only [Pt.U, Pt.locs, Pt.cells, Pt.slots] at X' l1 l2 l3 st hQ
  subst l1 l2 l3
  exact Go.of _ st (k _ _ _ X' hQ)
/-- a constructor, by its contract -/
theorem Go.init (X : Stand p l e R s m args below meth c T locs cells slots) (hx : p.tables.exec = Jvm.exec) (hZ : Z.Warmed39 s.vm) {own : String} {index W : Nat} {a : Addr} {argsL rest : List Value} (hown : s.vm.findClass own = some m.cls) (hy1 : y.name = "<init>")
    (w1 : (Cond.methodLink own index y).before a0 Z = true) (w2 : (Cond.instanceMethod y).before a0 Z = true) (w3 : (Cond.initialized y.cls).before a0 Z = true) (w4 : (Cond.code y bytes maxL none).before a0 Z = true)
    (hy : y.cls ≠ "java/lang/invoke/MethodHandle" ∧ y.cls ≠ "java/lang/invoke/VarHandle") (eT : T.heap = h) (hM : Met l Z y bytes maxL none [] rm (.ref a :: argsL).toArray h Q)
    (hg : g.method = m) (hsize : g.locals.size = c.maxLocals) (hlen : ∀ sig, parseMethodDescriptor y.desc = some sig → argsL.length = sig.parameters.length) (hs : g.stack = argsL.reverse ++ .ref a :: rest)
    (hW : 2 * g.monitorRoom + (rest.map fun v => v.category).sum ≤ W) (hd : decode c.code g.pc = .ok (.invokespecial index, 3)) (hf : rm.frames + 1 ≤ R.frames) (hl : W + (maxL + 11) + rm.locals ≤ R.locals) (hc : cells + rm.cells ≤ R.cells) (hsl : slots + rm.slots ≤ R.slots)
    (k : ∀ T' L v, Stand p l e R s m args below meth c T' (locs ++ L) (cells + rm.cells) (slots + rm.slots) → Q v T'.heap L → Go p e below P T' { g with pc := g.pc + 3, stack := v.toList ++ rest }) : Go p e below P T g := by
  obtain ⟨v, _, ⟨U, L, q1, q2⟩, -, X', ⟨Lc, hQ, l1, l2, l3⟩, st⟩ := X.specialBack hx (y := y) hy1 hown (mvT hZ w1) (mvT hZ w2) (mvT hZ w4) hy (backOf (W := W) hM hZ w4 w3 hf hl) hg hsize (Steps.refl _) hlen hs hW hd (fun _ _ => ⟨rfl, eT, hc, hsl⟩)
  dsimp only [Pt.U, Pt.locs, Pt.cells, Pt.slots] at X' l1 l2 l3 st hQ
  subst l1 l2 l3
  exact Go.via _ st (k _ _ _ X' hQ)
/-- an instance method, by the contract of the method that the receiver's class selects -/
theorem Go.virt (X : Stand p l e R s m args below meth c T locs cells slots) (hx : p.tables.exec = Jvm.exec) (hZ : Z.Warmed39 s.vm) {own C : String} {z : MethodName} {index W : Nat} {a : Addr} {argsL rest : List Value} (hown : s.vm.findClass own = some m.cls)
    (w1 : (Cond.methodLink own index z).before a0 Z = true) (w2 : (Cond.declares z).before a0 Z = true) (nf : NotFace s z) (w5 : (Cond.selects C z y).before a0 Z = true) (w6 : (Cond.instanceMethod y).before a0 Z = true) (w3 : (Cond.initialized y.cls).before a0 Z = true) (w4 : (Cond.code y bytes maxL ret).before a0 Z = true)
    (hy : z.cls ≠ "java/lang/invoke/MethodHandle" ∧ z.cls ≠ "java/lang/invoke/VarHandle") (eT : T.heap = h) (E : Exa Z h a C) (hM : Met l Z y bytes maxL ret [] rm (.ref a :: argsL).toArray h Q)
    (hg : g.method = m) (hsize : g.locals.size = c.maxLocals) (hlen : ∀ sig, parseMethodDescriptor z.desc = some sig → argsL.length = sig.parameters.length) (hs : g.stack = argsL.reverse ++ .ref a :: rest)
    (hW : 2 * g.monitorRoom + (rest.map fun v => v.category).sum ≤ W) (hd : decode c.code g.pc = .ok (.invokevirtual index, 3)) (hf : rm.frames + 1 ≤ R.frames) (hl : W + (maxL + 11) + rm.locals ≤ R.locals) (hc : cells + rm.cells ≤ R.cells) (hsl : slots + rm.slots ≤ R.slots)
    (k : ∀ T' L v, Stand p l e R s m args below meth c T' (locs ++ L) (cells + rm.cells) (slots + rm.slots) → Q v T'.heap L → Go p e below P T' { g with pc := g.pc + 3, stack := v.toList ++ rest }) : Go p e below P T g := by
  obtain ⟨cq, kq, qa, qb, qc⟩ := isOf hZ eT E
  obtain ⟨v, _, ⟨U, L, q1, q2⟩, -, X', ⟨Lc, hQ, l1, l2, l3⟩, st⟩ := X.virtualBack hx (y := z) (z := y) hown (mvT hZ w1) (mvT hZ w2) nf (mvT hZ w5) (mvT hZ w6) hy (backOf (W := W) hM hZ w4 w3 hf hl) qa qc hg hsize (Steps.refl _) hlen hs hW hd (fun _ _ => ⟨rfl, eT, hc, hsl⟩)
  dsimp only [Pt.U, Pt.locs, Pt.cells, Pt.slots] at X' l1 l2 l3 st hQ
  subst l1 l2 l3
  exact Go.via _ st (k _ _ _ X' hQ)
/-- a private method (invokevirtual) -/
theorem Go.priv (X : Stand p l e R s m args below meth c T locs cells slots) (hx : p.tables.exec = Jvm.exec) (hZ : Z.Warmed39 s.vm) {own C : String} {index W : Nat} {a : Addr} {argsL rest : List Value} (hown : s.vm.findClass own = some m.cls)
    (w1 : (Cond.methodLink own index y).before a0 Z = true) (w6 : (Cond.instanceMethod y).before a0 Z = true) (w5 : (Cond.selects y.cls y y).before a0 Z = true) (w7 : (Cond.privateMethod y).before a0 Z = true) (w3 : (Cond.initialized y.cls).before a0 Z = true) (w4 : (Cond.code y bytes maxL ret).before a0 Z = true)
    (hy : y.cls ≠ "java/lang/invoke/MethodHandle" ∧ y.cls ≠ "java/lang/invoke/VarHandle") (eT : T.heap = h) (E : Exa Z h a C) (hM : Met l Z y bytes maxL ret [] rm (.ref a :: argsL).toArray h Q)
    (hg : g.method = m) (hsize : g.locals.size = c.maxLocals) (hlen : ∀ sig, parseMethodDescriptor y.desc = some sig → argsL.length = sig.parameters.length) (hs : g.stack = argsL.reverse ++ .ref a :: rest)
    (hW : 2 * g.monitorRoom + (rest.map fun v => v.category).sum ≤ W) (hd : decode c.code g.pc = .ok (.invokevirtual index, 3)) (hf : rm.frames + 1 ≤ R.frames) (hl : W + (maxL + 11) + rm.locals ≤ R.locals) (hc : cells + rm.cells ≤ R.cells) (hsl : slots + rm.slots ≤ R.slots)
    (k : ∀ T' L v, Stand p l e R s m args below meth c T' (locs ++ L) (cells + rm.cells) (slots + rm.slots) → Q v T'.heap L → Go p e below P T' { g with pc := g.pc + 3, stack := v.toList ++ rest }) : Go p e below P T g := by
  obtain ⟨cq, q, q'⟩ := E.cell
  obtain ⟨v, _, ⟨U, L, q1, q2⟩, -, X', ⟨Lc, hQ, l1, l2, l3⟩, st⟩ := X.privateBack hx (y := y) hown (mvT hZ w1) (mvT hZ w6) (mvT hZ w5) (Cond.privateMethod_at (mvP hZ w7 (args := #[]))) (mvT hZ w4) hy (backOf (W := W) hM hZ w4 w3 hf hl) hg hsize (Steps.refl _) (a := a) (by rw [eT]; exact q) q' hlen hs hW hd (fun _ _ => ⟨rfl, eT, hc, hsl⟩)
  dsimp only [Pt.U, Pt.locs, Pt.cells, Pt.slots] at X' l1 l2 l3 st hQ
  subst l1 l2 l3
  exact Go.via _ st (k _ _ _ X' hQ)
/-! arrays by a function of the place -/
def upd {α : Type} (y : Int32 → α) (j : Int32) (v : α) : Int32 → α := fun i => if i = j then v else y i
theorem upd_same {α : Type} (y : Int32 → α) (j : Int32) (v : α) : upd y j v j = v := if_pos rfl
theorem upd_ne {α : Type} {y : Int32 → α} {i j : Int32} {v : α} (h : ¬ i = j) : upd y j v i = y i := if_neg h
def Fa (Z : State) (h : Heap) (a : Addr) (ty : FieldType) (n : Int32) (y : Int32 → Value) : Prop :=
  ∃ c : Cell, Arr Z h a c ty ∧ c.slots.size = n.toNatClampNeg ∧ ¬ n < 0 ∧ ∀ j : Int32, ¬ j < 0 → j < n → c.slots[j.toNatClampNeg]? = some (y j) ∧ fits ty (y j) = true
variable {a b : Addr} {ty : FieldType} {n : Int32} {yv : Int32 → Value} {h' : Heap} {j : Int32} {v : Value} {sl : Nat} {hws : List Addr}
theorem Fa.lt (F : Fa Z h a ty n yv) : a < h.size := by obtain ⟨c, A, -⟩ := F; exact A.lt
theorem Fa.ext (F : Fa Z h a ty n yv) (E : Ext h h') : Fa Z h' a ty n yv := by obtain ⟨c, A, r⟩ := F; exact ⟨c, A.ext E, r⟩
theorem Fa.other (F : Fa Z h b ty n yv) (W : Wr h h' a sl v) (q : b ≠ a) : Fa Z h' b ty n yv := by obtain ⟨c, A, r⟩ := F; exact ⟨c, A.other W q, r⟩
theorem Fa.keep (F : Fa Z h a ty n yv) (K : Keep h h' hws) (q : a ∉ hws) : Fa Z h' a ty n yv := by obtain ⟨c, A, r⟩ := F; exact ⟨c, ⟨K.2.1 a c A.1 q, A.2⟩, r⟩
theorem Fa.new {k : ClassId} (A : Arr Z h a (newA k ty n) ty) (q : ¬ n < 0) : Fa Z h a ty n (fun _ => defaultValue ty) :=
  ⟨_, A, sz_new _ _ _, q, fun i h0 h1 => ⟨get_new (by have := inb_of (c := newA k ty n) (sz_new k ty n) ⟨h0, h1⟩; rwa [sz_new] at this), by cases ty <;> rfl⟩⟩
theorem Fa.set (F : Fa Z h a ty n yv) (W : Wr h h' a j.toNatClampNeg v) (hj : ¬ j < 0) (hv : fits ty v = true) : Fa Z h' a ty n (upd yv j v) := by
  obtain ⟨c, A, S, M, H⟩ := F
  refine ⟨c.setSlot j.toNatClampNeg v, A.same W, by rw [sz_set]; exact S, M, fun i h0 h1 => ?_⟩
  by_cases e : i = j
  · subst e; rw [upd_same]; exact ⟨get_hit (inb_of S ⟨h0, h1⟩) rfl, hv⟩
  · rw [upd_ne e, get_miss hj h0 e]; exact H i h0 h1
theorem Fa.congr {yw : Int32 → Value} (F : Fa Z h a ty n yv) (q : ∀ j, ¬ j < 0 → j < n → yw j = yv j) : Fa Z h a ty n yw := by
  obtain ⟨c, A, S, M, H⟩ := F
  exact ⟨c, A, S, M, fun j h0 h1 => by rw [q j h0 h1]; exact H j h0 h1⟩
theorem Fa.pos (F : Fa Z h a ty n yv) : ¬ n < 0 := by obtain ⟨c, A, S, M, H⟩ := F; exact M
theorem Fa.ofArv {k : ClassId} {vs : List Value} {dv : Value} (F : Arv Z h a k ty n vs dv) : Fa Z h a ty n (fun j => vs.getD j.toNatClampNeg dv) := by
  obtain ⟨c, A, q1, S, M, H, G⟩ := F
  exact ⟨c, A, S, M, fun j h0 h1 => by
    have q : j.toNatClampNeg < c.slots.size := Nat.lt_of_not_le fun z => inb_of S ⟨h0, h1⟩ (Or.inr z)
    exact ⟨H _ q, G _ q⟩⟩
theorem upd_int (y : Int32 → Int32) (j x : Int32) : upd (fun i => Value.int (y i)) j (.int x) = fun i => Value.int (upd y j x i) := by funext i; unfold upd; split <;> rfl
theorem upd_long (y : Int32 → Int64) (j : Int32) (x : Int64) : upd (fun i => Value.long (y i)) j (.long x) = fun i => Value.long (upd y j x i) := by funext i; unfold upd; split <;> rfl
theorem upd_dbl (y : Int32 → UInt64) (j : Int32) (x : UInt64) : upd (fun i => Value.double (y i)) j (.double x) = fun i => Value.double (upd y j x i) := by funext i; unfold upd; split <;> rfl
variable {rest : List Value}
theorem Go.arraylength (X : Stand p l e R s m args below meth c T locs cells slots) (hx : p.tables.exec = Jvm.exec) (hZ : Z.Warmed39 s.vm) (eT : T.heap = h) (F : Fa Z h a ty n yv) (hg : g.method = m) (hs : g.stack = .ref a :: rest) (hd : decode c.code g.pc = .ok (.arraylength, 1))
    (k : Go p e below P T { g with pc := g.pc + 1, stack := .int n :: rest }) : Go p e below P T g := by
  obtain ⟨cl, A, S, M, H⟩ := F
  refine Go.of _ (fun t k => X.arraylength hx (by rw [eT]; exact A.1) (State.isArrayOf_alike hZ.alike A.2.1) hg hs hd _ k) ?_
  rw [len_of S M]; exact k
theorem Go.iaload (X : Stand p l e R s m args below meth c T locs cells slots) (hx : p.tables.exec = Jvm.exec) (hZ : Z.Warmed39 s.vm) (eT : T.heap = h) {y : Int32 → Int32} (F : Fa Z h a .int n (fun i => .int (y i))) (h0 : ¬ j < 0) (h1 : j < n) (hg : g.method = m) (hs : g.stack = .int j :: .ref a :: rest) (hd : decode c.code g.pc = .ok (.iaload, 1))
    (k : Go p e below P T { g with pc := g.pc + 1, stack := .int (y j) :: rest }) : Go p e below P T g := by
  obtain ⟨cl, A, S, M, H⟩ := F
  exact Go.of _ (fun t k => X.iaload hx (by rw [eT]; exact A.1) (State.isArrayOf_alike hZ.alike A.2.1) A.2.2 (inb_of S ⟨h0, h1⟩) (H j h0 h1).1 hg hs hd _ k) k
theorem Go.caload (X : Stand p l e R s m args below meth c T locs cells slots) (hx : p.tables.exec = Jvm.exec) (hZ : Z.Warmed39 s.vm) (eT : T.heap = h) {y : Int32 → Int32} (F : Fa Z h a .char n (fun i => .int (y i))) (h0 : ¬ j < 0) (h1 : j < n) (hg : g.method = m) (hs : g.stack = .int j :: .ref a :: rest) (hd : decode c.code g.pc = .ok (.caload, 1))
    (k : Go p e below P T { g with pc := g.pc + 1, stack := .int (y j) :: rest }) : Go p e below P T g := by
  obtain ⟨cl, A, S, M, H⟩ := F
  exact Go.of _ (fun t k => X.caload hx (by rw [eT]; exact A.1) (State.isArrayOf_alike hZ.alike A.2.1) A.2.2 (inb_of S ⟨h0, h1⟩) (H j h0 h1).1 hg hs hd _ k) k
theorem Go.saload (X : Stand p l e R s m args below meth c T locs cells slots) (hx : p.tables.exec = Jvm.exec) (hZ : Z.Warmed39 s.vm) (eT : T.heap = h) {y : Int32 → Int32} (F : Fa Z h a .short n (fun i => .int (y i))) (h0 : ¬ j < 0) (h1 : j < n) (hg : g.method = m) (hs : g.stack = .int j :: .ref a :: rest) (hd : decode c.code g.pc = .ok (.saload, 1))
    (k : Go p e below P T { g with pc := g.pc + 1, stack := .int (y j) :: rest }) : Go p e below P T g := by
  obtain ⟨cl, A, S, M, H⟩ := F
  exact Go.of _ (fun t k => X.saload hx (by rw [eT]; exact A.1) (State.isArrayOf_alike hZ.alike A.2.1) A.2.2 (inb_of S ⟨h0, h1⟩) (H j h0 h1).1 hg hs hd _ k) k
theorem Go.baload (X : Stand p l e R s m args below meth c T locs cells slots) (hx : p.tables.exec = Jvm.exec) (hZ : Z.Warmed39 s.vm) (eT : T.heap = h) {y : Int32 → Int32} (F : Fa Z h a .byte n (fun i => .int (y i))) (h0 : ¬ j < 0) (h1 : j < n) (hg : g.method = m) (hs : g.stack = .int j :: .ref a :: rest) (hd : decode c.code g.pc = .ok (.baload, 1))
    (k : Go p e below P T { g with pc := g.pc + 1, stack := .int (y j) :: rest }) : Go p e below P T g := by
  obtain ⟨cl, A, S, M, H⟩ := F
  exact Go.of _ (fun t k => X.baloadBytes hx (by rw [eT]; exact A.1) (State.isArrayOf_alike hZ.alike A.2.1) A.2.2 (inb_of S ⟨h0, h1⟩) (H j h0 h1).1 hg hs hd _ k) k
theorem Go.zaload (X : Stand p l e R s m args below meth c T locs cells slots) (hx : p.tables.exec = Jvm.exec) (hZ : Z.Warmed39 s.vm) (eT : T.heap = h) {y : Int32 → Int32} (F : Fa Z h a .boolean n (fun i => .int (y i))) (h0 : ¬ j < 0) (h1 : j < n) (hg : g.method = m) (hs : g.stack = .int j :: .ref a :: rest) (hd : decode c.code g.pc = .ok (.baload, 1))
    (k : Go p e below P T { g with pc := g.pc + 1, stack := .int (y j) :: rest }) : Go p e below P T g := by
  obtain ⟨cl, A, S, M, H⟩ := F
  exact Go.of _ (fun t k => X.baloadBooleans hx (by rw [eT]; exact A.1) (State.isArrayOf_alike hZ.alike A.2.1) A.2.2 (inb_of S ⟨h0, h1⟩) (H j h0 h1).1 hg hs hd _ k) k
theorem Go.laload (X : Stand p l e R s m args below meth c T locs cells slots) (hx : p.tables.exec = Jvm.exec) (hZ : Z.Warmed39 s.vm) (eT : T.heap = h) {y : Int32 → Int64} (F : Fa Z h a .long n (fun i => .long (y i))) (h0 : ¬ j < 0) (h1 : j < n) (hg : g.method = m) (hs : g.stack = .int j :: .ref a :: rest) (hd : decode c.code g.pc = .ok (.laload, 1))
    (k : Go p e below P T { g with pc := g.pc + 1, stack := .long (y j) :: rest }) : Go p e below P T g := by
  obtain ⟨cl, A, S, M, H⟩ := F
  exact Go.of _ (fun t k => X.laload hx (by rw [eT]; exact A.1) (State.isArrayOf_alike hZ.alike A.2.1) A.2.2 (inb_of S ⟨h0, h1⟩) (H j h0 h1).1 hg hs hd _ k) k
theorem Go.aaload (X : Stand p l e R s m args below meth c T locs cells slots) (hx : p.tables.exec = Jvm.exec) (hZ : Z.Warmed39 s.vm) (eT : T.heap = h) (F : Fa Z h a ty n yv) (hty : ty.isReference = true) (h0 : ¬ j < 0) (h1 : j < n) (hg : g.method = m) (hs : g.stack = .int j :: .ref a :: rest) (hd : decode c.code g.pc = .ok (.aaload, 1))
    (k : Go p e below P T { g with pc := g.pc + 1, stack := yv j :: rest }) : Go p e below P T g := by
  obtain ⟨cl, A, S, M, H⟩ := F
  exact Go.of _ (fun t k => X.aaload hx (by rw [eT]; exact A.1) (State.isArrayOf_alike hZ.alike A.2.1) hty A.2.2 (inb_of S ⟨h0, h1⟩) (H j h0 h1).1 hg hs hd _ k) k
theorem Go.iastore (X : Stand p l e R s m args below meth c T locs cells slots) (hx : p.tables.exec = Jvm.exec) (hZ : Z.Warmed39 s.vm) (eT : T.heap = h) {y : Int32 → Int32} {x : Int32} (F : Fa Z h a .int n (fun i => .int (y i))) (h0 : ¬ j < 0) (h1 : j < n) (hg : g.method = m) (hs : g.stack = .int x :: .int j :: .ref a :: rest) (hd : decode c.code g.pc = .ok (.iastore, 1))
    (k : ∀ T' h', Stand p l e R s m args below meth c T' (locs ++ [⟨a, j.toNatClampNeg⟩]) cells slots → T'.heap = h' → Wr h h' a j.toNatClampNeg (.int x) → Fa Z h' a .int n (fun i => .int (upd y j x i)) → Go p e below P T' { g with pc := g.pc + 1, stack := rest }) : Go p e below P T g := by
  obtain ⟨cl, A, S, M, H⟩ := id F
  obtain ⟨T', h', X', e', W, st⟩ := stI X hx hZ eT A (inb_of S ⟨h0, h1⟩) hg hs hd
  exact Go.of _ st (k _ _ X' e' W (by have := F.set W h0 rfl; rwa [upd_int] at this))
theorem Go.castore (X : Stand p l e R s m args below meth c T locs cells slots) (hx : p.tables.exec = Jvm.exec) (hZ : Z.Warmed39 s.vm) (eT : T.heap = h) {y : Int32 → Int32} {x : Int32} (F : Fa Z h a .char n (fun i => .int (y i))) (h0 : ¬ j < 0) (h1 : j < n) (hg : g.method = m) (hs : g.stack = .int x :: .int j :: .ref a :: rest) (hd : decode c.code g.pc = .ok (.castore, 1))
    (k : ∀ T' h', Stand p l e R s m args below meth c T' (locs ++ [⟨a, j.toNatClampNeg⟩]) cells slots → T'.heap = h' → Wr h h' a j.toNatClampNeg (.int (nar .char x)) → Fa Z h' a .char n (fun i => .int (upd y j (nar .char x) i)) → Go p e below P T' { g with pc := g.pc + 1, stack := rest }) : Go p e below P T g := by
  obtain ⟨cl, A, S, M, H⟩ := id F
  obtain ⟨T', h', X', e', W, st⟩ := stC X hx hZ eT A (inb_of S ⟨h0, h1⟩) hg hs hd
  exact Go.of _ st (k _ _ X' e' W (by have := F.set W h0 (fits_nar_char _); rwa [upd_int] at this))
theorem Go.bastore (X : Stand p l e R s m args below meth c T locs cells slots) (hx : p.tables.exec = Jvm.exec) (hZ : Z.Warmed39 s.vm) (eT : T.heap = h) {y : Int32 → Int32} {x : Int32} (F : Fa Z h a .byte n (fun i => .int (y i))) (h0 : ¬ j < 0) (h1 : j < n) (hg : g.method = m) (hs : g.stack = .int x :: .int j :: .ref a :: rest) (hd : decode c.code g.pc = .ok (.bastore, 1))
    (k : ∀ T' h', Stand p l e R s m args below meth c T' (locs ++ [⟨a, j.toNatClampNeg⟩]) cells slots → T'.heap = h' → Wr h h' a j.toNatClampNeg (.int (nar .byte x)) → Fa Z h' a .byte n (fun i => .int (upd y j (nar .byte x) i)) → Go p e below P T' { g with pc := g.pc + 1, stack := rest }) : Go p e below P T g := by
  obtain ⟨cl, A, S, M, H⟩ := id F
  obtain ⟨T', h', X', e', W, st⟩ := stB X hx hZ eT A (inb_of S ⟨h0, h1⟩) hg hs hd
  exact Go.of _ st (k _ _ X' e' W (by have := F.set W h0 (fits_nar_byte _); rwa [upd_int] at this))
theorem Go.zastore (X : Stand p l e R s m args below meth c T locs cells slots) (hx : p.tables.exec = Jvm.exec) (hZ : Z.Warmed39 s.vm) (eT : T.heap = h) {y : Int32 → Int32} {x : Int32} (F : Fa Z h a .boolean n (fun i => .int (y i))) (h0 : ¬ j < 0) (h1 : j < n) (hg : g.method = m) (hs : g.stack = .int x :: .int j :: .ref a :: rest) (hd : decode c.code g.pc = .ok (.bastore, 1))
    (k : ∀ T' h', Stand p l e R s m args below meth c T' (locs ++ [⟨a, j.toNatClampNeg⟩]) cells slots → T'.heap = h' → Wr h h' a j.toNatClampNeg (.int (nar .boolean x)) → Fa Z h' a .boolean n (fun i => .int (upd y j (nar .boolean x) i)) → Go p e below P T' { g with pc := g.pc + 1, stack := rest }) : Go p e below P T g := by
  obtain ⟨cl, A, S, M, H⟩ := id F
  obtain ⟨T', h', X', e', W, st⟩ := stZ X hx hZ eT A (inb_of S ⟨h0, h1⟩) hg hs hd
  exact Go.of _ st (k _ _ X' e' W (by have := F.set W h0 (fits_nar_bool _); rwa [upd_int] at this))
theorem Go.lastore (X : Stand p l e R s m args below meth c T locs cells slots) (hx : p.tables.exec = Jvm.exec) (hZ : Z.Warmed39 s.vm) (eT : T.heap = h) {y : Int32 → Int64} {x : Int64} (F : Fa Z h a .long n (fun i => .long (y i))) (h0 : ¬ j < 0) (h1 : j < n) (hg : g.method = m) (hs : g.stack = .long x :: .int j :: .ref a :: rest) (hd : decode c.code g.pc = .ok (.lastore, 1))
    (k : ∀ T' h', Stand p l e R s m args below meth c T' (locs ++ [⟨a, j.toNatClampNeg⟩]) cells slots → T'.heap = h' → Wr h h' a j.toNatClampNeg (.long x) → Fa Z h' a .long n (fun i => .long (upd y j x i)) → Go p e below P T' { g with pc := g.pc + 1, stack := rest }) : Go p e below P T g := by
  obtain ⟨cl, A, S, M, H⟩ := id F
  obtain ⟨T', h', X', e', W, st⟩ := stJ X hx hZ eT A (inb_of S ⟨h0, h1⟩) hg hs hd
  exact Go.of _ st (k _ _ X' e' W (by have := F.set W h0 rfl; rwa [upd_long] at this))
theorem Go.aastore (X : Stand p l e R s m args below meth c T locs cells slots) (hx : p.tables.exec = Jvm.exec) (hZ : Z.Warmed39 s.vm) (eT : T.heap = h) (F : Fa Z h a ty n yv) (hty : ty.isReference = true) (hf : fits ty v = true) (O : Sto Z h a v) (h0 : ¬ j < 0) (h1 : j < n) (hg : g.method = m) (hs : g.stack = v :: .int j :: .ref a :: rest) (hd : decode c.code g.pc = .ok (.aastore, 1))
    (k : ∀ T' h', Stand p l e R s m args below meth c T' (locs ++ [⟨a, j.toNatClampNeg⟩]) cells slots → T'.heap = h' → Wr h h' a j.toNatClampNeg v → Fa Z h' a ty n (upd yv j v) → Go p e below P T' { g with pc := g.pc + 1, stack := rest }) : Go p e below P T g := by
  obtain ⟨cl, A, S, M, H⟩ := id F
  obtain ⟨T', h', X', e', W, st⟩ := stR X hx hZ eT A (inb_of S ⟨h0, h1⟩) hty O hg hs hd
  exact Go.of _ st (k _ _ X' e' W (F.set W h0 hf))
/-- the array's class is that of the arrays over C -/
def Uty (Z : State) (h : Heap) (a : Addr) (C : String) : Prop := ∃ c : Cell, h[a]? = some c ∧ Ovr Z c.cls C
theorem Uty.ext {C : String} (F : Uty Z h a C) (E : Ext h h') : Uty Z h' a C := by obtain ⟨c, A, r⟩ := F; exact ⟨c, E.2 _ _ A, r⟩
theorem Uty.wr {C : String} (F : Uty Z h b C) (W : Wr h h' a sl v) : Uty Z h' b C := by
  obtain ⟨c, A, r⟩ := F
  obtain ⟨c', e1, e2, -⟩ := wr_at W A
  exact ⟨c', e1, by rw [e2]; exact r⟩
theorem Uty.keep {C : String} (F : Uty Z h a C) (K : Keep h h' hws) : Uty Z h' a C := by
  obtain ⟨c, A, r⟩ := F
  obtain ⟨c', e1, e2, -⟩ := K.2.2 _ _ A
  exact ⟨c', e1, by rw [e2]; exact r⟩
theorem Fa.sto {C : String} (F : Fa Z h a ty n yv) (U : Uty Z h a C) (I : Ins Z h b C true) : Sto Z h a (.ref b) := by
  obtain ⟨c, A, -⟩ := F
  obtain ⟨c', A', O⟩ := U
  cases A.1.symm.trans A'
  exact Sto.of A O I
theorem nat_back {i : Nat} (hi : i < 2 ^ 31) : i.toInt32.toNatClampNeg = i ∧ ¬ i.toInt32 < 0 := by
  have e : i.toInt32.toInt = i := len_toInt hi
  refine ⟨?_, ?_⟩
  · show i.toInt32.toInt.toNat = i
    rw [e]; rfl
  · rw [Int32.lt_iff_toInt_lt, e]
    have z : (0 : Int32).toInt = 0 := by decide
    omega
theorem lt_of_nat {i : Nat} {z : Int32} (hz : ¬ z < 0) (hi : i < z.toNatClampNeg) : i.toInt32 < z ∧ i < 2 ^ 31 := by
  have q := nat_of hz
  have b := rng32 z
  have hb : i < 2 ^ 31 := by omega
  refine ⟨?_, hb⟩
  rw [Int32.lt_iff_toInt_lt, len_toInt hb]
  omega
theorem Fa.fitC {cl : Cell} (A : Arr Z h a cl ty) (S : cl.slots.size = n.toNatClampNeg) (M : ¬ n < 0) (H : ∀ j : Int32, ¬ j < 0 → j < n → cl.slots[j.toNatClampNeg]? = some (yv j) ∧ fits ty (yv j) = true) : FitC Z cl :=
  fitC_of A fun i hi w hw => by
    have q := lt_of_nat M (S ▸ hi)
    have r := nat_back q.2
    have u := H i.toInt32 r.2 q.1
    rw [r.1] at u
    cases hw.symm.trans u.1
    exact u.2
theorem Go.clone (X : Stand p l e R s m args below meth c T locs cells slots) (hx : p.tables.exec = Jvm.exec) (hZ : Z.Warmed39 s.vm) {own ad : String} {index : Nat} (hown : s.vm.findClass own = some m.cls)
    (w1 : (Cond.methodLink own index ⟨ad, "clone", "()Ljava/lang/Object;"⟩).before a0 Z = true) (w2 : (Cond.sameMethod ad "java/lang/Object" "clone" "()Ljava/lang/Object;").before a0 Z = true) (w3 : (Cond.native ⟨"java/lang/Object", "clone", "()Ljava/lang/Object;"⟩).before a0 Z = true)
    (w4 : (Cond.instanceMethod ⟨"java/lang/Object", "clone", "()Ljava/lang/Object;"⟩).before a0 Z = true) (w5 : (Cond.selects ad ⟨ad, "clone", "()Ljava/lang/Object;"⟩ ⟨"java/lang/Object", "clone", "()Ljava/lang/Object;"⟩).before a0 Z = true) (w6 : (Cond.castable ad "java/lang/Cloneable").before a0 Z = true)
    (eT : T.heap = h) (F : Fa Z h a ty n yv) (E : Exa Z h a ad) (hg : g.method = m) (hsize : g.locals.size = c.maxLocals) (hs : g.stack = .ref a :: rest) (hd : decode c.code g.pc = .ok (.invokevirtual index, 3))
    (hf : 1 ≤ R.frames) {W cap : Nat} (hW : 2 * g.monitorRoom + (rest.map fun v => v.category).sum ≤ W) (hl : W + 14 ≤ R.locals) (hcap : n.toNatClampNeg ≤ cap) (hc : cells + 1 ≤ R.cells) (hsl : slots + cap ≤ R.slots)
    (k : ∀ T' h', Stand p l e R s m args below meth c T' locs (cells + 1) (slots + cap) → T'.heap = h' → Ext h h' → Fa Z h' h.size ty n yv → Exa Z h' h.size ad → Go p e below P T' { g with pc := g.pc + 3, stack := .ref h.size :: rest }) : Go p e below P T g := by
  obtain ⟨cl, A, S, M, H⟩ := id F
  obtain ⟨T', h', X', e', ex, A', E', st⟩ := cloneA X hx hZ hown w1 w2 w3 w4 w5 w6 eT A E (Fa.fitC A S M H) hg hsize hs hd hf hW hl (by rw [S]; exact hcap) hc hsl
  exact Go.of _ st (k _ _ X' e' ex ⟨cloneOf cl, A', S, M, H⟩ E')
theorem exa_ns {C : String} (E : Exa Z h a C) : ∀ c : Cell, h[a]? = some c → c.vm.isStatics = false := fun c hc => by
  obtain ⟨c', k, h1, -, -, h4, -⟩ := E
  cases h1.symm.trans hc; exact h4
theorem Sta.keep {C nn d : String} (F : Sta Z h C nn d v) (K : Keep h h' hws) (q : ∀ x ∈ hws, ∀ c : Cell, h[x]? = some c → c.vm.isStatics = false) : Sta Z h' C nn d v := by
  obtain ⟨cf, i, k, f, st, cell, h1, h2, h3, h4, h5, h6, h7⟩ := F
  refine ⟨cf, i, k, f, st, cell, h1, h2, h3, h4, K.2.1 _ _ h5 fun z => ?_, h6, h7⟩
  rw [q _ z _ h5] at h6; cases h6
/-- an inherited instance method (the entry names it through the subclass) -/
theorem Go.virtUp (X : Stand p l e R s m args below meth c T locs cells slots) (hx : p.tables.exec = Jvm.exec) (hZ : Z.Warmed39 s.vm) {own C owner : String} {z : MethodName} {index W : Nat} {argsL : List Value} (hown : s.vm.findClass own = some m.cls)
    (w1 : (Cond.methodLink own index z).before a0 Z = true) (w2 : (Cond.sameMethod z.cls owner z.name z.desc).before a0 Z = true) (w8 : (Cond.declares ⟨owner, z.name, z.desc⟩).before a0 Z = true) (hy : owner ≠ "java/lang/invoke/MethodHandle" ∧ owner ≠ "java/lang/invoke/VarHandle") (w5 : (Cond.selects C z y).before a0 Z = true) (w6 : (Cond.instanceMethod y).before a0 Z = true) (w3 : (Cond.initialized y.cls).before a0 Z = true) (w4 : (Cond.code y bytes maxL ret).before a0 Z = true)
    (eT : T.heap = h) (E : Exa Z h a C) (hM : Met l Z y bytes maxL ret [] rm (.ref a :: argsL).toArray h Q)
    (hg : g.method = m) (hsize : g.locals.size = c.maxLocals) (hlen : ∀ sig, parseMethodDescriptor z.desc = some sig → argsL.length = sig.parameters.length) (hs : g.stack = argsL.reverse ++ .ref a :: rest)
    (hW : 2 * g.monitorRoom + (rest.map fun v => v.category).sum ≤ W) (hd : decode c.code g.pc = .ok (.invokevirtual index, 3)) (hf : rm.frames + 1 ≤ R.frames) (hl : W + (maxL + 11) + rm.locals ≤ R.locals) (hc : cells + rm.cells ≤ R.cells) (hsl : slots + rm.slots ≤ R.slots)
    (k : ∀ T' L v, Stand p l e R s m args below meth c T' (locs ++ L) (cells + rm.cells) (slots + rm.slots) → Q v T'.heap L → Go p e below P T' { g with pc := g.pc + 3, stack := v.toList ++ rest }) : Go p e below P T g := by
  obtain ⟨cq, kq, qa, qb, qc⟩ := isOf hZ eT E
  obtain ⟨v, _, ⟨U, L, q1, q2⟩, -, X', ⟨Lc, hQ, l1, l2, l3⟩, st⟩ := X.virtualBackUp hx (x := z) (y := y) hown (mvT hZ w1) (mvT hZ w2) (mvT hZ w8) hy (mvT hZ w5) (mvT hZ w6) (backOf (W := W) hM hZ w4 w3 hf hl) qa qc hg hsize (Steps.refl _) hlen hs hW hd (fun _ _ => ⟨rfl, eT, hc, hsl⟩)
  dsimp only [Pt.U, Pt.locs, Pt.cells, Pt.slots] at X' l1 l2 l3 st hQ
  subst l1 l2 l3
  exact Go.via _ st (k _ _ _ X' hQ)
/-- the two sides of a call as the pasted laws of String have them -/
abbrev BPre (R : Room) (as' : Array Value) (h : Heap) (kc ks : Nat) : Pt → Array Value → Prop := fun P a => a = as' ∧ P.U.heap = h ∧ P.cells + kc ≤ R.cells ∧ P.slots + ks ≤ R.slots
abbrev BPost (Q : Option Value → Heap → List Loc → Prop) (kc ks : Nat) : Pt → Array Value → Option Value → Pt → Prop := fun P _ v B => ∃ L, Q v B.U.heap L ∧ B.locs = P.locs ++ L ∧ B.cells = P.cells + kc ∧ B.slots = P.slots + ks
theorem Go.initB (X : Stand p l e R s m args below meth c T locs cells slots) (hx : p.tables.exec = Jvm.exec) (hZ : Z.Warmed39 s.vm) {own : String} {index W kc ks : Nat} {argsL : List Value} (hown : s.vm.findClass own = some m.cls) (hy1 : y.name = "<init>")
    (w1 : (Cond.methodLink own index y).before a0 Z = true) (w2 : (Cond.instanceMethod y).before a0 Z = true) (w4 : (Cond.code y bytes maxL none).before a0 Z = true)
    (hy : y.cls ≠ "java/lang/invoke/MethodHandle" ∧ y.cls ≠ "java/lang/invoke/VarHandle") (eT : T.heap = h) (hK : Back l R p e below s args y 3 W (BPre R (.ref a :: argsL).toArray h kc ks) (BPost Q kc ks))
    (hg : g.method = m) (hsize : g.locals.size = c.maxLocals) (hlen : ∀ sig, parseMethodDescriptor y.desc = some sig → argsL.length = sig.parameters.length) (hs : g.stack = argsL.reverse ++ .ref a :: rest)
    (hW : 2 * g.monitorRoom + (rest.map fun v => v.category).sum ≤ W) (hd : decode c.code g.pc = .ok (.invokespecial index, 3)) (hc : cells + kc ≤ R.cells) (hsl : slots + ks ≤ R.slots)
    (k : ∀ T' L v, Stand p l e R s m args below meth c T' (locs ++ L) (cells + kc) (slots + ks) → Q v T'.heap L → Go p e below P T' { g with pc := g.pc + 3, stack := v.toList ++ rest }) : Go p e below P T g := by
  obtain ⟨v, _, ⟨U, L, q1, q2⟩, -, X', ⟨Lc, hQ, l1, l2, l3⟩, st⟩ := X.specialBack hx (y := y) hy1 hown (mvT hZ w1) (mvT hZ w2) (mvT hZ w4) hy hK hg hsize (Steps.refl _) hlen hs hW hd (fun _ _ => ⟨rfl, eT, hc, hsl⟩)
  dsimp only [Pt.U, Pt.locs, Pt.cells, Pt.slots] at X' l1 l2 l3 st hQ
  subst l1 l2 l3
  exact Go.via _ st (k _ _ _ X' hQ)
theorem Go.virtB (X : Stand p l e R s m args below meth c T locs cells slots) (hx : p.tables.exec = Jvm.exec) (hZ : Z.Warmed39 s.vm) {own C : String} {z : MethodName} {index W kc ks : Nat} {argsL : List Value} (hown : s.vm.findClass own = some m.cls)
    (w1 : (Cond.methodLink own index z).before a0 Z = true) (w2 : (Cond.declares z).before a0 Z = true) (nf : NotFace s z) (w5 : (Cond.selects C z y).before a0 Z = true) (w6 : (Cond.instanceMethod y).before a0 Z = true)
    (hy : z.cls ≠ "java/lang/invoke/MethodHandle" ∧ z.cls ≠ "java/lang/invoke/VarHandle") (eT : T.heap = h) (E : Exa Z h a C) (hK : Back l R p e below s args y 3 W (BPre R (.ref a :: argsL).toArray h kc ks) (BPost Q kc ks))
    (hg : g.method = m) (hsize : g.locals.size = c.maxLocals) (hlen : ∀ sig, parseMethodDescriptor z.desc = some sig → argsL.length = sig.parameters.length) (hs : g.stack = argsL.reverse ++ .ref a :: rest)
    (hW : 2 * g.monitorRoom + (rest.map fun v => v.category).sum ≤ W) (hd : decode c.code g.pc = .ok (.invokevirtual index, 3)) (hc : cells + kc ≤ R.cells) (hsl : slots + ks ≤ R.slots)
    (k : ∀ T' L v, Stand p l e R s m args below meth c T' (locs ++ L) (cells + kc) (slots + ks) → Q v T'.heap L → Go p e below P T' { g with pc := g.pc + 3, stack := v.toList ++ rest }) : Go p e below P T g := by
  obtain ⟨cq, kq, qa, qb, qc⟩ := isOf hZ eT E
  obtain ⟨v, _, ⟨U, L, q1, q2⟩, -, X', ⟨Lc, hQ, l1, l2, l3⟩, st⟩ := X.virtualBack hx (y := z) (z := y) hown (mvT hZ w1) (mvT hZ w2) nf (mvT hZ w5) (mvT hZ w6) hy hK qa qc hg hsize (Steps.refl _) hlen hs hW hd (fun _ _ => ⟨rfl, eT, hc, hsl⟩)
  dsimp only [Pt.U, Pt.locs, Pt.cells, Pt.slots] at X' l1 l2 l3 st hQ
  subst l1 l2 l3
  exact Go.via _ st (k _ _ _ X' hQ)
theorem Fa.toArv {vs : List Value} {dv : Value} (F : Fa Z h a ty n yv) (q : ∀ i : Nat, i < n.toNatClampNeg → vs.getD i dv = yv i.toInt32) : ∃ k, Arv Z h a k ty n vs dv := by
  obtain ⟨cl, A, S, M, H⟩ := F
  refine ⟨cl.cls, cl, A, rfl, S, M, fun i hi => ?_, fun i hi => ?_⟩
  · rw [S] at hi
    have b := lt_of_nat M hi
    have r := nat_back b.2
    have u := (H _ r.2 b.1).1
    rw [r.1] at u; rw [q i hi]; exact u
  · rw [S] at hi
    have b := lt_of_nat M hi
    have r := nat_back b.2
    rw [q i hi]; exact (H _ r.2 b.1).2
end Own
end Jvm.OwnGo
namespace Jvm.Pilot.@@N@@
open Jvm Jvm.ClassFile Sem Op Lib Jvm.Free Jvm.Stand Jvm.LawKit Jvm.RoadKit Bundle Jvm.OwnGo Jvm.Pilot.@@N@@.Jvm.D

def own_tp (q : Int64) (p : Int32) : Int64 := q / p.toInt64 + (if q - q / p.toInt64 * p.toInt64 = 0 then (0 : Int32).toInt64 else (1 : Int32).toInt64)
theorem own_nz {p : Int32} (h : 0 < p) : ¬ p.toInt64 = 0 := fun e => by
  rw [Int32.lt_iff_toInt_lt] at h
  have q := c_i2l p; rw [e] at q
  have z : (0 : Int32).toInt = 0 := by decide
  have z' : (0 : Int64).toInt = 0 := by decide
  omega
theorem own_pos (x : Int32) : (x &&& 2147483647) = 0 ∨ 0 < (x &&& 2147483647) := by
  have e : (x &&& 2147483647).toInt = x.toInt % (2 ^ 31 : Nat) := c_mask x 2147483647 31 (by decide) (by decide)
  have z : (0 : Int32).toInt = 0 := by decide
  by_cases h : (x &&& 2147483647) = 0
  · exact Or.inl h
  · right
    rw [Int32.lt_iff_toInt_lt, z]
    have : (x &&& 2147483647).toInt ≠ 0 := fun q => h (Int32.toInt_inj.mp (by rw [q, z]))
    omega
theorem own_posL (x : Int64) : 0 ≤ (x &&& 9223372036854775807).toInt := by
  have e : (x &&& 9223372036854775807).toInt = x.toInt % (2 ^ 63 : Nat) := c_maskL x 9223372036854775807 63 (by decide) (by decide)
  rw [e]; omega
theorem own_div (q : Int64) (p : Int32) (hq : 0 ≤ q.toInt) (hp : 0 < p) : (q / p.toInt64).toInt = q.toInt / p.toInt ∧ 0 < p.toInt := by
  have hp' : 0 < p.toInt := by rw [Int32.lt_iff_toInt_lt] at hp; have z : (0 : Int32).toInt = 0 := by decide
                               omega
  refine ⟨?_, hp'⟩
  rw [Int64.toInt_div_of_ne_right _ _ (fun e => by have q := c_i2l p; rw [e] at q; have z' : (-1 : Int64).toInt = -1 := by decide
                                                   omega), c_i2l, Int.tdiv_eq_ediv_of_nonneg hq]
theorem own_rem (q : Int64) (p : Int32) (hq : 0 ≤ q.toInt) (hp : 0 < p) : (q - q / p.toInt64 * p.toInt64).toInt = q.toInt % p.toInt := by
  have h := (c_lrem q p.toInt64 p.toInt (c_i2l p)).1 hq
  exact h
theorem own_tp_eq (q : Int64) (p : Int32) (hq : 0 ≤ q.toInt) (hp : 0 < p) : (own_tp q p).toInt = q.toInt / p.toInt + (if q.toInt % p.toInt = 0 then 0 else 1) := by
  obtain ⟨d1, d2⟩ := own_div q p hq hp
  have d3 := own_rem q p hq hp
  have b := rng64 q
  have hle : q.toInt / p.toInt ≤ q.toInt := Int.ediv_le_self _ hq
  have hge : 0 ≤ q.toInt / p.toInt := Int.ediv_nonneg hq (by omega)
  have z0 : ((0 : Int32).toInt64).toInt = 0 := by decide
  have z1 : ((1 : Int32).toInt64).toInt = 1 := by decide
  have zz : (0 : Int64).toInt = 0 := by decide
  have hc : (q - q / p.toInt64 * p.toInt64 = 0) ↔ q.toInt % p.toInt = 0 := by
    rw [← d3, ← zz, Int64.toInt_inj]
  unfold own_tp
  by_cases h : q - q / p.toInt64 * p.toInt64 = 0
  · rw [if_pos h, if_pos (hc.mp h)]
    have := c_ladd (q / p.toInt64) (0 : Int32).toInt64
    have r := rng64 (q / p.toInt64 + (0 : Int32).toInt64)
    omega
  · have h' : ¬ q.toInt % p.toInt = 0 := fun e => h (hc.mpr e)
    rw [if_neg h, if_neg h']
    have := c_ladd (q / p.toInt64) (1 : Int32).toInt64
    have r := rng64 (q / p.toInt64 + (1 : Int32).toInt64)
    have hlt : q.toInt / p.toInt < 9223372036854775807 := by
      rcases Int.lt_or_le 1 p.toInt with g | g
      · have : q.toInt / p.toInt * p.toInt ≤ q.toInt := Int.ediv_mul_le _ (by omega)
        have m2 : q.toInt / p.toInt * 2 ≤ q.toInt / p.toInt * p.toInt := Int.mul_le_mul_of_nonneg_left (by omega) hge
        omega
      · have e1 : p.toInt = 1 := by omega
        rw [e1] at h'; omega
    omega
theorem own_zero (q : Int64) (p : Int32) (hq : q = 0) (hp : 0 < p) : own_tp q p = 0 := by
  subst hq
  have zz : (0 : Int64).toInt = 0 := by decide
  refine Int64.toInt_inj.mp ?_
  rw [own_tp_eq 0 p (by rw [zz]; decide) hp, zz]
  simp
theorem own_some (q : Int64) (p : Int32) (h0 : 0 ≤ q.toInt) (hq : ¬ q = 0) (hp : 0 < p) : own_tp q p = (q - 1) / p.toInt64 + 1 := by
  have zz : (0 : Int64).toInt = 0 := by decide
  have z1 : (1 : Int64).toInt = 1 := by decide
  have hq' : 1 ≤ q.toInt := by
    have : q.toInt ≠ 0 := fun e => hq (Int64.toInt_inj.mp (by rw [e, zz]))
    omega
  have b := rng64 q
  have e1 : (q - 1).toInt = q.toInt - 1 := by
    have := c_lsub q 1; have r := rng64 (q - 1); omega
  obtain ⟨d1, d2⟩ := own_div (q - 1) p (by omega) hp
  have hle : (q.toInt - 1) / p.toInt ≤ q.toInt - 1 := Int.ediv_le_self _ (by omega)
  have hge : 0 ≤ (q.toInt - 1) / p.toInt := Int.ediv_nonneg (by omega) (by omega)
  have e2 : ((q - 1) / p.toInt64 + 1).toInt = (q.toInt - 1) / p.toInt + 1 := by
    have := c_ladd ((q - 1) / p.toInt64) 1; have r := rng64 ((q - 1) / p.toInt64 + 1); rw [d1, e1] at this; omega
  refine Int64.toInt_inj.mp ?_
  rw [own_tp_eq q p h0 hp, e2]
  have k1 := Int.mul_ediv_add_emod q.toInt p.toInt
  have k2 := Int.mul_ediv_add_emod (q.toInt - 1) p.toInt
  have m1 := Int.emod_nonneg q.toInt (show p.toInt ≠ 0 by omega)
  have m2 := Int.emod_lt_of_pos q.toInt d2
  by_cases h : q.toInt % p.toInt = 0
  · rw [if_pos h]
    have : (q.toInt - 1) / p.toInt = q.toInt / p.toInt - 1 := by
      rw [Int.ediv_emod_unique d2 |>.mpr ⟨?_, ?_, ?_⟩ |>.1]
      · exact p.toInt - 1
      · rw [Int.mul_sub]; omega
      · omega
      · omega
    omega
  · rw [if_neg h]
    have : (q.toInt - 1) / p.toInt = q.toInt / p.toInt := by
      rw [Int.ediv_emod_unique d2 |>.mpr ⟨?_, ?_, ?_⟩ |>.1]
      · exact q.toInt % p.toInt - 1
      · omega
      · omega
      · omega
    omega
theorem tw0 {Z : State} {a0 : Array Value} (hw : ∀ d ∈ tables_1, d.before a0 Z = true) : (Jvm.Cond.constantLong "com/example/sealed_ledger/sealedledger/query/EntryPageTotalPagesPinLaw" (9 : Nat) (9223372036854775807 : Int64)).before a0 Z = true := hw _ (List.mem_of_getElem? (i := 0) rfl)
theorem tw1 {Z : State} {a0 : Array Value} (hw : ∀ d ∈ tables_1, d.before a0 Z = true) : (Jvm.Cond.constant "com/example/sealed_ledger/sealedledger/query/EntryPageTotalPagesPinLaw" (11 : Nat) (2147483647 : Int32)).before a0 Z = true := hw _ (List.mem_of_getElem? (i := 1) rfl)
theorem tw2 {Z : State} {a0 : Array Value} (hw : ∀ d ∈ tables_1, d.before a0 Z = true) : (Jvm.Cond.classLink "com/example/sealed_ledger/sealedledger/query/EntryPageTotalPagesPinLaw" (12 : Nat) "java/util/ArrayList").before a0 Z = true := hw _ (List.mem_of_getElem? (i := 2) rfl)
theorem tw3 {Z : State} {a0 : Array Value} (hw : ∀ d ∈ tables_1, d.before a0 Z = true) : (Jvm.Cond.instantiable "java/util/ArrayList" (3 : Nat)).before a0 Z = true := hw _ (List.mem_of_getElem? (i := 3) rfl)
theorem tw4 {Z : State} {a0 : Array Value} (hw : ∀ d ∈ tables_1, d.before a0 Z = true) : (Jvm.Cond.initialized "java/util/ArrayList").before a0 Z = true := hw _ (List.mem_of_getElem? (i := 4) rfl)
theorem tw5 {Z : State} {a0 : Array Value} (hw : ∀ d ∈ tables_1, d.before a0 Z = true) : (Jvm.Cond.methodLink "com/example/sealed_ledger/sealedledger/query/EntryPageTotalPagesPinLaw" (14 : Nat) ({ cls := "java/util/ArrayList", name := "<init>", desc := "()V" } : Jvm.MethodName)).before a0 Z = true := hw _ (List.mem_of_getElem? (i := 5) rfl)
theorem tw6 {Z : State} {a0 : Array Value} (hw : ∀ d ∈ tables_1, d.before a0 Z = true) : (Jvm.Cond.instanceMethod ({ cls := "java/util/ArrayList", name := "<init>", desc := "()V" } : Jvm.MethodName)).before a0 Z = true := hw _ (List.mem_of_getElem? (i := 6) rfl)
theorem tw7 {Z : State} {a0 : Array Value} (hw : ∀ d ∈ tables_1, d.before a0 Z = true) : (Jvm.Cond.code ({ cls := "java/util/ArrayList", name := "<init>", desc := "()V" } : Jvm.MethodName) jdk_38_method_2_code (1 : Nat) (Option.none : Option Jvm.ClassFile.FieldType)).before a0 Z = true := hw _ (List.mem_of_getElem? (i := 7) rfl)
theorem tw8 {Z : State} {a0 : Array Value} (hw : ∀ d ∈ tables_1, d.before a0 Z = true) : (Jvm.Cond.methodLink "java/util/ArrayList" (1 : Nat) ({ cls := "java/util/AbstractList", name := "<init>", desc := "()V" } : Jvm.MethodName)).before a0 Z = true := hw _ (List.mem_of_getElem? (i := 8) rfl)
theorem tw9 {Z : State} {a0 : Array Value} (hw : ∀ d ∈ tables_1, d.before a0 Z = true) : (Jvm.Cond.instanceMethod ({ cls := "java/util/AbstractList", name := "<init>", desc := "()V" } : Jvm.MethodName)).before a0 Z = true := hw _ (List.mem_of_getElem? (i := 9) rfl)
theorem tw12 {Z : State} {a0 : Array Value} (hw : ∀ d ∈ tables_1, d.before a0 Z = true) : (Jvm.Cond.initialized "java/util/AbstractList").before a0 Z = true := hw _ (List.mem_of_getElem? (i := 12) rfl)
theorem tw13 {Z : State} {a0 : Array Value} (hw : ∀ d ∈ tables_1, d.before a0 Z = true) : (Jvm.Cond.code ({ cls := "java/util/AbstractList", name := "<init>", desc := "()V" } : Jvm.MethodName) jdk_39_method_1_code (1 : Nat) (Option.none : Option Jvm.ClassFile.FieldType)).before a0 Z = true := hw _ (List.mem_of_getElem? (i := 13) rfl)
theorem tw14 {Z : State} {a0 : Array Value} (hw : ∀ d ∈ tables_1, d.before a0 Z = true) : (Jvm.Cond.methodLink "java/util/AbstractList" (1 : Nat) ({ cls := "java/util/AbstractCollection", name := "<init>", desc := "()V" } : Jvm.MethodName)).before a0 Z = true := hw _ (List.mem_of_getElem? (i := 14) rfl)
theorem tw15 {Z : State} {a0 : Array Value} (hw : ∀ d ∈ tables_1, d.before a0 Z = true) : (Jvm.Cond.instanceMethod ({ cls := "java/util/AbstractCollection", name := "<init>", desc := "()V" } : Jvm.MethodName)).before a0 Z = true := hw _ (List.mem_of_getElem? (i := 15) rfl)
theorem tw18 {Z : State} {a0 : Array Value} (hw : ∀ d ∈ tables_1, d.before a0 Z = true) : (Jvm.Cond.initialized "java/util/AbstractCollection").before a0 Z = true := hw _ (List.mem_of_getElem? (i := 18) rfl)
theorem tw19 {Z : State} {a0 : Array Value} (hw : ∀ d ∈ tables_1, d.before a0 Z = true) : (Jvm.Cond.code ({ cls := "java/util/AbstractCollection", name := "<init>", desc := "()V" } : Jvm.MethodName) jdk_22_method_1_code (1 : Nat) (Option.none : Option Jvm.ClassFile.FieldType)).before a0 Z = true := hw _ (List.mem_of_getElem? (i := 19) rfl)
theorem tw20 {Z : State} {a0 : Array Value} (hw : ∀ d ∈ tables_1, d.before a0 Z = true) : (Jvm.Cond.methodLink "java/util/AbstractCollection" (1 : Nat) ({ cls := "java/lang/Object", name := "<init>", desc := "()V" } : Jvm.MethodName)).before a0 Z = true := hw _ (List.mem_of_getElem? (i := 20) rfl)
theorem tw21 {Z : State} {a0 : Array Value} (hw : ∀ d ∈ tables_1, d.before a0 Z = true) : (Jvm.Cond.instanceMethod ({ cls := "java/lang/Object", name := "<init>", desc := "()V" } : Jvm.MethodName)).before a0 Z = true := hw _ (List.mem_of_getElem? (i := 21) rfl)
theorem tw22 {Z : State} {a0 : Array Value} (hw : ∀ d ∈ tables_1, d.before a0 Z = true) : (Jvm.Cond.code ({ cls := "java/lang/Object", name := "<init>", desc := "()V" } : Jvm.MethodName) object_method_1_code (1 : Nat) (Option.none : Option Jvm.ClassFile.FieldType)).before a0 Z = true := hw _ (List.mem_of_getElem? (i := 22) rfl)
theorem tw23 {Z : State} {a0 : Array Value} (hw : ∀ d ∈ tables_1, d.before a0 Z = true) : (Jvm.Cond.fieldLink "java/util/AbstractList" (7 : Nat) "java/util/AbstractList" "modCount" "I").before a0 Z = true := hw _ (List.mem_of_getElem? (i := 23) rfl)
theorem tw24 {Z : State} {a0 : Array Value} (hw : ∀ d ∈ tables_1, d.before a0 Z = true) : (Jvm.Cond.lays "java/util/ArrayList" "java/util/AbstractList" "modCount" "I").before a0 Z = true := hw _ (List.mem_of_getElem? (i := 24) rfl)
theorem tw25 {Z : State} {a0 : Array Value} (hw : ∀ d ∈ tables_1, d.before a0 Z = true) : (Jvm.Cond.fieldLink "java/util/ArrayList" (39 : Nat) "java/util/ArrayList" "DEFAULTCAPACITY_EMPTY_ELEMENTDATA" "[Ljava/lang/Object;").before a0 Z = true := hw _ (List.mem_of_getElem? (i := 25) rfl)
theorem tw26 {Z : State} {a0 : Array Value} (hw : ∀ d ∈ tables_1, d.before a0 Z = true) : (Jvm.Cond.fieldLink "java/util/ArrayList" (9 : Nat) "java/util/ArrayList" "elementData" "[Ljava/lang/Object;").before a0 Z = true := hw _ (List.mem_of_getElem? (i := 26) rfl)
theorem tw27 {Z : State} {a0 : Array Value} (hw : ∀ d ∈ tables_1, d.before a0 Z = true) : (Jvm.Cond.lays "java/util/ArrayList" "java/util/ArrayList" "elementData" "[Ljava/lang/Object;").before a0 Z = true := hw _ (List.mem_of_getElem? (i := 27) rfl)
theorem tw28 {Z : State} {a0 : Array Value} (hw : ∀ d ∈ tables_1, d.before a0 Z = true) : (Jvm.Cond.classLink "com/example/sealed_ledger/sealedledger/query/EntryPageTotalPagesPinLaw" (15 : Nat) "com/example/sealed_ledger/sealedledger/query/EntryPage").before a0 Z = true := hw _ (List.mem_of_getElem? (i := 28) rfl)
theorem tw29 {Z : State} {a0 : Array Value} (hw : ∀ d ∈ tables_1, d.before a0 Z = true) : (Jvm.Cond.instantiable "com/example/sealed_ledger/sealedledger/query/EntryPage" (4 : Nat)).before a0 Z = true := hw _ (List.mem_of_getElem? (i := 29) rfl)
theorem tw30 {Z : State} {a0 : Array Value} (hw : ∀ d ∈ tables_1, d.before a0 Z = true) : (Jvm.Cond.initialized "com/example/sealed_ledger/sealedledger/query/EntryPage").before a0 Z = true := hw _ (List.mem_of_getElem? (i := 30) rfl)
theorem tw31 {Z : State} {a0 : Array Value} (hw : ∀ d ∈ tables_1, d.before a0 Z = true) : (Jvm.Cond.methodLink "com/example/sealed_ledger/sealedledger/query/EntryPageTotalPagesPinLaw" (17 : Nat) ({ cls := "com/example/sealed_ledger/sealedledger/query/EntryPage", name := "<init>", desc := "(Ljava/util/List;JIJ)V" } : Jvm.MethodName)).before a0 Z = true := hw _ (List.mem_of_getElem? (i := 31) rfl)
theorem tw32 {Z : State} {a0 : Array Value} (hw : ∀ d ∈ tables_1, d.before a0 Z = true) : (Jvm.Cond.instanceMethod ({ cls := "com/example/sealed_ledger/sealedledger/query/EntryPage", name := "<init>", desc := "(Ljava/util/List;JIJ)V" } : Jvm.MethodName)).before a0 Z = true := hw _ (List.mem_of_getElem? (i := 32) rfl)
theorem tw33 {Z : State} {a0 : Array Value} (hw : ∀ d ∈ tables_1, d.before a0 Z = true) : (Jvm.Cond.code ({ cls := "com/example/sealed_ledger/sealedledger/query/EntryPage", name := "<init>", desc := "(Ljava/util/List;JIJ)V" } : Jvm.MethodName) prog_28_method_1_code (7 : Nat) (Option.none : Option Jvm.ClassFile.FieldType)).before a0 Z = true := hw _ (List.mem_of_getElem? (i := 33) rfl)
theorem tw34 {Z : State} {a0 : Array Value} (hw : ∀ d ∈ tables_1, d.before a0 Z = true) : (Jvm.Cond.methodLink "com/example/sealed_ledger/sealedledger/query/EntryPage" (1 : Nat) ({ cls := "java/lang/Record", name := "<init>", desc := "()V" } : Jvm.MethodName)).before a0 Z = true := hw _ (List.mem_of_getElem? (i := 34) rfl)
theorem tw35 {Z : State} {a0 : Array Value} (hw : ∀ d ∈ tables_1, d.before a0 Z = true) : (Jvm.Cond.instanceMethod ({ cls := "java/lang/Record", name := "<init>", desc := "()V" } : Jvm.MethodName)).before a0 Z = true := hw _ (List.mem_of_getElem? (i := 35) rfl)
theorem tw37 {Z : State} {a0 : Array Value} (hw : ∀ d ∈ tables_1, d.before a0 Z = true) : (Jvm.Cond.initialized "java/lang/Record").before a0 Z = true := hw _ (List.mem_of_getElem? (i := 37) rfl)
theorem tw38 {Z : State} {a0 : Array Value} (hw : ∀ d ∈ tables_1, d.before a0 Z = true) : (Jvm.Cond.code ({ cls := "java/lang/Record", name := "<init>", desc := "()V" } : Jvm.MethodName) jdk_30_method_1_code (1 : Nat) (Option.none : Option Jvm.ClassFile.FieldType)).before a0 Z = true := hw _ (List.mem_of_getElem? (i := 38) rfl)
theorem tw39 {Z : State} {a0 : Array Value} (hw : ∀ d ∈ tables_1, d.before a0 Z = true) : (Jvm.Cond.methodLink "java/lang/Record" (1 : Nat) ({ cls := "java/lang/Object", name := "<init>", desc := "()V" } : Jvm.MethodName)).before a0 Z = true := hw _ (List.mem_of_getElem? (i := 39) rfl)
theorem tw40 {Z : State} {a0 : Array Value} (hw : ∀ d ∈ tables_1, d.before a0 Z = true) : (Jvm.Cond.fieldLink "com/example/sealed_ledger/sealedledger/query/EntryPage" (7 : Nat) "com/example/sealed_ledger/sealedledger/query/EntryPage" "entries" "Ljava/util/List;").before a0 Z = true := hw _ (List.mem_of_getElem? (i := 40) rfl)
theorem tw41 {Z : State} {a0 : Array Value} (hw : ∀ d ∈ tables_1, d.before a0 Z = true) : (Jvm.Cond.laysFinal "com/example/sealed_ledger/sealedledger/query/EntryPage" "com/example/sealed_ledger/sealedledger/query/EntryPage" "entries" "Ljava/util/List;").before a0 Z = true := hw _ (List.mem_of_getElem? (i := 41) rfl)
theorem tw42 {Z : State} {a0 : Array Value} (hw : ∀ d ∈ tables_1, d.before a0 Z = true) : (Jvm.Cond.fieldLink "com/example/sealed_ledger/sealedledger/query/EntryPage" (13 : Nat) "com/example/sealed_ledger/sealedledger/query/EntryPage" "page" "J").before a0 Z = true := hw _ (List.mem_of_getElem? (i := 42) rfl)
theorem tw43 {Z : State} {a0 : Array Value} (hw : ∀ d ∈ tables_1, d.before a0 Z = true) : (Jvm.Cond.laysFinal "com/example/sealed_ledger/sealedledger/query/EntryPage" "com/example/sealed_ledger/sealedledger/query/EntryPage" "page" "J").before a0 Z = true := hw _ (List.mem_of_getElem? (i := 43) rfl)
theorem tw44 {Z : State} {a0 : Array Value} (hw : ∀ d ∈ tables_1, d.before a0 Z = true) : (Jvm.Cond.fieldLink "com/example/sealed_ledger/sealedledger/query/EntryPage" (17 : Nat) "com/example/sealed_ledger/sealedledger/query/EntryPage" "size" "I").before a0 Z = true := hw _ (List.mem_of_getElem? (i := 44) rfl)
theorem tw45 {Z : State} {a0 : Array Value} (hw : ∀ d ∈ tables_1, d.before a0 Z = true) : (Jvm.Cond.laysFinal "com/example/sealed_ledger/sealedledger/query/EntryPage" "com/example/sealed_ledger/sealedledger/query/EntryPage" "size" "I").before a0 Z = true := hw _ (List.mem_of_getElem? (i := 45) rfl)
theorem tw46 {Z : State} {a0 : Array Value} (hw : ∀ d ∈ tables_1, d.before a0 Z = true) : (Jvm.Cond.fieldLink "com/example/sealed_ledger/sealedledger/query/EntryPage" (21 : Nat) "com/example/sealed_ledger/sealedledger/query/EntryPage" "totalElements" "J").before a0 Z = true := hw _ (List.mem_of_getElem? (i := 46) rfl)
theorem tw47 {Z : State} {a0 : Array Value} (hw : ∀ d ∈ tables_1, d.before a0 Z = true) : (Jvm.Cond.laysFinal "com/example/sealed_ledger/sealedledger/query/EntryPage" "com/example/sealed_ledger/sealedledger/query/EntryPage" "totalElements" "J").before a0 Z = true := hw _ (List.mem_of_getElem? (i := 47) rfl)
theorem tw48 {Z : State} {a0 : Array Value} (hw : ∀ d ∈ tables_1, d.before a0 Z = true) : (Jvm.Cond.methodLink "com/example/sealed_ledger/sealedledger/query/EntryPageTotalPagesPinLaw" (20 : Nat) ({ cls := "com/example/sealed_ledger/sealedledger/query/EntryPage", name := "totalPages", desc := "()J" } : Jvm.MethodName)).before a0 Z = true := hw _ (List.mem_of_getElem? (i := 48) rfl)
theorem tw49 {Z : State} {a0 : Array Value} (hw : ∀ d ∈ tables_1, d.before a0 Z = true) : (Jvm.Cond.declares ({ cls := "com/example/sealed_ledger/sealedledger/query/EntryPage", name := "totalPages", desc := "()J" } : Jvm.MethodName)).before a0 Z = true := hw _ (List.mem_of_getElem? (i := 49) rfl)
theorem tw50 {Z : State} {a0 : Array Value} (hw : ∀ d ∈ tables_1, d.before a0 Z = true) : (Jvm.Cond.instanceMethod ({ cls := "com/example/sealed_ledger/sealedledger/query/EntryPage", name := "totalPages", desc := "()J" } : Jvm.MethodName)).before a0 Z = true := hw _ (List.mem_of_getElem? (i := 50) rfl)
theorem tw51 {Z : State} {a0 : Array Value} (hw : ∀ d ∈ tables_1, d.before a0 Z = true) : (Jvm.Cond.selects "com/example/sealed_ledger/sealedledger/query/EntryPage" ({ cls := "com/example/sealed_ledger/sealedledger/query/EntryPage", name := "totalPages", desc := "()J" } : Jvm.MethodName) ({ cls := "com/example/sealed_ledger/sealedledger/query/EntryPage", name := "totalPages", desc := "()J" } : Jvm.MethodName)).before a0 Z = true := hw _ (List.mem_of_getElem? (i := 51) rfl)
theorem tw52 {Z : State} {a0 : Array Value} (hw : ∀ d ∈ tables_1, d.before a0 Z = true) : (Jvm.Cond.code ({ cls := "com/example/sealed_ledger/sealedledger/query/EntryPage", name := "totalPages", desc := "()J" } : Jvm.MethodName) prog_28_method_2_code (1 : Nat) (Option.some Jvm.ClassFile.FieldType.long)).before a0 Z = true := hw _ (List.mem_of_getElem? (i := 52) rfl)
theorem pn0 : plainFor (⟨"java/util/AbstractCollection", "<init>", "()V"⟩ : MethodName) = true := plainFor_of_name (by first | (simp [plainName, overriddenIn]; done) | decide +kernel)
theorem d3_0 : decode jdk_22_method_1_code 0 = .ok (.aload_n 0, 1) := by decide +kernel
theorem d3_1 : decode jdk_22_method_1_code 1 = .ok (.invokespecial 1, 3) := by decide +kernel
theorem d3_4 : decode jdk_22_method_1_code 4 = .ok (.return_, 1) := by decide +kernel
theorem pn1 : plainFor (⟨"java/lang/Record", "<init>", "()V"⟩ : MethodName) = true := plainFor_of_name (by first | (simp [plainName, overriddenIn]; done) | decide +kernel)
theorem d6_0 : decode jdk_30_method_1_code 0 = .ok (.aload_n 0, 1) := by decide +kernel
theorem d6_1 : decode jdk_30_method_1_code 1 = .ok (.invokespecial 1, 3) := by decide +kernel
theorem d6_4 : decode jdk_30_method_1_code 4 = .ok (.return_, 1) := by decide +kernel
theorem pn2 : plainFor (⟨"java/util/AbstractList", "<init>", "()V"⟩ : MethodName) = true := plainFor_of_name (by first | (simp [plainName, overriddenIn]; done) | decide +kernel)
theorem d2_0 : decode jdk_39_method_1_code 0 = .ok (.aload_n 0, 1) := by decide +kernel
theorem d2_1 : decode jdk_39_method_1_code 1 = .ok (.invokespecial 1, 3) := by decide +kernel
theorem pd3 : parseMethodDescriptor "()V" = some ⟨[], none⟩ := by decide +kernel
theorem d2_4 : decode jdk_39_method_1_code 4 = .ok (.aload_n 0, 1) := by decide +kernel
theorem d2_5 : decode jdk_39_method_1_code 5 = .ok (.iconst 0, 1) := by decide +kernel
theorem d2_6 : decode jdk_39_method_1_code 6 = .ok (.putfield 7, 3) := by decide +kernel
theorem d2_9 : decode jdk_39_method_1_code 9 = .ok (.return_, 1) := by decide +kernel
theorem pn4 : plainFor (⟨"java/util/ArrayList", "<init>", "()V"⟩ : MethodName) = true := plainFor_of_name (by first | (simp [plainName, overriddenIn]; done) | decide +kernel)
theorem d1_0 : decode jdk_38_method_2_code 0 = .ok (.aload_n 0, 1) := by decide +kernel
theorem d1_1 : decode jdk_38_method_2_code 1 = .ok (.invokespecial 1, 3) := by decide +kernel
theorem d1_4 : decode jdk_38_method_2_code 4 = .ok (.aload_n 0, 1) := by decide +kernel
theorem d1_5 : decode jdk_38_method_2_code 5 = .ok (.getstatic 39, 3) := by decide +kernel
theorem d1_8 : decode jdk_38_method_2_code 8 = .ok (.putfield 9, 3) := by decide +kernel
theorem d1_11 : decode jdk_38_method_2_code 11 = .ok (.return_, 1) := by decide +kernel
theorem pn5 : plainFor (⟨"com/example/sealed_ledger/sealedledger/query/EntryPage", "<init>", "(Ljava/util/List;JIJ)V"⟩ : MethodName) = true := plainFor_of_name (by first | (simp [plainName, overriddenIn]; done) | decide +kernel)
theorem d5_0 : decode prog_28_method_1_code 0 = .ok (.aload_n 0, 1) := by decide +kernel
theorem d5_1 : decode prog_28_method_1_code 1 = .ok (.invokespecial 1, 3) := by decide +kernel
theorem d5_4 : decode prog_28_method_1_code 4 = .ok (.aload_n 0, 1) := by decide +kernel
theorem d5_5 : decode prog_28_method_1_code 5 = .ok (.aload_n 1, 1) := by decide +kernel
theorem d5_6 : decode prog_28_method_1_code 6 = .ok (.putfield 7, 3) := by decide +kernel
theorem d5_9 : decode prog_28_method_1_code 9 = .ok (.aload_n 0, 1) := by decide +kernel
theorem d5_10 : decode prog_28_method_1_code 10 = .ok (.lload_n 2, 1) := by decide +kernel
theorem d5_11 : decode prog_28_method_1_code 11 = .ok (.putfield 13, 3) := by decide +kernel
theorem d5_14 : decode prog_28_method_1_code 14 = .ok (.aload_n 0, 1) := by decide +kernel
theorem d5_15 : decode prog_28_method_1_code 15 = .ok (.iload 4, 2) := by decide +kernel
theorem d5_17 : decode prog_28_method_1_code 17 = .ok (.putfield 17, 3) := by decide +kernel
theorem d5_20 : decode prog_28_method_1_code 20 = .ok (.aload_n 0, 1) := by decide +kernel
theorem d5_21 : decode prog_28_method_1_code 21 = .ok (.lload 5, 2) := by decide +kernel
theorem d5_23 : decode prog_28_method_1_code 23 = .ok (.putfield 21, 3) := by decide +kernel
theorem d5_26 : decode prog_28_method_1_code 26 = .ok (.return_, 1) := by decide +kernel
theorem pn6 : plainFor (⟨"com/example/sealed_ledger/sealedledger/query/EntryPage", "totalPages", "()J"⟩ : MethodName) = true := plainFor_of_name (by first | (simp [plainName, overriddenIn]; done) | decide +kernel)
theorem d7_0 : decode prog_28_method_2_code 0 = .ok (.aload_n 0, 1) := by decide +kernel
theorem d7_1 : decode prog_28_method_2_code 1 = .ok (.getfield 21, 3) := by decide +kernel
theorem d7_4 : decode prog_28_method_2_code 4 = .ok (.aload_n 0, 1) := by decide +kernel
theorem d7_5 : decode prog_28_method_2_code 5 = .ok (.getfield 17, 3) := by decide +kernel
theorem d7_8 : decode prog_28_method_2_code 8 = .ok (.i2l, 1) := by decide +kernel
theorem d7_9 : decode prog_28_method_2_code 9 = .ok (.ldiv, 1) := by decide +kernel
theorem d7_10 : decode prog_28_method_2_code 10 = .ok (.aload_n 0, 1) := by decide +kernel
theorem d7_11 : decode prog_28_method_2_code 11 = .ok (.getfield 21, 3) := by decide +kernel
theorem d7_14 : decode prog_28_method_2_code 14 = .ok (.aload_n 0, 1) := by decide +kernel
theorem d7_15 : decode prog_28_method_2_code 15 = .ok (.getfield 17, 3) := by decide +kernel
theorem d7_18 : decode prog_28_method_2_code 18 = .ok (.i2l, 1) := by decide +kernel
theorem d7_19 : decode prog_28_method_2_code 19 = .ok (.lrem, 1) := by decide +kernel
theorem d7_20 : decode prog_28_method_2_code 20 = .ok (.lconst 0, 1) := by decide +kernel
theorem d7_21 : decode prog_28_method_2_code 21 = .ok (.lcmp, 1) := by decide +kernel
theorem d7_22 : decode prog_28_method_2_code 22 = .ok (.ifCond .ne 7, 3) := by decide +kernel
theorem d7_25 : decode prog_28_method_2_code 25 = .ok (.iconst 0, 1) := by decide +kernel
theorem d7_26 : decode prog_28_method_2_code 26 = .ok (.goto 4, 3) := by decide +kernel
theorem d7_30 : decode prog_28_method_2_code 30 = .ok (.i2l, 1) := by decide +kernel
theorem d7_31 : decode prog_28_method_2_code 31 = .ok (.ladd, 1) := by decide +kernel
theorem d7_32 : decode prog_28_method_2_code 32 = .ok (.lreturn, 1) := by decide +kernel
theorem d7_29 : decode prog_28_method_2_code 29 = .ok (.iconst 1, 1) := by decide +kernel
theorem pn7 : plainFor (⟨"com/example/sealed_ledger/sealedledger/query/EntryPageTotalPagesPinLaw", "law", "(JIJ)Z"⟩ : MethodName) = true := plainFor_of_name (by first | (simp [plainName, overriddenIn]; done) | decide +kernel)
theorem pd8 : parseMethodDescriptor "(Ljava/util/List;JIJ)V" = some ⟨[(.object "java/util/List"), .long, .int, .long], none⟩ := by decide +kernel
theorem pd9 : parseMethodDescriptor "()J" = some ⟨[], some .long⟩ := by decide +kernel
theorem ef_rmAC (m : MethodId) (x0 : Addr) : entryFrame m #[(.ref x0)] 1 = mkF m 0 #[.val (.ref x0)] [] := by first | (simp [entryFrame, mkF, argsToLocals, Value.category]; done) | rfl
set_option maxRecDepth 65536 in
set_option maxHeartbeats 40000000 in
theorem rmAC (l : Launch) (Z : State) (a0 : Array Value) (hw : ∀ d ∈ tables_1, d.before a0 Z = true) (ws : List Jvm.Cond) (a : Addr) (h0 : Heap) :
    Met l Z (⟨"java/util/AbstractCollection", "<init>", "()V"⟩ : MethodName) jdk_22_method_1_code 1 none ws ({ frames := 1, cells := 0, slots := 0, locals := 12 } : Room) #[(.ref a)] h0 (fun v h L => v = none ∧ L = [] ∧ h = h0) := by
  refine Met.intro pn0 ?_
  intro pr ev s m below meth c T0 X0 hx hZ hown hby hml hret hlk hnm e0
  refine Go.cast (ef_rmAC m a) ?_
  refine Go.of (mkF m 1 #[.val (.ref a)] [(.ref a)]) (fun t k => XS.aloadN X0.here hx rfl (hb hby d3_0) rfl rfl k) ?_
  obtain ⟨T1, X1, e1, st1⟩ := initO X0 hx hZ hown (tw20 hw) (tw21 hw) (tw22 hw) e0 (g := (mkF m 1 #[.val (.ref a)] [(.ref a)])) rfl (by rw [hml]; rfl) rfl (hb hby d3_1) (by decide) (W := 0) (by show 2 * 0 + _ ≤ _; exact Nat.le_of_eq rfl) (by decide)
  refine Go.of (mkF m 4 #[.val (.ref a)] []) (st1) ?_
  exact Go.retV X1 hx hret hlk (hb hby d3_4) (by decide) (by decide) ⟨rfl, rfl, e1⟩
theorem ef_rmR (m : MethodId) (x0 : Addr) : entryFrame m #[(.ref x0)] 1 = mkF m 0 #[.val (.ref x0)] [] := by first | (simp [entryFrame, mkF, argsToLocals, Value.category]; done) | rfl
set_option maxRecDepth 65536 in
set_option maxHeartbeats 40000000 in
theorem rmR (l : Launch) (Z : State) (a0 : Array Value) (hw : ∀ d ∈ tables_1, d.before a0 Z = true) (ws : List Jvm.Cond) (a : Addr) (h0 : Heap) :
    Met l Z (⟨"java/lang/Record", "<init>", "()V"⟩ : MethodName) jdk_30_method_1_code 1 none ws ({ frames := 1, cells := 0, slots := 0, locals := 12 } : Room) #[(.ref a)] h0 (fun v h L => v = none ∧ L = [] ∧ h = h0) := by
  refine Met.intro pn1 ?_
  intro pr ev s m below meth c T0 X0 hx hZ hown hby hml hret hlk hnm e0
  refine Go.cast (ef_rmR m a) ?_
  refine Go.of (mkF m 1 #[.val (.ref a)] [(.ref a)]) (fun t k => XS.aloadN X0.here hx rfl (hb hby d6_0) rfl rfl k) ?_
  obtain ⟨T1, X1, e1, st1⟩ := initO X0 hx hZ hown (tw39 hw) (tw21 hw) (tw22 hw) e0 (g := (mkF m 1 #[.val (.ref a)] [(.ref a)])) rfl (by rw [hml]; rfl) rfl (hb hby d6_1) (by decide) (W := 0) (by show 2 * 0 + _ ≤ _; exact Nat.le_of_eq rfl) (by decide)
  refine Go.of (mkF m 4 #[.val (.ref a)] []) (st1) ?_
  exact Go.retV X1 hx hret hlk (hb hby d6_4) (by decide) (by decide) ⟨rfl, rfl, e1⟩
theorem ef_rmABL (m : MethodId) (x0 : Addr) : entryFrame m #[(.ref x0)] 1 = mkF m 0 #[.val (.ref x0)] [] := by first | (simp [entryFrame, mkF, argsToLocals, Value.category]; done) | rfl
set_option maxRecDepth 65536 in
set_option maxHeartbeats 40000000 in
theorem rmABL (l : Launch) (Z : State) (a0 : Array Value) (hw : ∀ d ∈ tables_1, d.before a0 Z = true) (ws : List Jvm.Cond) (a : Addr) (h0 : Heap) (n0 : Nat) (hz0 : n0 ≤ h0.size) (E : Exa Z h0 a "java/util/ArrayList") (ga : n0 ≤ a) (F1 : Fld Z h0 a "java/util/AbstractList" "modCount" "I" (.int (0 : Int32))) (F2 : Fld Z h0 a "java/util/ArrayList" "elementData" "[Ljava/lang/Object;" .null) :
    Met l Z (⟨"java/util/AbstractList", "<init>", "()V"⟩ : MethodName) jdk_39_method_1_code 1 none ws ({ frames := 2, cells := 0, slots := 0, locals := 24 } : Room) #[(.ref a)] h0 (fun v h L => v = none ∧ Fr n0 L ∧ Keep h0 h [a] ∧ Fld Z h a "java/util/ArrayList" "elementData" "[Ljava/lang/Object;" .null) := by
  refine Met.intro pn2 ?_
  intro pr ev s m below meth c T0 X0 hx hZ hown hby hml hret hlk hnm e0
  refine Go.cast (ef_rmABL m a) ?_
  have N0 := Fr.nil n0
  have hz := hz0
  have K0 : Keep h0 h0 [a] := Keep.refl h0 _
  refine Go.of (mkF m 1 #[.val (.ref a)] [(.ref a)]) (fun t k => XS.aloadN X0.here hx rfl (hb hby d2_0) rfl rfl k) ?_
  refine Go.init X0 hx hZ (y := (⟨"java/util/AbstractCollection", "<init>", "()V"⟩ : MethodName)) (a := a) (argsL := []) (rest := []) hown rfl (tw14 hw) (tw15 hw) (tw18 hw) (tw19 hw) (by decide) e0 (rmAC l Z a0 hw [] a h0) (g := (mkF m 1 #[.val (.ref a)] [(.ref a)])) rfl (by rw [hml]; rfl) (lenOf pd3 rfl) rfl (W := 0) (by show 2 * 0 + _ ≤ _; exact Nat.le_of_eq rfl) (hb hby d2_1) (by decide) (by decide) (by decide) (by decide) ?_
  rintro T1 L1 v1 X1 ⟨rfl, rfl, hh1⟩
  have N1 := Fr.app N0 (Fr.nil n0)
  show Go pr ev below _ T1 (mkF m 4 #[.val (.ref a)] [])
  refine Go.of (mkF m 5 #[.val (.ref a)] [(.ref a)]) (fun t k => XS.aloadN X1.here hx rfl (hb hby d2_4) rfl rfl k) ?_
  refine Go.of (mkF m 6 #[.val (.ref a)] [(.int (0 : Int32)), (.ref a)]) (fun t k => XS.iconst X1.here hx rfl (hb hby d2_5) k) ?_
  obtain ⟨T2, h2, X2, e2, W2, st2⟩ := putF X1 hx hZ hown (host := "") (Or.inl (tw23 hw)) Via.refl hh1 F1 E (Or.inl (tw24 hw)) (tw3 hw) (ty := .int) (by decide) rfl rfl (g := (mkF m 6 #[.val (.ref a)] [(.int (0 : Int32)), (.ref a)])) rfl rfl (hb hby d2_6)
  replace F1 := F1.same W2
  replace F2 := F2.other W2 (Or.inr (slot_ne (Or.inl (tw27 hw)) (Or.inl (tw24 hw)) (by decide) (t := (.array (.object "java/lang/Object"))) (t' := .int) (by decide) (by decide)))
  replace E := E.wr W2
  replace hz := Nat.le_trans hz (Nat.le_of_eq W2.size.symm)
  replace K0 := K0.wr W2 (Or.inl (by simp))
  have N2 := Fr.snoc X2 N1 ga
  refine Go.of (mkF m 9 #[.val (.ref a)] []) (st2) ?_
  exact Go.retV X2 hx hret hlk (hb hby d2_9) (by decide) (by decide) (by rw [e2]; exact ⟨rfl, N2, K0, F2⟩)
theorem ef_rmAL (m : MethodId) (x0 : Addr) : entryFrame m #[(.ref x0)] 1 = mkF m 0 #[.val (.ref x0)] [] := by first | (simp [entryFrame, mkF, argsToLocals, Value.category]; done) | rfl
set_option maxRecDepth 65536 in
set_option maxHeartbeats 40000000 in
theorem rmAL (l : Launch) (Z : State) (a0 : Array Value) (hw : ∀ d ∈ tables_1, d.before a0 Z = true) (ws : List Jvm.Cond) (a u : Addr) (h0 : Heap) (n0 : Nat) (hz0 : n0 ≤ h0.size) (E : Exa Z h0 a "java/util/ArrayList") (ga : n0 ≤ a) (F1 : Fld Z h0 a "java/util/AbstractList" "modCount" "I" (.int (0 : Int32))) (F2 : Fld Z h0 a "java/util/ArrayList" "elementData" "[Ljava/lang/Object;" .null) (S1 : Sta Z h0 "java/util/ArrayList" "DEFAULTCAPACITY_EMPTY_ELEMENTDATA" "[Ljava/lang/Object;" (.ref u)) :
    Met l Z (⟨"java/util/ArrayList", "<init>", "()V"⟩ : MethodName) jdk_38_method_2_code 1 none ws ({ frames := 3, cells := 0, slots := 0, locals := 36 } : Room) #[(.ref a)] h0 (fun v h L => v = none ∧ Fr n0 L ∧ Keep h0 h [a]) := by
  refine Met.intro pn4 ?_
  intro pr ev s m below meth c T0 X0 hx hZ hown hby hml hret hlk hnm e0
  refine Go.cast (ef_rmAL m a) ?_
  have N0 := Fr.nil n0
  have hz := hz0
  have K0 : Keep h0 h0 [a] := Keep.refl h0 _
  refine Go.of (mkF m 1 #[.val (.ref a)] [(.ref a)]) (fun t k => XS.aloadN X0.here hx rfl (hb hby d1_0) rfl rfl k) ?_
  refine Go.init X0 hx hZ (y := (⟨"java/util/AbstractList", "<init>", "()V"⟩ : MethodName)) (a := a) (argsL := []) (rest := []) hown rfl (tw8 hw) (tw9 hw) (tw12 hw) (tw13 hw) (by decide) e0 (rmABL l Z a0 hw [] a h0 n0 hz E ga F1 F2) (g := (mkF m 1 #[.val (.ref a)] [(.ref a)])) rfl (by rw [hml]; rfl) (lenOf pd3 rfl) rfl (W := 0) (by show 2 * 0 + _ ≤ _; exact Nat.le_of_eq rfl) (hb hby d1_1) (by decide) (by decide) (by decide) (by decide) ?_
  rintro T1 L1 v1 X1 ⟨rfl, NL1, K1, F2_1⟩
  have N1 := Fr.app N0 NL1
  replace S1 := Sta.keep S1 K1 (allS (exa_ns E) (all0))
  replace E := E.keep K1
  replace hz := Nat.le_trans hz K1.1
  replace K0 := K0.trans K1 (((allS (Or.inl (by simp)) all0)))
  show Go pr ev below _ T1 (mkF m 4 #[.val (.ref a)] [])
  refine Go.of (mkF m 5 #[.val (.ref a)] [(.ref a)]) (fun t k => XS.aloadN X1.here hx rfl (hb hby d1_4) rfl rfl k) ?_
  obtain ⟨T2, X2, e2, st2⟩ := getS2 X1 hx hZ hown (host := "") (Or.inl (tw25 hw)) Via.refl rfl S1 (g := (mkF m 5 #[.val (.ref a)] [(.ref a)])) rfl (hb hby d1_5)
  refine Go.of (mkF m 8 #[.val (.ref a)] [(.ref u), (.ref a)]) (st2) ?_
  obtain ⟨T3, h3, X3, e3, W3, st3⟩ := putF X2 hx hZ hown (host := "") (Or.inl (tw26 hw)) Via.refl e2 F2_1 E (Or.inl (tw27 hw)) (tw3 hw) (ty := (.array (.object "java/lang/Object"))) (by decide) rfl rfl (g := (mkF m 8 #[.val (.ref a)] [(.ref u), (.ref a)])) rfl rfl (hb hby d1_8)
  replace F2_1 := F2_1.same W3
  replace E := E.wr W3
  replace S1 := S1.wr W3
  replace hz := Nat.le_trans hz (Nat.le_of_eq W3.size.symm)
  replace K0 := K0.wr W3 (Or.inl (by simp))
  have N3 := Fr.snoc X3 N1 ga
  refine Go.of (mkF m 11 #[.val (.ref a)] []) (st3) ?_
  exact Go.retV X3 hx hret hlk (hb hby d1_11) (by decide) (by decide) (by rw [e3]; exact ⟨rfl, N3, K0⟩)
theorem ef_rmEP (m : MethodId) (x0 : Addr) (x1 : Addr) (x2 : Int64) (x3 : Int32) (x4 : Int64) : entryFrame m #[(.ref x0), (.ref x1), (.long x2), (.int x3), (.long x4)] 7 = mkF m 0 #[.val (.ref x0), .val (.ref x1), .val (.long x2), .second, .val (.int x3), .val (.long x4), .second] [] := by first | (simp [entryFrame, mkF, argsToLocals, Value.category]; done) | rfl
set_option maxRecDepth 65536 in
set_option maxHeartbeats 40000000 in
theorem rmEP (l : Launch) (Z : State) (a0 : Array Value) (hw : ∀ d ∈ tables_1, d.before a0 Z = true) (ws : List Jvm.Cond) (a b : Addr) (q1 : Int64) (p1 : Int32) (q2 : Int64) (h0 : Heap) (n0 : Nat) (hz0 : n0 ≤ h0.size) (E : Exa Z h0 a "com/example/sealed_ledger/sealedledger/query/EntryPage") (ga : n0 ≤ a) (F0 : Fld Z h0 a "com/example/sealed_ledger/sealedledger/query/EntryPage" "entries" "Ljava/util/List;" .null) (F1 : Fld Z h0 a "com/example/sealed_ledger/sealedledger/query/EntryPage" "page" "J" (.long (0 : Int64))) (F2 : Fld Z h0 a "com/example/sealed_ledger/sealedledger/query/EntryPage" "size" "I" (.int (0 : Int32))) (F3 : Fld Z h0 a "com/example/sealed_ledger/sealedledger/query/EntryPage" "totalElements" "J" (.long (0 : Int64))) :
    Met l Z (⟨"com/example/sealed_ledger/sealedledger/query/EntryPage", "<init>", "(Ljava/util/List;JIJ)V"⟩ : MethodName) prog_28_method_1_code 7 none ws ({ frames := 2, cells := 0, slots := 0, locals := 24 } : Room) #[(.ref a), (.ref b), (.long q1), (.int p1), (.long q2)] h0 (fun v h L => v = none ∧ Fr n0 L ∧ Keep h0 h [a] ∧ Fld Z h a "com/example/sealed_ledger/sealedledger/query/EntryPage" "size" "I" (.int p1) ∧ Fld Z h a "com/example/sealed_ledger/sealedledger/query/EntryPage" "totalElements" "J" (.long q2)) := by
  refine Met.intro pn5 ?_
  intro pr ev s m below meth c T0 X0 hx hZ hown hby hml hret hlk hnm e0
  refine Go.cast (ef_rmEP m a b q1 p1 q2) ?_
  have N0 := Fr.nil n0
  have hz := hz0
  have K0 : Keep h0 h0 [a] := Keep.refl h0 _
  refine Go.of (mkF m 1 #[.val (.ref a), .val (.ref b), .val (.long q1), .second, .val (.int p1), .val (.long q2), .second] [(.ref a)]) (fun t k => XS.aloadN X0.here hx rfl (hb hby d5_0) rfl rfl k) ?_
  refine Go.init X0 hx hZ (y := (⟨"java/lang/Record", "<init>", "()V"⟩ : MethodName)) (a := a) (argsL := []) (rest := []) hown rfl (tw34 hw) (tw35 hw) (tw37 hw) (tw38 hw) (by decide) e0 (rmR l Z a0 hw [] a h0) (g := (mkF m 1 #[.val (.ref a), .val (.ref b), .val (.long q1), .second, .val (.int p1), .val (.long q2), .second] [(.ref a)])) rfl (by rw [hml]; rfl) (lenOf pd3 rfl) rfl (W := 0) (by show 2 * 0 + _ ≤ _; exact Nat.le_of_eq rfl) (hb hby d5_1) (by decide) (by decide) (by decide) (by decide) ?_
  rintro T1 L1 v1 X1 ⟨rfl, rfl, hh1⟩
  have N1 := Fr.app N0 (Fr.nil n0)
  show Go pr ev below _ T1 (mkF m 4 #[.val (.ref a), .val (.ref b), .val (.long q1), .second, .val (.int p1), .val (.long q2), .second] [])
  refine Go.of (mkF m 5 #[.val (.ref a), .val (.ref b), .val (.long q1), .second, .val (.int p1), .val (.long q2), .second] [(.ref a)]) (fun t k => XS.aloadN X1.here hx rfl (hb hby d5_4) rfl rfl k) ?_
  refine Go.of (mkF m 6 #[.val (.ref a), .val (.ref b), .val (.long q1), .second, .val (.int p1), .val (.long q2), .second] [(.ref b), (.ref a)]) (fun t k => XS.aloadN X1.here hx rfl (hb hby d5_5) rfl rfl k) ?_
  obtain ⟨T2, h2, X2, e2, W2, st2⟩ := putF X1 hx hZ hown (host := "") (Or.inl (tw40 hw)) Via.refl hh1 F0 E (Or.inr ⟨(tw41 hw), rfl, hnm⟩) (tw29 hw) (ty := (.object "java/util/List")) (by decide) rfl rfl (g := (mkF m 6 #[.val (.ref a), .val (.ref b), .val (.long q1), .second, .val (.int p1), .val (.long q2), .second] [(.ref b), (.ref a)])) rfl rfl (hb hby d5_6)
  replace F0 := F0.same W2
  replace F1 := F1.other W2 (Or.inr (slot_ne (Or.inr (tw43 hw)) (Or.inr (tw41 hw)) (by decide) (t := .long) (t' := (.object "java/util/List")) (by decide) (by decide)))
  replace F2 := F2.other W2 (Or.inr (slot_ne (Or.inr (tw45 hw)) (Or.inr (tw41 hw)) (by decide) (t := .int) (t' := (.object "java/util/List")) (by decide) (by decide)))
  replace F3 := F3.other W2 (Or.inr (slot_ne (Or.inr (tw47 hw)) (Or.inr (tw41 hw)) (by decide) (t := .long) (t' := (.object "java/util/List")) (by decide) (by decide)))
  replace E := E.wr W2
  replace hz := Nat.le_trans hz (Nat.le_of_eq W2.size.symm)
  replace K0 := K0.wr W2 (Or.inl (by simp))
  have N2 := Fr.snoc X2 N1 ga
  refine Go.of (mkF m 9 #[.val (.ref a), .val (.ref b), .val (.long q1), .second, .val (.int p1), .val (.long q2), .second] []) (st2) ?_
  refine Go.of (mkF m 10 #[.val (.ref a), .val (.ref b), .val (.long q1), .second, .val (.int p1), .val (.long q2), .second] [(.ref a)]) (fun t k => XS.aloadN X2.here hx rfl (hb hby d5_9) rfl rfl k) ?_
  refine Go.of (mkF m 11 #[.val (.ref a), .val (.ref b), .val (.long q1), .second, .val (.int p1), .val (.long q2), .second] [(.long q1), (.ref a)]) (fun t k => XS.lloadN X2.here hx rfl (hb hby d5_10) rfl k) ?_
  obtain ⟨T3, h3, X3, e3, W3, st3⟩ := putF X2 hx hZ hown (host := "") (Or.inl (tw42 hw)) Via.refl e2 F1 E (Or.inr ⟨(tw43 hw), rfl, hnm⟩) (tw29 hw) (ty := .long) (by decide) rfl rfl (g := (mkF m 11 #[.val (.ref a), .val (.ref b), .val (.long q1), .second, .val (.int p1), .val (.long q2), .second] [(.long q1), (.ref a)])) rfl rfl (hb hby d5_11)
  replace F0 := F0.other W3 (Or.inr (slot_ne (Or.inr (tw41 hw)) (Or.inr (tw43 hw)) (by decide) (t := (.object "java/util/List")) (t' := .long) (by decide) (by decide)))
  replace F1 := F1.same W3
  replace F2 := F2.other W3 (Or.inr (slot_ne (Or.inr (tw45 hw)) (Or.inr (tw43 hw)) (by decide) (t := .int) (t' := .long) (by decide) (by decide)))
  replace F3 := F3.other W3 (Or.inr (slot_ne (Or.inr (tw47 hw)) (Or.inr (tw43 hw)) (by decide) (t := .long) (t' := .long) (by decide) (by decide)))
  replace E := E.wr W3
  replace hz := Nat.le_trans hz (Nat.le_of_eq W3.size.symm)
  replace K0 := K0.wr W3 (Or.inl (by simp))
  have N3 := Fr.snoc X3 N2 ga
  refine Go.of (mkF m 14 #[.val (.ref a), .val (.ref b), .val (.long q1), .second, .val (.int p1), .val (.long q2), .second] []) (st3) ?_
  refine Go.of (mkF m 15 #[.val (.ref a), .val (.ref b), .val (.long q1), .second, .val (.int p1), .val (.long q2), .second] [(.ref a)]) (fun t k => XS.aloadN X3.here hx rfl (hb hby d5_14) rfl rfl k) ?_
  refine Go.of (mkF m 17 #[.val (.ref a), .val (.ref b), .val (.long q1), .second, .val (.int p1), .val (.long q2), .second] [(.int p1), (.ref a)]) (fun t k => XS.iload X3.here hx rfl (hb hby d5_15) rfl k) ?_
  obtain ⟨T4, h4, X4, e4, W4, st4⟩ := putF X3 hx hZ hown (host := "") (Or.inl (tw44 hw)) Via.refl e3 F2 E (Or.inr ⟨(tw45 hw), rfl, hnm⟩) (tw29 hw) (ty := .int) (by decide) rfl rfl (g := (mkF m 17 #[.val (.ref a), .val (.ref b), .val (.long q1), .second, .val (.int p1), .val (.long q2), .second] [(.int p1), (.ref a)])) rfl rfl (hb hby d5_17)
  replace F0 := F0.other W4 (Or.inr (slot_ne (Or.inr (tw41 hw)) (Or.inr (tw45 hw)) (by decide) (t := (.object "java/util/List")) (t' := .int) (by decide) (by decide)))
  replace F1 := F1.other W4 (Or.inr (slot_ne (Or.inr (tw43 hw)) (Or.inr (tw45 hw)) (by decide) (t := .long) (t' := .int) (by decide) (by decide)))
  replace F2 := F2.same W4
  replace F3 := F3.other W4 (Or.inr (slot_ne (Or.inr (tw47 hw)) (Or.inr (tw45 hw)) (by decide) (t := .long) (t' := .int) (by decide) (by decide)))
  replace E := E.wr W4
  replace hz := Nat.le_trans hz (Nat.le_of_eq W4.size.symm)
  replace K0 := K0.wr W4 (Or.inl (by simp))
  have N4 := Fr.snoc X4 N3 ga
  refine Go.of (mkF m 20 #[.val (.ref a), .val (.ref b), .val (.long q1), .second, .val (.int p1), .val (.long q2), .second] []) (st4) ?_
  refine Go.of (mkF m 21 #[.val (.ref a), .val (.ref b), .val (.long q1), .second, .val (.int p1), .val (.long q2), .second] [(.ref a)]) (fun t k => XS.aloadN X4.here hx rfl (hb hby d5_20) rfl rfl k) ?_
  refine Go.of (mkF m 23 #[.val (.ref a), .val (.ref b), .val (.long q1), .second, .val (.int p1), .val (.long q2), .second] [(.long q2), (.ref a)]) (fun t k => XS.lload X4.here hx rfl (hb hby d5_21) rfl k) ?_
  obtain ⟨T5, h5, X5, e5, W5, st5⟩ := putF X4 hx hZ hown (host := "") (Or.inl (tw46 hw)) Via.refl e4 F3 E (Or.inr ⟨(tw47 hw), rfl, hnm⟩) (tw29 hw) (ty := .long) (by decide) rfl rfl (g := (mkF m 23 #[.val (.ref a), .val (.ref b), .val (.long q1), .second, .val (.int p1), .val (.long q2), .second] [(.long q2), (.ref a)])) rfl rfl (hb hby d5_23)
  replace F0 := F0.other W5 (Or.inr (slot_ne (Or.inr (tw41 hw)) (Or.inr (tw47 hw)) (by decide) (t := (.object "java/util/List")) (t' := .long) (by decide) (by decide)))
  replace F1 := F1.other W5 (Or.inr (slot_ne (Or.inr (tw43 hw)) (Or.inr (tw47 hw)) (by decide) (t := .long) (t' := .long) (by decide) (by decide)))
  replace F2 := F2.other W5 (Or.inr (slot_ne (Or.inr (tw45 hw)) (Or.inr (tw47 hw)) (by decide) (t := .int) (t' := .long) (by decide) (by decide)))
  replace F3 := F3.same W5
  replace E := E.wr W5
  replace hz := Nat.le_trans hz (Nat.le_of_eq W5.size.symm)
  replace K0 := K0.wr W5 (Or.inl (by simp))
  have N5 := Fr.snoc X5 N4 ga
  refine Go.of (mkF m 26 #[.val (.ref a), .val (.ref b), .val (.long q1), .second, .val (.int p1), .val (.long q2), .second] []) (st5) ?_
  exact Go.retV X5 hx hret hlk (hb hby d5_26) (by decide) (by decide) (by rw [e5]; exact ⟨rfl, N5, K0, F2, F3⟩)
theorem ef_rmTP (m : MethodId) (x0 : Addr) : entryFrame m #[(.ref x0)] 1 = mkF m 0 #[.val (.ref x0)] [] := by first | (simp [entryFrame, mkF, argsToLocals, Value.category]; done) | rfl
set_option maxRecDepth 65536 in
set_option maxHeartbeats 40000000 in
theorem rmTP (l : Launch) (Z : State) (a0 : Array Value) (hw : ∀ d ∈ tables_1, d.before a0 Z = true) (ws : List Jvm.Cond) (a : Addr) (q2 : Int64) (p1 : Int32) (h0 : Heap) (F1 : Fld Z h0 a "com/example/sealed_ledger/sealedledger/query/EntryPage" "size" "I" (.int p1)) (F2 : Fld Z h0 a "com/example/sealed_ledger/sealedledger/query/EntryPage" "totalElements" "J" (.long q2)) (hp : 0 < p1) :
    Met l Z (⟨"com/example/sealed_ledger/sealedledger/query/EntryPage", "totalPages", "()J"⟩ : MethodName) prog_28_method_2_code 1 (some .long) ws ({ frames := 0, cells := 0, slots := 0, locals := 0 } : Room) #[(.ref a)] h0 (fun v h L => v = some (.long (own_tp q2 p1)) ∧ L = [] ∧ h = h0) := by
  refine Met.intro pn6 ?_
  intro pr ev s m below meth c T0 X0 hx hZ hown hby hml hret hlk hnm e0
  refine Go.cast (ef_rmTP m a) ?_
  refine Go.of (mkF m 1 #[.val (.ref a)] [(.ref a)]) (fun t k => XS.aloadN X0.here hx rfl (hb hby d7_0) rfl rfl k) ?_
  obtain ⟨T1, X1, e1, st1⟩ := getF X0 hx hZ hown (host := "") (Or.inl (tw46 hw)) Via.refl e0 F2 (g := (mkF m 1 #[.val (.ref a)] [(.ref a)])) rfl rfl (hb hby d7_1)
  refine Go.of (mkF m 4 #[.val (.ref a)] [(.long q2)]) (st1) ?_
  refine Go.of (mkF m 5 #[.val (.ref a)] [(.ref a), (.long q2)]) (fun t k => XS.aloadN X1.here hx rfl (hb hby d7_4) rfl rfl k) ?_
  obtain ⟨T2, X2, e2, st2⟩ := getF X1 hx hZ hown (host := "") (Or.inl (tw44 hw)) Via.refl e1 F1 (g := (mkF m 5 #[.val (.ref a)] [(.ref a), (.long q2)])) rfl rfl (hb hby d7_5)
  refine Go.of (mkF m 8 #[.val (.ref a)] [(.int p1), (.long q2)]) (st2) ?_
  refine Go.of (mkF m 9 #[.val (.ref a)] [(.long (p1.toInt64)), (.long q2)]) (fun t k => XS.i2l X2.here hx rfl (hb hby d7_8) rfl k) ?_
  refine Go.of (mkF m 10 #[.val (.ref a)] [(.long (q2 / (p1.toInt64)))]) (fun t k => XS.ldiv X2.here hx rfl (hb hby d7_9) rfl (own_nz hp) k) ?_
  refine Go.of (mkF m 11 #[.val (.ref a)] [(.ref a), (.long (q2 / (p1.toInt64)))]) (fun t k => XS.aloadN X2.here hx rfl (hb hby d7_10) rfl rfl k) ?_
  obtain ⟨T3, X3, e3, st3⟩ := getF X2 hx hZ hown (host := "") (Or.inl (tw46 hw)) Via.refl e2 F2 (g := (mkF m 11 #[.val (.ref a)] [(.ref a), (.long (q2 / (p1.toInt64)))])) rfl rfl (hb hby d7_11)
  refine Go.of (mkF m 14 #[.val (.ref a)] [(.long q2), (.long (q2 / (p1.toInt64)))]) (st3) ?_
  refine Go.of (mkF m 15 #[.val (.ref a)] [(.ref a), (.long q2), (.long (q2 / (p1.toInt64)))]) (fun t k => XS.aloadN X3.here hx rfl (hb hby d7_14) rfl rfl k) ?_
  obtain ⟨T4, X4, e4, st4⟩ := getF X3 hx hZ hown (host := "") (Or.inl (tw44 hw)) Via.refl e3 F1 (g := (mkF m 15 #[.val (.ref a)] [(.ref a), (.long q2), (.long (q2 / (p1.toInt64)))])) rfl rfl (hb hby d7_15)
  refine Go.of (mkF m 18 #[.val (.ref a)] [(.int p1), (.long q2), (.long (q2 / (p1.toInt64)))]) (st4) ?_
  refine Go.of (mkF m 19 #[.val (.ref a)] [(.long (p1.toInt64)), (.long q2), (.long (q2 / (p1.toInt64)))]) (fun t k => XS.i2l X4.here hx rfl (hb hby d7_18) rfl k) ?_
  refine Go.of (mkF m 20 #[.val (.ref a)] [(.long (q2 - q2 / (p1.toInt64) * (p1.toInt64))), (.long (q2 / (p1.toInt64)))]) (fun t k => XS.lrem X4.here hx rfl (hb hby d7_19) rfl (own_nz hp) k) ?_
  refine Go.of (mkF m 21 #[.val (.ref a)] [(.long (0 : Int64)), (.long (q2 - q2 / (p1.toInt64) * (p1.toInt64))), (.long (q2 / (p1.toInt64)))]) (fun t k => XS.lconst X4.here hx rfl (hb hby d7_20) k) ?_
  refine Go.of (mkF m 22 #[.val (.ref a)] [(.int (lcmpW (q2 - q2 / (p1.toInt64) * (p1.toInt64)) (0 : Int64))), (.long (q2 / (p1.toInt64)))]) (fun t k => XS.lcmp X4.here hx rfl (hb hby d7_21) rfl k) ?_
  by_cases hc22 : (q2 - q2 / (p1.toInt64) * (p1.toInt64)) = (0 : Int64)
  ·
    refine Go.of (mkF m 25 #[.val (.ref a)] [(.long (q2 / (p1.toInt64)))]) (fun t k => XS.ifNo X4.here hx rfl (hb hby d7_22) rfl ((if0 _ _).trans (teq ((lw_eq _ _).mpr hc22)).2) k) ?_
    refine Go.of (mkF m 26 #[.val (.ref a)] [(.int (0 : Int32)), (.long (q2 / (p1.toInt64)))]) (fun t k => XS.iconst X4.here hx rfl (hb hby d7_25) k) ?_
    refine Go.of (mkF m 30 #[.val (.ref a)] [(.int (0 : Int32)), (.long (q2 / (p1.toInt64)))]) (fun t k => XS.goto X4.here hx rfl (pc0 := 26) (pc' := 30) rfl (hb hby d7_26) (by decide) (by decide) k) ?_
    refine Go.of (mkF m 31 #[.val (.ref a)] [(.long ((0 : Int32).toInt64)), (.long (q2 / (p1.toInt64)))]) (fun t k => XS.i2l X4.here hx rfl (hb hby d7_30) rfl k) ?_
    refine Go.of (mkF m 32 #[.val (.ref a)] [(.long ((q2 / (p1.toInt64)) + ((0 : Int32).toInt64)))]) (fun t k => XS.ladd X4.here hx rfl (hb hby d7_31) rfl k) ?_
    exact Go.retW X4 hx (t := .long) hret hlk rfl (Or.inr (Or.inl ⟨rfl, rfl, _, rfl⟩)) (hb hby d7_32) (by decide) (by decide) ⟨by simp [own_tp, hc22], rfl, e4⟩
  ·
    refine Go.of (mkF m 29 #[.val (.ref a)] [(.long (q2 / (p1.toInt64)))]) (fun t k => XS.ifYes X4.here hx rfl (pc0 := 22) (pc' := 29) rfl (hb hby d7_22) rfl ((if0 _ _).trans (feq (mt (lw_eq _ _).mp hc22)).2) (by decide) (by decide) k) ?_
    refine Go.of (mkF m 30 #[.val (.ref a)] [(.int (1 : Int32)), (.long (q2 / (p1.toInt64)))]) (fun t k => XS.iconst X4.here hx rfl (hb hby d7_29) k) ?_
    refine Go.of (mkF m 31 #[.val (.ref a)] [(.long ((1 : Int32).toInt64)), (.long (q2 / (p1.toInt64)))]) (fun t k => XS.i2l X4.here hx rfl (hb hby d7_30) rfl k) ?_
    refine Go.of (mkF m 32 #[.val (.ref a)] [(.long ((q2 / (p1.toInt64)) + ((1 : Int32).toInt64)))]) (fun t k => XS.ladd X4.here hx rfl (hb hby d7_31) rfl k) ?_
    exact Go.retW X4 hx (t := .long) hret hlk rfl (Or.inr (Or.inl ⟨rfl, rfl, _, rfl⟩)) (hb hby d7_32) (by decide) (by decide) ⟨by simp [own_tp, hc22], rfl, e4⟩
theorem ef_rm0 (m : MethodId) (x0 : Int64) (x1 : Int32) (x2 : Int64) : entryFrame m #[(.long x0), (.int x1), (.long x2)] maxLocals = mkF m 0 #[.val (.long x0), .second, .val (.int x1), .val (.long x2), .second, .unset, .unset, .unset, .unset, .unset, .unset, .unset, .unset, .unset] [] := by first | (simp [entryFrame, mkF, argsToLocals, Value.category, maxLocals]; done) | rfl
set_option maxRecDepth 65536 in
set_option maxHeartbeats 40000000 in
theorem rm0 (l : Launch) (Z : State) (a0 : Array Value) (hw : ∀ d ∈ tables_1, d.before a0 Z = true) (ws : List Jvm.Cond) (q1 : Int64) (p1 : Int32) (q2 : Int64) (h0 : Heap) (n0 : Nat) (hz0 : n0 ≤ h0.size) (u : Addr) (S1 : Sta Z h0 "java/util/ArrayList" "DEFAULTCAPACITY_EMPTY_ELEMENTDATA" "[Ljava/lang/Object;" (.ref u)) :
    Met l Z x code maxLocals ret ws room_1 #[(.long q1), (.int p1), (.long q2)] h0 (fun v h L => v = some (.int 1) ∧ Fr n0 L) := by
  refine Met.intro pn7 ?_
  intro pr ev s m below meth c T0 X0 hx hZ hown hby hml hret hlk hnm e0
  refine Go.cast (ef_rm0 m q1 p1 q2) ?_
  have N0 := Fr.nil n0
  have hz := hz0
  refine Go.of (mkF m 1 #[.val (.long q1), .second, .val (.int p1), .val (.long q2), .second, .unset, .unset, .unset, .unset, .unset, .unset, .unset, .unset, .unset] [(.long q1)]) (fun t k => XS.lloadN X0.here hx rfl (hb hby at_0) rfl k) ?_
  refine Go.of (mkF m 4 #[.val (.long q1), .second, .val (.int p1), .val (.long q2), .second, .unset, .unset, .unset, .unset, .unset, .unset, .unset, .unset, .unset] [(.long (9223372036854775807 : Int64)), (.long q1)]) (fun t k => X0.ldc2Long hx hown (mvT hZ (tw0 hw)) (g := (mkF m 1 #[.val (.long q1), .second, .val (.int p1), .val (.long q2), .second, .unset, .unset, .unset, .unset, .unset, .unset, .unset, .unset, .unset] [(.long q1)])) rfl (hb hby at_1) _ k) ?_
  refine Go.of (mkF m 5 #[.val (.long q1), .second, .val (.int p1), .val (.long q2), .second, .unset, .unset, .unset, .unset, .unset, .unset, .unset, .unset, .unset] [(.long (q1 &&& (9223372036854775807 : Int64)))]) (fun t k => XS.land X0.here hx rfl (hb hby at_4) rfl k) ?_
  refine Go.of (mkF m 7 #[.val (.long q1), .second, .val (.int p1), .val (.long q2), .second, .val (.long (q1 &&& (9223372036854775807 : Int64))), .second, .unset, .unset, .unset, .unset, .unset, .unset, .unset] []) (fun t k => XS.lstore X0.here hx rfl (hb hby at_5) rfl (l' := #[.val (.long q1), .second, .val (.int p1), .val (.long q2), .second, .val (.long (q1 &&& (9223372036854775807 : Int64))), .second, .unset, .unset, .unset, .unset, .unset, .unset, .unset]) rfl k) ?_
  have hq3 := own_posL q1
  generalize hq3e : (q1 &&& (9223372036854775807 : Int64)) = q3
  rw [hq3e] at hq3
  refine Go.of (mkF m 8 #[.val (.long q1), .second, .val (.int p1), .val (.long q2), .second, .val (.long q3), .second, .unset, .unset, .unset, .unset, .unset, .unset, .unset] [(.int p1)]) (fun t k => XS.iloadN X0.here hx rfl (hb hby at_7) rfl k) ?_
  refine Go.of (mkF m 10 #[.val (.long q1), .second, .val (.int p1), .val (.long q2), .second, .val (.long q3), .second, .unset, .unset, .unset, .unset, .unset, .unset, .unset] [(.int (2147483647 : Int32)), (.int p1)]) (fun t k => X0.ldcInt hx hown (mvT hZ (tw1 hw)) (g := (mkF m 8 #[.val (.long q1), .second, .val (.int p1), .val (.long q2), .second, .val (.long q3), .second, .unset, .unset, .unset, .unset, .unset, .unset, .unset] [(.int p1)])) rfl (hb hby at_8) _ k) ?_
  refine Go.of (mkF m 11 #[.val (.long q1), .second, .val (.int p1), .val (.long q2), .second, .val (.long q3), .second, .unset, .unset, .unset, .unset, .unset, .unset, .unset] [(.int (p1 &&& (2147483647 : Int32)))]) (fun t k => XS.iand X0.here hx rfl (hb hby at_10) rfl k) ?_
  refine Go.of (mkF m 13 #[.val (.long q1), .second, .val (.int p1), .val (.long q2), .second, .val (.long q3), .second, .val (.int (p1 &&& (2147483647 : Int32))), .unset, .unset, .unset, .unset, .unset, .unset] []) (fun t k => XS.istore X0.here hx rfl (hb hby at_11) rfl (l' := #[.val (.long q1), .second, .val (.int p1), .val (.long q2), .second, .val (.long q3), .second, .val (.int (p1 &&& (2147483647 : Int32))), .unset, .unset, .unset, .unset, .unset, .unset]) rfl k) ?_
  have hp2 := own_pos p1
  generalize hp2e : (p1 &&& (2147483647 : Int32)) = p2
  rw [hp2e] at hp2
  have J21 : ∀ (TJ : State) (LJ : List Loc) (z4 : Int32), Stand pr l ev room_1 s m #[(.long q1), (.int p1), (.long q2)] below meth c TJ LJ 0 0 → TJ.heap = h0 → Fr n0 LJ → 0 < z4 → Go pr ev below (EndP s room_1 (fun v h L => v = some (.int 1) ∧ Fr n0 L)) TJ (mkF m 21 #[.val (.long q1), .second, .val (.int p1), .val (.long q2), .second, .val (.long q3), .second, .val (.int z4), .unset, .unset, .unset, .unset, .unset, .unset] []) := by
    intro TJ LJ z4 XJ eJ NJ hJ
    obtain ⟨T1, h1, X1, e1, E1, A1, D1, -, st1⟩ := newO XJ hx hZ hown (tw2 hw) (tw3 hw) (tw4 hw) eJ (g := (mkF m 21 #[.val (.long q1), .second, .val (.int p1), .val (.long q2), .second, .val (.long q3), .second, .val (.int z4), .unset, .unset, .unset, .unset, .unset, .unset] [])) rfl (hb hby at_21) (by decide) (by decide)
    obtain ⟨b1, g1⟩ : ∃ z, z = h0.size := ⟨_, rfl⟩
    rw [← g1] at A1 D1 st1
    have gb_b1 : n0 ≤ b1 := Nat.le_trans hz (Nat.le_of_eq g1.symm)
    replace S1 := S1.ext E1
    replace hz := Nat.le_trans hz E1.1
    have F_b1_modCount : Fld Z h1 b1 "java/util/AbstractList" "modCount" "I" (.int (0 : Int32)) := D1 (Or.inl (tw24 hw)) (ty := .int) (by decide)
    have F_b1_elementData : Fld Z h1 b1 "java/util/ArrayList" "elementData" "[Ljava/lang/Object;" .null := D1 (Or.inl (tw27 hw)) (ty := (.array (.object "java/lang/Object"))) (by decide)
    refine Go.of (mkF m 24 #[.val (.long q1), .second, .val (.int p1), .val (.long q2), .second, .val (.long q3), .second, .val (.int z4), .unset, .unset, .unset, .unset, .unset, .unset] [(.ref b1)]) (st1) ?_
    refine Go.of (mkF m 25 #[.val (.long q1), .second, .val (.int p1), .val (.long q2), .second, .val (.long q3), .second, .val (.int z4), .unset, .unset, .unset, .unset, .unset, .unset] [(.ref b1), (.ref b1)]) (fun t k => XS.dup X1.here hx rfl (hb hby at_24) rfl rfl k) ?_
    refine Go.init X1 hx hZ (y := (⟨"java/util/ArrayList", "<init>", "()V"⟩ : MethodName)) (a := b1) (argsL := []) (rest := [(.ref b1)]) hown rfl (tw5 hw) (tw6 hw) (tw4 hw) (tw7 hw) (by decide) e1 (rmAL l Z a0 hw [] b1 u h1 n0 hz A1 gb_b1 F_b1_modCount F_b1_elementData S1) (g := (mkF m 25 #[.val (.long q1), .second, .val (.int p1), .val (.long q2), .second, .val (.long q3), .second, .val (.int z4), .unset, .unset, .unset, .unset, .unset, .unset] [(.ref b1), (.ref b1)])) rfl (by rw [hml]; rfl) (lenOf pd3 rfl) rfl (W := 1) (by show 2 * 0 + _ ≤ _; exact Nat.le_of_eq rfl) (hb hby at_25) (by decide) (by decide) (by decide) (by decide) ?_
    rintro T2 L2 v2 X2 ⟨rfl, NL2, K2⟩
    have N2 := Fr.app NJ NL2
    replace S1 := Sta.keep S1 K2 (allS (exa_ns A1) (all0))
    replace A1 := A1.keep K2
    replace hz := Nat.le_trans hz K2.1
    show Go pr ev below _ T2 (mkF m 28 #[.val (.long q1), .second, .val (.int p1), .val (.long q2), .second, .val (.long q3), .second, .val (.int z4), .unset, .unset, .unset, .unset, .unset, .unset] [(.ref b1)])
    refine Go.of (mkF m 30 #[.val (.long q1), .second, .val (.int p1), .val (.long q2), .second, .val (.long q3), .second, .val (.int z4), .val (.ref b1), .unset, .unset, .unset, .unset, .unset] []) (fun t k => XS.astore X2.here hx rfl (hb hby at_28) rfl rfl (l' := #[.val (.long q1), .second, .val (.int p1), .val (.long q2), .second, .val (.long q3), .second, .val (.int z4), .val (.ref b1), .unset, .unset, .unset, .unset, .unset]) rfl k) ?_
    obtain ⟨T3, h3, X3, e3, E3, A3, D3, -, st3⟩ := newO X2 hx hZ hown (tw28 hw) (tw29 hw) (tw30 hw) rfl (g := (mkF m 30 #[.val (.long q1), .second, .val (.int p1), .val (.long q2), .second, .val (.long q3), .second, .val (.int z4), .val (.ref b1), .unset, .unset, .unset, .unset, .unset] [])) rfl (hb hby at_30) (by decide) (by decide)
    obtain ⟨b3, g3⟩ : ∃ z, z = T2.heap.size := ⟨_, rfl⟩
    rw [← g3] at A3 D3 st3
    have ne_b1_b3 : b1 ≠ b3 := Nat.ne_of_lt (Nat.lt_of_lt_of_le A1.lt (Nat.le_of_eq g3.symm))
    have gb_b3 : n0 ≤ b3 := Nat.le_trans hz (Nat.le_of_eq g3.symm)
    replace A1 := A1.ext E3
    replace S1 := S1.ext E3
    replace hz := Nat.le_trans hz E3.1
    have F_b3_entries : Fld Z h3 b3 "com/example/sealed_ledger/sealedledger/query/EntryPage" "entries" "Ljava/util/List;" .null := D3 (Or.inr (tw41 hw)) (ty := (.object "java/util/List")) (by decide)
    have F_b3_page : Fld Z h3 b3 "com/example/sealed_ledger/sealedledger/query/EntryPage" "page" "J" (.long (0 : Int64)) := D3 (Or.inr (tw43 hw)) (ty := .long) (by decide)
    have F_b3_size : Fld Z h3 b3 "com/example/sealed_ledger/sealedledger/query/EntryPage" "size" "I" (.int (0 : Int32)) := D3 (Or.inr (tw45 hw)) (ty := .int) (by decide)
    have F_b3_totalElements : Fld Z h3 b3 "com/example/sealed_ledger/sealedledger/query/EntryPage" "totalElements" "J" (.long (0 : Int64)) := D3 (Or.inr (tw47 hw)) (ty := .long) (by decide)
    refine Go.of (mkF m 33 #[.val (.long q1), .second, .val (.int p1), .val (.long q2), .second, .val (.long q3), .second, .val (.int z4), .val (.ref b1), .unset, .unset, .unset, .unset, .unset] [(.ref b3)]) (st3) ?_
    refine Go.of (mkF m 34 #[.val (.long q1), .second, .val (.int p1), .val (.long q2), .second, .val (.long q3), .second, .val (.int z4), .val (.ref b1), .unset, .unset, .unset, .unset, .unset] [(.ref b3), (.ref b3)]) (fun t k => XS.dup X3.here hx rfl (hb hby at_33) rfl rfl k) ?_
    refine Go.of (mkF m 36 #[.val (.long q1), .second, .val (.int p1), .val (.long q2), .second, .val (.long q3), .second, .val (.int z4), .val (.ref b1), .unset, .unset, .unset, .unset, .unset] [(.ref b1), (.ref b3), (.ref b3)]) (fun t k => XS.aload X3.here hx rfl (hb hby at_34) rfl rfl k) ?_
    refine Go.of (mkF m 37 #[.val (.long q1), .second, .val (.int p1), .val (.long q2), .second, .val (.long q3), .second, .val (.int z4), .val (.ref b1), .unset, .unset, .unset, .unset, .unset] [(.long q2), (.ref b1), (.ref b3), (.ref b3)]) (fun t k => XS.lloadN X3.here hx rfl (hb hby at_36) rfl k) ?_
    refine Go.of (mkF m 39 #[.val (.long q1), .second, .val (.int p1), .val (.long q2), .second, .val (.long q3), .second, .val (.int z4), .val (.ref b1), .unset, .unset, .unset, .unset, .unset] [(.int z4), (.long q2), (.ref b1), (.ref b3), (.ref b3)]) (fun t k => XS.iload X3.here hx rfl (hb hby at_37) rfl k) ?_
    refine Go.of (mkF m 41 #[.val (.long q1), .second, .val (.int p1), .val (.long q2), .second, .val (.long q3), .second, .val (.int z4), .val (.ref b1), .unset, .unset, .unset, .unset, .unset] [(.long q3), (.int z4), (.long q2), (.ref b1), (.ref b3), (.ref b3)]) (fun t k => XS.lload X3.here hx rfl (hb hby at_39) rfl k) ?_
    refine Go.init X3 hx hZ (y := (⟨"com/example/sealed_ledger/sealedledger/query/EntryPage", "<init>", "(Ljava/util/List;JIJ)V"⟩ : MethodName)) (a := b3) (argsL := [(.ref b1), (.long q2), (.int z4), (.long q3)]) (rest := [(.ref b3)]) hown rfl (tw31 hw) (tw32 hw) (tw30 hw) (tw33 hw) (by decide) e3 (rmEP l Z a0 hw [] b3 b1 q2 z4 q3 h3 n0 hz A3 gb_b3 F_b3_entries F_b3_page F_b3_size F_b3_totalElements) (g := (mkF m 41 #[.val (.long q1), .second, .val (.int p1), .val (.long q2), .second, .val (.long q3), .second, .val (.int z4), .val (.ref b1), .unset, .unset, .unset, .unset, .unset] [(.long q3), (.int z4), (.long q2), (.ref b1), (.ref b3), (.ref b3)])) rfl (by rw [hml]; rfl) (lenOf pd8 rfl) rfl (W := 1) (by show 2 * 0 + _ ≤ _; exact Nat.le_of_eq rfl) (hb hby at_41) (by decide) (by decide) (by decide) (by decide) ?_
    rintro T4 L4 v4 X4 ⟨rfl, NL4, K4, F1_4, F2_4⟩
    have N4 := Fr.app N2 NL4
    replace S1 := Sta.keep S1 K4 (allS (exa_ns A3) (all0))
    replace A1 := A1.keep K4
    replace A3 := A3.keep K4
    replace hz := Nat.le_trans hz K4.1
    show Go pr ev below _ T4 (mkF m 44 #[.val (.long q1), .second, .val (.int p1), .val (.long q2), .second, .val (.long q3), .second, .val (.int z4), .val (.ref b1), .unset, .unset, .unset, .unset, .unset] [(.ref b3)])
    refine Go.of (mkF m 46 #[.val (.long q1), .second, .val (.int p1), .val (.long q2), .second, .val (.long q3), .second, .val (.int z4), .val (.ref b1), .val (.ref b3), .unset, .unset, .unset, .unset] []) (fun t k => XS.astore X4.here hx rfl (hb hby at_44) rfl rfl (l' := #[.val (.long q1), .second, .val (.int p1), .val (.long q2), .second, .val (.long q3), .second, .val (.int z4), .val (.ref b1), .val (.ref b3), .unset, .unset, .unset, .unset]) rfl k) ?_
    refine Go.of (mkF m 48 #[.val (.long q1), .second, .val (.int p1), .val (.long q2), .second, .val (.long q3), .second, .val (.int z4), .val (.ref b1), .val (.ref b3), .unset, .unset, .unset, .unset] [(.ref b3)]) (fun t k => XS.aload X4.here hx rfl (hb hby at_46) rfl rfl k) ?_
    refine Go.virt X4 hx hZ (y := (⟨"com/example/sealed_ledger/sealedledger/query/EntryPage", "totalPages", "()J"⟩ : MethodName)) (z := (⟨"com/example/sealed_ledger/sealedledger/query/EntryPage", "totalPages", "()J"⟩ : MethodName)) (a := b3) (argsL := []) (rest := []) hown (tw48 hw) (tw49 hw) (notFace_of_selects (args := #[]) (mvT hZ (tw51 hw))) (tw51 hw) (tw50 hw) (tw30 hw) (tw52 hw) (by decide) rfl A3 (rmTP l Z a0 hw [] b3 q3 z4 T4.heap F1_4 F2_4 hJ) (g := (mkF m 48 #[.val (.long q1), .second, .val (.int p1), .val (.long q2), .second, .val (.long q3), .second, .val (.int z4), .val (.ref b1), .val (.ref b3), .unset, .unset, .unset, .unset] [(.ref b3)])) rfl (by rw [hml]; rfl) (lenOf pd9 rfl) rfl (W := 0) (by show 2 * 0 + _ ≤ _; exact Nat.le_of_eq rfl) (hb hby at_48) (by decide) (by decide) (by decide) (by decide) ?_
    rintro T5 L5 v5 X5 ⟨rfl, rfl, hh5⟩
    have N5 := Fr.app N4 (Fr.nil n0)
    show Go pr ev below _ T5 (mkF m 51 #[.val (.long q1), .second, .val (.int p1), .val (.long q2), .second, .val (.long q3), .second, .val (.int z4), .val (.ref b1), .val (.ref b3), .unset, .unset, .unset, .unset] [(.long (own_tp q3 z4))])
    refine Go.of (mkF m 53 #[.val (.long q1), .second, .val (.int p1), .val (.long q2), .second, .val (.long q3), .second, .val (.int z4), .val (.ref b1), .val (.ref b3), .val (.long (own_tp q3 z4)), .second, .unset, .unset] []) (fun t k => XS.lstore X5.here hx rfl (hb hby at_51) rfl (l' := #[.val (.long q1), .second, .val (.int p1), .val (.long q2), .second, .val (.long q3), .second, .val (.int z4), .val (.ref b1), .val (.ref b3), .val (.long (own_tp q3 z4)), .second, .unset, .unset]) rfl k) ?_
    refine Go.of (mkF m 55 #[.val (.long q1), .second, .val (.int p1), .val (.long q2), .second, .val (.long q3), .second, .val (.int z4), .val (.ref b1), .val (.ref b3), .val (.long (own_tp q3 z4)), .second, .unset, .unset] [(.long q3)]) (fun t k => XS.lload X5.here hx rfl (hb hby at_53) rfl k) ?_
    refine Go.of (mkF m 56 #[.val (.long q1), .second, .val (.int p1), .val (.long q2), .second, .val (.long q3), .second, .val (.int z4), .val (.ref b1), .val (.ref b3), .val (.long (own_tp q3 z4)), .second, .unset, .unset] [(.long (0 : Int64)), (.long q3)]) (fun t k => XS.lconst X5.here hx rfl (hb hby at_55) k) ?_
    refine Go.of (mkF m 57 #[.val (.long q1), .second, .val (.int p1), .val (.long q2), .second, .val (.long q3), .second, .val (.int z4), .val (.ref b1), .val (.ref b3), .val (.long (own_tp q3 z4)), .second, .unset, .unset] [(.int (lcmpW q3 (0 : Int64)))]) (fun t k => XS.lcmp X5.here hx rfl (hb hby at_56) rfl k) ?_
    by_cases hc57 : q3 = (0 : Int64)
    ·
      refine Go.of (mkF m 60 #[.val (.long q1), .second, .val (.int p1), .val (.long q2), .second, .val (.long q3), .second, .val (.int z4), .val (.ref b1), .val (.ref b3), .val (.long (own_tp q3 z4)), .second, .unset, .unset] []) (fun t k => XS.ifNo X5.here hx rfl (hb hby at_57) rfl ((if0 _ _).trans (teq ((lw_eq _ _).mpr hc57)).2) k) ?_
      refine Go.of (mkF m 61 #[.val (.long q1), .second, .val (.int p1), .val (.long q2), .second, .val (.long q3), .second, .val (.int z4), .val (.ref b1), .val (.ref b3), .val (.long (own_tp q3 z4)), .second, .unset, .unset] [(.long (0 : Int64))]) (fun t k => XS.lconst X5.here hx rfl (hb hby at_60) k) ?_
      refine Go.of (mkF m 63 #[.val (.long q1), .second, .val (.int p1), .val (.long q2), .second, .val (.long q3), .second, .val (.int z4), .val (.ref b1), .val (.ref b3), .val (.long (own_tp q3 z4)), .second, .val (.long (0 : Int64)), .second] []) (fun t k => XS.lstore X5.here hx rfl (hb hby at_61) rfl (l' := #[.val (.long q1), .second, .val (.int p1), .val (.long q2), .second, .val (.long q3), .second, .val (.int z4), .val (.ref b1), .val (.ref b3), .val (.long (own_tp q3 z4)), .second, .val (.long (0 : Int64)), .second]) rfl k) ?_
      refine Go.of (mkF m 78 #[.val (.long q1), .second, .val (.int p1), .val (.long q2), .second, .val (.long q3), .second, .val (.int z4), .val (.ref b1), .val (.ref b3), .val (.long (own_tp q3 z4)), .second, .val (.long (0 : Int64)), .second] []) (fun t k => XS.goto X5.here hx rfl (pc0 := 63) (pc' := 78) rfl (hb hby at_63) (by decide) (by decide) k) ?_
      refine Go.of (mkF m 80 #[.val (.long q1), .second, .val (.int p1), .val (.long q2), .second, .val (.long q3), .second, .val (.int z4), .val (.ref b1), .val (.ref b3), .val (.long (own_tp q3 z4)), .second, .val (.long (0 : Int64)), .second] [(.long (own_tp q3 z4))]) (fun t k => XS.lload X5.here hx rfl (hb hby at_78) rfl k) ?_
      refine Go.of (mkF m 82 #[.val (.long q1), .second, .val (.int p1), .val (.long q2), .second, .val (.long q3), .second, .val (.int z4), .val (.ref b1), .val (.ref b3), .val (.long (own_tp q3 z4)), .second, .val (.long (0 : Int64)), .second] [(.long (0 : Int64)), (.long (own_tp q3 z4))]) (fun t k => XS.lload X5.here hx rfl (hb hby at_80) rfl k) ?_
      refine Go.of (mkF m 83 #[.val (.long q1), .second, .val (.int p1), .val (.long q2), .second, .val (.long q3), .second, .val (.int z4), .val (.ref b1), .val (.ref b3), .val (.long (own_tp q3 z4)), .second, .val (.long (0 : Int64)), .second] [(.int (lcmpW (own_tp q3 z4) (0 : Int64)))]) (fun t k => XS.lcmp X5.here hx rfl (hb hby at_82) rfl k) ?_
      refine Go.of (mkF m 86 #[.val (.long q1), .second, .val (.int p1), .val (.long q2), .second, .val (.long q3), .second, .val (.int z4), .val (.ref b1), .val (.ref b3), .val (.long (own_tp q3 z4)), .second, .val (.long (0 : Int64)), .second] []) (fun t k => XS.ifNo X5.here hx rfl (hb hby at_83) rfl ((if0 _ _).trans (teq ((lw_eq _ _).mpr (own_zero q3 z4 hc57 hJ))).2) k) ?_
      refine Go.of (mkF m 87 #[.val (.long q1), .second, .val (.int p1), .val (.long q2), .second, .val (.long q3), .second, .val (.int z4), .val (.ref b1), .val (.ref b3), .val (.long (own_tp q3 z4)), .second, .val (.long (0 : Int64)), .second] [(.int (1 : Int32))]) (fun t k => XS.iconst X5.here hx rfl (hb hby at_86) k) ?_
      refine Go.of (mkF m 91 #[.val (.long q1), .second, .val (.int p1), .val (.long q2), .second, .val (.long q3), .second, .val (.int z4), .val (.ref b1), .val (.ref b3), .val (.long (own_tp q3 z4)), .second, .val (.long (0 : Int64)), .second] [(.int (1 : Int32))]) (fun t k => XS.goto X5.here hx rfl (pc0 := 87) (pc' := 91) rfl (hb hby at_87) (by decide) (by decide) k) ?_
      exact Go.retW X5 hx (t := .boolean) hret hlk rfl (Or.inl ⟨rfl, by simp, _, rfl⟩) (hb hby at_91) (by decide) (by decide) ⟨rfl, N5⟩
    ·
      refine Go.of (mkF m 66 #[.val (.long q1), .second, .val (.int p1), .val (.long q2), .second, .val (.long q3), .second, .val (.int z4), .val (.ref b1), .val (.ref b3), .val (.long (own_tp q3 z4)), .second, .unset, .unset] []) (fun t k => XS.ifYes X5.here hx rfl (pc0 := 57) (pc' := 66) rfl (hb hby at_57) rfl ((if0 _ _).trans (feq (mt (lw_eq _ _).mp hc57)).2) (by decide) (by decide) k) ?_
      refine Go.of (mkF m 68 #[.val (.long q1), .second, .val (.int p1), .val (.long q2), .second, .val (.long q3), .second, .val (.int z4), .val (.ref b1), .val (.ref b3), .val (.long (own_tp q3 z4)), .second, .unset, .unset] [(.long q3)]) (fun t k => XS.lload X5.here hx rfl (hb hby at_66) rfl k) ?_
      refine Go.of (mkF m 69 #[.val (.long q1), .second, .val (.int p1), .val (.long q2), .second, .val (.long q3), .second, .val (.int z4), .val (.ref b1), .val (.ref b3), .val (.long (own_tp q3 z4)), .second, .unset, .unset] [(.long (1 : Int64)), (.long q3)]) (fun t k => XS.lconst X5.here hx rfl (hb hby at_68) k) ?_
      refine Go.of (mkF m 70 #[.val (.long q1), .second, .val (.int p1), .val (.long q2), .second, .val (.long q3), .second, .val (.int z4), .val (.ref b1), .val (.ref b3), .val (.long (own_tp q3 z4)), .second, .unset, .unset] [(.long (q3 - (1 : Int64)))]) (fun t k => XS.lsub X5.here hx rfl (hb hby at_69) rfl k) ?_
      refine Go.of (mkF m 72 #[.val (.long q1), .second, .val (.int p1), .val (.long q2), .second, .val (.long q3), .second, .val (.int z4), .val (.ref b1), .val (.ref b3), .val (.long (own_tp q3 z4)), .second, .unset, .unset] [(.int z4), (.long (q3 - (1 : Int64)))]) (fun t k => XS.iload X5.here hx rfl (hb hby at_70) rfl k) ?_
      refine Go.of (mkF m 73 #[.val (.long q1), .second, .val (.int p1), .val (.long q2), .second, .val (.long q3), .second, .val (.int z4), .val (.ref b1), .val (.ref b3), .val (.long (own_tp q3 z4)), .second, .unset, .unset] [(.long (z4.toInt64)), (.long (q3 - (1 : Int64)))]) (fun t k => XS.i2l X5.here hx rfl (hb hby at_72) rfl k) ?_
      refine Go.of (mkF m 74 #[.val (.long q1), .second, .val (.int p1), .val (.long q2), .second, .val (.long q3), .second, .val (.int z4), .val (.ref b1), .val (.ref b3), .val (.long (own_tp q3 z4)), .second, .unset, .unset] [(.long ((q3 - (1 : Int64)) / (z4.toInt64)))]) (fun t k => XS.ldiv X5.here hx rfl (hb hby at_73) rfl (own_nz hJ) k) ?_
      refine Go.of (mkF m 75 #[.val (.long q1), .second, .val (.int p1), .val (.long q2), .second, .val (.long q3), .second, .val (.int z4), .val (.ref b1), .val (.ref b3), .val (.long (own_tp q3 z4)), .second, .unset, .unset] [(.long (1 : Int64)), (.long ((q3 - (1 : Int64)) / (z4.toInt64)))]) (fun t k => XS.lconst X5.here hx rfl (hb hby at_74) k) ?_
      refine Go.of (mkF m 76 #[.val (.long q1), .second, .val (.int p1), .val (.long q2), .second, .val (.long q3), .second, .val (.int z4), .val (.ref b1), .val (.ref b3), .val (.long (own_tp q3 z4)), .second, .unset, .unset] [(.long (((q3 - (1 : Int64)) / (z4.toInt64)) + (1 : Int64)))]) (fun t k => XS.ladd X5.here hx rfl (hb hby at_75) rfl k) ?_
      refine Go.of (mkF m 78 #[.val (.long q1), .second, .val (.int p1), .val (.long q2), .second, .val (.long q3), .second, .val (.int z4), .val (.ref b1), .val (.ref b3), .val (.long (own_tp q3 z4)), .second, .val (.long (((q3 - (1 : Int64)) / (z4.toInt64)) + (1 : Int64))), .second] []) (fun t k => XS.lstore X5.here hx rfl (hb hby at_76) rfl (l' := #[.val (.long q1), .second, .val (.int p1), .val (.long q2), .second, .val (.long q3), .second, .val (.int z4), .val (.ref b1), .val (.ref b3), .val (.long (own_tp q3 z4)), .second, .val (.long (((q3 - (1 : Int64)) / (z4.toInt64)) + (1 : Int64))), .second]) rfl k) ?_
      refine Go.of (mkF m 80 #[.val (.long q1), .second, .val (.int p1), .val (.long q2), .second, .val (.long q3), .second, .val (.int z4), .val (.ref b1), .val (.ref b3), .val (.long (own_tp q3 z4)), .second, .val (.long (((q3 - (1 : Int64)) / (z4.toInt64)) + (1 : Int64))), .second] [(.long (own_tp q3 z4))]) (fun t k => XS.lload X5.here hx rfl (hb hby at_78) rfl k) ?_
      refine Go.of (mkF m 82 #[.val (.long q1), .second, .val (.int p1), .val (.long q2), .second, .val (.long q3), .second, .val (.int z4), .val (.ref b1), .val (.ref b3), .val (.long (own_tp q3 z4)), .second, .val (.long (((q3 - (1 : Int64)) / (z4.toInt64)) + (1 : Int64))), .second] [(.long (((q3 - (1 : Int64)) / (z4.toInt64)) + (1 : Int64))), (.long (own_tp q3 z4))]) (fun t k => XS.lload X5.here hx rfl (hb hby at_80) rfl k) ?_
      refine Go.of (mkF m 83 #[.val (.long q1), .second, .val (.int p1), .val (.long q2), .second, .val (.long q3), .second, .val (.int z4), .val (.ref b1), .val (.ref b3), .val (.long (own_tp q3 z4)), .second, .val (.long (((q3 - (1 : Int64)) / (z4.toInt64)) + (1 : Int64))), .second] [(.int (lcmpW (own_tp q3 z4) (((q3 - (1 : Int64)) / (z4.toInt64)) + (1 : Int64))))]) (fun t k => XS.lcmp X5.here hx rfl (hb hby at_82) rfl k) ?_
      refine Go.of (mkF m 86 #[.val (.long q1), .second, .val (.int p1), .val (.long q2), .second, .val (.long q3), .second, .val (.int z4), .val (.ref b1), .val (.ref b3), .val (.long (own_tp q3 z4)), .second, .val (.long (((q3 - (1 : Int64)) / (z4.toInt64)) + (1 : Int64))), .second] []) (fun t k => XS.ifNo X5.here hx rfl (hb hby at_83) rfl ((if0 _ _).trans (teq ((lw_eq _ _).mpr (own_some q3 z4 hq3 hc57 hJ))).2) k) ?_
      refine Go.of (mkF m 87 #[.val (.long q1), .second, .val (.int p1), .val (.long q2), .second, .val (.long q3), .second, .val (.int z4), .val (.ref b1), .val (.ref b3), .val (.long (own_tp q3 z4)), .second, .val (.long (((q3 - (1 : Int64)) / (z4.toInt64)) + (1 : Int64))), .second] [(.int (1 : Int32))]) (fun t k => XS.iconst X5.here hx rfl (hb hby at_86) k) ?_
      refine Go.of (mkF m 91 #[.val (.long q1), .second, .val (.int p1), .val (.long q2), .second, .val (.long q3), .second, .val (.int z4), .val (.ref b1), .val (.ref b3), .val (.long (own_tp q3 z4)), .second, .val (.long (((q3 - (1 : Int64)) / (z4.toInt64)) + (1 : Int64))), .second] [(.int (1 : Int32))]) (fun t k => XS.goto X5.here hx rfl (pc0 := 87) (pc' := 91) rfl (hb hby at_87) (by decide) (by decide) k) ?_
      exact Go.retW X5 hx (t := .boolean) hret hlk rfl (Or.inl ⟨rfl, by simp, _, rfl⟩) (hb hby at_91) (by decide) (by decide) ⟨rfl, N5⟩
  refine Go.of (mkF m 15 #[.val (.long q1), .second, .val (.int p1), .val (.long q2), .second, .val (.long q3), .second, .val (.int p2), .unset, .unset, .unset, .unset, .unset, .unset] [(.int p2)]) (fun t k => XS.iload X0.here hx rfl (hb hby at_13) rfl k) ?_
  by_cases hc15 : p2 = (0 : Int32)
  ·
    refine Go.of (mkF m 18 #[.val (.long q1), .second, .val (.int p1), .val (.long q2), .second, .val (.long q3), .second, .val (.int p2), .unset, .unset, .unset, .unset, .unset, .unset] []) (fun t k => XS.ifNo X0.here hx rfl (hb hby at_15) rfl ((if0 _ _).trans (teq hc15).2) k) ?_
    refine Go.of (mkF m 19 #[.val (.long q1), .second, .val (.int p1), .val (.long q2), .second, .val (.long q3), .second, .val (.int p2), .unset, .unset, .unset, .unset, .unset, .unset] [(.int (1 : Int32))]) (fun t k => XS.iconst X0.here hx rfl (hb hby at_18) k) ?_
    refine Go.of (mkF m 21 #[.val (.long q1), .second, .val (.int p1), .val (.long q2), .second, .val (.long q3), .second, .val (.int (1 : Int32)), .unset, .unset, .unset, .unset, .unset, .unset] []) (fun t k => XS.istore X0.here hx rfl (hb hby at_19) rfl (l' := #[.val (.long q1), .second, .val (.int p1), .val (.long q2), .second, .val (.long q3), .second, .val (.int (1 : Int32)), .unset, .unset, .unset, .unset, .unset, .unset]) rfl k) ?_
    exact J21 _ _ _ X0 e0 N0 (by decide)
  ·
    refine Go.of (mkF m 21 #[.val (.long q1), .second, .val (.int p1), .val (.long q2), .second, .val (.long q3), .second, .val (.int p2), .unset, .unset, .unset, .unset, .unset, .unset] []) (fun t k => XS.ifYes X0.here hx rfl (pc0 := 15) (pc' := 21) rfl (hb hby at_15) rfl ((if0 _ _).trans (feq hc15).2) (by decide) (by decide) k) ?_
    exact J21 _ _ _ X0 e0 N0 (hp2.resolve_left hc15)
set_option maxRecDepth 65536 in
set_option maxHeartbeats 40000000 in
theorem comes_1 {Post : Tables → Env → Array Value → State → Outcome → State → Prop} (hpost : ∀ tb e args s v u, (limb_1_1.after args s (.returned v) u = true ∧ limb_1_2.after args s (.returned v) u = true ∧ True) → FrameEnd s (.returned v) u (Jvm.fieldLocs frame_1_writes args s ++ Jvm.arrayLocs frame_1_arrays args s ++ Jvm.staticLocs frame_1_statics s) 16 128 → Post tb e args s (.returned v) u) :
    ArmFor flags0 classFile x code maxLocals ret World_1 tables_1 room_1 Calls_1 rest_1 Pre_1 Post := by
  intro l hfl _ _ p e ha hc hk s m args below hf hA hF happ hP
  obtain ⟨hcalls, hrest, hpre⟩ := hP
  obtain ⟨-, -, -, hnamed, -, -, -, hat⟩ := (Spec.applies_iff hf).mp happ
  obtain ⟨hg, hn⟩ := and_e (Cond.before_iff.mp (show (Jvm.Cond.and given_1 narrow_1).before args s = true from hpre))
  obtain ⟨gc, gr⟩ := and_e hg
  obtain ⟨gi0, gr⟩ := and_e gr
  obtain ⟨gi1, gr⟩ := and_e gr
  have gi2 := gr
  obtain ⟨w0, w1, w2, rfl⟩ : ∃ w0 w1 w2 : Value, args = #[w0, w1, w2] := by
    have hs : args.size = 3 := by simpa [Cond.value, given_1] using gc
    obtain ⟨L⟩ := args
    match L, hs with
    | [w0, w1, w2], _ => exact ⟨w0, w1, w2, rfl⟩
  have hw := fun d (hd : d ∈ tables_1) => atoms_spec (ws := Jvm.Cond.code x code maxLocals ret :: tables_1) hat d (List.mem_cons_of_mem _ hd)
  have hfit : Fit s := fun {y c} hc i hi => by
    obtain ⟨ha, rfl⟩ := Array.getElem?_eq_some_iff.mp hc
    have q := List.all_eq_true.mp ((Array.all_eq_true_iff_forall_mem.mp hF) _ (Array.getElem_mem ha)) i (List.mem_range.mpr hi)
    simpa [Array.getElem?_eq_getElem hi] using q
  obtain ⟨hsets, hown0⟩ := atoms_of _ (rest_1_c_eq ▸ (show rest_1_c.before _ s = true from hrest))
  have hr0 := Cond.before_iff.mp hown0
  obtain ⟨i0, ei0⟩ := isL_v gi0
  obtain rfl : w0 = (.long i0) := Option.some.inj ei0
  obtain ⟨i1, ei1⟩ := is_v gi1
  obtain rfl : w1 = (.int i1) := Option.some.inj ei1
  obtain ⟨i2, ei2⟩ := isL_v gi2
  obtain rfl : w2 = (.long i2) := Option.some.inj ei2
  obtain ⟨u, qu⟩ := exa_v (Cond.before_iff.mp (hsets _ (List.mem_of_getElem? (i := 7) rfl)))
  have S1 := Sta.start qu (Or.inr ⟨(tw4 hw), hsets _ (List.mem_of_getElem? (i := 2) rfl)⟩)
  obtain ⟨n, o, h1, h2, h3, _, L, rfl, ⟨rfl, N⟩, hq⟩ := rm0 l s _ hw tables_1 i0 i1 i2 s.heap s.heap.size (Nat.le_refl _) u S1 p e ha hc hk s m _ below hf ((Spec.applies_iff_loose hf).mp happ).1 ⟨rfl, State.Warmed39.refl s, rfl⟩ trivial
  refine ⟨n, _, h1, h2, h3, hpost _ _ _ _ _ _ ⟨Cond.after_iff.mpr rfl, Cond.after_iff.mpr (eq_i res_at (Term.int_eval (1)) rfl), trivial⟩ ⟨hq.1, hq.2.1, (hq.2.2.sift fun y hy => Or.inr (N y hy)).mono (by decide) (by decide)⟩⟩
theorem main_1_1 : Claimed_1_1 := comes_1 fun _ _ _ _ _ _ h hF => ⟨h.1, hF⟩
theorem main_1_2 : Claimed_1_2 := comes_1 fun _ _ _ _ _ _ h hF => ⟨h.2.1, hF⟩
end Jvm.Pilot.@@N@@
namespace Jvm.Pilot.@@N@@
open Jvm Jvm.ClassFile Sem Op Lib Jvm.Free Jvm.Stand Jvm.Pilot.@@N@@.Jvm.D
/-! MADE BY PROGRAM (witnessworld.py) out of the Statement's table words and the real class files: 19 classes; the members and pool entries that the words name. The judged class is class 1, her method 1. -/
namespace start1
open Jvm.ClassFile
def u (s : String) : CpInfo := .utf8 (stringToUtf16 s)
/-- a pool by its gaps: so many unusable entries, then the entry; so many at the end -/
def gap : Nat → List CpInfo → List CpInfo
  | 0, r => r
  | n + 1, r => .unusable :: gap n r
def poolList (es : List (Nat × CpInfo)) (last : Nat) : List CpInfo := es.foldr (fun e r => gap e.1 (e.2 :: r)) (gap last [])
def pool (es : List (Nat × CpInfo)) (last : Nat) : Array CpInfo := ⟨poolList es last⟩
def fileOf (pool : Array CpInfo) (this : Nat) (attrs : Array Attribute := #[]) (ms : Array MethodInfo := #[]) (fl : Nat := 33) (sup : Nat := 0) (ifs : Array Nat := #[]) (fds : Array FieldInfo := #[]) : ClassFile where
  minorVersion := 0
  majorVersion := 65
  constantPool := pool
  accessFlags := fl
  thisClass := this
  superClass := sup
  interfaces := ifs
  fields := fds
  methods := ms
  attributes := attrs
def plain (name : String) (sup : Option ClassId) : Class where
  name := name
  kind := .ordinary
  loader := none
  accessFlags := 33
  super := sup
  interfaces := #[]
  cf := none
  fields := #[]
  methods := #[]
  instanceTypes := #[]
  staticTypes := #[]
  resolved := #[]
  callSites := []
  init := .initialized
  statics := none
  mirror := none

def pool0 : Array CpInfo := pool [(5, u "<init>"), (0, u "()V"), (1, .class_ 10), (1, u "java/lang/Object")] 113

def k0c0 : Code := { maxStack := 0, maxLocals := 1, code := object_method_1_code, exceptionTable := #[], attributes := #[] }
def k0m0 : Method := { name := "<init>", desc := "()V", sig := { parameters := [], returnType := none }, accessFlags := 1, code := some k0c0 }
/-- java/lang/Object -/
def k0 : Class := { plain "java/lang/Object" none with
  accessFlags := 33
  interfaces := #[]
  cf := some (fileOf pool0 8 #[] #[{ accessFlags := 1, nameIndex := 5, descriptorIndex := 6, attributes := #[] }] 33 0 #[] #[])
  fields := #[]
  methods := #[k0m0]
  instanceTypes := #[]
  staticTypes := #[]
  resolved := Array.replicate 124 none
  statics := none }

def pool1 : Array CpInfo := pool [(2, .class_ 4), (0, .nameAndType 5 6), (0, u "java/lang/Object"), (0, u "<init>"), (0, u "()V"), (2, .long 9223372036854775807), (1, .integer 2147483647), (0, .class_ 13), (0, u "java/util/ArrayList"), (0, .methodref 12 3), (0, .class_ 16), (0, u "com/example/sealed_ledger/sealedledger/query/EntryPage"), (0, .methodref 15 18), (0, .nameAndType 5 19), (0, u "(Ljava/util/List;JIJ)V"), (0, .methodref 15 21), (0, .nameAndType 22 23), (0, u "totalPages"), (0, u "()J"), (0, .class_ 25), (0, u "com/example/sealed_ledger/sealedledger/query/EntryPageTotalPagesPinLaw"), (2, u "law"), (0, u "(JIJ)Z")] 5

def k1m0 : Method := { name := "<init>", desc := "()V", sig := { parameters := [], returnType := none }, accessFlags := 1, code := none }
def k1c1 : Code := { maxStack := 8, maxLocals := 14, code := code, exceptionTable := #[], attributes := #[] }
def k1m1 : Method := { name := "law", desc := "(JIJ)Z", sig := { parameters := [.long, .int, .long], returnType := some .boolean }, accessFlags := 9, code := some k1c1 }
/-- com/example/sealed_ledger/sealedledger/query/EntryPageTotalPagesPinLaw -/
def k1 : Class := { plain "com/example/sealed_ledger/sealedledger/query/EntryPageTotalPagesPinLaw" (some 0) with
  accessFlags := 49
  interfaces := #[]
  cf := some (fileOf pool1 24 #[] #[{ accessFlags := 1, nameIndex := 5, descriptorIndex := 6, attributes := #[] }, { accessFlags := 9, nameIndex := 28, descriptorIndex := 29, attributes := #[] }] 49 2 #[] #[])
  fields := #[]
  methods := #[k1m0, k1m1]
  instanceTypes := #[]
  staticTypes := #[]
  resolved := Array.replicate 35 none
  statics := none }

def pool2 : Array CpInfo := pool [(8, .class_ 10), (1, u "java/lang/Iterable"), (24, .class_ 36), (0, u "java/lang/Object")] 25

/-- java/lang/Iterable -/
def k2 : Class := { plain "java/lang/Iterable" (some 0) with
  accessFlags := 1537
  interfaces := #[]
  cf := some (fileOf pool2 8 #[] #[] 1537 35 #[] #[])
  fields := #[]
  methods := #[]
  instanceTypes := #[]
  staticTypes := #[]
  resolved := Array.replicate 62 none
  statics := none }

def pool3 : Array CpInfo := pool [(10, .class_ 12), (1, u "java/util/Collection"), (47, .class_ 61), (0, u "java/lang/Object"), (0, .class_ 63), (0, u "java/lang/Iterable")] 51

/-- java/util/Collection -/
def k3 : Class := { plain "java/util/Collection" (some 0) with
  accessFlags := 1537
  interfaces := #[2]
  cf := some (fileOf pool3 10 #[] #[] 1537 60 #[62] #[])
  fields := #[]
  methods := #[]
  instanceTypes := #[]
  staticTypes := #[]
  resolved := Array.replicate 115 none
  statics := none }

def pool4 : Array CpInfo := pool [(1, .methodref 2 3), (0, .class_ 4), (0, .nameAndType 5 6), (0, u "java/lang/Object"), (0, u "<init>"), (0, u "()V"), (1, .class_ 10), (1, u "java/util/AbstractCollection"), (66, .class_ 78), (0, u "java/util/Collection")] 81

def k4c0 : Code := { maxStack := 1, maxLocals := 1, code := jdk_22_method_1_code, exceptionTable := #[], attributes := #[] }
def k4m0 : Method := { name := "<init>", desc := "()V", sig := { parameters := [], returnType := none }, accessFlags := 4, code := some k4c0 }
/-- java/util/AbstractCollection -/
def k4 : Class := { plain "java/util/AbstractCollection" (some 0) with
  accessFlags := 1057
  interfaces := #[3]
  cf := some (fileOf pool4 8 #[] #[{ accessFlags := 4, nameIndex := 5, descriptorIndex := 6, attributes := #[] }] 1057 2 #[77] #[])
  fields := #[]
  methods := #[k4m0]
  instanceTypes := #[]
  staticTypes := #[]
  resolved := Array.replicate 160 none
  statics := none }

def pool5 : Array CpInfo := pool [(8, .class_ 10), (1, u "java/util/SequencedCollection"), (15, .class_ 27), (0, u "java/lang/Object"), (0, .class_ 29), (0, u "java/util/Collection")] 27

/-- java/util/SequencedCollection -/
def k5 : Class := { plain "java/util/SequencedCollection" (some 0) with
  accessFlags := 1537
  interfaces := #[3]
  cf := some (fileOf pool5 8 #[] #[] 1537 26 #[28] #[])
  fields := #[]
  methods := #[]
  instanceTypes := #[]
  staticTypes := #[]
  resolved := Array.replicate 57 none
  statics := none }

def pool6 : Array CpInfo := pool [(8, .class_ 10), (1, u "java/util/List"), (92, .class_ 104), (0, u "java/lang/Object"), (15, .class_ 121), (0, u "java/util/SequencedCollection")] 129

/-- java/util/List -/
def k6 : Class := { plain "java/util/List" (some 0) with
  accessFlags := 1537
  interfaces := #[5]
  cf := some (fileOf pool6 8 #[] #[] 1537 103 #[120] #[])
  fields := #[]
  methods := #[]
  instanceTypes := #[]
  staticTypes := #[]
  resolved := Array.replicate 251 none
  statics := none }

def pool7 : Array CpInfo := pool [(1, .methodref 2 3), (0, .class_ 4), (0, .nameAndType 5 6), (0, u "java/util/AbstractCollection"), (0, u "<init>"), (0, u "()V"), (0, .fieldref 8 9), (0, .class_ 10), (0, .nameAndType 11 12), (0, u "java/util/AbstractList"), (0, u "modCount"), (0, u "I"), (64, .class_ 78), (0, u "java/util/AbstractList$Itr"), (3, .class_ 83), (0, u "java/util/AbstractList$ListItr"), (9, .class_ 94), (0, u "java/util/AbstractList$RandomAccessSubList"), (3, .class_ 99), (0, u "java/util/AbstractList$SubList"), (33, .class_ 134), (0, u "java/util/List"), (73, .class_ 209), (0, u "java/util/AbstractList$SubList$1"), (0, .class_ 211), (0, u "java/util/AbstractList$RandomAccessSpliterator")] 6

def k7c0 : Code := { maxStack := 2, maxLocals := 1, code := jdk_39_method_1_code, exceptionTable := #[], attributes := #[] }
def k7m0 : Method := { name := "<init>", desc := "()V", sig := { parameters := [], returnType := none }, accessFlags := 4, code := some k7c0 }
/-- java/util/AbstractList -/
def k7 : Class := { plain "java/util/AbstractList" (some 4) with
  accessFlags := 1057
  interfaces := #[6]
  cf := some (fileOf pool7 8 #[.nestMembers #[93, 98, 208, 210, 82, 77]] #[{ accessFlags := 4, nameIndex := 5, descriptorIndex := 6, attributes := #[] }] 1057 2 #[133] #[{ accessFlags := 132, nameIndex := 11, descriptorIndex := 12, attributes := #[] }])
  fields := #[{ name := "modCount", type := .int, accessFlags := 132, slot := 0, constantValue := 0 }]
  methods := #[k7m0]
  instanceTypes := #[.int]
  staticTypes := #[]
  resolved := Array.replicate 218 none
  statics := none }

def pool8 : Array CpInfo := pool [(1, .class_ 2), (0, u "java/util/RandomAccess"), (0, .class_ 4), (0, u "java/lang/Object")] 2

/-- java/util/RandomAccess -/
def k8 : Class := { plain "java/util/RandomAccess" (some 0) with
  accessFlags := 1537
  interfaces := #[]
  cf := some (fileOf pool8 1 #[] #[] 1537 3 #[] #[])
  fields := #[]
  methods := #[]
  instanceTypes := #[]
  staticTypes := #[]
  resolved := Array.replicate 7 none
  statics := none }

def pool9 : Array CpInfo := pool [(1, .class_ 2), (0, u "java/lang/Cloneable"), (0, .class_ 4), (0, u "java/lang/Object")] 2

/-- java/lang/Cloneable -/
def k9 : Class := { plain "java/lang/Cloneable" (some 0) with
  accessFlags := 1537
  interfaces := #[]
  cf := some (fileOf pool9 1 #[] #[] 1537 3 #[] #[])
  fields := #[]
  methods := #[]
  instanceTypes := #[]
  staticTypes := #[]
  resolved := Array.replicate 7 none
  statics := none }

def pool10 : Array CpInfo := pool [(1, .class_ 2), (0, u "java/io/Serializable"), (0, .class_ 4), (0, u "java/lang/Object")] 2

/-- java/io/Serializable -/
def k10 : Class := { plain "java/io/Serializable" (some 0) with
  accessFlags := 1537
  interfaces := #[]
  cf := some (fileOf pool10 1 #[] #[] 1537 3 #[] #[])
  fields := #[]
  methods := #[]
  instanceTypes := #[]
  staticTypes := #[]
  resolved := Array.replicate 7 none
  statics := none }

def pool11 : Array CpInfo := pool [(1, .methodref 2 3), (0, .class_ 4), (0, .nameAndType 5 6), (0, u "java/util/AbstractList"), (0, u "<init>"), (0, u "()V"), (2, .fieldref 10 11), (0, .class_ 12), (0, .nameAndType 13 14), (0, u "java/util/ArrayList"), (0, u "elementData"), (0, u "[Ljava/lang/Object;"), (2, u "EMPTY_ELEMENTDATA"), (21, .fieldref 10 40), (0, .nameAndType 41 14), (0, u "DEFAULTCAPACITY_EMPTY_ELEMENTDATA"), (8, u "size"), (0, u "I"), (96, .class_ 149), (0, u "java/util/List"), (112, .class_ 263), (0, u "java/util/ArrayList$ListItr"), (3, .class_ 268), (0, u "java/util/ArrayList$Itr"), (7, .class_ 277), (0, u "java/util/ArrayList$SubList"), (12, .class_ 291), (0, u "java/util/ArrayList$ArrayListSpliterator"), (37, .class_ 330), (0, u "java/util/RandomAccess"), (0, .class_ 332), (0, u "java/lang/Cloneable"), (0, .class_ 334), (0, u "java/io/Serializable"), (0, u "serialVersionUID"), (0, u "J"), (3, u "DEFAULT_CAPACITY"), (159, .class_ 501), (0, u "java/util/ArrayList$SubList$2"), (0, .class_ 503), (0, u "java/util/ArrayList$SubList$1")] 5

def k11c0 : Code := { maxStack := 2, maxLocals := 1, code := jdk_38_method_2_code, exceptionTable := #[], attributes := #[] }
def k11m0 : Method := { name := "<init>", desc := "()V", sig := { parameters := [], returnType := none }, accessFlags := 1, code := some k11c0 }
/-- java/util/ArrayList -/
def k11 : Class := { plain "java/util/ArrayList" (some 7) with
  accessFlags := 33
  interfaces := #[6, 8, 9, 10]
  cf := some (fileOf pool11 10 #[.nestMembers #[290, 276, 500, 502, 262, 267]] #[{ accessFlags := 1, nameIndex := 5, descriptorIndex := 6, attributes := #[] }] 33 2 #[148, 329, 331, 333] #[{ accessFlags := 26, nameIndex := 335, descriptorIndex := 336, attributes := #[] }, { accessFlags := 26, nameIndex := 340, descriptorIndex := 51, attributes := #[] }, { accessFlags := 26, nameIndex := 17, descriptorIndex := 14, attributes := #[] }, { accessFlags := 26, nameIndex := 41, descriptorIndex := 14, attributes := #[] }, { accessFlags := 128, nameIndex := 13, descriptorIndex := 14, attributes := #[] }, { accessFlags := 2, nameIndex := 50, descriptorIndex := 51, attributes := #[] }])
  fields := #[{ name := "serialVersionUID", type := .long, accessFlags := 26, slot := 0, constantValue := 0 }, { name := "DEFAULT_CAPACITY", type := .int, accessFlags := 26, slot := 1, constantValue := 0 }, { name := "EMPTY_ELEMENTDATA", type := (.array (.object "java/lang/Object")), accessFlags := 26, slot := 2, constantValue := 0 }, { name := "DEFAULTCAPACITY_EMPTY_ELEMENTDATA", type := (.array (.object "java/lang/Object")), accessFlags := 26, slot := 3, constantValue := 0 }, { name := "elementData", type := (.array (.object "java/lang/Object")), accessFlags := 128, slot := 1, constantValue := 0 }, { name := "size", type := .int, accessFlags := 2, slot := 2, constantValue := 0 }]
  methods := #[k11m0]
  instanceTypes := #[.int, (.array (.object "java/lang/Object")), .int]
  staticTypes := #[.long, .int, (.array (.object "java/lang/Object")), (.array (.object "java/lang/Object"))]
  resolved := Array.replicate 509 none
  statics := some 0 }

def pool12 : Array CpInfo := pool [(1, .methodref 2 3), (0, .class_ 4), (0, .nameAndType 5 6), (0, u "java/lang/Object"), (0, u "<init>"), (0, u "()V"), (0, .class_ 8), (0, u "java/lang/Record")] 13

def k12c0 : Code := { maxStack := 1, maxLocals := 1, code := jdk_30_method_1_code, exceptionTable := #[], attributes := #[] }
def k12m0 : Method := { name := "<init>", desc := "()V", sig := { parameters := [], returnType := none }, accessFlags := 4, code := some k12c0 }
/-- java/lang/Record -/
def k12 : Class := { plain "java/lang/Record" (some 0) with
  accessFlags := 1057
  interfaces := #[]
  cf := some (fileOf pool12 7 #[] #[{ accessFlags := 4, nameIndex := 5, descriptorIndex := 6, attributes := #[] }] 1057 2 #[] #[])
  fields := #[]
  methods := #[k12m0]
  instanceTypes := #[]
  staticTypes := #[]
  resolved := Array.replicate 22 none
  statics := none }

def pool13 : Array CpInfo := pool [(1, .methodref 2 3), (0, .class_ 4), (0, .nameAndType 5 6), (0, u "java/lang/Record"), (0, u "<init>"), (0, u "()V"), (0, .fieldref 8 9), (0, .class_ 10), (0, .nameAndType 11 12), (0, u "com/example/sealed_ledger/sealedledger/query/EntryPage"), (0, u "entries"), (0, u "Ljava/util/List;"), (0, .fieldref 8 14), (0, .nameAndType 15 16), (0, u "page"), (0, u "J"), (0, .fieldref 8 18), (0, .nameAndType 19 20), (0, u "size"), (0, u "I"), (0, .fieldref 8 22), (0, .nameAndType 23 16), (0, u "totalElements"), (14, u "(Ljava/util/List;JIJ)V"), (4, u "totalPages"), (0, u "()J")] 29

def k13c0 : Code := { maxStack := 3, maxLocals := 7, code := prog_28_method_1_code, exceptionTable := #[], attributes := #[] }
def k13m0 : Method := { name := "<init>", desc := "(Ljava/util/List;JIJ)V", sig := { parameters := [(.object "java/util/List"), .long, .int, .long], returnType := none }, accessFlags := 1, code := some k13c0 }
def k13c1 : Code := { maxStack := 6, maxLocals := 1, code := prog_28_method_2_code, exceptionTable := #[], attributes := #[] }
def k13m1 : Method := { name := "totalPages", desc := "()J", sig := { parameters := [], returnType := some .long }, accessFlags := 1, code := some k13c1 }
/-- com/example/sealed_ledger/sealedledger/query/EntryPage -/
def k13 : Class := { plain "com/example/sealed_ledger/sealedledger/query/EntryPage" (some 12) with
  accessFlags := 49
  interfaces := #[]
  cf := some (fileOf pool13 8 #[] #[{ accessFlags := 1, nameIndex := 5, descriptorIndex := 38, attributes := #[] }, { accessFlags := 1, nameIndex := 43, descriptorIndex := 44, attributes := #[] }] 49 2 #[] #[{ accessFlags := 18, nameIndex := 11, descriptorIndex := 12, attributes := #[] }, { accessFlags := 18, nameIndex := 15, descriptorIndex := 16, attributes := #[] }, { accessFlags := 18, nameIndex := 19, descriptorIndex := 20, attributes := #[] }, { accessFlags := 18, nameIndex := 23, descriptorIndex := 16, attributes := #[] }])
  fields := #[{ name := "entries", type := (.object "java/util/List"), accessFlags := 18, slot := 0, constantValue := 0 }, { name := "page", type := .long, accessFlags := 18, slot := 1, constantValue := 0 }, { name := "size", type := .int, accessFlags := 18, slot := 2, constantValue := 0 }, { name := "totalElements", type := .long, accessFlags := 18, slot := 3, constantValue := 0 }]
  methods := #[k13m0, k13m1]
  instanceTypes := #[(.object "java/util/List"), .long, .int, .long]
  staticTypes := #[]
  resolved := Array.replicate 74 none
  statics := none }

/-- the primitive byte -/
def k14 : Class := { plain "byte" none with kind := .primitive 'B', accessFlags := 0x411 }
/-- [B -/
def k15 : Class := { plain "[B" (some 0) with kind := .array 14 .byte, interfaces := #[9, 10], accessFlags := 1041 }

/-- the primitive int -/
def k16 : Class := { plain "int" none with kind := .primitive 'I', accessFlags := 0x411 }
/-- [I -/
def k17 : Class := { plain "[I" (some 0) with kind := .array 16 .int, interfaces := #[9, 10], accessFlags := 1041 }

/-- [Ljava/lang/Object; -/
def k18 : Class := { plain "[Ljava/lang/Object;" (some 0) with kind := .array 0 (.object "java/lang/Object"), interfaces := #[9, 10], accessFlags := 1041 }

def heap : Heap := #[{ cls := 11, slots := #[.long 0, .int 0, .ref 1, .ref 2], vm := .statics 11 },
  { cls := 18, slots := #[], vm := .none },
  { cls := 18, slots := #[], vm := .none }]
def classes : Array Class := #[k0, k1, k2, k3, k4, k5, k6, k7, k8, k9, k10, k11, k12, k13, k14, k15, k16, k17, k18]
def interned : List (Array UInt16 × Addr) := []
def slotsUsed : Nat := 4
def theMethod : MethodId := ⟨1, 1⟩
def args0 : Array Value := #[.long 5, .int 3, .long 7]
def aboutOver (below : List Frame) : State where
  vm := { classes := classes, interned := interned.toArray }
  heap := heap
  slotsUsed := slotsUsed
  threads := #[{ frames := .invoking theMethod args0 :: below }]
def below0 : List Frame := [.native { method := ⟨0, 0⟩, args := #[] }]
def about1 : State := aboutOver below0
def p0 : Program := .bare "" "" ""
def e0 : Env := launch0.env 0 0 0
theorem w_frames : about1.frames = Frame.invoking theMethod args0 :: below0 := rfl
set_option maxRecDepth 65536 in
theorem w_args : argsFit about1.vm theMethod args0 = true := by decide +kernel
set_option maxRecDepth 65536 in
theorem w_heap : heapFits about1 = true := by decide +kernel
set_option maxRecDepth 65536 in
theorem w_runnable : about1.curStatus? = some .runnable := by decide +kernel
set_option maxRecDepth 65536 in
theorem w_alone : about1.alone = true := by decide +kernel
set_option maxRecDepth 65536 in
theorem w_named : about1.methodNamed? x = some theMethod := by decide +kernel
set_option maxRecDepth 65536 in
theorem w_hears : about1.hears theMethod below0 = true := by decide +kernel
set_option maxRecDepth 65536 in
theorem w_ripe : about1.ripe theMethod args0 below0 = true := by decide +kernel
theorem w_running : about1.status = .running := rfl
set_option maxRecDepth 65536 in
theorem w_room : about1.hasRoom e0.platform room_1 = true :=
  launch0.hasRoom_least _ room_1 (by decide +kernel) (by decide +kernel) (by decide +kernel) (by decide +kernel) (by decide +kernel) (by decide +kernel)
theorem allAtoms_all (ts : List Jvm.Cond) (a : Array Jvm.Value) (st : Jvm.State) : (allAtoms ts).before a st = ts.all (fun c => c.before a st) := by
  induction ts with
  | nil => rfl
  | cons c t ih =>
    show (Jvm.Cond.and c (allAtoms t)).before a st = _
    rw [Jvm.Cond.before_and, ih, List.all_cons]
def words1 : List Jvm.Cond := Jvm.Cond.code x code maxLocals ret :: tables_1
/-- a 'code' word, met by the world's own term for the bytes: nothing is compared byte by byte -/
theorem code_word {y : MethodName} {bytes : ByteArray} {mx : Nat} {rt : Option FieldType} {a : Array Value} {s : State} {m : MethodId} {meth : Method} {c : Code} (h1 : s.methodNamed? y = some m) (h2 : s.vm.method? m = some meth) (h3 : meth.code = some c) (h4 : c.code = bytes)
    (h5 : (c.maxLocals == mx && c.exceptionTable.isEmpty && decide (c.maxStack ≤ mostOperands) && decide (meth.sig.returnType = rt) && !meth.locks && decide (parseMethodDescriptor y.desc = some meth.sig)) = true) : (Jvm.Cond.code y bytes mx rt).before a s = true := by
  simp only [Bool.and_eq_true, beq_iff_eq, Bool.not_eq_true', decide_eq_true_eq] at h5
  obtain ⟨⟨⟨⟨⟨g1, g2⟩, g3⟩, g4⟩, g5⟩, g6⟩ := h5
  simp [Cond.before, Cond.holds, Cond.value, h1, h2, h3, h4, g1, g2, g3, g4, g5, g6]
def isCode : Jvm.Cond → Bool
  | .code _ _ _ _ => true
  | _ => false
theorem all_split {L : List Jvm.Cond} {P : Jvm.Cond → Bool} (h1 : L.all (fun c => isCode c || P c) = true) (h2 : ∀ c ∈ L.filter isCode, P c = true) : L.all P = true := by
  refine List.all_eq_true.mpr fun c hc => ?_
  have h := List.all_eq_true.mp h1 c hc
  rcases Bool.eq_false_or_eq_true (isCode c) with hi | hi
  · exact h2 c (List.mem_filter.mpr ⟨hc, hi⟩)
  · simpa [hi] using h
set_option maxRecDepth 65536 in
theorem w_c0 : (Jvm.Cond.code x code maxLocals ret).before args0 about1 = true := code_word (m := ⟨1, 1⟩) (meth := k1m1) (c := k1c1) (by decide +kernel) rfl rfl rfl (by decide +kernel)
set_option maxRecDepth 65536 in
theorem w_c1 : (Jvm.Cond.code ({ cls := "java/util/ArrayList", name := "<init>", desc := "()V" } : Jvm.MethodName) jdk_38_method_2_code (1 : Nat) (Option.none : Option Jvm.ClassFile.FieldType)).before args0 about1 = true := code_word (m := ⟨11, 0⟩) (meth := k11m0) (c := k11c0) (by decide +kernel) rfl rfl rfl (by decide +kernel)
set_option maxRecDepth 65536 in
theorem w_c2 : (Jvm.Cond.code ({ cls := "java/util/AbstractList", name := "<init>", desc := "()V" } : Jvm.MethodName) jdk_39_method_1_code (1 : Nat) (Option.none : Option Jvm.ClassFile.FieldType)).before args0 about1 = true := code_word (m := ⟨7, 0⟩) (meth := k7m0) (c := k7c0) (by decide +kernel) rfl rfl rfl (by decide +kernel)
set_option maxRecDepth 65536 in
theorem w_c3 : (Jvm.Cond.code ({ cls := "java/util/AbstractCollection", name := "<init>", desc := "()V" } : Jvm.MethodName) jdk_22_method_1_code (1 : Nat) (Option.none : Option Jvm.ClassFile.FieldType)).before args0 about1 = true := code_word (m := ⟨4, 0⟩) (meth := k4m0) (c := k4c0) (by decide +kernel) rfl rfl rfl (by decide +kernel)
set_option maxRecDepth 65536 in
theorem w_c4 : (Jvm.Cond.code ({ cls := "java/lang/Object", name := "<init>", desc := "()V" } : Jvm.MethodName) object_method_1_code (1 : Nat) (Option.none : Option Jvm.ClassFile.FieldType)).before args0 about1 = true := code_word (m := ⟨0, 0⟩) (meth := k0m0) (c := k0c0) (by decide +kernel) rfl rfl rfl (by decide +kernel)
set_option maxRecDepth 65536 in
theorem w_c5 : (Jvm.Cond.code ({ cls := "com/example/sealed_ledger/sealedledger/query/EntryPage", name := "<init>", desc := "(Ljava/util/List;JIJ)V" } : Jvm.MethodName) prog_28_method_1_code (7 : Nat) (Option.none : Option Jvm.ClassFile.FieldType)).before args0 about1 = true := code_word (m := ⟨13, 0⟩) (meth := k13m0) (c := k13c0) (by decide +kernel) rfl rfl rfl (by decide +kernel)
set_option maxRecDepth 65536 in
theorem w_c6 : (Jvm.Cond.code ({ cls := "java/lang/Record", name := "<init>", desc := "()V" } : Jvm.MethodName) jdk_30_method_1_code (1 : Nat) (Option.none : Option Jvm.ClassFile.FieldType)).before args0 about1 = true := code_word (m := ⟨12, 0⟩) (meth := k12m0) (c := k12c0) (by decide +kernel) rfl rfl rfl (by decide +kernel)
set_option maxRecDepth 65536 in
theorem w_c7 : (Jvm.Cond.code ({ cls := "com/example/sealed_ledger/sealedledger/query/EntryPage", name := "totalPages", desc := "()J" } : Jvm.MethodName) prog_28_method_2_code (1 : Nat) (Option.some Jvm.ClassFile.FieldType.long)).before args0 about1 = true := code_word (m := ⟨13, 1⟩) (meth := k13m1) (c := k13c1) (by decide +kernel) rfl rfl rfl (by decide +kernel)
def codes1 : List Jvm.Cond := [Jvm.Cond.code x code maxLocals ret, Jvm.Cond.code ({ cls := "java/util/ArrayList", name := "<init>", desc := "()V" } : Jvm.MethodName) jdk_38_method_2_code (1 : Nat) (Option.none : Option Jvm.ClassFile.FieldType), Jvm.Cond.code ({ cls := "java/util/AbstractList", name := "<init>", desc := "()V" } : Jvm.MethodName) jdk_39_method_1_code (1 : Nat) (Option.none : Option Jvm.ClassFile.FieldType), Jvm.Cond.code ({ cls := "java/util/AbstractCollection", name := "<init>", desc := "()V" } : Jvm.MethodName) jdk_22_method_1_code (1 : Nat) (Option.none : Option Jvm.ClassFile.FieldType), Jvm.Cond.code ({ cls := "java/lang/Object", name := "<init>", desc := "()V" } : Jvm.MethodName) object_method_1_code (1 : Nat) (Option.none : Option Jvm.ClassFile.FieldType), Jvm.Cond.code ({ cls := "com/example/sealed_ledger/sealedledger/query/EntryPage", name := "<init>", desc := "(Ljava/util/List;JIJ)V" } : Jvm.MethodName) prog_28_method_1_code (7 : Nat) (Option.none : Option Jvm.ClassFile.FieldType), Jvm.Cond.code ({ cls := "java/lang/Record", name := "<init>", desc := "()V" } : Jvm.MethodName) jdk_30_method_1_code (1 : Nat) (Option.none : Option Jvm.ClassFile.FieldType), Jvm.Cond.code ({ cls := "com/example/sealed_ledger/sealedledger/query/EntryPage", name := "totalPages", desc := "()J" } : Jvm.MethodName) prog_28_method_2_code (1 : Nat) (Option.some Jvm.ClassFile.FieldType.long)]
set_option maxRecDepth 65536 in
theorem codes_eq : words1.filter isCode = codes1 := rfl
theorem w_codes : ∀ c ∈ words1.filter isCode, c.before args0 about1 = true := by
  rw [codes_eq]
  intro c hc
  simp only [codes1, List.mem_cons, List.not_mem_nil, or_false] at hc
  rcases hc with rfl | rfl | rfl | rfl | rfl | rfl | rfl | rfl
  · exact w_c0
  · exact w_c1
  · exact w_c2
  · exact w_c3
  · exact w_c4
  · exact w_c5
  · exact w_c6
  · exact w_c7
set_option maxRecDepth 65536 in
theorem w_t1 : (words1.take 24).all (fun c => isCode c || c.before args0 about1) = true := by decide +kernel
set_option maxRecDepth 65536 in
theorem w_t2 : ((words1.drop 24).take 24).all (fun c => isCode c || c.before args0 about1) = true := by decide +kernel
set_option maxRecDepth 65536 in
theorem w_t3 : ((words1.drop 24).drop 24).all (fun c => isCode c || c.before args0 about1) = true := by decide +kernel
theorem w_tables : (allAtoms (Jvm.Cond.code x code maxLocals ret :: tables_1)).before args0 about1 = true := by
  rw [allAtoms_all]
  show words1.all (fun c => c.before args0 about1) = true
  refine all_split ?_ w_codes
  rw [← List.take_append_drop 24 words1, List.all_append, w_t1, ← List.take_append_drop 24 (words1.drop 24), List.all_append, w_t2, w_t3]
  rfl
set_option maxRecDepth 65536 in
theorem w_rest : rest_1_c.before args0 about1 = true := by decide +kernel
set_option maxRecDepth 65536 in
theorem w_case : (Jvm.Cond.and given_1 narrow_1).before args0 about1 = true := by decide +kernel
theorem w_applies : (headSpec (Jvm.Cond.code x code maxLocals ret :: tables_1) room_1).applies x e0.platform about1 = true :=
  (Spec.applies_iff w_frames).mpr ⟨w_running, w_runnable, w_alone, w_named, w_hears, w_ripe, w_room, w_tables⟩
theorem atStart : AtStart classFile x code maxLocals ret World_1 tables_1 room_1 Calls_1 rest_1 Pre_1 launch0 p0 e0 about1 theMethod args0 below0 :=
  ⟨lists_1, trivial, launch0.admits_env _ _ _, launch0.least_env, fairChoices_fair.cas, fairChoices_fair.clock, w_frames, w_args, w_heap, w_applies, trivial, w_rest, w_case⟩
end start1
theorem witness_1 : WitnessClaimed_1 := ⟨start1.p0, start1.e0, start1.about1, start1.theMethod, start1.args0, start1.below0, start1.atStart⟩
end Jvm.Pilot.@@N@@
