import JvmDerived
import JvmDerived.Pilot.@@N@@Statement
import JvmDerived.Pilot.@@N@@Code
set_option linter.unusedVariables false
set_option linter.unusedSimpArgs false
namespace Jvm.OwnGo
open Jvm Jvm.ClassFile Sem Op Lib Jvm.Free Jvm.Stand Jvm.LawKit Jvm.RoadKit
section Own
variable {p : Program} {l : Launch} {e : Env} {R : Room} {s : State} {m : MethodId} {args : Array Value} {below : List Frame} {meth : Method} {c : Code} {T T' : State} {locs : List Loc} {cells slots : Nat} {Z : State} {a0 : Array Value} {h : Heap} {g g' : JFrame} {P : Outcome → State → Prop}
/-- the run goes on from T with the frame g on top and comes to an end at which P holds -/
def Go (p : Program) (e : Env) (below : List Frame) (P : Outcome → State → Prop) (T : State) (g : JFrame) : Prop := ∃ t o, Steps p.tables e below (T.setTop g) t ∧ t.status = .running ∧ Ended t below o ∧ P o t
theorem Go.of (g' : JFrame) (st : ∀ t, Steps p.tables e below (T'.setTop g') t → Steps p.tables e below (T.setTop g) t) (k : Go p e below P T' g') : Go p e below P T g := by
  obtain ⟨t, o, h1, h2⟩ := k; exact ⟨t, o, st t h1, h2⟩
theorem Go.via (g' : JFrame) (st : Steps p.tables e below (T.setTop g) (T'.setTop g')) (k : Go p e below P T' g') : Go p e below P T g := by
  obtain ⟨t, o, h1, h2⟩ := k; exact ⟨t, o, st.trans h1, h2⟩
theorem Go.cast (q : g = g') (k : Go p e below P T g') : Go p e below P T g := q ▸ k
abbrev EndP (s : State) (rm : Room) (Q : Option Value → Heap → List Loc → Prop) : Outcome → State → Prop := fun o U' => ∃ v L, o = .returned v ∧ Q v U'.heap L ∧ FrameEnd s o U' L rm.cells rm.slots
def Met (l : Launch) (Z : State) (y : MethodName) (bytes : ByteArray) (maxL : Nat) (ret : Option FieldType) (ws : List Cond) (rm : Room) (as' : Array Value) (h0 : Heap) (Q : Option Value → Heap → List Loc → Prop) : Prop :=
  MetFree l y (head1 (Cond.code y bytes maxL ret :: ws) rm) (fun a U => a = as' ∧ Z.Warmed39 U.vm ∧ U.heap = h0) (fun _ _ _ _ _ => True) (fun _ U o U' => ∃ v L, o = .returned v ∧ Q v U'.heap L ∧ FrameEnd U o U' L rm.cells rm.slots)
variable {y : MethodName} {bytes : ByteArray} {maxL : Nat} {ret : Option FieldType} {ws : List Cond} {rm : Room} {as' : Array Value} {h0 : Heap} {Q : Option Value → Heap → List Loc → Prop}
theorem Met.intro (hpl : plainFor y = true)
    (body : ∀ p e s m below meth c s₁, Stand p l e rm s m as' below meth c s₁ [] 0 0 → p.tables.exec = Jvm.exec → Z.Warmed39 s.vm → s.vm.findClass y.cls = some m.cls → c.code = bytes → c.maxLocals = maxL →
      meth.sig.returnType = ret → meth.locks = false → meth.name = y.name → s₁.heap = h0 → Go p e below (EndP s rm Q) s₁ (entryFrame m as' maxL)) : Met l Z y bytes maxL ret ws rm as' h0 Q := by
  refine MetFree.of_bodySF hpl hisR ?_
  intro p e s m args below meth c s₁ Bd hml0 hP hK
  obtain ⟨rfl, hZ, hh⟩ := hP
  exact body p e s m below meth c s₁ (Stand.of_body Bd) Bd.exec hZ (findClass_of_methodNamed Bd.named) Bd.bytes hml0 Bd.returns Bd.notSynchronized (name_of_methodNamed Bd.named Bd.method).1 (by rw [← hh, Bd.state]; rfl)
theorem Met.mono {Q' : Option Value → Heap → List Loc → Prop} (h : Met l Z y bytes maxL ret ws rm as' h0 Q) (q : ∀ v h L, Q v h L → Q' v h L) : Met l Z y bytes maxL ret ws rm as' h0 Q' := by
  intro p e ha hc hk s m args below hf happ hP hK
  obtain ⟨n, o, h1, h2, h3, v, L, h4, h5, h6⟩ := h p e ha hc hk s m args below hf happ hP hK
  exact ⟨n, o, h1, h2, h3, v, L, h4, q _ _ _ h5, h6⟩
theorem Go.fin (X : Stand p l e R s m args below meth c T locs cells slots) {v : Option Value} (hv : meth.sig.returnType = none → v = none) (hlk : meth.locks = false) (hc : cells ≤ rm.cells) (hs : slots ≤ rm.slots)
    (st : ∀ fs, (∀ (f : JFrame) (acts : List Action), f.method = m → f.locked = none → f.entered = [] → (doReturn e (T.setTop f) acts v).1 = T.setFrames fs) → Steps p.tables e below (T.setTop g) (T.setFrames fs)) (hQ : Q v T.heap locs) : Go p e below (EndP s rm Q) T g := by
  obtain ⟨fs, hr, hrun, hended, hW, hsame⟩ := X.leave (v := v) hv hlk
  exact ⟨_, _, st fs hr, hrun, hended, v, locs, rfl, hQ, ⟨v, rfl⟩, hW, hsame.mono hc hs⟩
/-- a value is returned -/
theorem Go.retW (X : Stand p l e R s m args below meth c T locs cells slots) (hx : p.tables.exec = Jvm.exec) {pc : Nat} {Ls : Array Slot} {w : Value} {t : FieldType} {i : Instr} {rest : List Value} (hret : meth.sig.returnType = some t) (hlk : meth.locks = false) (hn : narrow t w = w)
    (hi : (i = .ireturn ∧ (t = .int ∨ t = .boolean ∨ t = .byte ∨ t = .char ∨ t = .short) ∧ ∃ z, w = .int z) ∨ (i = .lreturn ∧ t = .long ∧ ∃ z, w = .long z) ∨ (i = .dreturn ∧ t = .double ∧ ∃ z, w = .double z) ∨ (i = .freturn ∧ t = .float ∧ ∃ z, w = .float z) ∨ (i = .areturn ∧ t.isReference = true ∧ w.isRef = true))
    (hd : decode c.code pc = .ok (i, 1)) (hc : cells ≤ rm.cells) (hs : slots ≤ rm.slots) (hQ : Q (some w) T.heap locs) : Go p e below (EndP s rm Q) T (mkF m pc Ls (w :: rest)) :=
  Go.fin X (fun q => by rw [hret] at q; cases q) hlk hc hs (fun fs hr => retOut X hx hret hn hi hd hr) hQ
/-- nothing is returned -/
theorem Go.retV (X : Stand p l e R s m args below meth c T locs cells slots) (hx : p.tables.exec = Jvm.exec) {pc : Nat} {Ls : Array Slot} (hret : meth.sig.returnType = none) (hlk : meth.locks = false)
    (hd : decode c.code pc = .ok (.return_, 1)) (hc : cells ≤ rm.cells) (hs : slots ≤ rm.slots) (hQ : Q none T.heap locs) : Go p e below (EndP s rm Q) T (mkF m pc Ls []) :=
  Go.fin X (fun _ => rfl) hlk hc hs (fun fs hr => X.returnOut hx hret hd hr) hQ
theorem ri_int {z : Int32} {t : FieldType} (ht : t = .int ∨ t = .boolean ∨ t = .byte ∨ t = .char ∨ t = .short) : ((.ireturn : Instr) = .ireturn ∧ (t = .int ∨ t = .boolean ∨ t = .byte ∨ t = .char ∨ t = .short) ∧ ∃ z', (Value.int z) = .int z') ∨ ((.ireturn : Instr) = .lreturn ∧ t = .long ∧ ∃ z', (Value.int z) = .long z') ∨ ((.ireturn : Instr) = .dreturn ∧ t = .double ∧ ∃ z', (Value.int z) = .double z') ∨ ((.ireturn : Instr) = .freturn ∧ t = .float ∧ ∃ z', (Value.int z) = .float z') ∨ ((.ireturn : Instr) = .areturn ∧ t.isReference = true ∧ (Value.int z).isRef = true) := Or.inl ⟨rfl, ht, z, rfl⟩
/-- a static call, by the callee's contract -/
theorem Go.callS (X : Stand p l e R s m args below meth c T locs cells slots) (hx : p.tables.exec = Jvm.exec) (hZ : Z.Warmed39 s.vm) {own : String} {index W : Nat} {argsL rest : List Value} (hown : s.vm.findClass own = some m.cls)
    (w1 : (Cond.methodLink own index y).before a0 Z = true) (w2 : (Cond.static y).before a0 Z = true) (w3 : (Cond.initialized y.cls).before a0 Z = true) (w4 : (Cond.code y bytes maxL ret).before a0 Z = true)
    (hy : y.cls ≠ "java/lang/invoke/MethodHandle" ∧ y.cls ≠ "java/lang/invoke/VarHandle") (eT : T.heap = h) (hM : Met l Z y bytes maxL ret [] rm argsL.toArray h Q)
    (hg : g.method = m) (hsize : g.locals.size = c.maxLocals) (hlen : ∀ sig, parseMethodDescriptor y.desc = some sig → argsL.length = sig.parameters.length) (hs : g.stack = argsL.reverse ++ rest)
    (hW : 2 * g.monitorRoom + (rest.map fun v => v.category).sum ≤ W) (hd : decode c.code g.pc = .ok (.invokestatic index, 3)) (hf : rm.frames + 1 ≤ R.frames) (hl : W + (maxL + 11) + rm.locals ≤ R.locals) (hc : cells + rm.cells ≤ R.cells) (hsl : slots + rm.slots ≤ R.slots)
    (k : ∀ T' L v, Stand p l e R s m args below meth c T' (locs ++ L) (cells + rm.cells) (slots + rm.slots) → Q v T'.heap L → Go p e below P T' { g with pc := g.pc + 3, stack := v.toList ++ rest }) : Go p e below P T g := by
  obtain ⟨v, _, ⟨U, L, q1, q2⟩, -, X', ⟨Lc, hQ, l1, l2, l3⟩, st⟩ := Jvm.LawKit.callS X hx (y := y) hown (mvT hZ w1) (mvT hZ w2) (mvT hZ w3) (mvT hZ w4) hy (backOf (W := W) hM hZ w4 w3 hf hl) hg hsize hlen hs hW hd (fun _ _ => ⟨rfl, eT, hc, hsl⟩)
  dsimp only [Pt.U, Pt.locs, Pt.cells, Pt.slots] at X' l1 l2 l3 st hQ
  subst l1 l2 l3
  exact Go.of _ st (k _ _ _ X' hQ)
/-- a constructor, by its contract -/
theorem Go.init (X : Stand p l e R s m args below meth c T locs cells slots) (hx : p.tables.exec = Jvm.exec) (hZ : Z.Warmed39 s.vm) {own : String} {index W : Nat} {a : Addr} {argsL rest : List Value} (hown : s.vm.findClass own = some m.cls) (hy1 : y.name = "<init>")
    (w1 : (Cond.methodLink own index y).before a0 Z = true) (w2 : (Cond.instanceMethod y).before a0 Z = true) (w3 : (Cond.initialized y.cls).before a0 Z = true) (w4 : (Cond.code y bytes maxL none).before a0 Z = true)
    (hy : y.cls ≠ "java/lang/invoke/MethodHandle" ∧ y.cls ≠ "java/lang/invoke/VarHandle") (eT : T.heap = h) (hM : Met l Z y bytes maxL none [] rm (.ref a :: argsL).toArray h Q)
    (hg : g.method = m) (hsize : g.locals.size = c.maxLocals) (hlen : ∀ sig, parseMethodDescriptor y.desc = some sig → argsL.length = sig.parameters.length) (hs : g.stack = argsL.reverse ++ .ref a :: rest)
    (hW : 2 * g.monitorRoom + (rest.map fun v => v.category).sum ≤ W) (hd : decode c.code g.pc = .ok (.invokespecial index, 3)) (hf : rm.frames + 1 ≤ R.frames) (hl : W + (maxL + 11) + rm.locals ≤ R.locals) (hc : cells + rm.cells ≤ R.cells) (hsl : slots + rm.slots ≤ R.slots)
    (k : ∀ T' L v, Stand p l e R s m args below meth c T' (locs ++ L) (cells + rm.cells) (slots + rm.slots) → Q v T'.heap L → Go p e below P T' { g with pc := g.pc + 3, stack := v.toList ++ rest }) : Go p e below P T g := by
  obtain ⟨v, _, ⟨U, L, q1, q2⟩, -, X', ⟨Lc, hQ, l1, l2, l3⟩, st⟩ := X.specialBack hx (y := y) hy1 hown (mvT hZ w1) (mvT hZ w2) (mvT hZ w4) hy (backOf (W := W) hM hZ w4 w3 hf hl) hg hsize (Steps.refl _) hlen hs hW hd (fun _ _ => ⟨rfl, eT, hc, hsl⟩)
  dsimp only [Pt.U, Pt.locs, Pt.cells, Pt.slots] at X' l1 l2 l3 st hQ
  subst l1 l2 l3
  exact Go.via _ st (k _ _ _ X' hQ)
/-- an instance method, by the contract of the method that the receiver's class selects -/
theorem Go.virt (X : Stand p l e R s m args below meth c T locs cells slots) (hx : p.tables.exec = Jvm.exec) (hZ : Z.Warmed39 s.vm) {own C : String} {z : MethodName} {index W : Nat} {a : Addr} {argsL rest : List Value} (hown : s.vm.findClass own = some m.cls)
    (w1 : (Cond.methodLink own index z).before a0 Z = true) (w2 : (Cond.declares z).before a0 Z = true) (nf : NotFace s z) (w5 : (Cond.selects C z y).before a0 Z = true) (w6 : (Cond.instanceMethod y).before a0 Z = true) (w3 : (Cond.initialized y.cls).before a0 Z = true) (w4 : (Cond.code y bytes maxL ret).before a0 Z = true)
    (hy : z.cls ≠ "java/lang/invoke/MethodHandle" ∧ z.cls ≠ "java/lang/invoke/VarHandle") (eT : T.heap = h) (E : Exa Z h a C) (hM : Met l Z y bytes maxL ret [] rm (.ref a :: argsL).toArray h Q)
    (hg : g.method = m) (hsize : g.locals.size = c.maxLocals) (hlen : ∀ sig, parseMethodDescriptor z.desc = some sig → argsL.length = sig.parameters.length) (hs : g.stack = argsL.reverse ++ .ref a :: rest)
    (hW : 2 * g.monitorRoom + (rest.map fun v => v.category).sum ≤ W) (hd : decode c.code g.pc = .ok (.invokevirtual index, 3)) (hf : rm.frames + 1 ≤ R.frames) (hl : W + (maxL + 11) + rm.locals ≤ R.locals) (hc : cells + rm.cells ≤ R.cells) (hsl : slots + rm.slots ≤ R.slots)
    (k : ∀ T' L v, Stand p l e R s m args below meth c T' (locs ++ L) (cells + rm.cells) (slots + rm.slots) → Q v T'.heap L → Go p e below P T' { g with pc := g.pc + 3, stack := v.toList ++ rest }) : Go p e below P T g := by
  obtain ⟨cq, kq, qa, qb, qc⟩ := isOf hZ eT E
  obtain ⟨v, _, ⟨U, L, q1, q2⟩, -, X', ⟨Lc, hQ, l1, l2, l3⟩, st⟩ := X.virtualBack hx (y := z) (z := y) hown (mvT hZ w1) (mvT hZ w2) nf (mvT hZ w5) (mvT hZ w6) hy (backOf (W := W) hM hZ w4 w3 hf hl) qa qc hg hsize (Steps.refl _) hlen hs hW hd (fun _ _ => ⟨rfl, eT, hc, hsl⟩)
  dsimp only [Pt.U, Pt.locs, Pt.cells, Pt.slots] at X' l1 l2 l3 st hQ
  subst l1 l2 l3
  exact Go.via _ st (k _ _ _ X' hQ)
/-- a private method (invokevirtual) -/
theorem Go.priv (X : Stand p l e R s m args below meth c T locs cells slots) (hx : p.tables.exec = Jvm.exec) (hZ : Z.Warmed39 s.vm) {own C : String} {index W : Nat} {a : Addr} {argsL rest : List Value} (hown : s.vm.findClass own = some m.cls)
    (w1 : (Cond.methodLink own index y).before a0 Z = true) (w6 : (Cond.instanceMethod y).before a0 Z = true) (w5 : (Cond.selects y.cls y y).before a0 Z = true) (w7 : (Cond.privateMethod y).before a0 Z = true) (w3 : (Cond.initialized y.cls).before a0 Z = true) (w4 : (Cond.code y bytes maxL ret).before a0 Z = true)
    (hy : y.cls ≠ "java/lang/invoke/MethodHandle" ∧ y.cls ≠ "java/lang/invoke/VarHandle") (eT : T.heap = h) (E : Exa Z h a C) (hM : Met l Z y bytes maxL ret [] rm (.ref a :: argsL).toArray h Q)
    (hg : g.method = m) (hsize : g.locals.size = c.maxLocals) (hlen : ∀ sig, parseMethodDescriptor y.desc = some sig → argsL.length = sig.parameters.length) (hs : g.stack = argsL.reverse ++ .ref a :: rest)
    (hW : 2 * g.monitorRoom + (rest.map fun v => v.category).sum ≤ W) (hd : decode c.code g.pc = .ok (.invokevirtual index, 3)) (hf : rm.frames + 1 ≤ R.frames) (hl : W + (maxL + 11) + rm.locals ≤ R.locals) (hc : cells + rm.cells ≤ R.cells) (hsl : slots + rm.slots ≤ R.slots)
    (k : ∀ T' L v, Stand p l e R s m args below meth c T' (locs ++ L) (cells + rm.cells) (slots + rm.slots) → Q v T'.heap L → Go p e below P T' { g with pc := g.pc + 3, stack := v.toList ++ rest }) : Go p e below P T g := by
  obtain ⟨cq, q, q'⟩ := E.cell
  obtain ⟨v, _, ⟨U, L, q1, q2⟩, -, X', ⟨Lc, hQ, l1, l2, l3⟩, st⟩ := X.privateBack hx (y := y) hown (mvT hZ w1) (mvT hZ w6) (mvT hZ w5) (Cond.privateMethod_at (mvP hZ w7 (args := #[]))) (mvT hZ w4) hy (backOf (W := W) hM hZ w4 w3 hf hl) hg hsize (Steps.refl _) (a := a) (by rw [eT]; exact q) q' hlen hs hW hd (fun _ _ => ⟨rfl, eT, hc, hsl⟩)
  dsimp only [Pt.U, Pt.locs, Pt.cells, Pt.slots] at X' l1 l2 l3 st hQ
  subst l1 l2 l3
  exact Go.via _ st (k _ _ _ X' hQ)
/-! arrays by a function of the place -/
def upd {α : Type} (y : Int32 → α) (j : Int32) (v : α) : Int32 → α := fun i => if i = j then v else y i
theorem upd_same {α : Type} (y : Int32 → α) (j : Int32) (v : α) : upd y j v j = v := if_pos rfl
theorem upd_ne {α : Type} {y : Int32 → α} {i j : Int32} {v : α} (h : ¬ i = j) : upd y j v i = y i := if_neg h
def Fa (Z : State) (h : Heap) (a : Addr) (ty : FieldType) (n : Int32) (y : Int32 → Value) : Prop :=
  ∃ c : Cell, Arr Z h a c ty ∧ c.slots.size = n.toNatClampNeg ∧ ¬ n < 0 ∧ ∀ j : Int32, ¬ j < 0 → j < n → c.slots[j.toNatClampNeg]? = some (y j) ∧ fits ty (y j) = true
variable {a b : Addr} {ty : FieldType} {n : Int32} {yv : Int32 → Value} {h' : Heap} {j : Int32} {v : Value} {sl : Nat} {hws : List Addr}
theorem Fa.lt (F : Fa Z h a ty n yv) : a < h.size := by obtain ⟨c, A, -⟩ := F; exact A.lt
theorem Fa.ext (F : Fa Z h a ty n yv) (E : Ext h h') : Fa Z h' a ty n yv := by obtain ⟨c, A, r⟩ := F; exact ⟨c, A.ext E, r⟩
theorem Fa.other (F : Fa Z h b ty n yv) (W : Wr h h' a sl v) (q : b ≠ a) : Fa Z h' b ty n yv := by obtain ⟨c, A, r⟩ := F; exact ⟨c, A.other W q, r⟩
theorem Fa.keep (F : Fa Z h a ty n yv) (K : Keep h h' hws) (q : a ∉ hws) : Fa Z h' a ty n yv := by obtain ⟨c, A, r⟩ := F; exact ⟨c, ⟨K.2.1 a c A.1 q, A.2⟩, r⟩
theorem Fa.new {k : ClassId} (A : Arr Z h a (newA k ty n) ty) (q : ¬ n < 0) : Fa Z h a ty n (fun _ => defaultValue ty) :=
  ⟨_, A, sz_new _ _ _, q, fun i h0 h1 => ⟨get_new (by have := inb_of (c := newA k ty n) (sz_new k ty n) ⟨h0, h1⟩; rwa [sz_new] at this), by cases ty <;> rfl⟩⟩
theorem Fa.set (F : Fa Z h a ty n yv) (W : Wr h h' a j.toNatClampNeg v) (hj : ¬ j < 0) (hv : fits ty v = true) : Fa Z h' a ty n (upd yv j v) := by
  obtain ⟨c, A, S, M, H⟩ := F
  refine ⟨c.setSlot j.toNatClampNeg v, A.same W, by rw [sz_set]; exact S, M, fun i h0 h1 => ?_⟩
  by_cases e : i = j
  · subst e; rw [upd_same]; exact ⟨get_hit (inb_of S ⟨h0, h1⟩) rfl, hv⟩
  · rw [upd_ne e, get_miss hj h0 e]; exact H i h0 h1
theorem Fa.congr {yw : Int32 → Value} (F : Fa Z h a ty n yv) (q : ∀ j, ¬ j < 0 → j < n → yw j = yv j) : Fa Z h a ty n yw := by
  obtain ⟨c, A, S, M, H⟩ := F
  exact ⟨c, A, S, M, fun j h0 h1 => by rw [q j h0 h1]; exact H j h0 h1⟩
theorem Fa.pos (F : Fa Z h a ty n yv) : ¬ n < 0 := by obtain ⟨c, A, S, M, H⟩ := F; exact M
theorem Fa.ofArv {k : ClassId} {vs : List Value} {dv : Value} (F : Arv Z h a k ty n vs dv) : Fa Z h a ty n (fun j => vs.getD j.toNatClampNeg dv) := by
  obtain ⟨c, A, q1, S, M, H, G⟩ := F
  exact ⟨c, A, S, M, fun j h0 h1 => by
    have q : j.toNatClampNeg < c.slots.size := Nat.lt_of_not_le fun z => inb_of S ⟨h0, h1⟩ (Or.inr z)
    exact ⟨H _ q, G _ q⟩⟩
theorem upd_int (y : Int32 → Int32) (j x : Int32) : upd (fun i => Value.int (y i)) j (.int x) = fun i => Value.int (upd y j x i) := by funext i; unfold upd; split <;> rfl
theorem upd_long (y : Int32 → Int64) (j : Int32) (x : Int64) : upd (fun i => Value.long (y i)) j (.long x) = fun i => Value.long (upd y j x i) := by funext i; unfold upd; split <;> rfl
theorem upd_dbl (y : Int32 → UInt64) (j : Int32) (x : UInt64) : upd (fun i => Value.double (y i)) j (.double x) = fun i => Value.double (upd y j x i) := by funext i; unfold upd; split <;> rfl
variable {rest : List Value}
theorem Go.arraylength (X : Stand p l e R s m args below meth c T locs cells slots) (hx : p.tables.exec = Jvm.exec) (hZ : Z.Warmed39 s.vm) (eT : T.heap = h) (F : Fa Z h a ty n yv) (hg : g.method = m) (hs : g.stack = .ref a :: rest) (hd : decode c.code g.pc = .ok (.arraylength, 1))
    (k : Go p e below P T { g with pc := g.pc + 1, stack := .int n :: rest }) : Go p e below P T g := by
  obtain ⟨cl, A, S, M, H⟩ := F
  refine Go.of _ (fun t k => X.arraylength hx (by rw [eT]; exact A.1) (State.isArrayOf_alike hZ.alike A.2.1) hg hs hd _ k) ?_
  rw [len_of S M]; exact k
theorem Go.iaload (X : Stand p l e R s m args below meth c T locs cells slots) (hx : p.tables.exec = Jvm.exec) (hZ : Z.Warmed39 s.vm) (eT : T.heap = h) {y : Int32 → Int32} (F : Fa Z h a .int n (fun i => .int (y i))) (h0 : ¬ j < 0) (h1 : j < n) (hg : g.method = m) (hs : g.stack = .int j :: .ref a :: rest) (hd : decode c.code g.pc = .ok (.iaload, 1))
    (k : Go p e below P T { g with pc := g.pc + 1, stack := .int (y j) :: rest }) : Go p e below P T g := by
  obtain ⟨cl, A, S, M, H⟩ := F
  exact Go.of _ (fun t k => X.iaload hx (by rw [eT]; exact A.1) (State.isArrayOf_alike hZ.alike A.2.1) A.2.2 (inb_of S ⟨h0, h1⟩) (H j h0 h1).1 hg hs hd _ k) k
theorem Go.caload (X : Stand p l e R s m args below meth c T locs cells slots) (hx : p.tables.exec = Jvm.exec) (hZ : Z.Warmed39 s.vm) (eT : T.heap = h) {y : Int32 → Int32} (F : Fa Z h a .char n (fun i => .int (y i))) (h0 : ¬ j < 0) (h1 : j < n) (hg : g.method = m) (hs : g.stack = .int j :: .ref a :: rest) (hd : decode c.code g.pc = .ok (.caload, 1))
    (k : Go p e below P T { g with pc := g.pc + 1, stack := .int (y j) :: rest }) : Go p e below P T g := by
  obtain ⟨cl, A, S, M, H⟩ := F
  exact Go.of _ (fun t k => X.caload hx (by rw [eT]; exact A.1) (State.isArrayOf_alike hZ.alike A.2.1) A.2.2 (inb_of S ⟨h0, h1⟩) (H j h0 h1).1 hg hs hd _ k) k
theorem Go.saload (X : Stand p l e R s m args below meth c T locs cells slots) (hx : p.tables.exec = Jvm.exec) (hZ : Z.Warmed39 s.vm) (eT : T.heap = h) {y : Int32 → Int32} (F : Fa Z h a .short n (fun i => .int (y i))) (h0 : ¬ j < 0) (h1 : j < n) (hg : g.method = m) (hs : g.stack = .int j :: .ref a :: rest) (hd : decode c.code g.pc = .ok (.saload, 1))
    (k : Go p e below P T { g with pc := g.pc + 1, stack := .int (y j) :: rest }) : Go p e below P T g := by
  obtain ⟨cl, A, S, M, H⟩ := F
  exact Go.of _ (fun t k => X.saload hx (by rw [eT]; exact A.1) (State.isArrayOf_alike hZ.alike A.2.1) A.2.2 (inb_of S ⟨h0, h1⟩) (H j h0 h1).1 hg hs hd _ k) k
theorem Go.baload (X : Stand p l e R s m args below meth c T locs cells slots) (hx : p.tables.exec = Jvm.exec) (hZ : Z.Warmed39 s.vm) (eT : T.heap = h) {y : Int32 → Int32} (F : Fa Z h a .byte n (fun i => .int (y i))) (h0 : ¬ j < 0) (h1 : j < n) (hg : g.method = m) (hs : g.stack = .int j :: .ref a :: rest) (hd : decode c.code g.pc = .ok (.baload, 1))
    (k : Go p e below P T { g with pc := g.pc + 1, stack := .int (y j) :: rest }) : Go p e below P T g := by
  obtain ⟨cl, A, S, M, H⟩ := F
  exact Go.of _ (fun t k => X.baloadBytes hx (by rw [eT]; exact A.1) (State.isArrayOf_alike hZ.alike A.2.1) A.2.2 (inb_of S ⟨h0, h1⟩) (H j h0 h1).1 hg hs hd _ k) k
theorem Go.zaload (X : Stand p l e R s m args below meth c T locs cells slots) (hx : p.tables.exec = Jvm.exec) (hZ : Z.Warmed39 s.vm) (eT : T.heap = h) {y : Int32 → Int32} (F : Fa Z h a .boolean n (fun i => .int (y i))) (h0 : ¬ j < 0) (h1 : j < n) (hg : g.method = m) (hs : g.stack = .int j :: .ref a :: rest) (hd : decode c.code g.pc = .ok (.baload, 1))
    (k : Go p e below P T { g with pc := g.pc + 1, stack := .int (y j) :: rest }) : Go p e below P T g := by
  obtain ⟨cl, A, S, M, H⟩ := F
  exact Go.of _ (fun t k => X.baloadBooleans hx (by rw [eT]; exact A.1) (State.isArrayOf_alike hZ.alike A.2.1) A.2.2 (inb_of S ⟨h0, h1⟩) (H j h0 h1).1 hg hs hd _ k) k
theorem Go.laload (X : Stand p l e R s m args below meth c T locs cells slots) (hx : p.tables.exec = Jvm.exec) (hZ : Z.Warmed39 s.vm) (eT : T.heap = h) {y : Int32 → Int64} (F : Fa Z h a .long n (fun i => .long (y i))) (h0 : ¬ j < 0) (h1 : j < n) (hg : g.method = m) (hs : g.stack = .int j :: .ref a :: rest) (hd : decode c.code g.pc = .ok (.laload, 1))
    (k : Go p e below P T { g with pc := g.pc + 1, stack := .long (y j) :: rest }) : Go p e below P T g := by
  obtain ⟨cl, A, S, M, H⟩ := F
  exact Go.of _ (fun t k => X.laload hx (by rw [eT]; exact A.1) (State.isArrayOf_alike hZ.alike A.2.1) A.2.2 (inb_of S ⟨h0, h1⟩) (H j h0 h1).1 hg hs hd _ k) k
theorem Go.aaload (X : Stand p l e R s m args below meth c T locs cells slots) (hx : p.tables.exec = Jvm.exec) (hZ : Z.Warmed39 s.vm) (eT : T.heap = h) (F : Fa Z h a ty n yv) (hty : ty.isReference = true) (h0 : ¬ j < 0) (h1 : j < n) (hg : g.method = m) (hs : g.stack = .int j :: .ref a :: rest) (hd : decode c.code g.pc = .ok (.aaload, 1))
    (k : Go p e below P T { g with pc := g.pc + 1, stack := yv j :: rest }) : Go p e below P T g := by
  obtain ⟨cl, A, S, M, H⟩ := F
  exact Go.of _ (fun t k => X.aaload hx (by rw [eT]; exact A.1) (State.isArrayOf_alike hZ.alike A.2.1) hty A.2.2 (inb_of S ⟨h0, h1⟩) (H j h0 h1).1 hg hs hd _ k) k
theorem Go.iastore (X : Stand p l e R s m args below meth c T locs cells slots) (hx : p.tables.exec = Jvm.exec) (hZ : Z.Warmed39 s.vm) (eT : T.heap = h) {y : Int32 → Int32} {x : Int32} (F : Fa Z h a .int n (fun i => .int (y i))) (h0 : ¬ j < 0) (h1 : j < n) (hg : g.method = m) (hs : g.stack = .int x :: .int j :: .ref a :: rest) (hd : decode c.code g.pc = .ok (.iastore, 1))
    (k : ∀ T' h', Stand p l e R s m args below meth c T' (locs ++ [⟨a, j.toNatClampNeg⟩]) cells slots → T'.heap = h' → Wr h h' a j.toNatClampNeg (.int x) → Fa Z h' a .int n (fun i => .int (upd y j x i)) → Go p e below P T' { g with pc := g.pc + 1, stack := rest }) : Go p e below P T g := by
  obtain ⟨cl, A, S, M, H⟩ := id F
  obtain ⟨T', h', X', e', W, st⟩ := stI X hx hZ eT A (inb_of S ⟨h0, h1⟩) hg hs hd
  exact Go.of _ st (k _ _ X' e' W (by have := F.set W h0 rfl; rwa [upd_int] at this))
theorem Go.castore (X : Stand p l e R s m args below meth c T locs cells slots) (hx : p.tables.exec = Jvm.exec) (hZ : Z.Warmed39 s.vm) (eT : T.heap = h) {y : Int32 → Int32} {x : Int32} (F : Fa Z h a .char n (fun i => .int (y i))) (h0 : ¬ j < 0) (h1 : j < n) (hg : g.method = m) (hs : g.stack = .int x :: .int j :: .ref a :: rest) (hd : decode c.code g.pc = .ok (.castore, 1))
    (k : ∀ T' h', Stand p l e R s m args below meth c T' (locs ++ [⟨a, j.toNatClampNeg⟩]) cells slots → T'.heap = h' → Wr h h' a j.toNatClampNeg (.int (nar .char x)) → Fa Z h' a .char n (fun i => .int (upd y j (nar .char x) i)) → Go p e below P T' { g with pc := g.pc + 1, stack := rest }) : Go p e below P T g := by
  obtain ⟨cl, A, S, M, H⟩ := id F
  obtain ⟨T', h', X', e', W, st⟩ := stC X hx hZ eT A (inb_of S ⟨h0, h1⟩) hg hs hd
  exact Go.of _ st (k _ _ X' e' W (by have := F.set W h0 (fits_nar_char _); rwa [upd_int] at this))
theorem Go.bastore (X : Stand p l e R s m args below meth c T locs cells slots) (hx : p.tables.exec = Jvm.exec) (hZ : Z.Warmed39 s.vm) (eT : T.heap = h) {y : Int32 → Int32} {x : Int32} (F : Fa Z h a .byte n (fun i => .int (y i))) (h0 : ¬ j < 0) (h1 : j < n) (hg : g.method = m) (hs : g.stack = .int x :: .int j :: .ref a :: rest) (hd : decode c.code g.pc = .ok (.bastore, 1))
    (k : ∀ T' h', Stand p l e R s m args below meth c T' (locs ++ [⟨a, j.toNatClampNeg⟩]) cells slots → T'.heap = h' → Wr h h' a j.toNatClampNeg (.int (nar .byte x)) → Fa Z h' a .byte n (fun i => .int (upd y j (nar .byte x) i)) → Go p e below P T' { g with pc := g.pc + 1, stack := rest }) : Go p e below P T g := by
  obtain ⟨cl, A, S, M, H⟩ := id F
  obtain ⟨T', h', X', e', W, st⟩ := stB X hx hZ eT A (inb_of S ⟨h0, h1⟩) hg hs hd
  exact Go.of _ st (k _ _ X' e' W (by have := F.set W h0 (fits_nar_byte _); rwa [upd_int] at this))
theorem Go.zastore (X : Stand p l e R s m args below meth c T locs cells slots) (hx : p.tables.exec = Jvm.exec) (hZ : Z.Warmed39 s.vm) (eT : T.heap = h) {y : Int32 → Int32} {x : Int32} (F : Fa Z h a .boolean n (fun i => .int (y i))) (h0 : ¬ j < 0) (h1 : j < n) (hg : g.method = m) (hs : g.stack = .int x :: .int j :: .ref a :: rest) (hd : decode c.code g.pc = .ok (.bastore, 1))
    (k : ∀ T' h', Stand p l e R s m args below meth c T' (locs ++ [⟨a, j.toNatClampNeg⟩]) cells slots → T'.heap = h' → Wr h h' a j.toNatClampNeg (.int (nar .boolean x)) → Fa Z h' a .boolean n (fun i => .int (upd y j (nar .boolean x) i)) → Go p e below P T' { g with pc := g.pc + 1, stack := rest }) : Go p e below P T g := by
  obtain ⟨cl, A, S, M, H⟩ := id F
  obtain ⟨T', h', X', e', W, st⟩ := stZ X hx hZ eT A (inb_of S ⟨h0, h1⟩) hg hs hd
  exact Go.of _ st (k _ _ X' e' W (by have := F.set W h0 (fits_nar_bool _); rwa [upd_int] at this))
theorem Go.lastore (X : Stand p l e R s m args below meth c T locs cells slots) (hx : p.tables.exec = Jvm.exec) (hZ : Z.Warmed39 s.vm) (eT : T.heap = h) {y : Int32 → Int64} {x : Int64} (F : Fa Z h a .long n (fun i => .long (y i))) (h0 : ¬ j < 0) (h1 : j < n) (hg : g.method = m) (hs : g.stack = .long x :: .int j :: .ref a :: rest) (hd : decode c.code g.pc = .ok (.lastore, 1))
    (k : ∀ T' h', Stand p l e R s m args below meth c T' (locs ++ [⟨a, j.toNatClampNeg⟩]) cells slots → T'.heap = h' → Wr h h' a j.toNatClampNeg (.long x) → Fa Z h' a .long n (fun i => .long (upd y j x i)) → Go p e below P T' { g with pc := g.pc + 1, stack := rest }) : Go p e below P T g := by
  obtain ⟨cl, A, S, M, H⟩ := id F
  obtain ⟨T', h', X', e', W, st⟩ := stJ X hx hZ eT A (inb_of S ⟨h0, h1⟩) hg hs hd
  exact Go.of _ st (k _ _ X' e' W (by have := F.set W h0 rfl; rwa [upd_long] at this))
theorem Go.aastore (X : Stand p l e R s m args below meth c T locs cells slots) (hx : p.tables.exec = Jvm.exec) (hZ : Z.Warmed39 s.vm) (eT : T.heap = h) (F : Fa Z h a ty n yv) (hty : ty.isReference = true) (hf : fits ty v = true) (O : Sto Z h a v) (h0 : ¬ j < 0) (h1 : j < n) (hg : g.method = m) (hs : g.stack = v :: .int j :: .ref a :: rest) (hd : decode c.code g.pc = .ok (.aastore, 1))
    (k : ∀ T' h', Stand p l e R s m args below meth c T' (locs ++ [⟨a, j.toNatClampNeg⟩]) cells slots → T'.heap = h' → Wr h h' a j.toNatClampNeg v → Fa Z h' a ty n (upd yv j v) → Go p e below P T' { g with pc := g.pc + 1, stack := rest }) : Go p e below P T g := by
  obtain ⟨cl, A, S, M, H⟩ := id F
  obtain ⟨T', h', X', e', W, st⟩ := stR X hx hZ eT A (inb_of S ⟨h0, h1⟩) hty O hg hs hd
  exact Go.of _ st (k _ _ X' e' W (F.set W h0 hf))
/-- the array's class is that of the arrays over C -/
def Uty (Z : State) (h : Heap) (a : Addr) (C : String) : Prop := ∃ c : Cell, h[a]? = some c ∧ Ovr Z c.cls C
theorem Uty.ext {C : String} (F : Uty Z h a C) (E : Ext h h') : Uty Z h' a C := by obtain ⟨c, A, r⟩ := F; exact ⟨c, E.2 _ _ A, r⟩
theorem Uty.wr {C : String} (F : Uty Z h b C) (W : Wr h h' a sl v) : Uty Z h' b C := by
  obtain ⟨c, A, r⟩ := F
  obtain ⟨c', e1, e2, -⟩ := wr_at W A
  exact ⟨c', e1, by rw [e2]; exact r⟩
theorem Uty.keep {C : String} (F : Uty Z h a C) (K : Keep h h' hws) : Uty Z h' a C := by
  obtain ⟨c, A, r⟩ := F
  obtain ⟨c', e1, e2, -⟩ := K.2.2 _ _ A
  exact ⟨c', e1, by rw [e2]; exact r⟩
theorem Fa.sto {C : String} (F : Fa Z h a ty n yv) (U : Uty Z h a C) (I : Ins Z h b C true) : Sto Z h a (.ref b) := by
  obtain ⟨c, A, -⟩ := F
  obtain ⟨c', A', O⟩ := U
  cases A.1.symm.trans A'
  exact Sto.of A O I
theorem nat_back {i : Nat} (hi : i < 2 ^ 31) : i.toInt32.toNatClampNeg = i ∧ ¬ i.toInt32 < 0 := by
  have e : i.toInt32.toInt = i := len_toInt hi
  refine ⟨?_, ?_⟩
  · show i.toInt32.toInt.toNat = i
    rw [e]; rfl
  · rw [Int32.lt_iff_toInt_lt, e]
    have z : (0 : Int32).toInt = 0 := by decide
    omega
theorem lt_of_nat {i : Nat} {z : Int32} (hz : ¬ z < 0) (hi : i < z.toNatClampNeg) : i.toInt32 < z ∧ i < 2 ^ 31 := by
  have q := nat_of hz
  have b := rng32 z
  have hb : i < 2 ^ 31 := by omega
  refine ⟨?_, hb⟩
  rw [Int32.lt_iff_toInt_lt, len_toInt hb]
  omega
theorem Fa.fitC {cl : Cell} (A : Arr Z h a cl ty) (S : cl.slots.size = n.toNatClampNeg) (M : ¬ n < 0) (H : ∀ j : Int32, ¬ j < 0 → j < n → cl.slots[j.toNatClampNeg]? = some (yv j) ∧ fits ty (yv j) = true) : FitC Z cl :=
  fitC_of A fun i hi w hw => by
    have q := lt_of_nat M (S ▸ hi)
    have r := nat_back q.2
    have u := H i.toInt32 r.2 q.1
    rw [r.1] at u
    cases hw.symm.trans u.1
    exact u.2
theorem Go.clone (X : Stand p l e R s m args below meth c T locs cells slots) (hx : p.tables.exec = Jvm.exec) (hZ : Z.Warmed39 s.vm) {own ad : String} {index : Nat} (hown : s.vm.findClass own = some m.cls)
    (w1 : (Cond.methodLink own index ⟨ad, "clone", "()Ljava/lang/Object;"⟩).before a0 Z = true) (w2 : (Cond.sameMethod ad "java/lang/Object" "clone" "()Ljava/lang/Object;").before a0 Z = true) (w3 : (Cond.native ⟨"java/lang/Object", "clone", "()Ljava/lang/Object;"⟩).before a0 Z = true)
    (w4 : (Cond.instanceMethod ⟨"java/lang/Object", "clone", "()Ljava/lang/Object;"⟩).before a0 Z = true) (w5 : (Cond.selects ad ⟨ad, "clone", "()Ljava/lang/Object;"⟩ ⟨"java/lang/Object", "clone", "()Ljava/lang/Object;"⟩).before a0 Z = true) (w6 : (Cond.castable ad "java/lang/Cloneable").before a0 Z = true)
    (eT : T.heap = h) (F : Fa Z h a ty n yv) (E : Exa Z h a ad) (hg : g.method = m) (hsize : g.locals.size = c.maxLocals) (hs : g.stack = .ref a :: rest) (hd : decode c.code g.pc = .ok (.invokevirtual index, 3))
    (hf : 1 ≤ R.frames) {W cap : Nat} (hW : 2 * g.monitorRoom + (rest.map fun v => v.category).sum ≤ W) (hl : W + 14 ≤ R.locals) (hcap : n.toNatClampNeg ≤ cap) (hc : cells + 1 ≤ R.cells) (hsl : slots + cap ≤ R.slots)
    (k : ∀ T' h', Stand p l e R s m args below meth c T' locs (cells + 1) (slots + cap) → T'.heap = h' → Ext h h' → Fa Z h' h.size ty n yv → Exa Z h' h.size ad → Go p e below P T' { g with pc := g.pc + 3, stack := .ref h.size :: rest }) : Go p e below P T g := by
  obtain ⟨cl, A, S, M, H⟩ := id F
  obtain ⟨T', h', X', e', ex, A', E', st⟩ := cloneA X hx hZ hown w1 w2 w3 w4 w5 w6 eT A E (Fa.fitC A S M H) hg hsize hs hd hf hW hl (by rw [S]; exact hcap) hc hsl
  exact Go.of _ st (k _ _ X' e' ex ⟨cloneOf cl, A', S, M, H⟩ E')
theorem exa_ns {C : String} (E : Exa Z h a C) : ∀ c : Cell, h[a]? = some c → c.vm.isStatics = false := fun c hc => by
  obtain ⟨c', k, h1, -, -, h4, -⟩ := E
  cases h1.symm.trans hc; exact h4
theorem Sta.keep {C nn d : String} (F : Sta Z h C nn d v) (K : Keep h h' hws) (q : ∀ x ∈ hws, ∀ c : Cell, h[x]? = some c → c.vm.isStatics = false) : Sta Z h' C nn d v := by
  obtain ⟨cf, i, k, f, st, cell, h1, h2, h3, h4, h5, h6, h7⟩ := F
  refine ⟨cf, i, k, f, st, cell, h1, h2, h3, h4, K.2.1 _ _ h5 fun z => ?_, h6, h7⟩
  rw [q _ z _ h5] at h6; cases h6
/-- an inherited instance method (the entry names it through the subclass) -/
theorem Go.virtUp (X : Stand p l e R s m args below meth c T locs cells slots) (hx : p.tables.exec = Jvm.exec) (hZ : Z.Warmed39 s.vm) {own C owner : String} {z : MethodName} {index W : Nat} {argsL : List Value} (hown : s.vm.findClass own = some m.cls)
    (w1 : (Cond.methodLink own index z).before a0 Z = true) (w2 : (Cond.sameMethod z.cls owner z.name z.desc).before a0 Z = true) (w8 : (Cond.declares ⟨owner, z.name, z.desc⟩).before a0 Z = true) (hy : owner ≠ "java/lang/invoke/MethodHandle" ∧ owner ≠ "java/lang/invoke/VarHandle") (w5 : (Cond.selects C z y).before a0 Z = true) (w6 : (Cond.instanceMethod y).before a0 Z = true) (w3 : (Cond.initialized y.cls).before a0 Z = true) (w4 : (Cond.code y bytes maxL ret).before a0 Z = true)
    (eT : T.heap = h) (E : Exa Z h a C) (hM : Met l Z y bytes maxL ret [] rm (.ref a :: argsL).toArray h Q)
    (hg : g.method = m) (hsize : g.locals.size = c.maxLocals) (hlen : ∀ sig, parseMethodDescriptor z.desc = some sig → argsL.length = sig.parameters.length) (hs : g.stack = argsL.reverse ++ .ref a :: rest)
    (hW : 2 * g.monitorRoom + (rest.map fun v => v.category).sum ≤ W) (hd : decode c.code g.pc = .ok (.invokevirtual index, 3)) (hf : rm.frames + 1 ≤ R.frames) (hl : W + (maxL + 11) + rm.locals ≤ R.locals) (hc : cells + rm.cells ≤ R.cells) (hsl : slots + rm.slots ≤ R.slots)
    (k : ∀ T' L v, Stand p l e R s m args below meth c T' (locs ++ L) (cells + rm.cells) (slots + rm.slots) → Q v T'.heap L → Go p e below P T' { g with pc := g.pc + 3, stack := v.toList ++ rest }) : Go p e below P T g := by
  obtain ⟨cq, kq, qa, qb, qc⟩ := isOf hZ eT E
  obtain ⟨v, _, ⟨U, L, q1, q2⟩, -, X', ⟨Lc, hQ, l1, l2, l3⟩, st⟩ := X.virtualBackUp hx (x := z) (y := y) hown (mvT hZ w1) (mvT hZ w2) (mvT hZ w8) hy (mvT hZ w5) (mvT hZ w6) (backOf (W := W) hM hZ w4 w3 hf hl) qa qc hg hsize (Steps.refl _) hlen hs hW hd (fun _ _ => ⟨rfl, eT, hc, hsl⟩)
  dsimp only [Pt.U, Pt.locs, Pt.cells, Pt.slots] at X' l1 l2 l3 st hQ
  subst l1 l2 l3
  exact Go.via _ st (k _ _ _ X' hQ)
/-- the two sides of a call as the pasted laws of String have them -/
abbrev BPre (R : Room) (as' : Array Value) (h : Heap) (kc ks : Nat) : Pt → Array Value → Prop := fun P a => a = as' ∧ P.U.heap = h ∧ P.cells + kc ≤ R.cells ∧ P.slots + ks ≤ R.slots
abbrev BPost (Q : Option Value → Heap → List Loc → Prop) (kc ks : Nat) : Pt → Array Value → Option Value → Pt → Prop := fun P _ v B => ∃ L, Q v B.U.heap L ∧ B.locs = P.locs ++ L ∧ B.cells = P.cells + kc ∧ B.slots = P.slots + ks
theorem Go.initB (X : Stand p l e R s m args below meth c T locs cells slots) (hx : p.tables.exec = Jvm.exec) (hZ : Z.Warmed39 s.vm) {own : String} {index W kc ks : Nat} {argsL : List Value} (hown : s.vm.findClass own = some m.cls) (hy1 : y.name = "<init>")
    (w1 : (Cond.methodLink own index y).before a0 Z = true) (w2 : (Cond.instanceMethod y).before a0 Z = true) (w4 : (Cond.code y bytes maxL none).before a0 Z = true)
    (hy : y.cls ≠ "java/lang/invoke/MethodHandle" ∧ y.cls ≠ "java/lang/invoke/VarHandle") (eT : T.heap = h) (hK : Back l R p e below s args y 3 W (BPre R (.ref a :: argsL).toArray h kc ks) (BPost Q kc ks))
    (hg : g.method = m) (hsize : g.locals.size = c.maxLocals) (hlen : ∀ sig, parseMethodDescriptor y.desc = some sig → argsL.length = sig.parameters.length) (hs : g.stack = argsL.reverse ++ .ref a :: rest)
    (hW : 2 * g.monitorRoom + (rest.map fun v => v.category).sum ≤ W) (hd : decode c.code g.pc = .ok (.invokespecial index, 3)) (hc : cells + kc ≤ R.cells) (hsl : slots + ks ≤ R.slots)
    (k : ∀ T' L v, Stand p l e R s m args below meth c T' (locs ++ L) (cells + kc) (slots + ks) → Q v T'.heap L → Go p e below P T' { g with pc := g.pc + 3, stack := v.toList ++ rest }) : Go p e below P T g := by
  obtain ⟨v, _, ⟨U, L, q1, q2⟩, -, X', ⟨Lc, hQ, l1, l2, l3⟩, st⟩ := X.specialBack hx (y := y) hy1 hown (mvT hZ w1) (mvT hZ w2) (mvT hZ w4) hy hK hg hsize (Steps.refl _) hlen hs hW hd (fun _ _ => ⟨rfl, eT, hc, hsl⟩)
  dsimp only [Pt.U, Pt.locs, Pt.cells, Pt.slots] at X' l1 l2 l3 st hQ
  subst l1 l2 l3
  exact Go.via _ st (k _ _ _ X' hQ)
theorem Go.virtB (X : Stand p l e R s m args below meth c T locs cells slots) (hx : p.tables.exec = Jvm.exec) (hZ : Z.Warmed39 s.vm) {own C : String} {z : MethodName} {index W kc ks : Nat} {argsL : List Value} (hown : s.vm.findClass own = some m.cls)
    (w1 : (Cond.methodLink own index z).before a0 Z = true) (w2 : (Cond.declares z).before a0 Z = true) (nf : NotFace s z) (w5 : (Cond.selects C z y).before a0 Z = true) (w6 : (Cond.instanceMethod y).before a0 Z = true)
    (hy : z.cls ≠ "java/lang/invoke/MethodHandle" ∧ z.cls ≠ "java/lang/invoke/VarHandle") (eT : T.heap = h) (E : Exa Z h a C) (hK : Back l R p e below s args y 3 W (BPre R (.ref a :: argsL).toArray h kc ks) (BPost Q kc ks))
    (hg : g.method = m) (hsize : g.locals.size = c.maxLocals) (hlen : ∀ sig, parseMethodDescriptor z.desc = some sig → argsL.length = sig.parameters.length) (hs : g.stack = argsL.reverse ++ .ref a :: rest)
    (hW : 2 * g.monitorRoom + (rest.map fun v => v.category).sum ≤ W) (hd : decode c.code g.pc = .ok (.invokevirtual index, 3)) (hc : cells + kc ≤ R.cells) (hsl : slots + ks ≤ R.slots)
    (k : ∀ T' L v, Stand p l e R s m args below meth c T' (locs ++ L) (cells + kc) (slots + ks) → Q v T'.heap L → Go p e below P T' { g with pc := g.pc + 3, stack := v.toList ++ rest }) : Go p e below P T g := by
  obtain ⟨cq, kq, qa, qb, qc⟩ := isOf hZ eT E
  obtain ⟨v, _, ⟨U, L, q1, q2⟩, -, X', ⟨Lc, hQ, l1, l2, l3⟩, st⟩ := X.virtualBack hx (y := z) (z := y) hown (mvT hZ w1) (mvT hZ w2) nf (mvT hZ w5) (mvT hZ w6) hy hK qa qc hg hsize (Steps.refl _) hlen hs hW hd (fun _ _ => ⟨rfl, eT, hc, hsl⟩)
  dsimp only [Pt.U, Pt.locs, Pt.cells, Pt.slots] at X' l1 l2 l3 st hQ
  subst l1 l2 l3
  exact Go.via _ st (k _ _ _ X' hQ)
theorem Fa.toArv {vs : List Value} {dv : Value} (F : Fa Z h a ty n yv) (q : ∀ i : Nat, i < n.toNatClampNeg → vs.getD i dv = yv i.toInt32) : ∃ k, Arv Z h a k ty n vs dv := by
  obtain ⟨cl, A, S, M, H⟩ := F
  refine ⟨cl.cls, cl, A, rfl, S, M, fun i hi => ?_, fun i hi => ?_⟩
  · rw [S] at hi
    have b := lt_of_nat M hi
    have r := nat_back b.2
    have u := (H _ r.2 b.1).1
    rw [r.1] at u; rw [q i hi]; exact u
  · rw [S] at hi
    have b := lt_of_nat M hi
    have r := nat_back b.2
    rw [q i hi]; exact (H _ r.2 b.1).2
end Own
end Jvm.OwnGo
namespace Jvm.Pilot.@@N@@
open Jvm Jvm.ClassFile Sem Op Lib Jvm.Free Jvm.Stand Jvm.LawKit Jvm.RoadKit Bundle Jvm.OwnGo Jvm.Pilot.@@N@@.Jvm.D

def own_ends (c : Int32) : Int32 := if c = 13 ∨ c = 10 ∨ c = -1 then 1 else 0
def own_root (c : Int32) : Int32 := if (c.toInt64 + 1) * (c.toInt64 - 10) * (c.toInt64 - 13) = 0 then 1 else 0
theorem own_pow2 (k : Nat) (x y : Int) (hx : x % 2 = 1) (h : (2 : Int) ^ k ∣ x * y) : (2 : Int) ^ k ∣ y := by
  induction k generalizing y with
  | zero => simp
  | succ k ih =>
    have h2 : (2 : Int) ∣ x * y := Int.dvd_trans ⟨2 ^ k, by rw [Int.pow_succ, Int.mul_comm]⟩ h
    have hy : y % 2 = 0 := by
      have := Int.emod_eq_zero_of_dvd h2
      rw [Int.mul_emod, hx] at this
      omega
    obtain ⟨z, rfl⟩ : ∃ z, y = 2 * z := ⟨y / 2, by omega⟩
    have h3 : (2 : Int) ^ k ∣ x * z := by
      obtain ⟨q, hq⟩ := h
      refine ⟨q, ?_⟩
      have e : 2 * (x * z) = 2 * (2 ^ k * q) := by
        rw [← Int.mul_assoc, Int.mul_comm 2 x, Int.mul_assoc, hq, Int.pow_succ, Int.mul_comm _ 2, Int.mul_assoc]
      omega
    obtain ⟨q, hq⟩ := ih z h3
    exact ⟨q, by rw [hq, Int.pow_succ, Int.mul_comm _ 2, Int.mul_assoc]⟩
theorem own_small (k : Nat) (x : Int) (h : (2 : Int) ^ 62 ∣ x) (h1 : -9000000000 < x) (h2 : x < 9000000000) : x = 0 := by
  obtain ⟨q, rfl⟩ := h
  omega
theorem own_zero (c : Int) (h1 : -2147483648 ≤ c) (h2 : c < 2147483648) (h : (18446744073709551616 : Int) ∣ (c + 1) * (c - 10) * (c - 13)) : c = 13 ∨ c = 10 ∨ c = -1 := by
  have h64 : (2 : Int) ^ 64 ∣ (c + 1) * (c - 10) * (c - 13) := h
  have h62 : (2 : Int) ^ 62 ∣ (2 : Int) ^ 64 := ⟨4, by decide⟩
  rcases Int.emod_two_eq c with hp | hp
  · have a1 : (2 : Int) ^ 64 ∣ (c + 1) * ((c - 13) * (c - 10)) := by
      rw [← Int.mul_assoc, Int.mul_assoc, Int.mul_comm (c - 13), ← Int.mul_assoc]; exact h64
    have a2 := own_pow2 64 _ _ (by omega) a1
    have a3 := own_pow2 64 _ _ (by omega) a2
    have := own_small 0 _ (Int.dvd_trans h62 a3) (by omega) (by omega)
    omega
  · have a1 : (2 : Int) ^ 64 ∣ (c - 10) * ((c + 1) * (c - 13)) := by
      rw [← Int.mul_assoc, Int.mul_comm (c - 10)]; exact h64
    have a2 := own_pow2 64 _ _ (by omega) a1
    obtain ⟨u, hu⟩ : ∃ u, c + 1 = 2 * u := ⟨(c + 1) / 2, by omega⟩
    have hd : c - 13 = 2 * (u - 7) := by omega
    have a4 : (2 : Int) ^ 62 ∣ u * (u - 7) := by
      obtain ⟨q, hq⟩ := a2
      refine ⟨q, ?_⟩
      rw [hu, hd] at hq
      have e : 2 * u * (2 * (u - 7)) = 4 * (u * (u - 7)) := by rw [Int.mul_assoc, Int.mul_left_comm u 2, ← Int.mul_assoc]; rfl
      omega
    rcases Int.emod_two_eq u with hq | hq
    · have a5 : (2 : Int) ^ 62 ∣ (u - 7) * u := by rw [Int.mul_comm]; exact a4
      have := own_small 0 _ (own_pow2 62 _ _ (by omega) a5) (by omega) (by omega)
      omega
    · have := own_small 0 _ (own_pow2 62 _ _ (by omega) a4) (by omega) (by omega)
      omega
theorem own_same (c : Int32) : own_root c = own_ends c := by
  have r := rng32 c
  have e1 : (c.toInt64 + 1).toInt = c.toInt + 1 := by
    have := c_ladd c.toInt64 1; have q := c_i2l c; have z := rng64 (c.toInt64 + 1); have o : (1 : Int64).toInt = 1 := by decide
    omega
  have e2 : (c.toInt64 - 10).toInt = c.toInt - 10 := by
    have := c_lsub c.toInt64 10; have q := c_i2l c; have z := rng64 (c.toInt64 - 10); have o : (10 : Int64).toInt = 10 := by decide
    omega
  have e3 : (c.toInt64 - 13).toInt = c.toInt - 13 := by
    have := c_lsub c.toInt64 13; have q := c_i2l c; have z := rng64 (c.toInt64 - 13); have o : (13 : Int64).toInt = 13 := by decide
    omega
  unfold own_root own_ends
  by_cases h : c = 13 ∨ c = 10 ∨ c = -1
  · rw [if_pos h, if_pos]
    rcases h with rfl | rfl | rfl <;> decide
  · rw [if_neg h, if_neg]
    intro hz
    apply h
    have d : (18446744073709551616 : Int) ∣ (c.toInt + 1) * (c.toInt - 10) * (c.toInt - 13) := by
      have z0 : ((c.toInt64 + 1) * (c.toInt64 - 10) * (c.toInt64 - 13)).toInt = 0 := by rw [hz]; decide
      rw [Int64.toInt_mul, Int64.toInt_mul, e1, e2, e3] at z0
      rw [Int.bmod_mul_bmod] at z0
      exact Int.dvd_of_bmod_eq_zero z0
    rcases own_zero c.toInt r.1 r.2 d with q | q | q
    · left; exact Int32.toInt_inj.mp (by rw [q]; decide)
    · right; left; exact Int32.toInt_inj.mp (by rw [q]; decide)
    · right; right; exact Int32.toInt_inj.mp (by rw [q]; decide)
theorem tw0 {Z : State} {a0 : Array Value} (hw : ∀ d ∈ tables_1, d.before a0 Z = true) : (Jvm.Cond.methodLink "com/example/slotwise/slotwise/io/InputTextEndsLinePinLaw" (13 : Nat) ({ cls := "com/example/slotwise/slotwise/io/InputText", name := "endsLine", desc := "(I)Z" } : Jvm.MethodName)).before a0 Z = true := hw _ (List.mem_of_getElem? (i := 0) rfl)
theorem tw1 {Z : State} {a0 : Array Value} (hw : ∀ d ∈ tables_1, d.before a0 Z = true) : (Jvm.Cond.static ({ cls := "com/example/slotwise/slotwise/io/InputText", name := "endsLine", desc := "(I)Z" } : Jvm.MethodName)).before a0 Z = true := hw _ (List.mem_of_getElem? (i := 1) rfl)
theorem tw2 {Z : State} {a0 : Array Value} (hw : ∀ d ∈ tables_1, d.before a0 Z = true) : (Jvm.Cond.initialized "com/example/slotwise/slotwise/io/InputText").before a0 Z = true := hw _ (List.mem_of_getElem? (i := 2) rfl)
theorem tw3 {Z : State} {a0 : Array Value} (hw : ∀ d ∈ tables_1, d.before a0 Z = true) : (Jvm.Cond.code ({ cls := "com/example/slotwise/slotwise/io/InputText", name := "endsLine", desc := "(I)Z" } : Jvm.MethodName) prog_82_method_3_code (1 : Nat) (Option.some Jvm.ClassFile.FieldType.boolean)).before a0 Z = true := hw _ (List.mem_of_getElem? (i := 3) rfl)
theorem tw4 {Z : State} {a0 : Array Value} (hw : ∀ d ∈ tables_1, d.before a0 Z = true) : (Jvm.Cond.methodLink "com/example/slotwise/slotwise/io/InputTextEndsLinePinLaw" (7 : Nat) ({ cls := "com/example/slotwise/slotwise/io/InputTextEndsLinePinLaw", name := "isRoot", desc := "(I)Z" } : Jvm.MethodName)).before a0 Z = true := hw _ (List.mem_of_getElem? (i := 4) rfl)
theorem tw5 {Z : State} {a0 : Array Value} (hw : ∀ d ∈ tables_1, d.before a0 Z = true) : (Jvm.Cond.static ({ cls := "com/example/slotwise/slotwise/io/InputTextEndsLinePinLaw", name := "isRoot", desc := "(I)Z" } : Jvm.MethodName)).before a0 Z = true := hw _ (List.mem_of_getElem? (i := 5) rfl)
theorem tw6 {Z : State} {a0 : Array Value} (hw : ∀ d ∈ tables_1, d.before a0 Z = true) : (Jvm.Cond.initialized "com/example/slotwise/slotwise/io/InputTextEndsLinePinLaw").before a0 Z = true := hw _ (List.mem_of_getElem? (i := 6) rfl)
theorem tw7 {Z : State} {a0 : Array Value} (hw : ∀ d ∈ tables_1, d.before a0 Z = true) : (Jvm.Cond.code ({ cls := "com/example/slotwise/slotwise/io/InputTextEndsLinePinLaw", name := "isRoot", desc := "(I)Z" } : Jvm.MethodName) method_3_code (7 : Nat) (Option.some Jvm.ClassFile.FieldType.boolean)).before a0 Z = true := hw _ (List.mem_of_getElem? (i := 7) rfl)
theorem tw8 {Z : State} {a0 : Array Value} (hw : ∀ d ∈ tables_1, d.before a0 Z = true) : (Jvm.Cond.constantLong "com/example/slotwise/slotwise/io/InputTextEndsLinePinLaw" (18 : Nat) (10 : Int64)).before a0 Z = true := hw _ (List.mem_of_getElem? (i := 8) rfl)
theorem tw9 {Z : State} {a0 : Array Value} (hw : ∀ d ∈ tables_1, d.before a0 Z = true) : (Jvm.Cond.constantLong "com/example/slotwise/slotwise/io/InputTextEndsLinePinLaw" (20 : Nat) (13 : Int64)).before a0 Z = true := hw _ (List.mem_of_getElem? (i := 9) rfl)
theorem pn0 : plainFor (⟨"com/example/slotwise/slotwise/io/InputText", "endsLine", "(I)Z"⟩ : MethodName) = true := plainFor_of_name (by first | (simp [plainName, overriddenIn]; done) | decide +kernel)
theorem d1_0 : decode prog_82_method_3_code 0 = .ok (.iload_n 0, 1) := by decide +kernel
theorem d1_1 : decode prog_82_method_3_code 1 = .ok (.bipush 13, 2) := by decide +kernel
theorem d1_3 : decode prog_82_method_3_code 3 = .ok (.if_icmp .eq 14, 3) := by decide +kernel
theorem d1_17 : decode prog_82_method_3_code 17 = .ok (.iconst 1, 1) := by decide +kernel
theorem d1_18 : decode prog_82_method_3_code 18 = .ok (.goto 4, 3) := by decide +kernel
theorem d1_22 : decode prog_82_method_3_code 22 = .ok (.ireturn, 1) := by decide +kernel
theorem d1_6 : decode prog_82_method_3_code 6 = .ok (.iload_n 0, 1) := by decide +kernel
theorem d1_7 : decode prog_82_method_3_code 7 = .ok (.bipush 10, 2) := by decide +kernel
theorem d1_9 : decode prog_82_method_3_code 9 = .ok (.if_icmp .eq 8, 3) := by decide +kernel
theorem d1_12 : decode prog_82_method_3_code 12 = .ok (.iload_n 0, 1) := by decide +kernel
theorem d1_13 : decode prog_82_method_3_code 13 = .ok (.iconst (-1), 1) := by decide +kernel
theorem d1_14 : decode prog_82_method_3_code 14 = .ok (.if_icmp .ne 7, 3) := by decide +kernel
theorem d1_21 : decode prog_82_method_3_code 21 = .ok (.iconst 0, 1) := by decide +kernel
theorem pn1 : plainFor (⟨"com/example/slotwise/slotwise/io/InputTextEndsLinePinLaw", "isRoot", "(I)Z"⟩ : MethodName) = true := plainFor_of_name (by first | (simp [plainName, overriddenIn]; done) | decide +kernel)
theorem d2_0 : decode method_3_code 0 = .ok (.iload_n 0, 1) := by decide +kernel
theorem d2_1 : decode method_3_code 1 = .ok (.i2l, 1) := by decide +kernel
theorem d2_2 : decode method_3_code 2 = .ok (.lconst 1, 1) := by decide +kernel
theorem d2_3 : decode method_3_code 3 = .ok (.ladd, 1) := by decide +kernel
theorem d2_4 : decode method_3_code 4 = .ok (.lstore_n 1, 1) := by decide +kernel
theorem d2_5 : decode method_3_code 5 = .ok (.iload_n 0, 1) := by decide +kernel
theorem d2_6 : decode method_3_code 6 = .ok (.i2l, 1) := by decide +kernel
theorem d2_7 : decode method_3_code 7 = .ok (.ldc2_w 18, 3) := by decide +kernel
theorem d2_10 : decode method_3_code 10 = .ok (.lsub, 1) := by decide +kernel
theorem d2_11 : decode method_3_code 11 = .ok (.lstore_n 3, 1) := by decide +kernel
theorem d2_12 : decode method_3_code 12 = .ok (.iload_n 0, 1) := by decide +kernel
theorem d2_13 : decode method_3_code 13 = .ok (.i2l, 1) := by decide +kernel
theorem d2_14 : decode method_3_code 14 = .ok (.ldc2_w 20, 3) := by decide +kernel
theorem d2_17 : decode method_3_code 17 = .ok (.lsub, 1) := by decide +kernel
theorem d2_18 : decode method_3_code 18 = .ok (.lstore 5, 2) := by decide +kernel
theorem d2_20 : decode method_3_code 20 = .ok (.lload_n 1, 1) := by decide +kernel
theorem d2_21 : decode method_3_code 21 = .ok (.lload_n 3, 1) := by decide +kernel
theorem d2_22 : decode method_3_code 22 = .ok (.lmul, 1) := by decide +kernel
theorem d2_23 : decode method_3_code 23 = .ok (.lload 5, 2) := by decide +kernel
theorem d2_25 : decode method_3_code 25 = .ok (.lmul, 1) := by decide +kernel
theorem d2_26 : decode method_3_code 26 = .ok (.lconst 0, 1) := by decide +kernel
theorem d2_27 : decode method_3_code 27 = .ok (.lcmp, 1) := by decide +kernel
theorem d2_28 : decode method_3_code 28 = .ok (.ifCond .ne 7, 3) := by decide +kernel
theorem d2_31 : decode method_3_code 31 = .ok (.iconst 1, 1) := by decide +kernel
theorem d2_32 : decode method_3_code 32 = .ok (.goto 4, 3) := by decide +kernel
theorem d2_36 : decode method_3_code 36 = .ok (.ireturn, 1) := by decide +kernel
theorem d2_35 : decode method_3_code 35 = .ok (.iconst 0, 1) := by decide +kernel
theorem pn2 : plainFor (⟨"com/example/slotwise/slotwise/io/InputTextEndsLinePinLaw", "law", "(II)Z"⟩ : MethodName) = true := plainFor_of_name (by first | (simp [plainName, overriddenIn]; done) | decide +kernel)
theorem pd3 : parseMethodDescriptor "(I)Z" = some ⟨[.int], some .boolean⟩ := by decide +kernel
theorem ef_rm1 (m : MethodId) (x0 : Int32) : entryFrame m #[(.int x0)] 1 = mkF m 0 #[.val (.int x0)] [] := by first | (simp [entryFrame, mkF, argsToLocals, Value.category]; done) | rfl
set_option maxRecDepth 65536 in
set_option maxHeartbeats 40000000 in
theorem rm1 (l : Launch) (Z : State) (a0 : Array Value) (hw : ∀ d ∈ tables_1, d.before a0 Z = true) (ws : List Jvm.Cond) (p : Int32) (h0 : Heap) :
    Met l Z (⟨"com/example/slotwise/slotwise/io/InputText", "endsLine", "(I)Z"⟩ : MethodName) prog_82_method_3_code 1 (some .boolean) ws ({ frames := 0, cells := 0, slots := 0, locals := 0 } : Room) #[(.int p)] h0 (fun v h L => v = some (.int (own_ends p)) ∧ L = [] ∧ h = h0) := by
  refine Met.intro pn0 ?_
  intro pr ev s m below meth c T0 X0 hx hZ hown hby hml hret hlk hnm e0
  refine Go.cast (ef_rm1 m p) ?_
  refine Go.of (mkF m 1 #[.val (.int p)] [(.int p)]) (fun t k => XS.iloadN X0.here hx rfl (hb hby d1_0) rfl k) ?_
  refine Go.of (mkF m 3 #[.val (.int p)] [(.int (13 : Int32)), (.int p)]) (fun t k => XS.bipush X0.here hx rfl (hb hby d1_1) k) ?_
  by_cases hc3 : p = (13 : Int32)
  ·
    refine Go.of (mkF m 17 #[.val (.int p)] []) (fun t k => XS.icmpYes X0.here hx rfl (pc0 := 3) (pc' := 17) rfl (hb hby d1_3) rfl (teq hc3).1 (by decide) (by decide) k) ?_
    refine Go.of (mkF m 18 #[.val (.int p)] [(.int (1 : Int32))]) (fun t k => XS.iconst X0.here hx rfl (hb hby d1_17) k) ?_
    refine Go.of (mkF m 22 #[.val (.int p)] [(.int (1 : Int32))]) (fun t k => XS.goto X0.here hx rfl (pc0 := 18) (pc' := 22) rfl (hb hby d1_18) (by decide) (by decide) k) ?_
    exact Go.retW X0 hx (t := .boolean) hret hlk rfl (Or.inl ⟨rfl, by simp, _, rfl⟩) (hb hby d1_22) (by decide) (by decide) ⟨by simp [own_ends, hc3], rfl, e0⟩
  ·
    refine Go.of (mkF m 6 #[.val (.int p)] []) (fun t k => XS.icmpNo X0.here hx rfl (hb hby d1_3) rfl (feq hc3).1 k) ?_
    refine Go.of (mkF m 7 #[.val (.int p)] [(.int p)]) (fun t k => XS.iloadN X0.here hx rfl (hb hby d1_6) rfl k) ?_
    refine Go.of (mkF m 9 #[.val (.int p)] [(.int (10 : Int32)), (.int p)]) (fun t k => XS.bipush X0.here hx rfl (hb hby d1_7) k) ?_
    by_cases hc9 : p = (10 : Int32)
    ·
      refine Go.of (mkF m 17 #[.val (.int p)] []) (fun t k => XS.icmpYes X0.here hx rfl (pc0 := 9) (pc' := 17) rfl (hb hby d1_9) rfl (teq hc9).1 (by decide) (by decide) k) ?_
      refine Go.of (mkF m 18 #[.val (.int p)] [(.int (1 : Int32))]) (fun t k => XS.iconst X0.here hx rfl (hb hby d1_17) k) ?_
      refine Go.of (mkF m 22 #[.val (.int p)] [(.int (1 : Int32))]) (fun t k => XS.goto X0.here hx rfl (pc0 := 18) (pc' := 22) rfl (hb hby d1_18) (by decide) (by decide) k) ?_
      exact Go.retW X0 hx (t := .boolean) hret hlk rfl (Or.inl ⟨rfl, by simp, _, rfl⟩) (hb hby d1_22) (by decide) (by decide) ⟨by simp [own_ends, hc3, hc9], rfl, e0⟩
    ·
      refine Go.of (mkF m 12 #[.val (.int p)] []) (fun t k => XS.icmpNo X0.here hx rfl (hb hby d1_9) rfl (feq hc9).1 k) ?_
      refine Go.of (mkF m 13 #[.val (.int p)] [(.int p)]) (fun t k => XS.iloadN X0.here hx rfl (hb hby d1_12) rfl k) ?_
      refine Go.of (mkF m 14 #[.val (.int p)] [(.int (-1 : Int32)), (.int p)]) (fun t k => XS.iconst X0.here hx rfl (hb hby d1_13) k) ?_
      by_cases hc14 : p = (-1 : Int32)
      ·
        refine Go.of (mkF m 17 #[.val (.int p)] []) (fun t k => XS.icmpNo X0.here hx rfl (hb hby d1_14) rfl (teq hc14).2 k) ?_
        refine Go.of (mkF m 18 #[.val (.int p)] [(.int (1 : Int32))]) (fun t k => XS.iconst X0.here hx rfl (hb hby d1_17) k) ?_
        refine Go.of (mkF m 22 #[.val (.int p)] [(.int (1 : Int32))]) (fun t k => XS.goto X0.here hx rfl (pc0 := 18) (pc' := 22) rfl (hb hby d1_18) (by decide) (by decide) k) ?_
        exact Go.retW X0 hx (t := .boolean) hret hlk rfl (Or.inl ⟨rfl, by simp, _, rfl⟩) (hb hby d1_22) (by decide) (by decide) ⟨by simp [own_ends, hc3, hc9, hc14], rfl, e0⟩
      ·
        refine Go.of (mkF m 21 #[.val (.int p)] []) (fun t k => XS.icmpYes X0.here hx rfl (pc0 := 14) (pc' := 21) rfl (hb hby d1_14) rfl (feq hc14).2 (by decide) (by decide) k) ?_
        refine Go.of (mkF m 22 #[.val (.int p)] [(.int (0 : Int32))]) (fun t k => XS.iconst X0.here hx rfl (hb hby d1_21) k) ?_
        exact Go.retW X0 hx (t := .boolean) hret hlk rfl (Or.inl ⟨rfl, by simp, _, rfl⟩) (hb hby d1_22) (by decide) (by decide) ⟨by simp [own_ends, hc3, hc9, hc14], rfl, e0⟩
theorem ef_rm2 (m : MethodId) (x0 : Int32) : entryFrame m #[(.int x0)] 7 = mkF m 0 #[.val (.int x0), .unset, .unset, .unset, .unset, .unset, .unset] [] := by first | (simp [entryFrame, mkF, argsToLocals, Value.category]; done) | rfl
set_option maxRecDepth 65536 in
set_option maxHeartbeats 40000000 in
theorem rm2 (l : Launch) (Z : State) (a0 : Array Value) (hw : ∀ d ∈ tables_1, d.before a0 Z = true) (ws : List Jvm.Cond) (p : Int32) (h0 : Heap) :
    Met l Z (⟨"com/example/slotwise/slotwise/io/InputTextEndsLinePinLaw", "isRoot", "(I)Z"⟩ : MethodName) method_3_code 7 (some .boolean) ws ({ frames := 0, cells := 0, slots := 0, locals := 0 } : Room) #[(.int p)] h0 (fun v h L => v = some (.int (own_root p)) ∧ L = [] ∧ h = h0) := by
  refine Met.intro pn1 ?_
  intro pr ev s m below meth c T0 X0 hx hZ hown hby hml hret hlk hnm e0
  refine Go.cast (ef_rm2 m p) ?_
  refine Go.of (mkF m 1 #[.val (.int p), .unset, .unset, .unset, .unset, .unset, .unset] [(.int p)]) (fun t k => XS.iloadN X0.here hx rfl (hb hby d2_0) rfl k) ?_
  refine Go.of (mkF m 2 #[.val (.int p), .unset, .unset, .unset, .unset, .unset, .unset] [(.long (p.toInt64))]) (fun t k => XS.i2l X0.here hx rfl (hb hby d2_1) rfl k) ?_
  refine Go.of (mkF m 3 #[.val (.int p), .unset, .unset, .unset, .unset, .unset, .unset] [(.long (1 : Int64)), (.long (p.toInt64))]) (fun t k => XS.lconst X0.here hx rfl (hb hby d2_2) k) ?_
  refine Go.of (mkF m 4 #[.val (.int p), .unset, .unset, .unset, .unset, .unset, .unset] [(.long ((p.toInt64) + (1 : Int64)))]) (fun t k => XS.ladd X0.here hx rfl (hb hby d2_3) rfl k) ?_
  refine Go.of (mkF m 5 #[.val (.int p), .val (.long ((p.toInt64) + (1 : Int64))), .second, .unset, .unset, .unset, .unset] []) (fun t k => XS.lstoreN X0.here hx rfl (hb hby d2_4) rfl (l' := #[.val (.int p), .val (.long ((p.toInt64) + (1 : Int64))), .second, .unset, .unset, .unset, .unset]) rfl k) ?_
  refine Go.of (mkF m 6 #[.val (.int p), .val (.long ((p.toInt64) + (1 : Int64))), .second, .unset, .unset, .unset, .unset] [(.int p)]) (fun t k => XS.iloadN X0.here hx rfl (hb hby d2_5) rfl k) ?_
  refine Go.of (mkF m 7 #[.val (.int p), .val (.long ((p.toInt64) + (1 : Int64))), .second, .unset, .unset, .unset, .unset] [(.long (p.toInt64))]) (fun t k => XS.i2l X0.here hx rfl (hb hby d2_6) rfl k) ?_
  refine Go.of (mkF m 10 #[.val (.int p), .val (.long ((p.toInt64) + (1 : Int64))), .second, .unset, .unset, .unset, .unset] [(.long (10 : Int64)), (.long (p.toInt64))]) (fun t k => X0.ldc2Long hx hown (mvT hZ (tw8 hw)) (g := (mkF m 7 #[.val (.int p), .val (.long ((p.toInt64) + (1 : Int64))), .second, .unset, .unset, .unset, .unset] [(.long (p.toInt64))])) rfl (hb hby d2_7) _ k) ?_
  refine Go.of (mkF m 11 #[.val (.int p), .val (.long ((p.toInt64) + (1 : Int64))), .second, .unset, .unset, .unset, .unset] [(.long ((p.toInt64) - (10 : Int64)))]) (fun t k => XS.lsub X0.here hx rfl (hb hby d2_10) rfl k) ?_
  refine Go.of (mkF m 12 #[.val (.int p), .val (.long ((p.toInt64) + (1 : Int64))), .second, .val (.long ((p.toInt64) - (10 : Int64))), .second, .unset, .unset] []) (fun t k => XS.lstoreN X0.here hx rfl (hb hby d2_11) rfl (l' := #[.val (.int p), .val (.long ((p.toInt64) + (1 : Int64))), .second, .val (.long ((p.toInt64) - (10 : Int64))), .second, .unset, .unset]) rfl k) ?_
  refine Go.of (mkF m 13 #[.val (.int p), .val (.long ((p.toInt64) + (1 : Int64))), .second, .val (.long ((p.toInt64) - (10 : Int64))), .second, .unset, .unset] [(.int p)]) (fun t k => XS.iloadN X0.here hx rfl (hb hby d2_12) rfl k) ?_
  refine Go.of (mkF m 14 #[.val (.int p), .val (.long ((p.toInt64) + (1 : Int64))), .second, .val (.long ((p.toInt64) - (10 : Int64))), .second, .unset, .unset] [(.long (p.toInt64))]) (fun t k => XS.i2l X0.here hx rfl (hb hby d2_13) rfl k) ?_
  refine Go.of (mkF m 17 #[.val (.int p), .val (.long ((p.toInt64) + (1 : Int64))), .second, .val (.long ((p.toInt64) - (10 : Int64))), .second, .unset, .unset] [(.long (13 : Int64)), (.long (p.toInt64))]) (fun t k => X0.ldc2Long hx hown (mvT hZ (tw9 hw)) (g := (mkF m 14 #[.val (.int p), .val (.long ((p.toInt64) + (1 : Int64))), .second, .val (.long ((p.toInt64) - (10 : Int64))), .second, .unset, .unset] [(.long (p.toInt64))])) rfl (hb hby d2_14) _ k) ?_
  refine Go.of (mkF m 18 #[.val (.int p), .val (.long ((p.toInt64) + (1 : Int64))), .second, .val (.long ((p.toInt64) - (10 : Int64))), .second, .unset, .unset] [(.long ((p.toInt64) - (13 : Int64)))]) (fun t k => XS.lsub X0.here hx rfl (hb hby d2_17) rfl k) ?_
  refine Go.of (mkF m 20 #[.val (.int p), .val (.long ((p.toInt64) + (1 : Int64))), .second, .val (.long ((p.toInt64) - (10 : Int64))), .second, .val (.long ((p.toInt64) - (13 : Int64))), .second] []) (fun t k => XS.lstore X0.here hx rfl (hb hby d2_18) rfl (l' := #[.val (.int p), .val (.long ((p.toInt64) + (1 : Int64))), .second, .val (.long ((p.toInt64) - (10 : Int64))), .second, .val (.long ((p.toInt64) - (13 : Int64))), .second]) rfl k) ?_
  refine Go.of (mkF m 21 #[.val (.int p), .val (.long ((p.toInt64) + (1 : Int64))), .second, .val (.long ((p.toInt64) - (10 : Int64))), .second, .val (.long ((p.toInt64) - (13 : Int64))), .second] [(.long ((p.toInt64) + (1 : Int64)))]) (fun t k => XS.lloadN X0.here hx rfl (hb hby d2_20) rfl k) ?_
  refine Go.of (mkF m 22 #[.val (.int p), .val (.long ((p.toInt64) + (1 : Int64))), .second, .val (.long ((p.toInt64) - (10 : Int64))), .second, .val (.long ((p.toInt64) - (13 : Int64))), .second] [(.long ((p.toInt64) - (10 : Int64))), (.long ((p.toInt64) + (1 : Int64)))]) (fun t k => XS.lloadN X0.here hx rfl (hb hby d2_21) rfl k) ?_
  refine Go.of (mkF m 23 #[.val (.int p), .val (.long ((p.toInt64) + (1 : Int64))), .second, .val (.long ((p.toInt64) - (10 : Int64))), .second, .val (.long ((p.toInt64) - (13 : Int64))), .second] [(.long (((p.toInt64) + (1 : Int64)) * ((p.toInt64) - (10 : Int64))))]) (fun t k => XS.lmul X0.here hx rfl (hb hby d2_22) rfl k) ?_
  refine Go.of (mkF m 25 #[.val (.int p), .val (.long ((p.toInt64) + (1 : Int64))), .second, .val (.long ((p.toInt64) - (10 : Int64))), .second, .val (.long ((p.toInt64) - (13 : Int64))), .second] [(.long ((p.toInt64) - (13 : Int64))), (.long (((p.toInt64) + (1 : Int64)) * ((p.toInt64) - (10 : Int64))))]) (fun t k => XS.lload X0.here hx rfl (hb hby d2_23) rfl k) ?_
  refine Go.of (mkF m 26 #[.val (.int p), .val (.long ((p.toInt64) + (1 : Int64))), .second, .val (.long ((p.toInt64) - (10 : Int64))), .second, .val (.long ((p.toInt64) - (13 : Int64))), .second] [(.long ((((p.toInt64) + (1 : Int64)) * ((p.toInt64) - (10 : Int64))) * ((p.toInt64) - (13 : Int64))))]) (fun t k => XS.lmul X0.here hx rfl (hb hby d2_25) rfl k) ?_
  refine Go.of (mkF m 27 #[.val (.int p), .val (.long ((p.toInt64) + (1 : Int64))), .second, .val (.long ((p.toInt64) - (10 : Int64))), .second, .val (.long ((p.toInt64) - (13 : Int64))), .second] [(.long (0 : Int64)), (.long ((((p.toInt64) + (1 : Int64)) * ((p.toInt64) - (10 : Int64))) * ((p.toInt64) - (13 : Int64))))]) (fun t k => XS.lconst X0.here hx rfl (hb hby d2_26) k) ?_
  refine Go.of (mkF m 28 #[.val (.int p), .val (.long ((p.toInt64) + (1 : Int64))), .second, .val (.long ((p.toInt64) - (10 : Int64))), .second, .val (.long ((p.toInt64) - (13 : Int64))), .second] [(.int (lcmpW ((((p.toInt64) + (1 : Int64)) * ((p.toInt64) - (10 : Int64))) * ((p.toInt64) - (13 : Int64))) (0 : Int64)))]) (fun t k => XS.lcmp X0.here hx rfl (hb hby d2_27) rfl k) ?_
  by_cases hc28 : ((((p.toInt64) + (1 : Int64)) * ((p.toInt64) - (10 : Int64))) * ((p.toInt64) - (13 : Int64))) = (0 : Int64)
  ·
    refine Go.of (mkF m 31 #[.val (.int p), .val (.long ((p.toInt64) + (1 : Int64))), .second, .val (.long ((p.toInt64) - (10 : Int64))), .second, .val (.long ((p.toInt64) - (13 : Int64))), .second] []) (fun t k => XS.ifNo X0.here hx rfl (hb hby d2_28) rfl ((if0 _ _).trans (teq ((lw_eq _ _).mpr hc28)).2) k) ?_
    refine Go.of (mkF m 32 #[.val (.int p), .val (.long ((p.toInt64) + (1 : Int64))), .second, .val (.long ((p.toInt64) - (10 : Int64))), .second, .val (.long ((p.toInt64) - (13 : Int64))), .second] [(.int (1 : Int32))]) (fun t k => XS.iconst X0.here hx rfl (hb hby d2_31) k) ?_
    refine Go.of (mkF m 36 #[.val (.int p), .val (.long ((p.toInt64) + (1 : Int64))), .second, .val (.long ((p.toInt64) - (10 : Int64))), .second, .val (.long ((p.toInt64) - (13 : Int64))), .second] [(.int (1 : Int32))]) (fun t k => XS.goto X0.here hx rfl (pc0 := 32) (pc' := 36) rfl (hb hby d2_32) (by decide) (by decide) k) ?_
    exact Go.retW X0 hx (t := .boolean) hret hlk rfl (Or.inl ⟨rfl, by simp, _, rfl⟩) (hb hby d2_36) (by decide) (by decide) ⟨by simp [own_root, hc28], rfl, e0⟩
  ·
    refine Go.of (mkF m 35 #[.val (.int p), .val (.long ((p.toInt64) + (1 : Int64))), .second, .val (.long ((p.toInt64) - (10 : Int64))), .second, .val (.long ((p.toInt64) - (13 : Int64))), .second] []) (fun t k => XS.ifYes X0.here hx rfl (pc0 := 28) (pc' := 35) rfl (hb hby d2_28) rfl ((if0 _ _).trans (feq (mt (lw_eq _ _).mp hc28)).2) (by decide) (by decide) k) ?_
    refine Go.of (mkF m 36 #[.val (.int p), .val (.long ((p.toInt64) + (1 : Int64))), .second, .val (.long ((p.toInt64) - (10 : Int64))), .second, .val (.long ((p.toInt64) - (13 : Int64))), .second] [(.int (0 : Int32))]) (fun t k => XS.iconst X0.here hx rfl (hb hby d2_35) k) ?_
    exact Go.retW X0 hx (t := .boolean) hret hlk rfl (Or.inl ⟨rfl, by simp, _, rfl⟩) (hb hby d2_36) (by decide) (by decide) ⟨by simp [own_root, hc28], rfl, e0⟩
theorem ef_rm0 (m : MethodId) (x0 : Int32) (x1 : Int32) : entryFrame m #[(.int x0), (.int x1)] maxLocals = mkF m 0 #[.val (.int x0), .val (.int x1), .unset, .unset, .unset] [] := by first | (simp [entryFrame, mkF, argsToLocals, Value.category, maxLocals]; done) | rfl
set_option maxRecDepth 65536 in
set_option maxHeartbeats 40000000 in
theorem rm0 (l : Launch) (Z : State) (a0 : Array Value) (hw : ∀ d ∈ tables_1, d.before a0 Z = true) (ws : List Jvm.Cond) (p q : Int32) (h0 : Heap) (n0 : Nat) (hz0 : n0 ≤ h0.size) :
    Met l Z x code maxLocals ret ws room_1 #[(.int p), (.int q)] h0 (fun v h L => v = some (.int 1) ∧ Fr n0 L) := by
  refine Met.intro pn2 ?_
  intro pr ev s m below meth c T0 X0 hx hZ hown hby hml hret hlk hnm e0
  refine Go.cast (ef_rm0 m p q) ?_
  have N0 := Fr.nil n0
  have hz := hz0
  have J219 : ∀ (TJ : State) (LJ : List Loc) (k4 c4 b4 : Int32), Stand pr l ev room_1 s m #[(.int p), (.int q)] below meth c TJ LJ 0 0 → TJ.heap = h0 → Fr n0 LJ → own_ends c4 = b4 → Go pr ev below (EndP s room_1 (fun v h L => v = some (.int 1) ∧ Fr n0 L)) TJ (mkF m 219 #[.val (.int p), .val (.int q), .val (.int k4), .val (.int c4), .val (.int b4)] []) := by
    intro TJ LJ k4 c4 b4 XJ eJ NJ hJ
    refine Go.of (mkF m 220 #[.val (.int p), .val (.int q), .val (.int k4), .val (.int c4), .val (.int b4)] [(.int c4)]) (fun t k => XS.iloadN XJ.here hx rfl (hb hby at_219) rfl k) ?_
    refine Go.callS XJ hx hZ (y := (⟨"com/example/slotwise/slotwise/io/InputText", "endsLine", "(I)Z"⟩ : MethodName)) (argsL := [(.int c4)]) (rest := []) hown (tw0 hw) (tw1 hw) (tw2 hw) (tw3 hw) (by decide) eJ (rm1 l Z a0 hw [] c4 h0) (g := (mkF m 220 #[.val (.int p), .val (.int q), .val (.int k4), .val (.int c4), .val (.int b4)] [(.int c4)])) rfl (by rw [hml]; rfl) (lenOf pd3 rfl) rfl (W := 0) (by show 2 * 0 + _ ≤ _; exact Nat.le_of_eq rfl) (hb hby at_220) (by decide) (by decide) (by decide) (by decide) ?_
    rintro T1 L1 v1 X1 ⟨rfl, rfl, hh1⟩
    have N1 := Fr.app NJ (Fr.nil n0)
    show Go pr ev below _ T1 (mkF m 223 #[.val (.int p), .val (.int q), .val (.int k4), .val (.int c4), .val (.int b4)] [(.int (own_ends c4))])
    refine Go.of (mkF m 225 #[.val (.int p), .val (.int q), .val (.int k4), .val (.int c4), .val (.int b4)] [(.int b4), (.int (own_ends c4))]) (fun t k => XS.iload X1.here hx rfl (hb hby at_223) rfl k) ?_
    refine Go.of (mkF m 228 #[.val (.int p), .val (.int q), .val (.int k4), .val (.int c4), .val (.int b4)] []) (fun t k => XS.icmpNo X1.here hx rfl (hb hby at_225) rfl (teq hJ).2 k) ?_
    refine Go.of (mkF m 229 #[.val (.int p), .val (.int q), .val (.int k4), .val (.int c4), .val (.int b4)] [(.int (1 : Int32))]) (fun t k => XS.iconst X1.here hx rfl (hb hby at_228) k) ?_
    refine Go.of (mkF m 233 #[.val (.int p), .val (.int q), .val (.int k4), .val (.int c4), .val (.int b4)] [(.int (1 : Int32))]) (fun t k => XS.goto X1.here hx rfl (pc0 := 229) (pc' := 233) rfl (hb hby at_229) (by decide) (by decide) k) ?_
    exact Go.retW X1 hx (t := .boolean) hret hlk rfl (Or.inl ⟨rfl, by simp, _, rfl⟩) (hb hby at_233) (by decide) (by decide) ⟨rfl, N1⟩
  refine Go.of (mkF m 1 #[.val (.int p), .val (.int q), .unset, .unset, .unset] [(.int q)]) (fun t k => XS.iloadN X0.here hx rfl (hb hby at_0) rfl k) ?_
  refine Go.of (mkF m 3 #[.val (.int p), .val (.int q), .unset, .unset, .unset] [(.int (31 : Int32)), (.int q)]) (fun t k => XS.bipush X0.here hx rfl (hb hby at_1) k) ?_
  refine Go.of (mkF m 4 #[.val (.int p), .val (.int q), .unset, .unset, .unset] [(.int (q &&& (31 : Int32)))]) (fun t k => XS.iand X0.here hx rfl (hb hby at_3) rfl k) ?_
  refine Go.of (mkF m 5 #[.val (.int p), .val (.int q), .val (.int (q &&& (31 : Int32))), .unset, .unset] []) (fun t k => XS.istoreN X0.here hx rfl (hb hby at_4) rfl (l' := #[.val (.int p), .val (.int q), .val (.int (q &&& (31 : Int32))), .unset, .unset]) rfl k) ?_
  refine Go.of (mkF m 6 #[.val (.int p), .val (.int q), .val (.int (q &&& (31 : Int32))), .unset, .unset] [(.int (q &&& (31 : Int32)))]) (fun t k => XS.iloadN X0.here hx rfl (hb hby at_5) rfl k) ?_
  by_cases hc6 : (q &&& (31 : Int32)) = (0 : Int32)
  ·
    refine Go.of (mkF m 9 #[.val (.int p), .val (.int q), .val (.int (q &&& (31 : Int32))), .unset, .unset] []) (fun t k => XS.ifNo X0.here hx rfl (hb hby at_6) rfl ((if0 _ _).trans (teq hc6).2) k) ?_
    refine Go.of (mkF m 10 #[.val (.int p), .val (.int q), .val (.int (q &&& (31 : Int32))), .unset, .unset] [(.int (-1 : Int32))]) (fun t k => XS.iconst X0.here hx rfl (hb hby at_9) k) ?_
    refine Go.of (mkF m 11 #[.val (.int p), .val (.int q), .val (.int (q &&& (31 : Int32))), .val (.int (-1 : Int32)), .unset] []) (fun t k => XS.istoreN X0.here hx rfl (hb hby at_10) rfl (l' := #[.val (.int p), .val (.int q), .val (.int (q &&& (31 : Int32))), .val (.int (-1 : Int32)), .unset]) rfl k) ?_
    refine Go.of (mkF m 12 #[.val (.int p), .val (.int q), .val (.int (q &&& (31 : Int32))), .val (.int (-1 : Int32)), .unset] [(.int (1 : Int32))]) (fun t k => XS.iconst X0.here hx rfl (hb hby at_11) k) ?_
    refine Go.of (mkF m 14 #[.val (.int p), .val (.int q), .val (.int (q &&& (31 : Int32))), .val (.int (-1 : Int32)), .val (.int (1 : Int32))] []) (fun t k => XS.istore X0.here hx rfl (hb hby at_12) rfl (l' := #[.val (.int p), .val (.int q), .val (.int (q &&& (31 : Int32))), .val (.int (-1 : Int32)), .val (.int (1 : Int32))]) rfl k) ?_
    refine Go.of (mkF m 219 #[.val (.int p), .val (.int q), .val (.int (q &&& (31 : Int32))), .val (.int (-1 : Int32)), .val (.int (1 : Int32))] []) (fun t k => XS.goto X0.here hx rfl (pc0 := 14) (pc' := 219) rfl (hb hby at_14) (by decide) (by decide) k) ?_
    exact J219 _ _ _ _ _ X0 e0 N0 (by decide)
  ·
    refine Go.of (mkF m 17 #[.val (.int p), .val (.int q), .val (.int (q &&& (31 : Int32))), .unset, .unset] []) (fun t k => XS.ifYes X0.here hx rfl (pc0 := 6) (pc' := 17) rfl (hb hby at_6) rfl ((if0 _ _).trans (feq hc6).2) (by decide) (by decide) k) ?_
    refine Go.of (mkF m 18 #[.val (.int p), .val (.int q), .val (.int (q &&& (31 : Int32))), .unset, .unset] [(.int (q &&& (31 : Int32)))]) (fun t k => XS.iloadN X0.here hx rfl (hb hby at_17) rfl k) ?_
    refine Go.of (mkF m 19 #[.val (.int p), .val (.int q), .val (.int (q &&& (31 : Int32))), .unset, .unset] [(.int (1 : Int32)), (.int (q &&& (31 : Int32)))]) (fun t k => XS.iconst X0.here hx rfl (hb hby at_18) k) ?_
    by_cases hc19 : (q &&& (31 : Int32)) = (1 : Int32)
    ·
      refine Go.of (mkF m 22 #[.val (.int p), .val (.int q), .val (.int (q &&& (31 : Int32))), .unset, .unset] []) (fun t k => XS.icmpNo X0.here hx rfl (hb hby at_19) rfl (teq hc19).2 k) ?_
      refine Go.of (mkF m 24 #[.val (.int p), .val (.int q), .val (.int (q &&& (31 : Int32))), .unset, .unset] [(.int (10 : Int32))]) (fun t k => XS.bipush X0.here hx rfl (hb hby at_22) k) ?_
      refine Go.of (mkF m 25 #[.val (.int p), .val (.int q), .val (.int (q &&& (31 : Int32))), .val (.int (10 : Int32)), .unset] []) (fun t k => XS.istoreN X0.here hx rfl (hb hby at_24) rfl (l' := #[.val (.int p), .val (.int q), .val (.int (q &&& (31 : Int32))), .val (.int (10 : Int32)), .unset]) rfl k) ?_
      refine Go.of (mkF m 26 #[.val (.int p), .val (.int q), .val (.int (q &&& (31 : Int32))), .val (.int (10 : Int32)), .unset] [(.int (1 : Int32))]) (fun t k => XS.iconst X0.here hx rfl (hb hby at_25) k) ?_
      refine Go.of (mkF m 28 #[.val (.int p), .val (.int q), .val (.int (q &&& (31 : Int32))), .val (.int (10 : Int32)), .val (.int (1 : Int32))] []) (fun t k => XS.istore X0.here hx rfl (hb hby at_26) rfl (l' := #[.val (.int p), .val (.int q), .val (.int (q &&& (31 : Int32))), .val (.int (10 : Int32)), .val (.int (1 : Int32))]) rfl k) ?_
      refine Go.of (mkF m 219 #[.val (.int p), .val (.int q), .val (.int (q &&& (31 : Int32))), .val (.int (10 : Int32)), .val (.int (1 : Int32))] []) (fun t k => XS.goto X0.here hx rfl (pc0 := 28) (pc' := 219) rfl (hb hby at_28) (by decide) (by decide) k) ?_
      exact J219 _ _ _ _ _ X0 e0 N0 (by decide)
    ·
      refine Go.of (mkF m 31 #[.val (.int p), .val (.int q), .val (.int (q &&& (31 : Int32))), .unset, .unset] []) (fun t k => XS.icmpYes X0.here hx rfl (pc0 := 19) (pc' := 31) rfl (hb hby at_19) rfl (feq hc19).2 (by decide) (by decide) k) ?_
      refine Go.of (mkF m 32 #[.val (.int p), .val (.int q), .val (.int (q &&& (31 : Int32))), .unset, .unset] [(.int (q &&& (31 : Int32)))]) (fun t k => XS.iloadN X0.here hx rfl (hb hby at_31) rfl k) ?_
      refine Go.of (mkF m 33 #[.val (.int p), .val (.int q), .val (.int (q &&& (31 : Int32))), .unset, .unset] [(.int (2 : Int32)), (.int (q &&& (31 : Int32)))]) (fun t k => XS.iconst X0.here hx rfl (hb hby at_32) k) ?_
      by_cases hc33 : (q &&& (31 : Int32)) = (2 : Int32)
      ·
        refine Go.of (mkF m 36 #[.val (.int p), .val (.int q), .val (.int (q &&& (31 : Int32))), .unset, .unset] []) (fun t k => XS.icmpNo X0.here hx rfl (hb hby at_33) rfl (teq hc33).2 k) ?_
        refine Go.of (mkF m 38 #[.val (.int p), .val (.int q), .val (.int (q &&& (31 : Int32))), .unset, .unset] [(.int (13 : Int32))]) (fun t k => XS.bipush X0.here hx rfl (hb hby at_36) k) ?_
        refine Go.of (mkF m 39 #[.val (.int p), .val (.int q), .val (.int (q &&& (31 : Int32))), .val (.int (13 : Int32)), .unset] []) (fun t k => XS.istoreN X0.here hx rfl (hb hby at_38) rfl (l' := #[.val (.int p), .val (.int q), .val (.int (q &&& (31 : Int32))), .val (.int (13 : Int32)), .unset]) rfl k) ?_
        refine Go.of (mkF m 40 #[.val (.int p), .val (.int q), .val (.int (q &&& (31 : Int32))), .val (.int (13 : Int32)), .unset] [(.int (1 : Int32))]) (fun t k => XS.iconst X0.here hx rfl (hb hby at_39) k) ?_
        refine Go.of (mkF m 42 #[.val (.int p), .val (.int q), .val (.int (q &&& (31 : Int32))), .val (.int (13 : Int32)), .val (.int (1 : Int32))] []) (fun t k => XS.istore X0.here hx rfl (hb hby at_40) rfl (l' := #[.val (.int p), .val (.int q), .val (.int (q &&& (31 : Int32))), .val (.int (13 : Int32)), .val (.int (1 : Int32))]) rfl k) ?_
        refine Go.of (mkF m 219 #[.val (.int p), .val (.int q), .val (.int (q &&& (31 : Int32))), .val (.int (13 : Int32)), .val (.int (1 : Int32))] []) (fun t k => XS.goto X0.here hx rfl (pc0 := 42) (pc' := 219) rfl (hb hby at_42) (by decide) (by decide) k) ?_
        exact J219 _ _ _ _ _ X0 e0 N0 (by decide)
      ·
        refine Go.of (mkF m 45 #[.val (.int p), .val (.int q), .val (.int (q &&& (31 : Int32))), .unset, .unset] []) (fun t k => XS.icmpYes X0.here hx rfl (pc0 := 33) (pc' := 45) rfl (hb hby at_33) rfl (feq hc33).2 (by decide) (by decide) k) ?_
        refine Go.of (mkF m 46 #[.val (.int p), .val (.int q), .val (.int (q &&& (31 : Int32))), .unset, .unset] [(.int (q &&& (31 : Int32)))]) (fun t k => XS.iloadN X0.here hx rfl (hb hby at_45) rfl k) ?_
        refine Go.of (mkF m 47 #[.val (.int p), .val (.int q), .val (.int (q &&& (31 : Int32))), .unset, .unset] [(.int (3 : Int32)), (.int (q &&& (31 : Int32)))]) (fun t k => XS.iconst X0.here hx rfl (hb hby at_46) k) ?_
        by_cases hc47 : (q &&& (31 : Int32)) = (3 : Int32)
        ·
          refine Go.of (mkF m 50 #[.val (.int p), .val (.int q), .val (.int (q &&& (31 : Int32))), .unset, .unset] []) (fun t k => XS.icmpNo X0.here hx rfl (hb hby at_47) rfl (teq hc47).2 k) ?_
          refine Go.of (mkF m 52 #[.val (.int p), .val (.int q), .val (.int (q &&& (31 : Int32))), .unset, .unset] [(.int (9 : Int32))]) (fun t k => XS.bipush X0.here hx rfl (hb hby at_50) k) ?_
          refine Go.of (mkF m 53 #[.val (.int p), .val (.int q), .val (.int (q &&& (31 : Int32))), .val (.int (9 : Int32)), .unset] []) (fun t k => XS.istoreN X0.here hx rfl (hb hby at_52) rfl (l' := #[.val (.int p), .val (.int q), .val (.int (q &&& (31 : Int32))), .val (.int (9 : Int32)), .unset]) rfl k) ?_
          refine Go.of (mkF m 54 #[.val (.int p), .val (.int q), .val (.int (q &&& (31 : Int32))), .val (.int (9 : Int32)), .unset] [(.int (0 : Int32))]) (fun t k => XS.iconst X0.here hx rfl (hb hby at_53) k) ?_
          refine Go.of (mkF m 56 #[.val (.int p), .val (.int q), .val (.int (q &&& (31 : Int32))), .val (.int (9 : Int32)), .val (.int (0 : Int32))] []) (fun t k => XS.istore X0.here hx rfl (hb hby at_54) rfl (l' := #[.val (.int p), .val (.int q), .val (.int (q &&& (31 : Int32))), .val (.int (9 : Int32)), .val (.int (0 : Int32))]) rfl k) ?_
          refine Go.of (mkF m 219 #[.val (.int p), .val (.int q), .val (.int (q &&& (31 : Int32))), .val (.int (9 : Int32)), .val (.int (0 : Int32))] []) (fun t k => XS.goto X0.here hx rfl (pc0 := 56) (pc' := 219) rfl (hb hby at_56) (by decide) (by decide) k) ?_
          exact J219 _ _ _ _ _ X0 e0 N0 (by decide)
        ·
          refine Go.of (mkF m 59 #[.val (.int p), .val (.int q), .val (.int (q &&& (31 : Int32))), .unset, .unset] []) (fun t k => XS.icmpYes X0.here hx rfl (pc0 := 47) (pc' := 59) rfl (hb hby at_47) rfl (feq hc47).2 (by decide) (by decide) k) ?_
          refine Go.of (mkF m 60 #[.val (.int p), .val (.int q), .val (.int (q &&& (31 : Int32))), .unset, .unset] [(.int (q &&& (31 : Int32)))]) (fun t k => XS.iloadN X0.here hx rfl (hb hby at_59) rfl k) ?_
          refine Go.of (mkF m 61 #[.val (.int p), .val (.int q), .val (.int (q &&& (31 : Int32))), .unset, .unset] [(.int (4 : Int32)), (.int (q &&& (31 : Int32)))]) (fun t k => XS.iconst X0.here hx rfl (hb hby at_60) k) ?_
          by_cases hc61 : (q &&& (31 : Int32)) = (4 : Int32)
          ·
            refine Go.of (mkF m 64 #[.val (.int p), .val (.int q), .val (.int (q &&& (31 : Int32))), .unset, .unset] []) (fun t k => XS.icmpNo X0.here hx rfl (hb hby at_61) rfl (teq hc61).2 k) ?_
            refine Go.of (mkF m 66 #[.val (.int p), .val (.int q), .val (.int (q &&& (31 : Int32))), .unset, .unset] [(.int (11 : Int32))]) (fun t k => XS.bipush X0.here hx rfl (hb hby at_64) k) ?_
            refine Go.of (mkF m 67 #[.val (.int p), .val (.int q), .val (.int (q &&& (31 : Int32))), .val (.int (11 : Int32)), .unset] []) (fun t k => XS.istoreN X0.here hx rfl (hb hby at_66) rfl (l' := #[.val (.int p), .val (.int q), .val (.int (q &&& (31 : Int32))), .val (.int (11 : Int32)), .unset]) rfl k) ?_
            refine Go.of (mkF m 68 #[.val (.int p), .val (.int q), .val (.int (q &&& (31 : Int32))), .val (.int (11 : Int32)), .unset] [(.int (0 : Int32))]) (fun t k => XS.iconst X0.here hx rfl (hb hby at_67) k) ?_
            refine Go.of (mkF m 70 #[.val (.int p), .val (.int q), .val (.int (q &&& (31 : Int32))), .val (.int (11 : Int32)), .val (.int (0 : Int32))] []) (fun t k => XS.istore X0.here hx rfl (hb hby at_68) rfl (l' := #[.val (.int p), .val (.int q), .val (.int (q &&& (31 : Int32))), .val (.int (11 : Int32)), .val (.int (0 : Int32))]) rfl k) ?_
            refine Go.of (mkF m 219 #[.val (.int p), .val (.int q), .val (.int (q &&& (31 : Int32))), .val (.int (11 : Int32)), .val (.int (0 : Int32))] []) (fun t k => XS.goto X0.here hx rfl (pc0 := 70) (pc' := 219) rfl (hb hby at_70) (by decide) (by decide) k) ?_
            exact J219 _ _ _ _ _ X0 e0 N0 (by decide)
          ·
            refine Go.of (mkF m 73 #[.val (.int p), .val (.int q), .val (.int (q &&& (31 : Int32))), .unset, .unset] []) (fun t k => XS.icmpYes X0.here hx rfl (pc0 := 61) (pc' := 73) rfl (hb hby at_61) rfl (feq hc61).2 (by decide) (by decide) k) ?_
            refine Go.of (mkF m 74 #[.val (.int p), .val (.int q), .val (.int (q &&& (31 : Int32))), .unset, .unset] [(.int (q &&& (31 : Int32)))]) (fun t k => XS.iloadN X0.here hx rfl (hb hby at_73) rfl k) ?_
            refine Go.of (mkF m 75 #[.val (.int p), .val (.int q), .val (.int (q &&& (31 : Int32))), .unset, .unset] [(.int (5 : Int32)), (.int (q &&& (31 : Int32)))]) (fun t k => XS.iconst X0.here hx rfl (hb hby at_74) k) ?_
            by_cases hc75 : (q &&& (31 : Int32)) = (5 : Int32)
            ·
              refine Go.of (mkF m 78 #[.val (.int p), .val (.int q), .val (.int (q &&& (31 : Int32))), .unset, .unset] []) (fun t k => XS.icmpNo X0.here hx rfl (hb hby at_75) rfl (teq hc75).2 k) ?_
              refine Go.of (mkF m 80 #[.val (.int p), .val (.int q), .val (.int (q &&& (31 : Int32))), .unset, .unset] [(.int (12 : Int32))]) (fun t k => XS.bipush X0.here hx rfl (hb hby at_78) k) ?_
              refine Go.of (mkF m 81 #[.val (.int p), .val (.int q), .val (.int (q &&& (31 : Int32))), .val (.int (12 : Int32)), .unset] []) (fun t k => XS.istoreN X0.here hx rfl (hb hby at_80) rfl (l' := #[.val (.int p), .val (.int q), .val (.int (q &&& (31 : Int32))), .val (.int (12 : Int32)), .unset]) rfl k) ?_
              refine Go.of (mkF m 82 #[.val (.int p), .val (.int q), .val (.int (q &&& (31 : Int32))), .val (.int (12 : Int32)), .unset] [(.int (0 : Int32))]) (fun t k => XS.iconst X0.here hx rfl (hb hby at_81) k) ?_
              refine Go.of (mkF m 84 #[.val (.int p), .val (.int q), .val (.int (q &&& (31 : Int32))), .val (.int (12 : Int32)), .val (.int (0 : Int32))] []) (fun t k => XS.istore X0.here hx rfl (hb hby at_82) rfl (l' := #[.val (.int p), .val (.int q), .val (.int (q &&& (31 : Int32))), .val (.int (12 : Int32)), .val (.int (0 : Int32))]) rfl k) ?_
              refine Go.of (mkF m 219 #[.val (.int p), .val (.int q), .val (.int (q &&& (31 : Int32))), .val (.int (12 : Int32)), .val (.int (0 : Int32))] []) (fun t k => XS.goto X0.here hx rfl (pc0 := 84) (pc' := 219) rfl (hb hby at_84) (by decide) (by decide) k) ?_
              exact J219 _ _ _ _ _ X0 e0 N0 (by decide)
            ·
              refine Go.of (mkF m 87 #[.val (.int p), .val (.int q), .val (.int (q &&& (31 : Int32))), .unset, .unset] []) (fun t k => XS.icmpYes X0.here hx rfl (pc0 := 75) (pc' := 87) rfl (hb hby at_75) rfl (feq hc75).2 (by decide) (by decide) k) ?_
              refine Go.of (mkF m 88 #[.val (.int p), .val (.int q), .val (.int (q &&& (31 : Int32))), .unset, .unset] [(.int (q &&& (31 : Int32)))]) (fun t k => XS.iloadN X0.here hx rfl (hb hby at_87) rfl k) ?_
              refine Go.of (mkF m 90 #[.val (.int p), .val (.int q), .val (.int (q &&& (31 : Int32))), .unset, .unset] [(.int (6 : Int32)), (.int (q &&& (31 : Int32)))]) (fun t k => XS.bipush X0.here hx rfl (hb hby at_88) k) ?_
              by_cases hc90 : (q &&& (31 : Int32)) = (6 : Int32)
              ·
                refine Go.of (mkF m 93 #[.val (.int p), .val (.int q), .val (.int (q &&& (31 : Int32))), .unset, .unset] []) (fun t k => XS.icmpNo X0.here hx rfl (hb hby at_90) rfl (teq hc90).2 k) ?_
                refine Go.of (mkF m 95 #[.val (.int p), .val (.int q), .val (.int (q &&& (31 : Int32))), .unset, .unset] [(.int (14 : Int32))]) (fun t k => XS.bipush X0.here hx rfl (hb hby at_93) k) ?_
                refine Go.of (mkF m 96 #[.val (.int p), .val (.int q), .val (.int (q &&& (31 : Int32))), .val (.int (14 : Int32)), .unset] []) (fun t k => XS.istoreN X0.here hx rfl (hb hby at_95) rfl (l' := #[.val (.int p), .val (.int q), .val (.int (q &&& (31 : Int32))), .val (.int (14 : Int32)), .unset]) rfl k) ?_
                refine Go.of (mkF m 97 #[.val (.int p), .val (.int q), .val (.int (q &&& (31 : Int32))), .val (.int (14 : Int32)), .unset] [(.int (0 : Int32))]) (fun t k => XS.iconst X0.here hx rfl (hb hby at_96) k) ?_
                refine Go.of (mkF m 99 #[.val (.int p), .val (.int q), .val (.int (q &&& (31 : Int32))), .val (.int (14 : Int32)), .val (.int (0 : Int32))] []) (fun t k => XS.istore X0.here hx rfl (hb hby at_97) rfl (l' := #[.val (.int p), .val (.int q), .val (.int (q &&& (31 : Int32))), .val (.int (14 : Int32)), .val (.int (0 : Int32))]) rfl k) ?_
                refine Go.of (mkF m 219 #[.val (.int p), .val (.int q), .val (.int (q &&& (31 : Int32))), .val (.int (14 : Int32)), .val (.int (0 : Int32))] []) (fun t k => XS.goto X0.here hx rfl (pc0 := 99) (pc' := 219) rfl (hb hby at_99) (by decide) (by decide) k) ?_
                exact J219 _ _ _ _ _ X0 e0 N0 (by decide)
              ·
                refine Go.of (mkF m 102 #[.val (.int p), .val (.int q), .val (.int (q &&& (31 : Int32))), .unset, .unset] []) (fun t k => XS.icmpYes X0.here hx rfl (pc0 := 90) (pc' := 102) rfl (hb hby at_90) rfl (feq hc90).2 (by decide) (by decide) k) ?_
                refine Go.of (mkF m 103 #[.val (.int p), .val (.int q), .val (.int (q &&& (31 : Int32))), .unset, .unset] [(.int (q &&& (31 : Int32)))]) (fun t k => XS.iloadN X0.here hx rfl (hb hby at_102) rfl k) ?_
                refine Go.of (mkF m 105 #[.val (.int p), .val (.int q), .val (.int (q &&& (31 : Int32))), .unset, .unset] [(.int (7 : Int32)), (.int (q &&& (31 : Int32)))]) (fun t k => XS.bipush X0.here hx rfl (hb hby at_103) k) ?_
                by_cases hc105 : (q &&& (31 : Int32)) = (7 : Int32)
                ·
                  refine Go.of (mkF m 108 #[.val (.int p), .val (.int q), .val (.int (q &&& (31 : Int32))), .unset, .unset] []) (fun t k => XS.icmpNo X0.here hx rfl (hb hby at_105) rfl (teq hc105).2 k) ?_
                  refine Go.of (mkF m 110 #[.val (.int p), .val (.int q), .val (.int (q &&& (31 : Int32))), .unset, .unset] [(.int (-2 : Int32))]) (fun t k => XS.bipush X0.here hx rfl (hb hby at_108) k) ?_
                  refine Go.of (mkF m 111 #[.val (.int p), .val (.int q), .val (.int (q &&& (31 : Int32))), .val (.int (-2 : Int32)), .unset] []) (fun t k => XS.istoreN X0.here hx rfl (hb hby at_110) rfl (l' := #[.val (.int p), .val (.int q), .val (.int (q &&& (31 : Int32))), .val (.int (-2 : Int32)), .unset]) rfl k) ?_
                  refine Go.of (mkF m 112 #[.val (.int p), .val (.int q), .val (.int (q &&& (31 : Int32))), .val (.int (-2 : Int32)), .unset] [(.int (0 : Int32))]) (fun t k => XS.iconst X0.here hx rfl (hb hby at_111) k) ?_
                  refine Go.of (mkF m 114 #[.val (.int p), .val (.int q), .val (.int (q &&& (31 : Int32))), .val (.int (-2 : Int32)), .val (.int (0 : Int32))] []) (fun t k => XS.istore X0.here hx rfl (hb hby at_112) rfl (l' := #[.val (.int p), .val (.int q), .val (.int (q &&& (31 : Int32))), .val (.int (-2 : Int32)), .val (.int (0 : Int32))]) rfl k) ?_
                  refine Go.of (mkF m 219 #[.val (.int p), .val (.int q), .val (.int (q &&& (31 : Int32))), .val (.int (-2 : Int32)), .val (.int (0 : Int32))] []) (fun t k => XS.goto X0.here hx rfl (pc0 := 114) (pc' := 219) rfl (hb hby at_114) (by decide) (by decide) k) ?_
                  exact J219 _ _ _ _ _ X0 e0 N0 (by decide)
                ·
                  refine Go.of (mkF m 117 #[.val (.int p), .val (.int q), .val (.int (q &&& (31 : Int32))), .unset, .unset] []) (fun t k => XS.icmpYes X0.here hx rfl (pc0 := 105) (pc' := 117) rfl (hb hby at_105) rfl (feq hc105).2 (by decide) (by decide) k) ?_
                  refine Go.of (mkF m 118 #[.val (.int p), .val (.int q), .val (.int (q &&& (31 : Int32))), .unset, .unset] [(.int (q &&& (31 : Int32)))]) (fun t k => XS.iloadN X0.here hx rfl (hb hby at_117) rfl k) ?_
                  refine Go.of (mkF m 120 #[.val (.int p), .val (.int q), .val (.int (q &&& (31 : Int32))), .unset, .unset] [(.int (8 : Int32)), (.int (q &&& (31 : Int32)))]) (fun t k => XS.bipush X0.here hx rfl (hb hby at_118) k) ?_
                  by_cases hc120 : (q &&& (31 : Int32)) = (8 : Int32)
                  ·
                    refine Go.of (mkF m 123 #[.val (.int p), .val (.int q), .val (.int (q &&& (31 : Int32))), .unset, .unset] []) (fun t k => XS.icmpNo X0.here hx rfl (hb hby at_120) rfl (teq hc120).2 k) ?_
                    refine Go.of (mkF m 124 #[.val (.int p), .val (.int q), .val (.int (q &&& (31 : Int32))), .unset, .unset] [(.int (0 : Int32))]) (fun t k => XS.iconst X0.here hx rfl (hb hby at_123) k) ?_
                    refine Go.of (mkF m 125 #[.val (.int p), .val (.int q), .val (.int (q &&& (31 : Int32))), .val (.int (0 : Int32)), .unset] []) (fun t k => XS.istoreN X0.here hx rfl (hb hby at_124) rfl (l' := #[.val (.int p), .val (.int q), .val (.int (q &&& (31 : Int32))), .val (.int (0 : Int32)), .unset]) rfl k) ?_
                    refine Go.of (mkF m 126 #[.val (.int p), .val (.int q), .val (.int (q &&& (31 : Int32))), .val (.int (0 : Int32)), .unset] [(.int (0 : Int32))]) (fun t k => XS.iconst X0.here hx rfl (hb hby at_125) k) ?_
                    refine Go.of (mkF m 128 #[.val (.int p), .val (.int q), .val (.int (q &&& (31 : Int32))), .val (.int (0 : Int32)), .val (.int (0 : Int32))] []) (fun t k => XS.istore X0.here hx rfl (hb hby at_126) rfl (l' := #[.val (.int p), .val (.int q), .val (.int (q &&& (31 : Int32))), .val (.int (0 : Int32)), .val (.int (0 : Int32))]) rfl k) ?_
                    refine Go.of (mkF m 219 #[.val (.int p), .val (.int q), .val (.int (q &&& (31 : Int32))), .val (.int (0 : Int32)), .val (.int (0 : Int32))] []) (fun t k => XS.goto X0.here hx rfl (pc0 := 128) (pc' := 219) rfl (hb hby at_128) (by decide) (by decide) k) ?_
                    exact J219 _ _ _ _ _ X0 e0 N0 (by decide)
                  ·
                    refine Go.of (mkF m 131 #[.val (.int p), .val (.int q), .val (.int (q &&& (31 : Int32))), .unset, .unset] []) (fun t k => XS.icmpYes X0.here hx rfl (pc0 := 120) (pc' := 131) rfl (hb hby at_120) rfl (feq hc120).2 (by decide) (by decide) k) ?_
                    refine Go.of (mkF m 132 #[.val (.int p), .val (.int q), .val (.int (q &&& (31 : Int32))), .unset, .unset] [(.int (q &&& (31 : Int32)))]) (fun t k => XS.iloadN X0.here hx rfl (hb hby at_131) rfl k) ?_
                    refine Go.of (mkF m 134 #[.val (.int p), .val (.int q), .val (.int (q &&& (31 : Int32))), .unset, .unset] [(.int (9 : Int32)), (.int (q &&& (31 : Int32)))]) (fun t k => XS.bipush X0.here hx rfl (hb hby at_132) k) ?_
                    by_cases hc134 : (q &&& (31 : Int32)) = (9 : Int32)
                    ·
                      refine Go.of (mkF m 137 #[.val (.int p), .val (.int q), .val (.int (q &&& (31 : Int32))), .unset, .unset] []) (fun t k => XS.icmpNo X0.here hx rfl (hb hby at_134) rfl (teq hc134).2 k) ?_
                      refine Go.of (mkF m 140 #[.val (.int p), .val (.int q), .val (.int (q &&& (31 : Int32))), .unset, .unset] [(.int (133 : Int32))]) (fun t k => XS.sipush X0.here hx rfl (hb hby at_137) k) ?_
                      refine Go.of (mkF m 141 #[.val (.int p), .val (.int q), .val (.int (q &&& (31 : Int32))), .val (.int (133 : Int32)), .unset] []) (fun t k => XS.istoreN X0.here hx rfl (hb hby at_140) rfl (l' := #[.val (.int p), .val (.int q), .val (.int (q &&& (31 : Int32))), .val (.int (133 : Int32)), .unset]) rfl k) ?_
                      refine Go.of (mkF m 142 #[.val (.int p), .val (.int q), .val (.int (q &&& (31 : Int32))), .val (.int (133 : Int32)), .unset] [(.int (0 : Int32))]) (fun t k => XS.iconst X0.here hx rfl (hb hby at_141) k) ?_
                      refine Go.of (mkF m 144 #[.val (.int p), .val (.int q), .val (.int (q &&& (31 : Int32))), .val (.int (133 : Int32)), .val (.int (0 : Int32))] []) (fun t k => XS.istore X0.here hx rfl (hb hby at_142) rfl (l' := #[.val (.int p), .val (.int q), .val (.int (q &&& (31 : Int32))), .val (.int (133 : Int32)), .val (.int (0 : Int32))]) rfl k) ?_
                      refine Go.of (mkF m 219 #[.val (.int p), .val (.int q), .val (.int (q &&& (31 : Int32))), .val (.int (133 : Int32)), .val (.int (0 : Int32))] []) (fun t k => XS.goto X0.here hx rfl (pc0 := 144) (pc' := 219) rfl (hb hby at_144) (by decide) (by decide) k) ?_
                      exact J219 _ _ _ _ _ X0 e0 N0 (by decide)
                    ·
                      refine Go.of (mkF m 147 #[.val (.int p), .val (.int q), .val (.int (q &&& (31 : Int32))), .unset, .unset] []) (fun t k => XS.icmpYes X0.here hx rfl (pc0 := 134) (pc' := 147) rfl (hb hby at_134) rfl (feq hc134).2 (by decide) (by decide) k) ?_
                      refine Go.of (mkF m 148 #[.val (.int p), .val (.int q), .val (.int (q &&& (31 : Int32))), .unset, .unset] [(.int (q &&& (31 : Int32)))]) (fun t k => XS.iloadN X0.here hx rfl (hb hby at_147) rfl k) ?_
                      refine Go.of (mkF m 150 #[.val (.int p), .val (.int q), .val (.int (q &&& (31 : Int32))), .unset, .unset] [(.int (10 : Int32)), (.int (q &&& (31 : Int32)))]) (fun t k => XS.bipush X0.here hx rfl (hb hby at_148) k) ?_
                      by_cases hc150 : (q &&& (31 : Int32)) = (10 : Int32)
                      ·
                        refine Go.of (mkF m 153 #[.val (.int p), .val (.int q), .val (.int (q &&& (31 : Int32))), .unset, .unset] []) (fun t k => XS.icmpNo X0.here hx rfl (hb hby at_150) rfl (teq hc150).2 k) ?_
                        refine Go.of (mkF m 156 #[.val (.int p), .val (.int q), .val (.int (q &&& (31 : Int32))), .unset, .unset] [(.int (8232 : Int32))]) (fun t k => XS.sipush X0.here hx rfl (hb hby at_153) k) ?_
                        refine Go.of (mkF m 157 #[.val (.int p), .val (.int q), .val (.int (q &&& (31 : Int32))), .val (.int (8232 : Int32)), .unset] []) (fun t k => XS.istoreN X0.here hx rfl (hb hby at_156) rfl (l' := #[.val (.int p), .val (.int q), .val (.int (q &&& (31 : Int32))), .val (.int (8232 : Int32)), .unset]) rfl k) ?_
                        refine Go.of (mkF m 158 #[.val (.int p), .val (.int q), .val (.int (q &&& (31 : Int32))), .val (.int (8232 : Int32)), .unset] [(.int (0 : Int32))]) (fun t k => XS.iconst X0.here hx rfl (hb hby at_157) k) ?_
                        refine Go.of (mkF m 160 #[.val (.int p), .val (.int q), .val (.int (q &&& (31 : Int32))), .val (.int (8232 : Int32)), .val (.int (0 : Int32))] []) (fun t k => XS.istore X0.here hx rfl (hb hby at_158) rfl (l' := #[.val (.int p), .val (.int q), .val (.int (q &&& (31 : Int32))), .val (.int (8232 : Int32)), .val (.int (0 : Int32))]) rfl k) ?_
                        refine Go.of (mkF m 219 #[.val (.int p), .val (.int q), .val (.int (q &&& (31 : Int32))), .val (.int (8232 : Int32)), .val (.int (0 : Int32))] []) (fun t k => XS.goto X0.here hx rfl (pc0 := 160) (pc' := 219) rfl (hb hby at_160) (by decide) (by decide) k) ?_
                        exact J219 _ _ _ _ _ X0 e0 N0 (by decide)
                      ·
                        refine Go.of (mkF m 163 #[.val (.int p), .val (.int q), .val (.int (q &&& (31 : Int32))), .unset, .unset] []) (fun t k => XS.icmpYes X0.here hx rfl (pc0 := 150) (pc' := 163) rfl (hb hby at_150) rfl (feq hc150).2 (by decide) (by decide) k) ?_
                        refine Go.of (mkF m 164 #[.val (.int p), .val (.int q), .val (.int (q &&& (31 : Int32))), .unset, .unset] [(.int (q &&& (31 : Int32)))]) (fun t k => XS.iloadN X0.here hx rfl (hb hby at_163) rfl k) ?_
                        refine Go.of (mkF m 166 #[.val (.int p), .val (.int q), .val (.int (q &&& (31 : Int32))), .unset, .unset] [(.int (11 : Int32)), (.int (q &&& (31 : Int32)))]) (fun t k => XS.bipush X0.here hx rfl (hb hby at_164) k) ?_
                        by_cases hc166 : (q &&& (31 : Int32)) = (11 : Int32)
                        ·
                          refine Go.of (mkF m 169 #[.val (.int p), .val (.int q), .val (.int (q &&& (31 : Int32))), .unset, .unset] []) (fun t k => XS.icmpNo X0.here hx rfl (hb hby at_166) rfl (teq hc166).2 k) ?_
                          refine Go.of (mkF m 172 #[.val (.int p), .val (.int q), .val (.int (q &&& (31 : Int32))), .unset, .unset] [(.int (269 : Int32))]) (fun t k => XS.sipush X0.here hx rfl (hb hby at_169) k) ?_
                          refine Go.of (mkF m 173 #[.val (.int p), .val (.int q), .val (.int (q &&& (31 : Int32))), .val (.int (269 : Int32)), .unset] []) (fun t k => XS.istoreN X0.here hx rfl (hb hby at_172) rfl (l' := #[.val (.int p), .val (.int q), .val (.int (q &&& (31 : Int32))), .val (.int (269 : Int32)), .unset]) rfl k) ?_
                          refine Go.of (mkF m 174 #[.val (.int p), .val (.int q), .val (.int (q &&& (31 : Int32))), .val (.int (269 : Int32)), .unset] [(.int (0 : Int32))]) (fun t k => XS.iconst X0.here hx rfl (hb hby at_173) k) ?_
                          refine Go.of (mkF m 176 #[.val (.int p), .val (.int q), .val (.int (q &&& (31 : Int32))), .val (.int (269 : Int32)), .val (.int (0 : Int32))] []) (fun t k => XS.istore X0.here hx rfl (hb hby at_174) rfl (l' := #[.val (.int p), .val (.int q), .val (.int (q &&& (31 : Int32))), .val (.int (269 : Int32)), .val (.int (0 : Int32))]) rfl k) ?_
                          refine Go.of (mkF m 219 #[.val (.int p), .val (.int q), .val (.int (q &&& (31 : Int32))), .val (.int (269 : Int32)), .val (.int (0 : Int32))] []) (fun t k => XS.goto X0.here hx rfl (pc0 := 176) (pc' := 219) rfl (hb hby at_176) (by decide) (by decide) k) ?_
                          exact J219 _ _ _ _ _ X0 e0 N0 (by decide)
                        ·
                          refine Go.of (mkF m 179 #[.val (.int p), .val (.int q), .val (.int (q &&& (31 : Int32))), .unset, .unset] []) (fun t k => XS.icmpYes X0.here hx rfl (pc0 := 166) (pc' := 179) rfl (hb hby at_166) rfl (feq hc166).2 (by decide) (by decide) k) ?_
                          refine Go.of (mkF m 180 #[.val (.int p), .val (.int q), .val (.int (q &&& (31 : Int32))), .unset, .unset] [(.int (q &&& (31 : Int32)))]) (fun t k => XS.iloadN X0.here hx rfl (hb hby at_179) rfl k) ?_
                          refine Go.of (mkF m 182 #[.val (.int p), .val (.int q), .val (.int (q &&& (31 : Int32))), .unset, .unset] [(.int (12 : Int32)), (.int (q &&& (31 : Int32)))]) (fun t k => XS.bipush X0.here hx rfl (hb hby at_180) k) ?_
                          by_cases hc182 : (q &&& (31 : Int32)) = (12 : Int32)
                          ·
                            refine Go.of (mkF m 185 #[.val (.int p), .val (.int q), .val (.int (q &&& (31 : Int32))), .unset, .unset] []) (fun t k => XS.icmpNo X0.here hx rfl (hb hby at_182) rfl (teq hc182).2 k) ?_
                            refine Go.of (mkF m 188 #[.val (.int p), .val (.int q), .val (.int (q &&& (31 : Int32))), .unset, .unset] [(.int (266 : Int32))]) (fun t k => XS.sipush X0.here hx rfl (hb hby at_185) k) ?_
                            refine Go.of (mkF m 189 #[.val (.int p), .val (.int q), .val (.int (q &&& (31 : Int32))), .val (.int (266 : Int32)), .unset] []) (fun t k => XS.istoreN X0.here hx rfl (hb hby at_188) rfl (l' := #[.val (.int p), .val (.int q), .val (.int (q &&& (31 : Int32))), .val (.int (266 : Int32)), .unset]) rfl k) ?_
                            refine Go.of (mkF m 190 #[.val (.int p), .val (.int q), .val (.int (q &&& (31 : Int32))), .val (.int (266 : Int32)), .unset] [(.int (0 : Int32))]) (fun t k => XS.iconst X0.here hx rfl (hb hby at_189) k) ?_
                            refine Go.of (mkF m 192 #[.val (.int p), .val (.int q), .val (.int (q &&& (31 : Int32))), .val (.int (266 : Int32)), .val (.int (0 : Int32))] []) (fun t k => XS.istore X0.here hx rfl (hb hby at_190) rfl (l' := #[.val (.int p), .val (.int q), .val (.int (q &&& (31 : Int32))), .val (.int (266 : Int32)), .val (.int (0 : Int32))]) rfl k) ?_
                            refine Go.of (mkF m 219 #[.val (.int p), .val (.int q), .val (.int (q &&& (31 : Int32))), .val (.int (266 : Int32)), .val (.int (0 : Int32))] []) (fun t k => XS.goto X0.here hx rfl (pc0 := 192) (pc' := 219) rfl (hb hby at_192) (by decide) (by decide) k) ?_
                            exact J219 _ _ _ _ _ X0 e0 N0 (by decide)
                          ·
                            refine Go.of (mkF m 195 #[.val (.int p), .val (.int q), .val (.int (q &&& (31 : Int32))), .unset, .unset] []) (fun t k => XS.icmpYes X0.here hx rfl (pc0 := 182) (pc' := 195) rfl (hb hby at_182) rfl (feq hc182).2 (by decide) (by decide) k) ?_
                            refine Go.of (mkF m 196 #[.val (.int p), .val (.int q), .val (.int (q &&& (31 : Int32))), .unset, .unset] [(.int (q &&& (31 : Int32)))]) (fun t k => XS.iloadN X0.here hx rfl (hb hby at_195) rfl k) ?_
                            refine Go.of (mkF m 198 #[.val (.int p), .val (.int q), .val (.int (q &&& (31 : Int32))), .unset, .unset] [(.int (13 : Int32)), (.int (q &&& (31 : Int32)))]) (fun t k => XS.bipush X0.here hx rfl (hb hby at_196) k) ?_
                            by_cases hc198 : (q &&& (31 : Int32)) = (13 : Int32)
                            ·
                              refine Go.of (mkF m 201 #[.val (.int p), .val (.int q), .val (.int (q &&& (31 : Int32))), .unset, .unset] []) (fun t k => XS.icmpNo X0.here hx rfl (hb hby at_198) rfl (teq hc198).2 k) ?_
                              refine Go.of (mkF m 204 #[.val (.int p), .val (.int q), .val (.int (q &&& (31 : Int32))), .unset, .unset] [(.int (255 : Int32))]) (fun t k => XS.sipush X0.here hx rfl (hb hby at_201) k) ?_
                              refine Go.of (mkF m 205 #[.val (.int p), .val (.int q), .val (.int (q &&& (31 : Int32))), .val (.int (255 : Int32)), .unset] []) (fun t k => XS.istoreN X0.here hx rfl (hb hby at_204) rfl (l' := #[.val (.int p), .val (.int q), .val (.int (q &&& (31 : Int32))), .val (.int (255 : Int32)), .unset]) rfl k) ?_
                              refine Go.of (mkF m 206 #[.val (.int p), .val (.int q), .val (.int (q &&& (31 : Int32))), .val (.int (255 : Int32)), .unset] [(.int (0 : Int32))]) (fun t k => XS.iconst X0.here hx rfl (hb hby at_205) k) ?_
                              refine Go.of (mkF m 208 #[.val (.int p), .val (.int q), .val (.int (q &&& (31 : Int32))), .val (.int (255 : Int32)), .val (.int (0 : Int32))] []) (fun t k => XS.istore X0.here hx rfl (hb hby at_206) rfl (l' := #[.val (.int p), .val (.int q), .val (.int (q &&& (31 : Int32))), .val (.int (255 : Int32)), .val (.int (0 : Int32))]) rfl k) ?_
                              refine Go.of (mkF m 219 #[.val (.int p), .val (.int q), .val (.int (q &&& (31 : Int32))), .val (.int (255 : Int32)), .val (.int (0 : Int32))] []) (fun t k => XS.goto X0.here hx rfl (pc0 := 208) (pc' := 219) rfl (hb hby at_208) (by decide) (by decide) k) ?_
                              exact J219 _ _ _ _ _ X0 e0 N0 (by decide)
                            ·
                              refine Go.of (mkF m 211 #[.val (.int p), .val (.int q), .val (.int (q &&& (31 : Int32))), .unset, .unset] []) (fun t k => XS.icmpYes X0.here hx rfl (pc0 := 198) (pc' := 211) rfl (hb hby at_198) rfl (feq hc198).2 (by decide) (by decide) k) ?_
                              refine Go.of (mkF m 212 #[.val (.int p), .val (.int q), .val (.int (q &&& (31 : Int32))), .unset, .unset] [(.int p)]) (fun t k => XS.iloadN X0.here hx rfl (hb hby at_211) rfl k) ?_
                              refine Go.of (mkF m 213 #[.val (.int p), .val (.int q), .val (.int (q &&& (31 : Int32))), .val (.int p), .unset] []) (fun t k => XS.istoreN X0.here hx rfl (hb hby at_212) rfl (l' := #[.val (.int p), .val (.int q), .val (.int (q &&& (31 : Int32))), .val (.int p), .unset]) rfl k) ?_
                              refine Go.of (mkF m 214 #[.val (.int p), .val (.int q), .val (.int (q &&& (31 : Int32))), .val (.int p), .unset] [(.int p)]) (fun t k => XS.iloadN X0.here hx rfl (hb hby at_213) rfl k) ?_
                              refine Go.callS X0 hx hZ (y := (⟨"com/example/slotwise/slotwise/io/InputTextEndsLinePinLaw", "isRoot", "(I)Z"⟩ : MethodName)) (argsL := [(.int p)]) (rest := []) hown (tw4 hw) (tw5 hw) (tw6 hw) (tw7 hw) (by decide) e0 (rm2 l Z a0 hw [] p h0) (g := (mkF m 214 #[.val (.int p), .val (.int q), .val (.int (q &&& (31 : Int32))), .val (.int p), .unset] [(.int p)])) rfl (by rw [hml]; rfl) (lenOf pd3 rfl) rfl (W := 0) (by show 2 * 0 + _ ≤ _; exact Nat.le_of_eq rfl) (hb hby at_214) (by decide) (by decide) (by decide) (by decide) ?_
                              rintro T2 L2 v2 X2 ⟨rfl, rfl, hh2⟩
                              have N2 := Fr.app N0 (Fr.nil n0)
                              show Go pr ev below _ T2 (mkF m 217 #[.val (.int p), .val (.int q), .val (.int (q &&& (31 : Int32))), .val (.int p), .unset] [(.int (own_root p))])
                              refine Go.of (mkF m 219 #[.val (.int p), .val (.int q), .val (.int (q &&& (31 : Int32))), .val (.int p), .val (.int (own_root p))] []) (fun t k => XS.istore X2.here hx rfl (hb hby at_217) rfl (l' := #[.val (.int p), .val (.int q), .val (.int (q &&& (31 : Int32))), .val (.int p), .val (.int (own_root p))]) rfl k) ?_
                              exact J219 _ _ _ _ _ X2 hh2 N2 (own_same p).symm
set_option maxRecDepth 65536 in
set_option maxHeartbeats 40000000 in
theorem comes_1 {Post : Tables → Env → Array Value → State → Outcome → State → Prop} (hpost : ∀ tb e args s v u, (limb_1_1.after args s (.returned v) u = true ∧ limb_1_2.after args s (.returned v) u = true ∧ True) → FrameEnd s (.returned v) u (Jvm.fieldLocs frame_1_writes args s ++ Jvm.arrayLocs frame_1_arrays args s ++ Jvm.staticLocs frame_1_statics s) 0 0 → Post tb e args s (.returned v) u) :
    ArmFor flags0 classFile x code maxLocals ret World_1 tables_1 room_1 Calls_1 rest_1 Pre_1 Post := by
  intro l hfl _ _ p e ha hc hk s m args below hf hA hF happ hP
  obtain ⟨hcalls, hrest, hpre⟩ := hP
  obtain ⟨-, -, -, hnamed, -, -, -, hat⟩ := (Spec.applies_iff hf).mp happ
  obtain ⟨hg, hn⟩ := and_e (Cond.before_iff.mp (show (Jvm.Cond.and given_1 narrow_1).before args s = true from hpre))
  obtain ⟨gc, gr⟩ := and_e hg
  obtain ⟨gi0, gr⟩ := and_e gr
  have gi1 := gr
  obtain ⟨w0, w1, rfl⟩ : ∃ w0 w1 : Value, args = #[w0, w1] := by
    have hs : args.size = 2 := by simpa [Cond.value, given_1] using gc
    obtain ⟨L⟩ := args
    match L, hs with
    | [w0, w1], _ => exact ⟨w0, w1, rfl⟩
  have hw := fun d (hd : d ∈ tables_1) => atoms_spec (ws := Jvm.Cond.code x code maxLocals ret :: tables_1) hat d (List.mem_cons_of_mem _ hd)
  have hfit : Fit s := fun {y c} hc i hi => by
    obtain ⟨ha, rfl⟩ := Array.getElem?_eq_some_iff.mp hc
    have q := List.all_eq_true.mp ((Array.all_eq_true_iff_forall_mem.mp hF) _ (Array.getElem_mem ha)) i (List.mem_range.mpr hi)
    simpa [Array.getElem?_eq_getElem hi] using q
  obtain ⟨i0, ei0⟩ := is_v gi0
  obtain rfl : w0 = (.int i0) := Option.some.inj ei0
  obtain ⟨i1, ei1⟩ := is_v gi1
  obtain rfl : w1 = (.int i1) := Option.some.inj ei1
  obtain ⟨n, o, h1, h2, h3, _, L, rfl, ⟨rfl, N⟩, hq⟩ := rm0 l s _ hw tables_1 i0 i1 s.heap s.heap.size (Nat.le_refl _) p e ha hc hk s m _ below hf ((Spec.applies_iff_loose hf).mp happ).1 ⟨rfl, State.Warmed39.refl s, rfl⟩ trivial
  refine ⟨n, _, h1, h2, h3, hpost _ _ _ _ _ _ ⟨Cond.after_iff.mpr rfl, Cond.after_iff.mpr (eq_i res_at (Term.int_eval (1)) rfl), trivial⟩ ⟨hq.1, hq.2.1, (hq.2.2.sift fun y hy => Or.inr (N y hy)).mono (by decide) (by decide)⟩⟩
theorem main_1_1 : Claimed_1_1 := comes_1 fun _ _ _ _ _ _ h hF => ⟨h.1, hF⟩
theorem main_1_2 : Claimed_1_2 := comes_1 fun _ _ _ _ _ _ h hF => ⟨h.2.1, hF⟩
end Jvm.Pilot.@@N@@
namespace Jvm.Pilot.@@N@@
open Jvm Jvm.ClassFile Sem Op Lib Jvm.Free Jvm.Stand Jvm.Pilot.@@N@@.Jvm.D
/-! MADE BY PROGRAM (witnessworld.py) out of the Statement's table words and the real class files: 11 classes; the members and pool entries that the words name. The judged class is class 1, her method 1. -/
namespace start1
open Jvm.ClassFile
def u (s : String) : CpInfo := .utf8 (stringToUtf16 s)
/-- a pool by its gaps: so many unusable entries, then the entry; so many at the end -/
def gap : Nat → List CpInfo → List CpInfo
  | 0, r => r
  | n + 1, r => .unusable :: gap n r
def poolList (es : List (Nat × CpInfo)) (last : Nat) : List CpInfo := es.foldr (fun e r => gap e.1 (e.2 :: r)) (gap last [])
def pool (es : List (Nat × CpInfo)) (last : Nat) : Array CpInfo := ⟨poolList es last⟩
def fileOf (pool : Array CpInfo) (this : Nat) (attrs : Array Attribute := #[]) (ms : Array MethodInfo := #[]) (fl : Nat := 33) (sup : Nat := 0) (ifs : Array Nat := #[]) (fds : Array FieldInfo := #[]) : ClassFile where
  minorVersion := 0
  majorVersion := 65
  constantPool := pool
  accessFlags := fl
  thisClass := this
  superClass := sup
  interfaces := ifs
  fields := fds
  methods := ms
  attributes := attrs
def plain (name : String) (sup : Option ClassId) : Class where
  name := name
  kind := .ordinary
  loader := none
  accessFlags := 33
  super := sup
  interfaces := #[]
  cf := none
  fields := #[]
  methods := #[]
  instanceTypes := #[]
  staticTypes := #[]
  resolved := #[]
  callSites := []
  init := .initialized
  statics := none
  mirror := none

def pool0 : Array CpInfo := pool [(5, u "<init>"), (0, u "()V"), (1, .class_ 10), (1, u "java/lang/Object")] 113

def k0m0 : Method := { name := "<init>", desc := "()V", sig := { parameters := [], returnType := none }, accessFlags := 1, code := none }
/-- java/lang/Object -/
def k0 : Class := { plain "java/lang/Object" none with
  accessFlags := 33
  interfaces := #[]
  cf := some (fileOf pool0 8 #[] #[{ accessFlags := 1, nameIndex := 5, descriptorIndex := 6, attributes := #[] }] 33 0 #[] #[])
  fields := #[]
  methods := #[k0m0]
  instanceTypes := #[]
  staticTypes := #[]
  resolved := Array.replicate 124 none
  statics := none }

def pool1 : Array CpInfo := pool [(2, .class_ 4), (1, u "java/lang/Object"), (0, u "<init>"), (0, u "()V"), (0, .methodref 8 9), (0, .class_ 10), (0, .nameAndType 11 12), (0, u "com/example/slotwise/slotwise/io/InputTextEndsLinePinLaw"), (0, u "isRoot"), (0, u "(I)Z"), (0, .methodref 14 15), (0, .class_ 16), (0, .nameAndType 17 12), (0, u "com/example/slotwise/slotwise/io/InputText"), (0, u "endsLine"), (0, .long 10), (1, .long 13), (3, u "law"), (0, u "(II)Z")] 3

def k1m0 : Method := { name := "<init>", desc := "()V", sig := { parameters := [], returnType := none }, accessFlags := 1, code := none }
def k1c1 : Code := { maxStack := 2, maxLocals := 5, code := code, exceptionTable := #[], attributes := #[] }
def k1m1 : Method := { name := "law", desc := "(II)Z", sig := { parameters := [.int, .int], returnType := some .boolean }, accessFlags := 9, code := some k1c1 }
def k1c2 : Code := { maxStack := 4, maxLocals := 7, code := method_3_code, exceptionTable := #[], attributes := #[] }
def k1m2 : Method := { name := "isRoot", desc := "(I)Z", sig := { parameters := [.int], returnType := some .boolean }, accessFlags := 10, code := some k1c2 }
/-- com/example/slotwise/slotwise/io/InputTextEndsLinePinLaw -/
def k1 : Class := { plain "com/example/slotwise/slotwise/io/InputTextEndsLinePinLaw" (some 0) with
  accessFlags := 49
  interfaces := #[]
  cf := some (fileOf pool1 8 #[] #[{ accessFlags := 1, nameIndex := 5, descriptorIndex := 6, attributes := #[] }, { accessFlags := 9, nameIndex := 24, descriptorIndex := 25, attributes := #[] }, { accessFlags := 10, nameIndex := 11, descriptorIndex := 12, attributes := #[] }] 49 2 #[] #[])
  fields := #[]
  methods := #[k1m0, k1m1, k1m2]
  instanceTypes := #[]
  staticTypes := #[]
  resolved := Array.replicate 29 none
  statics := none }

def pool2 : Array CpInfo := pool [(1, .class_ 2), (0, u "java/lang/AutoCloseable"), (0, .class_ 4), (0, u "java/lang/Object")] 7

/-- java/lang/AutoCloseable -/
def k2 : Class := { plain "java/lang/AutoCloseable" (some 0) with
  accessFlags := 1537
  interfaces := #[]
  cf := some (fileOf pool2 1 #[] #[] 1537 3 #[] #[])
  fields := #[]
  methods := #[]
  instanceTypes := #[]
  staticTypes := #[]
  resolved := Array.replicate 12 none
  statics := none }

def pool3 : Array CpInfo := pool [(1, .class_ 2), (0, u "java/io/Closeable"), (0, .class_ 4), (0, u "java/lang/Object"), (0, .class_ 6), (0, u "java/lang/AutoCloseable")] 7

/-- java/io/Closeable -/
def k3 : Class := { plain "java/io/Closeable" (some 0) with
  accessFlags := 1537
  interfaces := #[2]
  cf := some (fileOf pool3 1 #[] #[] 1537 3 #[5] #[])
  fields := #[]
  methods := #[]
  instanceTypes := #[]
  staticTypes := #[]
  resolved := Array.replicate 14 none
  statics := none }

def pool4 : Array CpInfo := pool [(2, .class_ 4), (1, u "java/lang/Object"), (2, .class_ 8), (0, u "com/example/slotwise/slotwise/io/InputText"), (3, u "buffer"), (0, u "[B"), (2, u "pendingLow"), (0, u "I"), (2, u "line"), (0, u "J"), (4, u "afterLastCr"), (2, u "recordLine"), (8, u "longRun"), (0, u "Lcom/example/slotwise/slotwise/io/LongRun;"), (1, u "in"), (10, u "Ljava/io/InputStream;"), (1, u "source"), (4, u "Ljava/lang/String;"), (15, u "position"), (2, u "limit"), (15, u "(I)Z"), (6, u "recordLength"), (9, u "NO_CACHE"), (0, u "Lcom/example/slotwise/slotwise/io/TextCache;"), (16, u "drained"), (0, u "Z"), (37, u "bufferStart"), (37, .class_ 207), (0, u "java/io/Closeable"), (0, u "END"), (2, u "LONGEST_RECORD"), (0, u "NOT_UTF8"), (0, u "CR"), (0, u "B"), (1, u "LF"), (1, u "BYTE_ORDER_MARK"), (0, u "C"), (0, u "LONGEST_SEQUENCE"), (1, u "BUFFER_BYTES"), (5, u "endsLine")] 33

def k4c0 : Code := { maxStack := 2, maxLocals := 1, code := prog_82_method_3_code, exceptionTable := #[], attributes := #[] }
def k4m0 : Method := { name := "endsLine", desc := "(I)Z", sig := { parameters := [.int], returnType := some .boolean }, accessFlags := 8, code := some k4c0 }
/-- com/example/slotwise/slotwise/io/InputText -/
def k4 : Class := { plain "com/example/slotwise/slotwise/io/InputText" (some 0) with
  accessFlags := 32
  interfaces := #[3]
  cf := some (fileOf pool4 7 #[] #[{ accessFlags := 8, nameIndex := 228, descriptorIndex := 94, attributes := #[] }] 32 2 #[206] #[{ accessFlags := 24, nameIndex := 208, descriptorIndex := 17, attributes := #[] }, { accessFlags := 24, nameIndex := 211, descriptorIndex := 17, attributes := #[] }, { accessFlags := 24, nameIndex := 212, descriptorIndex := 59, attributes := #[] }, { accessFlags := 26, nameIndex := 213, descriptorIndex := 214, attributes := #[] }, { accessFlags := 26, nameIndex := 216, descriptorIndex := 214, attributes := #[] }, { accessFlags := 26, nameIndex := 218, descriptorIndex := 219, attributes := #[] }, { accessFlags := 26, nameIndex := 220, descriptorIndex := 17, attributes := #[] }, { accessFlags := 26, nameIndex := 222, descriptorIndex := 17, attributes := #[] }, { accessFlags := 26, nameIndex := 111, descriptorIndex := 112, attributes := #[] }, { accessFlags := 18, nameIndex := 41, descriptorIndex := 52, attributes := #[] }, { accessFlags := 18, nameIndex := 54, descriptorIndex := 59, attributes := #[] }, { accessFlags := 18, nameIndex := 12, descriptorIndex := 13, attributes := #[] }, { accessFlags := 2, nameIndex := 168, descriptorIndex := 21, attributes := #[] }, { accessFlags := 2, nameIndex := 75, descriptorIndex := 17, attributes := #[] }, { accessFlags := 2, nameIndex := 78, descriptorIndex := 17, attributes := #[] }, { accessFlags := 2, nameIndex := 129, descriptorIndex := 130, attributes := #[] }, { accessFlags := 2, nameIndex := 16, descriptorIndex := 17, attributes := #[] }, { accessFlags := 2, nameIndex := 20, descriptorIndex := 21, attributes := #[] }, { accessFlags := 2, nameIndex := 26, descriptorIndex := 21, attributes := #[] }, { accessFlags := 2, nameIndex := 29, descriptorIndex := 21, attributes := #[] }, { accessFlags := 2, nameIndex := 101, descriptorIndex := 17, attributes := #[] }, { accessFlags := 18, nameIndex := 38, descriptorIndex := 39, attributes := #[] }])
  fields := #[{ name := "END", type := .int, accessFlags := 24, slot := 0, constantValue := 0 }, { name := "LONGEST_RECORD", type := .int, accessFlags := 24, slot := 1, constantValue := 0 }, { name := "NOT_UTF8", type := (.object "java/lang/String"), accessFlags := 24, slot := 2, constantValue := 0 }, { name := "CR", type := .byte, accessFlags := 26, slot := 3, constantValue := 0 }, { name := "LF", type := .byte, accessFlags := 26, slot := 4, constantValue := 0 }, { name := "BYTE_ORDER_MARK", type := .char, accessFlags := 26, slot := 5, constantValue := 0 }, { name := "LONGEST_SEQUENCE", type := .int, accessFlags := 26, slot := 6, constantValue := 0 }, { name := "BUFFER_BYTES", type := .int, accessFlags := 26, slot := 7, constantValue := 0 }, { name := "NO_CACHE", type := (.object "com/example/slotwise/slotwise/io/TextCache"), accessFlags := 26, slot := 8, constantValue := 0 }, { name := "in", type := (.object "java/io/InputStream"), accessFlags := 18, slot := 0, constantValue := 0 }, { name := "source", type := (.object "java/lang/String"), accessFlags := 18, slot := 1, constantValue := 0 }, { name := "buffer", type := (.array .byte), accessFlags := 18, slot := 2, constantValue := 0 }, { name := "bufferStart", type := .long, accessFlags := 2, slot := 3, constantValue := 0 }, { name := "position", type := .int, accessFlags := 2, slot := 4, constantValue := 0 }, { name := "limit", type := .int, accessFlags := 2, slot := 5, constantValue := 0 }, { name := "drained", type := .boolean, accessFlags := 2, slot := 6, constantValue := 0 }, { name := "pendingLow", type := .int, accessFlags := 2, slot := 7, constantValue := 0 }, { name := "line", type := .long, accessFlags := 2, slot := 8, constantValue := 0 }, { name := "afterLastCr", type := .long, accessFlags := 2, slot := 9, constantValue := 0 }, { name := "recordLine", type := .long, accessFlags := 2, slot := 10, constantValue := 0 }, { name := "recordLength", type := .int, accessFlags := 2, slot := 11, constantValue := 0 }, { name := "longRun", type := (.object "com/example/slotwise/slotwise/io/LongRun"), accessFlags := 18, slot := 12, constantValue := 0 }]
  methods := #[k4m0]
  instanceTypes := #[(.object "java/io/InputStream"), (.object "java/lang/String"), (.array .byte), .long, .int, .int, .boolean, .int, .long, .long, .long, .int, (.object "com/example/slotwise/slotwise/io/LongRun")]
  staticTypes := #[.int, .int, (.object "java/lang/String"), .byte, .byte, .char, .int, .int, (.object "com/example/slotwise/slotwise/io/TextCache")]
  resolved := Array.replicate 262 none
  statics := none }

def pool5 : Array CpInfo := pool [(1, u "java/lang/Cloneable"), (0, .class_ 1), (0, u "java/lang/Object"), (0, .class_ 3)] 3

/-- java/lang/Cloneable -/
def k5 : Class := { plain "java/lang/Cloneable" (some 0) with
  accessFlags := 1537
  interfaces := #[]
  cf := some (fileOf pool5 2 #[] #[] 1537 4 #[] #[])
  fields := #[]
  methods := #[]
  instanceTypes := #[]
  staticTypes := #[]
  resolved := Array.replicate 8 none
  statics := none }

def pool6 : Array CpInfo := pool [(1, u "java/io/Serializable"), (0, .class_ 1), (0, u "java/lang/Object"), (0, .class_ 3)] 3

/-- java/io/Serializable -/
def k6 : Class := { plain "java/io/Serializable" (some 0) with
  accessFlags := 1537
  interfaces := #[]
  cf := some (fileOf pool6 2 #[] #[] 1537 4 #[] #[])
  fields := #[]
  methods := #[]
  instanceTypes := #[]
  staticTypes := #[]
  resolved := Array.replicate 8 none
  statics := none }

/-- the primitive byte -/
def k7 : Class := { plain "byte" none with kind := .primitive 'B', accessFlags := 0x411 }
/-- [B -/
def k8 : Class := { plain "[B" (some 0) with kind := .array 7 .byte, interfaces := #[5, 6], accessFlags := 1041 }

/-- the primitive int -/
def k9 : Class := { plain "int" none with kind := .primitive 'I', accessFlags := 0x411 }
/-- [I -/
def k10 : Class := { plain "[I" (some 0) with kind := .array 9 .int, interfaces := #[5, 6], accessFlags := 1041 }

def heap : Heap := #[]
def classes : Array Class := #[k0, k1, k2, k3, k4, k5, k6, k7, k8, k9, k10]
def interned : List (Array UInt16 × Addr) := []
def slotsUsed : Nat := 0
def theMethod : MethodId := ⟨1, 1⟩
def args0 : Array Value := #[.int 5, .int 3]
def aboutOver (below : List Frame) : State where
  vm := { classes := classes, interned := interned.toArray }
  heap := heap
  slotsUsed := slotsUsed
  threads := #[{ frames := .invoking theMethod args0 :: below }]
def below0 : List Frame := [.native { method := ⟨0, 0⟩, args := #[] }]
def about1 : State := aboutOver below0
def p0 : Program := .bare "" "" ""
def e0 : Env := launch0.env 0 0 0
theorem w_frames : about1.frames = Frame.invoking theMethod args0 :: below0 := rfl
set_option maxRecDepth 65536 in
theorem w_args : argsFit about1.vm theMethod args0 = true := by decide +kernel
set_option maxRecDepth 65536 in
theorem w_heap : heapFits about1 = true := by decide +kernel
set_option maxRecDepth 65536 in
theorem w_runnable : about1.curStatus? = some .runnable := by decide +kernel
set_option maxRecDepth 65536 in
theorem w_alone : about1.alone = true := by decide +kernel
set_option maxRecDepth 65536 in
theorem w_named : about1.methodNamed? x = some theMethod := by decide +kernel
set_option maxRecDepth 65536 in
theorem w_hears : about1.hears theMethod below0 = true := by decide +kernel
set_option maxRecDepth 65536 in
theorem w_ripe : about1.ripe theMethod args0 below0 = true := by decide +kernel
theorem w_running : about1.status = .running := rfl
set_option maxRecDepth 65536 in
theorem w_room : about1.hasRoom e0.platform room_1 = true :=
  launch0.hasRoom_least _ room_1 (by decide +kernel) (by decide +kernel) (by decide +kernel) (by decide +kernel) (by decide +kernel) (by decide +kernel)
theorem allAtoms_all (ts : List Jvm.Cond) (a : Array Jvm.Value) (st : Jvm.State) : (allAtoms ts).before a st = ts.all (fun c => c.before a st) := by
  induction ts with
  | nil => rfl
  | cons c t ih =>
    show (Jvm.Cond.and c (allAtoms t)).before a st = _
    rw [Jvm.Cond.before_and, ih, List.all_cons]
def words1 : List Jvm.Cond := Jvm.Cond.code x code maxLocals ret :: tables_1
/-- a 'code' word, met by the world's own term for the bytes: nothing is compared byte by byte -/
theorem code_word {y : MethodName} {bytes : ByteArray} {mx : Nat} {rt : Option FieldType} {a : Array Value} {s : State} {m : MethodId} {meth : Method} {c : Code} (h1 : s.methodNamed? y = some m) (h2 : s.vm.method? m = some meth) (h3 : meth.code = some c) (h4 : c.code = bytes)
    (h5 : (c.maxLocals == mx && c.exceptionTable.isEmpty && decide (c.maxStack ≤ mostOperands) && decide (meth.sig.returnType = rt) && !meth.locks && decide (parseMethodDescriptor y.desc = some meth.sig)) = true) : (Jvm.Cond.code y bytes mx rt).before a s = true := by
  simp only [Bool.and_eq_true, beq_iff_eq, Bool.not_eq_true', decide_eq_true_eq] at h5
  obtain ⟨⟨⟨⟨⟨g1, g2⟩, g3⟩, g4⟩, g5⟩, g6⟩ := h5
  simp [Cond.before, Cond.holds, Cond.value, h1, h2, h3, h4, g1, g2, g3, g4, g5, g6]
def isCode : Jvm.Cond → Bool
  | .code _ _ _ _ => true
  | _ => false
theorem all_split {L : List Jvm.Cond} {P : Jvm.Cond → Bool} (h1 : L.all (fun c => isCode c || P c) = true) (h2 : ∀ c ∈ L.filter isCode, P c = true) : L.all P = true := by
  refine List.all_eq_true.mpr fun c hc => ?_
  have h := List.all_eq_true.mp h1 c hc
  rcases Bool.eq_false_or_eq_true (isCode c) with hi | hi
  · exact h2 c (List.mem_filter.mpr ⟨hc, hi⟩)
  · simpa [hi] using h
set_option maxRecDepth 65536 in
theorem w_c0 : (Jvm.Cond.code x code maxLocals ret).before args0 about1 = true := code_word (m := ⟨1, 1⟩) (meth := k1m1) (c := k1c1) (by decide +kernel) rfl rfl rfl (by decide +kernel)
set_option maxRecDepth 65536 in
theorem w_c1 : (Jvm.Cond.code ({ cls := "com/example/slotwise/slotwise/io/InputText", name := "endsLine", desc := "(I)Z" } : Jvm.MethodName) prog_82_method_3_code (1 : Nat) (Option.some Jvm.ClassFile.FieldType.boolean)).before args0 about1 = true := code_word (m := ⟨4, 0⟩) (meth := k4m0) (c := k4c0) (by decide +kernel) rfl rfl rfl (by decide +kernel)
set_option maxRecDepth 65536 in
theorem w_c2 : (Jvm.Cond.code ({ cls := "com/example/slotwise/slotwise/io/InputTextEndsLinePinLaw", name := "isRoot", desc := "(I)Z" } : Jvm.MethodName) method_3_code (7 : Nat) (Option.some Jvm.ClassFile.FieldType.boolean)).before args0 about1 = true := code_word (m := ⟨1, 2⟩) (meth := k1m2) (c := k1c2) (by decide +kernel) rfl rfl rfl (by decide +kernel)
def codes1 : List Jvm.Cond := [Jvm.Cond.code x code maxLocals ret, Jvm.Cond.code ({ cls := "com/example/slotwise/slotwise/io/InputText", name := "endsLine", desc := "(I)Z" } : Jvm.MethodName) prog_82_method_3_code (1 : Nat) (Option.some Jvm.ClassFile.FieldType.boolean), Jvm.Cond.code ({ cls := "com/example/slotwise/slotwise/io/InputTextEndsLinePinLaw", name := "isRoot", desc := "(I)Z" } : Jvm.MethodName) method_3_code (7 : Nat) (Option.some Jvm.ClassFile.FieldType.boolean)]
set_option maxRecDepth 65536 in
theorem codes_eq : words1.filter isCode = codes1 := rfl
theorem w_codes : ∀ c ∈ words1.filter isCode, c.before args0 about1 = true := by
  rw [codes_eq]
  intro c hc
  simp only [codes1, List.mem_cons, List.not_mem_nil, or_false] at hc
  rcases hc with rfl | rfl | rfl
  · exact w_c0
  · exact w_c1
  · exact w_c2
set_option maxRecDepth 65536 in
theorem w_t1 : words1.all (fun c => isCode c || c.before args0 about1) = true := by decide +kernel
theorem w_tables : (allAtoms (Jvm.Cond.code x code maxLocals ret :: tables_1)).before args0 about1 = true := by
  rw [allAtoms_all]
  show words1.all (fun c => c.before args0 about1) = true
  refine all_split ?_ w_codes
  rw [w_t1]
set_option maxRecDepth 65536 in
theorem w_case : (Jvm.Cond.and given_1 narrow_1).before args0 about1 = true := by decide +kernel
theorem w_applies : (headSpec (Jvm.Cond.code x code maxLocals ret :: tables_1) room_1).applies x e0.platform about1 = true :=
  (Spec.applies_iff w_frames).mpr ⟨w_running, w_runnable, w_alone, w_named, w_hears, w_ripe, w_room, w_tables⟩
theorem atStart : AtStart classFile x code maxLocals ret World_1 tables_1 room_1 Calls_1 rest_1 Pre_1 launch0 p0 e0 about1 theMethod args0 below0 :=
  ⟨lists_1, trivial, launch0.admits_env _ _ _, launch0.least_env, fairChoices_fair.cas, fairChoices_fair.clock, w_frames, w_args, w_heap, w_applies, trivial, trivial, w_case⟩
end start1
theorem witness_1 : WitnessClaimed_1 := ⟨start1.p0, start1.e0, start1.about1, start1.theMethod, start1.args0, start1.below0, start1.atStart⟩
end Jvm.Pilot.@@N@@
