import JvmDerived
import JvmDerived.Pilot.@@N@@Statement
import JvmDerived.Pilot.@@N@@Code
set_option linter.unusedVariables false
set_option linter.unusedSimpArgs false
namespace Jvm.Pilot.@@N@@
namespace W
open Jvm Jvm.ClassFile Sem Op Lib Jvm.Free Jvm.Stand Jvm.LawKit Jvm.RoadKit Bundle
/-! the run goes on from here and ends as P says -/
def Go (p : Program) (e : Env) (below : List Frame) (P : Outcome → State → Prop) (T : State) (f : JFrame) : Prop :=
  ∃ t o, Steps p.tables e below (T.setTop f) t ∧ t.status = .running ∧ Ended t below o ∧ P o t
theorem Go.of {p : Program} {e : Env} {below : List Frame} {P : Outcome → State → Prop} {T T' : State} {f f' : JFrame}
    (h : ∀ target, Steps p.tables e below (T'.setTop f') target → Steps p.tables e below (T.setTop f) target) (k : Go p e below P T' f') : Go p e below P T f := by
  obtain ⟨t, o, h1, h2⟩ := k
  exact ⟨t, o, h t h1, h2⟩
theorem Go.cast {p : Program} {e : Env} {below : List Frame} {P : Outcome → State → Prop} {T : State} {f f' : JFrame} (q : f = f') (k : Go p e below P T f') : Go p e below P T f := q ▸ k
/-! what has moved since h0: the old objects ws at the most, and new ones -/
def Mv (h0 h : Heap) (ws : List Addr) (L : List Loc) : Prop := Keep h0 h ws ∧ ∀ y ∈ L, y.base ∈ ws ∨ h0.size ≤ y.base
section Mvs
variable {h0 h h' : Heap} {ws ws' : List Addr} {L L' : List Loc} {a : Addr} {sl : Nat} {v : Value}
theorem Mv.refl (h : Heap) (ws : List Addr) : Mv h h ws [] := ⟨Keep.refl h ws, fun _ q => nomatch q⟩
theorem Mv.le (M : Mv h0 h ws L) : h0.size ≤ h.size := M.1.1
theorem Mv.ext (M : Mv h0 h ws L) (E : Ext h h') : Mv h0 h' ws L := ⟨M.1.ext E, M.2⟩
theorem Mv.wr (M : Mv h0 h ws L) (W : Wr h h' a sl v) (q : a ∈ ws ∨ h0.size ≤ a) : Mv h0 h' ws (L ++ [⟨a, sl⟩]) :=
  ⟨M.1.wr W q, fun y hy => (List.mem_append.mp hy).elim (M.2 y) fun z => by cases List.mem_singleton.mp z; exact q⟩
theorem Mv.app (M : Mv h0 h ws L) (M' : Mv h h' ws' L') (q : ∀ x ∈ ws', x ∈ ws ∨ h0.size ≤ x) : Mv h0 h' ws (L ++ L') :=
  ⟨M.1.trans M'.1 q, fun y hy => (List.mem_append.mp hy).elim (M.2 y) fun z => (M'.2 y z).elim (q _) fun r => Or.inr (Nat.le_trans M.1.1 r)⟩
theorem Mv.app0 (M : Mv h0 h ws L) (M' : Mv h h' [] L') : Mv h0 h' ws (L ++ L') := M.app M' fun _ q => nomatch q
theorem keepE (E : Ext h h') : Keep h h' [] := (Keep.refl h []).ext E
theorem Mv.fr (M : Mv h0 h [] L) : Fr h0.size L := fun y hy => (M.2 y hy).elim (fun q => nomatch q) id
theorem Mv.ofFr {n0 : Nat} (K : Keep h0 h ws) (F : ∀ y ∈ L, y.base ∈ ws) : Mv h0 h ws L := ⟨K, fun y hy => Or.inl (F y hy)⟩
end Mvs
theorem StaKeep {Z : State} {h h' : Heap} {C n d : String} {v : Value} {ws : List Addr} (F : Sta Z h C n d v) (K : Keep h h' ws) (q : ∀ x ∈ ws, ∀ c : Cell, h[x]? = some c → c.vm.isStatics = false) : Sta Z h' C n d v := by
  obtain ⟨cf, i, k, f, st, cell, h1, h2, h3, h4, h5, h6, h7⟩ := F
  refine ⟨cf, i, k, f, st, cell, h1, h2, h3, h4, K.2.1 _ _ h5 (fun z => ?_), h6, h7⟩
  rw [q st z cell h5] at h6; cases h6
theorem staExa {Z : State} {h : Heap} {a : Addr} {C : String} (F : Exa Z h a C) : ∀ c : Cell, h[a]? = some c → c.vm.isStatics = false := fun c hc => by
  obtain ⟨c', _, h1, -, -, h4, -⟩ := F; cases h1.symm.trans hc; exact h4
theorem staArv {Z : State} {h : Heap} {a : Addr} {k : ClassId} {ty : FieldType} {n : Int32} {vs : List Value} {d : Value} (F : Arv Z h a k ty n vs d) : ∀ c : Cell, h[a]? = some c → c.vm.isStatics = false := fun c hc => by
  obtain ⟨c', A, -⟩ := F; cases A.1.symm.trans hc; exact A.plain
/-! a contract -/
def MeetsW (l : Launch) (Z : State) (y : MethodName) (bytes : ByteArray) (maxL : Nat) (ret : Option FieldType) (rm : Room) (as : Array Value) (h0 : Heap) (Q : Option Value → Heap → List Loc → Prop) : Prop :=
  ∀ ws : List Jvm.Cond, MetFree l y (head1 (Jvm.Cond.code y bytes maxL ret :: ws) rm) (fun a U => a = as ∧ Z.Warmed39 U.vm ∧ U.heap = h0) (fun _ _ _ _ _ => True)
    (fun _ U o U' => ∃ v L, o = .returned v ∧ Q v U'.heap L ∧ FrameEnd U o U' L rm.cells rm.slots)
def Pu (h : Heap) (S : Option Value → Prop) (v : Option Value) (h' : Heap) (L : List Loc) : Prop := L = [] ∧ h' = h ∧ S v
theorem MeetsW.of {l : Launch} {Z : State} {y : MethodName} {bytes : ByteArray} {maxL : Nat} {ret : Option FieldType} {rm : Room} {as : Array Value} {h0 : Heap} {Q : Option Value → Heap → List Loc → Prop} (hpl : plainFor y = true)
    (body : ∀ (p : Program) (e : Env) (s : State) (m : MethodId) (below : List Frame) (meth : Method) (c : Code) (s₁ : State) (P : Outcome → State → Prop), p.tables.exec = Jvm.exec → c.code = bytes → c.maxLocals = maxL → Z.Warmed39 s.vm → s.vm.findClass y.cls = some m.cls → meth.name = y.name → meth.sig.returnType = ret → meth.locks = false →
      Stand p l e rm s m as below meth c s₁ [] 0 0 → s₁.heap = h0 → (∀ v t L, Q v t.heap L → FrameEnd s (.returned v) t L rm.cells rm.slots → P (.returned v) t) → Go p e below P s₁ (entryFrame m as maxL)) : MeetsW l Z y bytes maxL ret rm as h0 Q := by
  intro ws
  refine MetFree.of_bodySF hpl hisR ?_
  intro p e s m args below meth c s₁ Bd hml0 hP hK
  obtain ⟨rfl, hZ, hh⟩ := hP
  exact body p e s m below meth c s₁ _ Bd.exec Bd.bytes hml0 hZ (findClass_of_methodNamed Bd.named) (name_of_methodNamed Bd.named Bd.method).1 Bd.returns (BodyLoose.notSynchronized Bd) (Stand.of_body Bd) (by rw [← hh, Bd.state]; rfl) (fun v t L hq hf => ⟨v, L, rfl, hq, hf⟩)
/-! a call that comes back -/
def BK (l : Launch) (R : Room) (p : Program) (e : Env) (below : List Frame) (s : State) (args : Array Value) (y : MethodName) (W : Nat) (as : Array Value) (h : Heap) (C S : Nat) (Q : Option Value → Heap → List Loc → Prop) : Prop :=
  Back l R p e below s args y 3 W (fun A a => a = as ∧ A.U.heap = h ∧ A.cells + C ≤ R.cells ∧ A.slots + S ≤ R.slots)
    (fun A _ v B => ∃ L, Q v B.U.heap L ∧ B.locs = A.locs ++ L ∧ B.cells = A.cells + C ∧ B.slots = A.slots + S)
section Calls
variable {p : Program} {l : Launch} {e : Env} {R : Room} {s : State} {m : MethodId} {args : Array Value} {below : List Frame} {meth : Method} {c : Code} {T : State} {locs : List Loc} {cells slots : Nat} {Z : State} {a0 : Array Value} {h : Heap} {P : Outcome → State → Prop}
theorem standUp {C S : Nat} (X : Stand p l e R s m args below meth c T locs cells slots) (hc : cells ≤ C) (hs : slots ≤ S) : Stand p l e R s m args below meth c T locs C S :=
  ⟨X.admits, X.cas, X.clock, X.frames, X.room, X.hears, X.method, X.code, X.here, X.tail, X.warmed, X.limits, X.bytes, X.same.mono hc hs⟩
theorem MeetsW.bk {y : MethodName} {bytes : ByteArray} {maxL : Nat} {ret : Option FieldType} {rm : Room} {as : Array Value} {Q : Option Value → Heap → List Loc → Prop} {W : Nat} (M : MeetsW l Z y bytes maxL ret rm as h Q) (hZ : Z.Warmed39 s.vm)
    (wc : (Jvm.Cond.code y bytes maxL ret).before a0 Z = true) (wz : (Jvm.Cond.initialized y.cls).before a0 Z = true) (hf : rm.frames + 1 ≤ R.frames) (hl : W + (maxL + 11) + rm.locals ≤ R.locals) : BK l R p e below s args y W as h rm.cells rm.slots Q :=
  backOf (M []) hZ wc wz hf hl
theorem BK.mono {y : MethodName} {W : Nat} {as : Array Value} {C S : Nat} {Q Q' : Option Value → Heap → List Loc → Prop} (B : BK l R p e below s args y W as h C S Q) (q : ∀ v h' L, Q v h' L → Q' v h' L) : BK l R p e below s args y W as h C S Q' :=
  Back.mono B (fun _ _ z => z) (fun _ _ _ _ _ ⟨L, z, r⟩ => ⟨L, q _ _ _ z, r⟩)
theorem goS (X : Stand p l e R s m args below meth c T locs cells slots) (hx : p.tables.exec = Jvm.exec) (hZ : Z.Warmed39 s.vm) {own : String} {index : Nat} {y : MethodName} {bytes : ByteArray} {maxL : Nat} {ret : Option FieldType} (hown : s.vm.findClass own = some m.cls)
    (w1 : (Jvm.Cond.methodLink own index y).before a0 Z = true) (w2 : (Jvm.Cond.static y).before a0 Z = true) (w3 : (Jvm.Cond.initialized y.cls).before a0 Z = true) (w4 : (Jvm.Cond.code y bytes maxL ret).before a0 Z = true) (hy : y.cls ≠ "java/lang/invoke/MethodHandle" ∧ y.cls ≠ "java/lang/invoke/VarHandle")
    {W C S : Nat} {as : Array Value} {Q : Option Value → Heap → List Loc → Prop} (B : BK l R p e below s args y W as h C S Q) (eT : T.heap = h) {pc : Nat} {Ls : Array Slot} {st argsL rest : List Value} (hml : Ls.size = c.maxLocals)
    (hlen : ∀ sig, parseMethodDescriptor y.desc = some sig → argsL.length = sig.parameters.length) (hst : st = argsL.reverse ++ rest) (has : argsL.toArray = as) (hd : decode c.code pc = .ok (.invokestatic index, 3)) (hW : (rest.map fun v => v.category).sum ≤ W) (hc : cells + C ≤ R.cells) (hs : slots + S ≤ R.slots)
    (k : ∀ v T' L, Stand p l e R s m args below meth c T' (locs ++ L) (cells + C) (slots + S) → Q v T'.heap L → Go p e below P T' (mkF m (pc + 3) Ls (v.toList ++ rest))) : Go p e below P T (mkF m pc Ls st) := by
  obtain ⟨v, _, ⟨T', L', k', n'⟩, -, X', ⟨Lc, hQ, l1, l2, l3⟩, stp⟩ := Jvm.LawKit.callS X hx hown (mvT hZ w1) (mvT hZ w2) (mvT hZ w3) (mvT hZ w4) hy B (g := mkF m pc Ls st) rfl hml hlen hst (by show 2 * 0 + _ ≤ _; simpa using hW) hd (fun _ _ => ⟨has, eT, hc, hs⟩)
  dsimp only [Pt.U, Pt.locs, Pt.cells, Pt.slots] at X' l1 l2 l3 stp hQ
  subst l1 l2 l3
  exact Go.of stp (k v T' Lc X' hQ)
theorem goI (X : Stand p l e R s m args below meth c T locs cells slots) (hx : p.tables.exec = Jvm.exec) (hZ : Z.Warmed39 s.vm) {own : String} {index : Nat} {y : MethodName} {bytes : ByteArray} {maxL : Nat} (hn : y.name = "<init>") (hown : s.vm.findClass own = some m.cls)
    (w1 : (Jvm.Cond.methodLink own index y).before a0 Z = true) (w2 : (Jvm.Cond.instanceMethod y).before a0 Z = true) (w4 : (Jvm.Cond.code y bytes maxL none).before a0 Z = true) (hy : y.cls ≠ "java/lang/invoke/MethodHandle" ∧ y.cls ≠ "java/lang/invoke/VarHandle")
    {W C S : Nat} {as : Array Value} {Q : Option Value → Heap → List Loc → Prop} (B : BK l R p e below s args y W as h C S Q) (eT : T.heap = h) {pc : Nat} {Ls : Array Slot} {a : Addr} {st argsL rest : List Value} (hml : Ls.size = c.maxLocals)
    (hlen : ∀ sig, parseMethodDescriptor y.desc = some sig → argsL.length = sig.parameters.length) (hst : st = argsL.reverse ++ .ref a :: rest) (has : (.ref a :: argsL).toArray = as) (hd : decode c.code pc = .ok (.invokespecial index, 3)) (hW : (rest.map fun v => v.category).sum ≤ W) (hc : cells + C ≤ R.cells) (hs : slots + S ≤ R.slots)
    (k : ∀ v T' L, Stand p l e R s m args below meth c T' (locs ++ L) (cells + C) (slots + S) → Q v T'.heap L → Go p e below P T' (mkF m (pc + 3) Ls (v.toList ++ rest))) : Go p e below P T (mkF m pc Ls st) := by
  obtain ⟨v, _, ⟨T', L', k', n'⟩, -, X', ⟨Lc, hQ, l1, l2, l3⟩, stp⟩ := X.specialBack hx hn hown (mvT hZ w1) (mvT hZ w2) (mvT hZ w4) hy B (g := mkF m pc Ls st) rfl hml (Steps.refl _) hlen hst (by show 2 * 0 + _ ≤ _; simpa using hW) hd (fun _ _ => ⟨has, eT, hc, hs⟩)
  dsimp only [Pt.U, Pt.locs, Pt.cells, Pt.slots] at X' l1 l2 l3 stp hQ
  subst l1 l2 l3
  exact Go.of (fun _ z => stp.trans z) (k v T' Lc X' hQ)
theorem goV (X : Stand p l e R s m args below meth c T locs cells slots) (hx : p.tables.exec = Jvm.exec) (hZ : Z.Warmed39 s.vm) {own K : String} {index : Nat} {y z : MethodName} (hown : s.vm.findClass own = some m.cls)
    (w1 : (Jvm.Cond.methodLink own index y).before a0 Z = true) (w2 : (Jvm.Cond.declares y).before a0 Z = true) (hnf : NotFace s y) (w3 : (Jvm.Cond.selects K y z).before a0 Z = true) (w4 : (Jvm.Cond.instanceMethod z).before a0 Z = true) (hy : y.cls ≠ "java/lang/invoke/MethodHandle" ∧ y.cls ≠ "java/lang/invoke/VarHandle")
    {W C S : Nat} {as : Array Value} {Q : Option Value → Heap → List Loc → Prop} (B : BK l R p e below s args z W as h C S Q) (eT : T.heap = h) {b : Addr} (E : Exa Z h b K) {pc : Nat} {Ls : Array Slot} {st argsL rest : List Value} (hml : Ls.size = c.maxLocals)
    (hlen : ∀ sig, parseMethodDescriptor y.desc = some sig → argsL.length = sig.parameters.length) (hst : st = argsL.reverse ++ .ref b :: rest) (has : (.ref b :: argsL).toArray = as) (hd : decode c.code pc = .ok (.invokevirtual index, 3)) (hW : (rest.map fun v => v.category).sum ≤ W) (hc : cells + C ≤ R.cells) (hs : slots + S ≤ R.slots)
    (k : ∀ v T' L, Stand p l e R s m args below meth c T' (locs ++ L) (cells + C) (slots + S) → Q v T'.heap L → Go p e below P T' (mkF m (pc + 3) Ls (v.toList ++ rest))) : Go p e below P T (mkF m pc Ls st) := by
  obtain ⟨cq, kq, qa, -, qc⟩ := isOf hZ eT E
  obtain ⟨v, _, ⟨T', L', k', n'⟩, -, X', ⟨Lc, hQ, l1, l2, l3⟩, stp⟩ := X.virtualBack hx hown (mvT hZ w1) (mvT hZ w2) hnf (mvT hZ w3) (mvT hZ w4) hy B qa qc (g := mkF m pc Ls st) rfl hml (Steps.refl _) hlen hst (by show 2 * 0 + _ ≤ _; simpa using hW) hd (fun _ _ => ⟨has, eT, hc, hs⟩)
  dsimp only [Pt.U, Pt.locs, Pt.cells, Pt.slots] at X' l1 l2 l3 stp hQ
  subst l1 l2 l3
  exact Go.of (fun _ z => stp.trans z) (k v T' Lc X' hQ)
theorem goP (X : Stand p l e R s m args below meth c T locs cells slots) (hx : p.tables.exec = Jvm.exec) (hZ : Z.Warmed39 s.vm) {own : String} {index n : Nat} {y : MethodName} {bytes : ByteArray} {maxL : Nat} {ret : Option FieldType} (hown : s.vm.findClass own = some m.cls)
    (w1 : (Jvm.Cond.methodLink own index y).before a0 Z = true) (w2 : (Jvm.Cond.instanceMethod y).before a0 Z = true) (w3 : (Jvm.Cond.privateMethod y).before a0 Z = true) (w4 : (Jvm.Cond.code y bytes maxL ret).before a0 Z = true) (wi : (Jvm.Cond.instantiable y.cls n).before a0 Z = true) (hy : y.cls ≠ "java/lang/invoke/MethodHandle" ∧ y.cls ≠ "java/lang/invoke/VarHandle")
    {W C S : Nat} {as : Array Value} {Q : Option Value → Heap → List Loc → Prop} (B : BK l R p e below s args y W as h C S Q) (eT : T.heap = h) {b : Addr} {K : String} (E : Exa Z h b K) {pc : Nat} {Ls : Array Slot} {st argsL rest : List Value} (hml : Ls.size = c.maxLocals)
    (hlen : ∀ sig, parseMethodDescriptor y.desc = some sig → argsL.length = sig.parameters.length) (hst : st = argsL.reverse ++ .ref b :: rest) (has : (.ref b :: argsL).toArray = as) (hd : decode c.code pc = .ok (.invokevirtual index, 3)) (hW : (rest.map fun v => v.category).sum ≤ W) (hc : cells + C ≤ R.cells) (hs : slots + S ≤ R.slots)
    (k : ∀ v T' L, Stand p l e R s m args below meth c T' (locs ++ L) (cells + C) (slots + S) → Q v T'.heap L → Go p e below P T' (mkF m (pc + 3) Ls (v.toList ++ rest))) : Go p e below P T (mkF m pc Ls st) := by
  have hp := Cond.privateMethod_at (mvP hZ w3 (args := args))
  obtain ⟨ci, ki, i1, i2, i3, i4, i5, -⟩ := Cond.instantiable_spec (mvT hZ wi (args := args))
  have hsel : (Jvm.Cond.selects y.cls y y).before args s = true := Jvm.Stand.selects_self_of_private i1 i2 (Bool.or_eq_false_iff.mp i4).1 hp (mvT hZ w2) hy
  obtain ⟨cq, q1, q2⟩ := E.cell
  obtain ⟨v, _, ⟨T', L', k', n'⟩, -, X', ⟨Lc, hQ, l1, l2, l3⟩, stp⟩ := X.privateBack hx hown (mvT hZ w1) (mvT hZ w2) hsel hp (mvT hZ w4) hy B (g := mkF m pc Ls st) rfl hml (Steps.refl _) (by rw [eT]; exact q1) q2 hlen hst (by show 2 * 0 + _ ≤ _; simpa using hW) hd (fun _ _ => ⟨has, eT, hc, hs⟩)
  dsimp only [Pt.U, Pt.locs, Pt.cells, Pt.slots] at X' l1 l2 l3 stp hQ
  subst l1 l2 l3
  exact Go.of (fun _ z => stp.trans z) (k v T' Lc X' hQ)
/-! pure: what a contract 'Pu' gives -/
theorem standNil {L : List Loc} (X : Stand p l e R s m args below meth c T (locs ++ L) (cells + 0) (slots + 0)) (q : L = []) : Stand p l e R s m args below meth c T locs cells slots := by
  subst q; rw [List.append_nil] at X; exact X
/-! the end -/
theorem goRet0 (X : Stand p l e R s m args below meth c T locs cells slots) (hx : p.tables.exec = Jvm.exec) (hret : meth.sig.returnType = none) (hlk : meth.locks = false) {pc : Nat} {Ls : Array Slot} {C S : Nat} {Q : Option Value → Heap → List Loc → Prop}
    (hd : decode c.code pc = .ok (.return_, 1)) (K : ∀ v t L, Q v t.heap L → FrameEnd s (.returned v) t L C S → P (.returned v) t) (hc : cells ≤ C) (hs : slots ≤ S) (eT : T.heap = h) (hq : Q none h locs) : Go p e below P T (mkF m pc Ls []) := by
  obtain ⟨fs, hr, hrun, hended, hW, hsame⟩ := X.leave (v := none) (fun _ => rfl) hlk
  exact ⟨_, _, X.returnOut hx hret hd hr, hrun, hended, K _ _ _ (by rw [← eT] at hq; exact hq) ⟨⟨_, rfl⟩, hW, hsame.mono hc hs⟩⟩
theorem goRet (X : Stand p l e R s m args below meth c T locs cells slots) (hx : p.tables.exec = Jvm.exec) {t : FieldType} (hret : meth.sig.returnType = some t) (hlk : meth.locks = false) {pc : Nat} {Ls : Array Slot} {C S : Nat} {w : Value} {rest : List Value} {i : Instr} {Q : Option Value → Heap → List Loc → Prop}
    (hn : narrow t w = w) (hi : (i = .ireturn ∧ (t = .int ∨ t = .boolean ∨ t = .byte ∨ t = .char ∨ t = .short) ∧ ∃ z, w = .int z) ∨ (i = .lreturn ∧ t = .long ∧ ∃ z, w = .long z) ∨ (i = .dreturn ∧ t = .double ∧ ∃ z, w = .double z) ∨ (i = .freturn ∧ t = .float ∧ ∃ z, w = .float z) ∨ (i = .areturn ∧ t.isReference = true ∧ w.isRef = true))
    (hd : decode c.code pc = .ok (i, 1)) (K : ∀ v t L, Q v t.heap L → FrameEnd s (.returned v) t L C S → P (.returned v) t) (hc : cells ≤ C) (hs : slots ≤ S) (eT : T.heap = h) (hq : Q (some w) h locs) : Go p e below P T (mkF m pc Ls (w :: rest)) := by
  obtain ⟨fs, hr, hrun, hended, hW, hsame⟩ := X.leave (v := some w) (fun q => by rw [hret] at q; cases q) hlk
  exact ⟨_, _, retOut X hx hret hn hi hd hr, hrun, hended, K _ _ _ (by rw [← eT] at hq; exact hq) ⟨⟨_, rfl⟩, hW, hsame.mono hc hs⟩⟩
theorem goRetI (X : Stand p l e R s m args below meth c T locs cells slots) (hx : p.tables.exec = Jvm.exec) {t : FieldType} (hret : meth.sig.returnType = some t) (hlk : meth.locks = false) {pc : Nat} {Ls : Array Slot} {C S : Nat} {z : Int32} {rest : List Value} {Q : Option Value → Heap → List Loc → Prop}
    (hn : narrow t (.int z) = .int z) (ht : t = .int ∨ t = .boolean ∨ t = .byte ∨ t = .char ∨ t = .short) (hd : decode c.code pc = .ok (.ireturn, 1)) (K : ∀ v t L, Q v t.heap L → FrameEnd s (.returned v) t L C S → P (.returned v) t) (hc : cells ≤ C) (hs : slots ≤ S) (eT : T.heap = h) (hq : Q (some (.int z)) h locs) : Go p e below P T (mkF m pc Ls (.int z :: rest)) :=
  goRet X hx hret hlk hn (Or.inl ⟨rfl, ht, z, rfl⟩) hd K hc hs eT hq
theorem goRetJ (X : Stand p l e R s m args below meth c T locs cells slots) (hx : p.tables.exec = Jvm.exec) (hret : meth.sig.returnType = some .long) (hlk : meth.locks = false) {pc : Nat} {Ls : Array Slot} {C S : Nat} {z : Int64} {rest : List Value} {Q : Option Value → Heap → List Loc → Prop}
    (hd : decode c.code pc = .ok (.lreturn, 1)) (K : ∀ v t L, Q v t.heap L → FrameEnd s (.returned v) t L C S → P (.returned v) t) (hc : cells ≤ C) (hs : slots ≤ S) (eT : T.heap = h) (hq : Q (some (.long z)) h locs) : Go p e below P T (mkF m pc Ls (.long z :: rest)) :=
  goRet X hx hret hlk rfl (Or.inr (Or.inl ⟨rfl, rfl, z, rfl⟩)) hd K hc hs eT hq
theorem goRetR (X : Stand p l e R s m args below meth c T locs cells slots) (hx : p.tables.exec = Jvm.exec) {t : FieldType} (hret : meth.sig.returnType = some t) (ht : t.isReference = true) (hlk : meth.locks = false) {pc : Nat} {Ls : Array Slot} {C S : Nat} {w : Value} {rest : List Value} {Q : Option Value → Heap → List Loc → Prop}
    (hw : w.isRef = true) (hn : narrow t w = w) (hd : decode c.code pc = .ok (.areturn, 1)) (K : ∀ v t L, Q v t.heap L → FrameEnd s (.returned v) t L C S → P (.returned v) t) (hc : cells ≤ C) (hs : slots ≤ S) (eT : T.heap = h) (hq : Q (some w) h locs) : Go p e below P T (mkF m pc Ls (w :: rest)) :=
  goRet X hx hret hlk hn (Or.inr (Or.inr (Or.inr (Or.inr ⟨rfl, ht, hw⟩)))) hd K hc hs eT hq
theorem lremM {g : JFrame} {target : State} (X : Stand p l e R s m args below meth c T locs cells slots) (hx : p.tables.exec = Jvm.exec) (hg : g.method = m) {x y : Int64} {rest : List Value} (hd : decode c.code g.pc = .ok (.lrem, 1)) (hs : g.stack = .long y :: .long x :: rest) (hy : y ≠ 0)
    (hr : Steps p.tables e below (T.setTop { g with pc := g.pc + 1, stack := .long (x % y) :: rest }) target) : Steps p.tables e below (T.setTop g) target := by
  have q : x - x / y * y = x % y := lrem_mod x y
  exact XS.lrem X.here hx hg hd hs hy (by rw [q]; exact hr)
end Calls
theorem refcat {v : Value} (h : v.isRef = true) : v.category = 1 := by rcases ref_cases h with rfl | ⟨a, rfl⟩ <;> rfl
theorem narref {t : FieldType} {v : Value} (h : v.isRef = true) : narrow t v = v := by rcases ref_cases h with rfl | ⟨a, rfl⟩ <;> cases t <;> rfl
theorem fitrefO {C : String} {v : Value} (h : v.isRef = true) : fits (.object C) v = true := by rcases ref_cases h with rfl | ⟨a, rfl⟩ <;> rfl
theorem fitrefA {t : FieldType} {v : Value} (h : v.isRef = true) : fits (.array t) v = true := by rcases ref_cases h with rfl | ⟨a, rfl⟩ <;> rfl
/-! booleans -/
def bi (φ : Prop) [Decidable φ] : Int32 := if φ then 1 else 0
theorem bi_t {φ : Prop} [Decidable φ] (h : φ) : bi φ = 1 := if_pos h
theorem bi_f {φ : Prop} [Decidable φ] (h : ¬ φ) : bi φ = 0 := if_neg h
theorem bi_ne {φ : Prop} [Decidable φ] (h : φ) : ¬ bi φ = 0 := by rw [bi_t h]; decide
theorem narrow_bi {φ : Prop} [Decidable φ] : narrow .boolean (.int (bi φ)) = .int (bi φ) := by unfold bi; split <;> rfl
end W
end Jvm.Pilot.@@N@@
namespace Jvm.Pilot.@@N@@
open Jvm Jvm.ClassFile Sem Op Lib Jvm.Free Jvm.Stand Jvm.LawKit Jvm.RoadKit Bundle Jvm.Pilot.@@N@@.Jvm.D Jvm.Pilot.@@N@@.W
/-! plain laws of longs -/
def maxL (x y : Int64) : Int64 := if x < y then y else x
def minL (x y : Int64) : Int64 := if y < x then y else x
def cmpJ (x y : Int64) : Int32 := if x < y then (-1 : Int32) else if x = y then (0 : Int32) else (1 : Int32)
def mulHi (q1 q2 : Int64) : Int64 :=
  (((q1 >>> ((32 : Int32) &&& 0x3f).toInt64) * (q2 >>> ((32 : Int32) &&& 0x3f).toInt64)) + ((((q1 >>> ((32 : Int32) &&& 0x3f).toInt64) * (q2 &&& (4294967295 : Int64))) + ((((q1 &&& (4294967295 : Int64)) * (q2 &&& (4294967295 : Int64))).toUInt64 >>> ((32 : Int32) &&& 0x3f).toInt64.toUInt64).toInt64)) >>> ((32 : Int32) &&& 0x3f).toInt64)) + (((((((q1 >>> ((32 : Int32) &&& 0x3f).toInt64) * (q2 &&& (4294967295 : Int64))) + ((((q1 &&& (4294967295 : Int64)) * (q2 &&& (4294967295 : Int64))).toUInt64 >>> ((32 : Int32) &&& 0x3f).toInt64.toUInt64).toInt64)) &&& (4294967295 : Int64)) + ((q1 &&& (4294967295 : Int64)) * (q2 >>> ((32 : Int32) &&& 0x3f).toInt64)))) >>> ((32 : Int32) &&& 0x3f).toInt64)
def cmpProd (a b c d : Int64) : Int32 := if mulHi a b = mulHi c d then cmpJ (a * b + (-9223372036854775808 : Int64)) (c * d + (-9223372036854775808 : Int64)) else cmpJ (mulHi a b) (mulHi c d)
abbrev wwl (li wn p cu el : Int64) : Prop := p.toInt * (wn - el).toInt ≤ (li - cu - 1).toInt * wn.toInt
theorem jlt {x y : Int64} : x < y ↔ x.toInt < y.toInt := Int64.lt_iff_toInt_lt
theorem jeq {x y : Int64} : x = y ↔ x.toInt = y.toInt := Int64.toInt_inj.symm
theorem jadd {x y : Int64} (h1 : -9223372036854775808 ≤ x.toInt + y.toInt) (h2 : x.toInt + y.toInt < 9223372036854775808) : (x + y).toInt = x.toInt + y.toInt := by
  have := c_ladd x y; have := rng64 (x + y); omega
theorem jsub {x y : Int64} (h1 : -9223372036854775808 ≤ x.toInt - y.toInt) (h2 : x.toInt - y.toInt < 9223372036854775808) : (x - y).toInt = x.toInt - y.toInt := by
  have := c_lsub x y; have := rng64 (x - y); omega
theorem jmul {x y : Int64} (h1 : -9223372036854775808 ≤ x.toInt * y.toInt) (h2 : x.toInt * y.toInt < 9223372036854775808) : (x * y).toInt = x.toInt * y.toInt := by
  have := c_lmul x y; have := rng64 (x * y); omega
theorem cmpJ_pos {x y : Int64} : (0 : Int32) < cmpJ x y ↔ y.toInt < x.toInt := by
  unfold cmpJ
  by_cases h1 : x < y
  · rw [if_pos h1]; rw [jlt] at h1; constructor
    · intro h; exact absurd h (by decide)
    · intro h; omega
  · rw [if_neg h1]
    by_cases h2 : x = y
    · rw [if_pos h2]; subst h2; constructor
      · intro h; exact absurd h (by decide)
      · intro h; omega
    · rw [if_neg h2]; rw [jlt] at h1; rw [jeq] at h2; constructor
      · intro _; omega
      · intro _; decide
theorem hi_arith (P11 P12 P21 P22 : Int) : P11 + (P12 + P22 / 4294967296) / 4294967296 + ((P12 + P22 / 4294967296) % 4294967296 + P21) / 4294967296 = (P11 * 18446744073709551616 + (P12 + P21) * 4294967296 + P22) / 18446744073709551616 := by
  have e : (18446744073709551616 : Int) = 4294967296 * 4294967296 := by decide
  rw [e, ← Int.ediv_ediv_of_nonneg (by decide)]
  have q1 : (P11 * (4294967296 * 4294967296) + (P12 + P21) * 4294967296 + P22) / 4294967296 = P11 * 4294967296 + P12 + P21 + P22 / 4294967296 := by omega
  rw [q1]
  generalize P22 / 4294967296 = u
  omega
theorem mulHi_eq (a b : Int64) : (mulHi a b).toInt = (a.toInt * b.toInt) / 18446744073709551616 := by
  have ra := rng64 a
  have rb := rng64 b
  have ha1 : (a >>> ((32 : Int32) &&& 0x3f).toInt64).toInt = a.toInt / 4294967296 := c_lshr a 32 32 rfl
  have hb1 : (b >>> ((32 : Int32) &&& 0x3f).toInt64).toInt = b.toInt / 4294967296 := c_lshr b 32 32 rfl
  have ha2 : (a &&& (4294967295 : Int64)).toInt = a.toInt % 4294967296 := c_maskL a 4294967295 32 (by decide) (by decide)
  have hb2 : (b &&& (4294967295 : Int64)).toInt = b.toInt % 4294967296 := c_maskL b 4294967295 32 (by decide) (by decide)
  unfold mulHi
  generalize (a >>> ((32 : Int32) &&& 0x3f).toInt64) = x1 at *
  generalize (b >>> ((32 : Int32) &&& 0x3f).toInt64) = y1 at *
  generalize (a &&& (4294967295 : Int64)) = x2 at *
  generalize (b &&& (4294967295 : Int64)) = y2 at *
  have e1 : a.toInt = x1.toInt * 4294967296 + x2.toInt := by omega
  have e2 : b.toInt = y1.toInt * 4294967296 + y2.toInt := by omega
  have bx1 : -2147483648 ≤ x1.toInt ∧ x1.toInt ≤ 2147483647 := by omega
  have by1 : -2147483648 ≤ y1.toInt ∧ y1.toInt ≤ 2147483647 := by omega
  have bx2 : 0 ≤ x2.toInt ∧ x2.toInt ≤ 4294967295 := by omega
  have by2 : 0 ≤ y2.toInt ∧ y2.toInt ≤ 4294967295 := by omega
  clear ha1 hb1 ha2 hb2 ra rb
  have m22 := mc bx2.1 bx2.2 by2.1 by2.2
  have m12 := mc bx1.1 bx1.2 by2.1 by2.2
  have m21 := mc bx2.1 bx2.2 by1.1 by1.2
  have m11 := mc bx1.1 bx1.2 by1.1 by1.2
  have ep : a.toInt * b.toInt = x1.toInt * y1.toInt * 18446744073709551616 + (x1.toInt * y2.toInt + x2.toInt * y1.toInt) * 4294967296 + x2.toInt * y2.toInt := by
    rw [e1, e2, Int.add_mul, Int.mul_add, Int.mul_add]
    have q1 : x1.toInt * 4294967296 * (y1.toInt * 4294967296) = x1.toInt * y1.toInt * 18446744073709551616 := by
      rw [Int.mul_assoc, Int.mul_left_comm 4294967296, ← Int.mul_assoc]; rfl
    have q2 : x1.toInt * 4294967296 * y2.toInt = x1.toInt * y2.toInt * 4294967296 := Int.mul_right_comm _ _ _
    have q3 : x2.toInt * (y1.toInt * 4294967296) = x2.toInt * y1.toInt * 4294967296 := (Int.mul_assoc _ _ _).symm
    rw [q1, q2, q3, Int.add_mul]
    generalize x1.toInt * y1.toInt * 18446744073709551616 = A1
    generalize x1.toInt * y2.toInt * 4294967296 = A2
    generalize x2.toInt * y1.toInt * 4294967296 = A3
    generalize x2.toInt * y2.toInt = A4
    omega
  rw [ep, ← hi_arith]
  clear ep e1 e2
  have b22 : 0 ≤ x2.toInt * y2.toInt ∧ x2.toInt * y2.toInt < 18446744073709551616 := by omega
  have b12 : -9223372036854775808 ≤ x1.toInt * y2.toInt ∧ x1.toInt * y2.toInt ≤ 9223372030412324865 := by omega
  have b21 : -9223372036854775808 ≤ x2.toInt * y1.toInt ∧ x2.toInt * y1.toInt ≤ 9223372030412324865 := by omega
  have b11 : -4611686018427387904 ≤ x1.toInt * y1.toInt ∧ x1.toInt * y1.toInt ≤ 4611686018427387904 := by omega
  clear m22 m12 m21 m11
  have k12 : (x1 * y2).toInt = x1.toInt * y2.toInt := jmul b12.1 (by omega)
  have k21 : (x2 * y1).toInt = x2.toInt * y1.toInt := jmul b21.1 (by omega)
  have k11 : (x1 * y1).toInt = x1.toInt * y1.toInt := jmul (by omega) (by omega)
  have hz2 : ((x2 * y2).toUInt64 >>> ((32 : Int32) &&& 0x3f).toInt64.toUInt64).toInt64.toInt = ((x2 * y2).toInt % 18446744073709551616) / 4294967296 := c_lushr (x2 * y2) 32 32 rfl (by decide)
  have cz2 := c_lmul x2 y2
  generalize x1.toInt * y1.toInt = P11 at *
  generalize x1.toInt * y2.toInt = P12 at *
  generalize x2.toInt * y1.toInt = P21 at *
  generalize x2.toInt * y2.toInt = P22 at *
  have ez : (x2 * y2).toInt % 18446744073709551616 = P22 := by omega
  rw [ez] at hz2
  clear ez cz2
  generalize ((x2 * y2).toUInt64 >>> ((32 : Int32) &&& 0x3f).toInt64.toUInt64).toInt64 = z2 at *
  have et : (x1 * y2 + z2).toInt = P12 + P22 / 4294967296 := by
    rw [jadd (by rw [k12, hz2]; omega) (by rw [k12, hz2]; omega), k12, hz2]
  have hz0 : ((x1 * y2 + z2) >>> ((32 : Int32) &&& 0x3f).toInt64).toInt = (x1 * y2 + z2).toInt / 4294967296 := c_lshr (x1 * y2 + z2) 32 32 rfl
  have hz1 : ((x1 * y2 + z2) &&& (4294967295 : Int64)).toInt = (x1 * y2 + z2).toInt % 4294967296 := c_maskL (x1 * y2 + z2) 4294967295 32 (by decide) (by decide)
  rw [et] at hz0 hz1
  clear et k12 hz2
  generalize ((x1 * y2 + z2) >>> ((32 : Int32) &&& 0x3f).toInt64) = z0 at *
  generalize ((x1 * y2 + z2) &&& (4294967295 : Int64)) = z1 at *
  have bt : -9223372036854775808 ≤ P12 + P22 / 4294967296 ∧ P12 + P22 / 4294967296 < 9223372036854775808 := by omega
  generalize P12 + P22 / 4294967296 = t at *
  have es : (z1 + x2 * y1).toInt = t % 4294967296 + P21 := by
    rw [jadd (by rw [k21, hz1]; omega) (by rw [k21, hz1]; omega), k21, hz1]
  have hs : ((z1 + x2 * y1) >>> ((32 : Int32) &&& 0x3f).toInt64).toInt = (z1 + x2 * y1).toInt / 4294967296 := c_lshr (z1 + x2 * y1) 32 32 rfl
  rw [es] at hs
  clear es hz1 k21
  generalize ((z1 + x2 * y1) >>> ((32 : Int32) &&& 0x3f).toInt64) = w at *
  have d1 : (x1 * y1 + z0).toInt = P11 + t / 4294967296 := by
    rw [jadd (by rw [k11, hz0]; omega) (by rw [k11, hz0]; omega), k11, hz0]
  rw [jadd (by rw [d1, hs]; omega) (by rw [d1, hs]; omega), d1, hs]
theorem cmpProd_pos (a b c d : Int64) : (0 : Int32) < cmpProd a b c d ↔ c.toInt * d.toInt < a.toInt * b.toInt := by
  have h1 := mulHi_eq a b
  have h2 := mulHi_eq c d
  have m1 := c_lmul a b
  have m2 := c_lmul c d
  have g1 := c_ladd (a * b) (-9223372036854775808)
  have g2 := c_ladd (c * d) (-9223372036854775808)
  have r1 := rng64 (a * b + (-9223372036854775808))
  have r2 := rng64 (c * d + (-9223372036854775808))
  have k : (-9223372036854775808 : Int64).toInt = -9223372036854775808 := by decide
  unfold cmpProd
  by_cases q : mulHi a b = mulHi c d
  · rw [if_pos q, cmpJ_pos]
    rw [jeq] at q
    generalize a.toInt * b.toInt = P at *
    generalize c.toInt * d.toInt = Q at *
    omega
  · rw [if_neg q, cmpJ_pos]
    rw [jeq] at q
    generalize a.toInt * b.toInt = P at *
    generalize c.toInt * d.toInt = Q at *
    omega
theorem wwl_iff {li wn p cu el : Int64} : wwl li wn p cu el ↔ ¬ (0 : Int32) < cmpProd p (wn - el) (li - cu - 1) wn := by
  rw [cmpProd_pos]; exact Int.not_lt.symm
def Good (li wn p cu el : Int64) : Prop := (0 : Int64) < li ∧ (0 : Int64) < wn ∧ ¬ p < (0 : Int64) ∧ ¬ cu < (0 : Int64) ∧ ¬ el < (0 : Int64) ∧ el < wn
theorem z64 : (0 : Int64).toInt = 0 := by decide
theorem o64 : (1 : Int64).toInt = 1 := by decide
theorem Good.num {li wn p cu el : Int64} (G : Good li wn p cu el) : 0 < li.toInt ∧ 0 < wn.toInt ∧ 0 ≤ p.toInt ∧ 0 ≤ cu.toInt ∧ 0 ≤ el.toInt ∧ el.toInt < wn.toInt := by
  obtain ⟨a, b, c, d, e, f⟩ := G
  simp only [jlt, z64] at a b c d e f
  omega
theorem max1_pos (x : Int64) : (0 : Int64) < maxL (1 : Int64) x := by
  unfold maxL; split
  · rename_i h; rw [jlt] at h ⊢; rw [o64] at h; rw [z64]; omega
  · decide
theorem mask_nn (x m : Int64) (h : 0 ≤ m.toInt) : ¬ (x &&& m) < (0 : Int64) := by
  rw [jlt, z64]; have := (c_andSL x m).2.2 h; omega
theorem max0_nn (x : Int64) : ¬ maxL (0 : Int64) x < (0 : Int64) := by
  unfold maxL; split
  · rename_i h; rw [jlt] at h ⊢; rw [z64] at *; omega
  · decide
theorem win_ok (x : Int64) : (0 : Int64) < ((x &&& (2147483647 : Int64)) + (1 : Int64)) ∧ ((x &&& (2147483647 : Int64)) + (1 : Int64)).toInt ≤ 2147483648 := by
  have := c_maskL x 2147483647 31 (by decide) (by decide)
  have e : ((x &&& (2147483647 : Int64)) + (1 : Int64)).toInt = (x &&& (2147483647 : Int64)).toInt + 1 := by rw [jadd (by rw [o64]; omega) (by rw [o64]; omega), o64]
  rw [jlt, z64, e]; omega
theorem rem_ok (x w : Int64) (hw : (0 : Int64) < w) : ¬ ((x &&& (9223372036854775807 : Int64)) % w) < (0 : Int64) ∧ ((x &&& (9223372036854775807 : Int64)) % w) < w := by
  have h1 := mask_nn x 9223372036854775807 (by decide)
  rw [jlt, z64] at *
  rw [jlt]
  rw [Int64.toInt_mod, Int.tmod_eq_emod_of_nonneg (by omega)]
  have := Int.emod_nonneg (x &&& (9223372036854775807 : Int64)).toInt (show w.toInt ≠ 0 by omega)
  have := Int.emod_lt_of_pos (x &&& (9223372036854775807 : Int64)).toInt hw
  omega
theorem pos_ne {w : Int64} (h : (0 : Int64) < w) : w ≠ 0 := fun q => by rw [q] at h; revert h; decide

theorem ef_rm_max (m : MethodId) (x0 : Int64) (x1 : Int64)  : entryFrame m #[(.long x0), (.long x1)] 4 = mkF m 0 #[.val (.long x0), .second, .val (.long x1), .second] [] := by first | (simp [entryFrame, mkF, argsToLocals, Value.category]; done) | rfl
theorem d_jdk_29_method_66_code_0 : decode jdk_29_method_66_code 0 = .ok (.lload_n 0, 1) := by decide +kernel
theorem d_jdk_29_method_66_code_1 : decode jdk_29_method_66_code 1 = .ok (.lload_n 2, 1) := by decide +kernel
theorem d_jdk_29_method_66_code_2 : decode jdk_29_method_66_code 2 = .ok (.lcmp, 1) := by decide +kernel
theorem d_jdk_29_method_66_code_3 : decode jdk_29_method_66_code 3 = .ok (.ifCond .lt 7, 3) := by decide +kernel
theorem d_jdk_29_method_66_code_10 : decode jdk_29_method_66_code 10 = .ok (.lload_n 2, 1) := by decide +kernel
theorem d_jdk_29_method_66_code_11 : decode jdk_29_method_66_code 11 = .ok (.lreturn, 1) := by decide +kernel
theorem d_jdk_29_method_66_code_6 : decode jdk_29_method_66_code 6 = .ok (.lload_n 0, 1) := by decide +kernel
theorem d_jdk_29_method_66_code_7 : decode jdk_29_method_66_code 7 = .ok (.goto 4, 3) := by decide +kernel
set_option maxRecDepth 65536 in
set_option maxHeartbeats 40000000 in
theorem rm_max (l : Launch) (Z : State) (a0 : Array Value) (hw : ∀ d ∈ tables_1, d.before a0 Z = true) (q1 q2 : Int64) (h0 : Heap)  :
    MeetsW l Z (⟨"java/lang/Math", "max", "(JJ)J"⟩ : MethodName) jdk_29_method_66_code 4 (some .long) ({ frames := 0, cells := 0, slots := 0, locals := 0 } : Room) #[(.long q1), (.long q2)] h0 (Pu h0 (fun v => v = some (.long (maxL q1 q2)))) := by
  refine MeetsW.of (Jvm.Free.JP.mathPlain rfl (by decide +kernel)) ?_
  intro p e s m below meth c s₁ P hx hby hml hZ hown hnm hret hlk X0 e0 K
  have M0 : Mv h0 h0 [] [] := Mv.refl _ _
  refine Go.cast (ef_rm_max m q1 q2 ) ?_
  refine Go.of (T' := s₁) (f' := (mkF m 1 #[.val (.long q1), .second, .val (.long q2), .second] [(.long q1)])) (fun _ k => XS.lloadN X0.here hx rfl (hb hby d_jdk_29_method_66_code_0) rfl k) ?_
  refine Go.of (T' := s₁) (f' := (mkF m 2 #[.val (.long q1), .second, .val (.long q2), .second] [(.long q2), (.long q1)])) (fun _ k => XS.lloadN X0.here hx rfl (hb hby d_jdk_29_method_66_code_1) rfl k) ?_
  refine Go.of (T' := s₁) (f' := (mkF m 3 #[.val (.long q1), .second, .val (.long q2), .second] [(.int (lcmpW q1 q2))])) (fun _ k => XS.lcmp X0.here hx rfl (hb hby d_jdk_29_method_66_code_2) rfl k) ?_
  by_cases hc3 : q1 < q2
  ·
    refine Go.of (T' := s₁) (f' := (mkF m 10 #[.val (.long q1), .second, .val (.long q2), .second] [])) (fun _ k => XS.ifYes X0.here hx rfl (pc0 := 3) (pc' := 10) rfl (hb hby d_jdk_29_method_66_code_3) rfl ((if0 _ _).trans (tlt ((lw_lt _ _).mpr hc3)).1) (by decide) (by decide) k) ?_
    refine Go.of (T' := s₁) (f' := (mkF m 11 #[.val (.long q1), .second, .val (.long q2), .second] [(.long q2)])) (fun _ k => XS.lloadN X0.here hx rfl (hb hby d_jdk_29_method_66_code_10) rfl k) ?_
    exact goRetJ (Q := Pu h0 (fun v => v = some (.long (maxL q1 q2)))) X0 hx hret hlk (hb hby d_jdk_29_method_66_code_11) K (by decide) (by decide) e0 (⟨rfl, rfl, by simp only [maxL]; first | rw [if_pos hc3] | rw [if_neg hc3]⟩)
  ·
    refine Go.of (T' := s₁) (f' := (mkF m 6 #[.val (.long q1), .second, .val (.long q2), .second] [])) (fun _ k => XS.ifNo X0.here hx rfl (hb hby d_jdk_29_method_66_code_3) rfl ((if0 _ _).trans (flt (mt (lw_lt _ _).mp hc3)).1) k) ?_
    refine Go.of (T' := s₁) (f' := (mkF m 7 #[.val (.long q1), .second, .val (.long q2), .second] [(.long q1)])) (fun _ k => XS.lloadN X0.here hx rfl (hb hby d_jdk_29_method_66_code_6) rfl k) ?_
    refine Go.of (T' := s₁) (f' := (mkF m 11 #[.val (.long q1), .second, .val (.long q2), .second] [(.long q1)])) (fun _ k => XS.goto X0.here hx rfl (pc0 := 7) (pc' := 11) rfl (hb hby d_jdk_29_method_66_code_7) (by decide) (by decide) k) ?_
    exact goRetJ (Q := Pu h0 (fun v => v = some (.long (maxL q1 q2)))) X0 hx hret hlk (hb hby d_jdk_29_method_66_code_11) K (by decide) (by decide) e0 (⟨rfl, rfl, by simp only [maxL]; first | rw [if_pos hc3] | rw [if_neg hc3]⟩)
theorem pn_java_lang_Record : plainName "java/lang/Record" = true := by first | (simp [plainName, overriddenIn]; done) | decide +kernel
theorem ef_rm_record (m : MethodId) (x0 : Addr)  : entryFrame m #[(.ref x0)] 1 = mkF m 0 #[.val (.ref x0)] [] := by first | (simp [entryFrame, mkF, argsToLocals, Value.category]; done) | rfl
theorem d_jdk_30_method_1_code_0 : decode jdk_30_method_1_code 0 = .ok (.aload_n 0, 1) := by decide +kernel
theorem d_jdk_30_method_1_code_1 : decode jdk_30_method_1_code 1 = .ok (.invokespecial 1, 3) := by decide +kernel
theorem d_jdk_30_method_1_code_4 : decode jdk_30_method_1_code 4 = .ok (.return_, 1) := by decide +kernel
set_option maxRecDepth 65536 in
set_option maxHeartbeats 40000000 in
theorem rm_record (l : Launch) (Z : State) (a0 : Array Value) (hw : ∀ d ∈ tables_1, d.before a0 Z = true) (a1 : Addr) (h0 : Heap)  :
    MeetsW l Z (⟨"java/lang/Record", "<init>", "()V"⟩ : MethodName) jdk_30_method_1_code 1 none ({ frames := 1, cells := 0, slots := 0, locals := 12 } : Room) #[(.ref a1)] h0 (Pu h0 (fun v => v = none)) := by
  refine MeetsW.of (plainFor_of_name pn_java_lang_Record) ?_
  intro p e s m below meth c s₁ P hx hby hml hZ hown hnm hret hlk X0 e0 K
  have M0 : Mv h0 h0 [] [] := Mv.refl _ _
  refine Go.cast (ef_rm_record m a1 ) ?_
  refine Go.of (T' := s₁) (f' := (mkF m 1 #[.val (.ref a1)] [(.ref a1)])) (fun _ k => XS.aloadN X0.here hx rfl (hb hby d_jdk_30_method_1_code_0) rfl rfl k) ?_
  obtain ⟨T1, X1, e1, st1⟩ := initO X0 hx hZ hown (hw _ (List.mem_of_getElem? (i := 18) rfl)) (hw _ (List.mem_of_getElem? (i := 19) rfl)) (hw _ (List.mem_of_getElem? (i := 20) rfl)) e0 (g := (mkF m 1 #[.val (.ref a1)] [(.ref a1)])) rfl (by rw [hml]; rfl) rfl (hb hby d_jdk_30_method_1_code_1) (by decide) (W := 0) (by show 2 * 0 + _ ≤ _; exact Nat.le_of_eq rfl) (by decide)
  refine Go.of (T' := T1) (f' := (mkF m 4 #[.val (.ref a1)] [])) st1 ?_
  exact goRet0 (Q := Pu h0 (fun v => v = none)) X1 hx hret hlk (hb hby d_jdk_30_method_1_code_4) K (by decide) (by decide) e1 (⟨rfl, rfl, rfl⟩)
theorem pn_com_example_sluiced_sluiced_limiter_SlidingWindowCounter : plainName "com/example/sluiced/sluiced/limiter/SlidingWindowCounter" = true := by first | (simp [plainName, overriddenIn]; done) | decide +kernel
theorem ef_rm_new (m : MethodId) (x0 : Addr) (x1 : Int64) (x2 : Int64)  : entryFrame m #[(.ref x0), (.long x1), (.long x2)] 5 = mkF m 0 #[.val (.ref x0), .val (.long x1), .second, .val (.long x2), .second] [] := by first | (simp [entryFrame, mkF, argsToLocals, Value.category]; done) | rfl
theorem d_prog_19_method_1_code_0 : decode prog_19_method_1_code 0 = .ok (.aload_n 0, 1) := by decide +kernel
theorem d_prog_19_method_1_code_1 : decode prog_19_method_1_code 1 = .ok (.invokespecial 1, 3) := by decide +kernel
theorem pd___V : parseMethodDescriptor "()V" = some ⟨[], none⟩ := by decide +kernel
theorem d_prog_19_method_1_code_4 : decode prog_19_method_1_code 4 = .ok (.lload_n 1, 1) := by decide +kernel
theorem d_prog_19_method_1_code_5 : decode prog_19_method_1_code 5 = .ok (.lconst 0, 1) := by decide +kernel
theorem d_prog_19_method_1_code_6 : decode prog_19_method_1_code 6 = .ok (.lcmp, 1) := by decide +kernel
theorem d_prog_19_method_1_code_7 : decode prog_19_method_1_code 7 = .ok (.ifCond .gt 17, 3) := by decide +kernel
theorem d_prog_19_method_1_code_24 : decode prog_19_method_1_code 24 = .ok (.lload_n 3, 1) := by decide +kernel
theorem d_prog_19_method_1_code_25 : decode prog_19_method_1_code 25 = .ok (.lconst 0, 1) := by decide +kernel
theorem d_prog_19_method_1_code_26 : decode prog_19_method_1_code 26 = .ok (.lcmp, 1) := by decide +kernel
theorem d_prog_19_method_1_code_27 : decode prog_19_method_1_code 27 = .ok (.ifCond .gt 17, 3) := by decide +kernel
theorem d_prog_19_method_1_code_44 : decode prog_19_method_1_code 44 = .ok (.aload_n 0, 1) := by decide +kernel
theorem d_prog_19_method_1_code_45 : decode prog_19_method_1_code 45 = .ok (.lload_n 1, 1) := by decide +kernel
theorem d_prog_19_method_1_code_46 : decode prog_19_method_1_code 46 = .ok (.putfield 17, 3) := by decide +kernel
theorem d_prog_19_method_1_code_49 : decode prog_19_method_1_code 49 = .ok (.aload_n 0, 1) := by decide +kernel
theorem d_prog_19_method_1_code_50 : decode prog_19_method_1_code 50 = .ok (.lload_n 3, 1) := by decide +kernel
theorem d_prog_19_method_1_code_51 : decode prog_19_method_1_code 51 = .ok (.putfield 23, 3) := by decide +kernel
theorem d_prog_19_method_1_code_54 : decode prog_19_method_1_code 54 = .ok (.return_, 1) := by decide +kernel
set_option maxRecDepth 65536 in
set_option maxHeartbeats 40000000 in
theorem rm_new (l : Launch) (Z : State) (a0 : Array Value) (hw : ∀ d ∈ tables_1, d.before a0 Z = true) (a1 : Addr) (q1 q2 : Int64) (h0 : Heap) (E_a1 : Exa Z h0 a1 "com/example/sluiced/sluiced/limiter/SlidingWindowCounter") (F_limit : Fld Z h0 a1 "com/example/sluiced/sluiced/limiter/SlidingWindowCounter" "limit" "J" (.long (0 : Int64))) (F_window : Fld Z h0 a1 "com/example/sluiced/sluiced/limiter/SlidingWindowCounter" "window" "J" (.long (0 : Int64))) (hl : (0 : Int64) < q1) (hwn : (0 : Int64) < q2) :
    MeetsW l Z (⟨"com/example/sluiced/sluiced/limiter/SlidingWindowCounter", "<init>", "(JJ)V"⟩ : MethodName) prog_19_method_1_code 5 none ({ frames := 2, cells := 0, slots := 0, locals := 24 } : Room) #[(.ref a1), (.long q1), (.long q2)] h0 (fun v h L => v = none ∧ Mv h0 h [a1] L ∧ Exa Z h a1 "com/example/sluiced/sluiced/limiter/SlidingWindowCounter" ∧ Fld Z h a1 "com/example/sluiced/sluiced/limiter/SlidingWindowCounter" "limit" "J" (.long q1) ∧ Fld Z h a1 "com/example/sluiced/sluiced/limiter/SlidingWindowCounter" "window" "J" (.long q2)) := by
  refine MeetsW.of (plainFor_of_name pn_com_example_sluiced_sluiced_limiter_SlidingWindowCounter) ?_
  intro p e s m below meth c s₁ P hx hby hml hZ hown hnm hret hlk X0 e0 K
  have M0 : Mv h0 h0 [a1] [] := Mv.refl _ _
  refine Go.cast (ef_rm_new m a1 q1 q2 ) ?_
  refine Go.of (T' := s₁) (f' := (mkF m 1 #[.val (.ref a1), .val (.long q1), .second, .val (.long q2), .second] [(.ref a1)])) (fun _ k => XS.aloadN X0.here hx rfl (hb hby d_prog_19_method_1_code_0) rfl rfl k) ?_
  refine goI X0 hx hZ rfl hown (hw _ (List.mem_of_getElem? (i := 13) rfl)) (hw _ (List.mem_of_getElem? (i := 14) rfl)) (hw _ (List.mem_of_getElem? (i := 17) rfl)) (by decide) (C := 0) (S := 0) ((rm_record l Z a0 hw a1 h0 ).bk (W := 0) hZ (hw _ (List.mem_of_getElem? (i := 17) rfl)) (hw _ (List.mem_of_getElem? (i := 16) rfl)) (by decide) (by decide)) e0 (argsL := []) (rest := []) (by rw [hml]; rfl) (lenOf pd___V rfl) rfl rfl (hb hby d_prog_19_method_1_code_1) (Nat.le_of_eq rfl) (by decide) (by decide) ?_
  intro v1 T1 L1 X1 hQ1
  obtain ⟨nq1, e1, rfl⟩ := hQ1
  replace X1 := standNil X1 nq1
  show Go p e below P T1 (mkF m 4 #[.val (.ref a1), .val (.long q1), .second, .val (.long q2), .second] [])
  refine Go.of (T' := T1) (f' := (mkF m 5 #[.val (.ref a1), .val (.long q1), .second, .val (.long q2), .second] [(.long q1)])) (fun _ k => XS.lloadN X1.here hx rfl (hb hby d_prog_19_method_1_code_4) rfl k) ?_
  refine Go.of (T' := T1) (f' := (mkF m 6 #[.val (.ref a1), .val (.long q1), .second, .val (.long q2), .second] [(.long (0 : Int64)), (.long q1)])) (fun _ k => XS.lconst X1.here hx rfl (hb hby d_prog_19_method_1_code_5) k) ?_
  refine Go.of (T' := T1) (f' := (mkF m 7 #[.val (.ref a1), .val (.long q1), .second, .val (.long q2), .second] [(.int (lcmpW q1 (0 : Int64)))])) (fun _ k => XS.lcmp X1.here hx rfl (hb hby d_prog_19_method_1_code_6) rfl k) ?_
  have hc7 : (0 : Int64) < q1 := hl
  refine Go.of (T' := T1) (f' := (mkF m 24 #[.val (.ref a1), .val (.long q1), .second, .val (.long q2), .second] [])) (fun _ k => XS.ifYes X1.here hx rfl (pc0 := 7) (pc' := 24) rfl (hb hby d_prog_19_method_1_code_7) rfl ((if0 _ _).trans (tlt ((lw_gt _ _).mpr hc7)).2.2.1) (by decide) (by decide) k) ?_
  refine Go.of (T' := T1) (f' := (mkF m 25 #[.val (.ref a1), .val (.long q1), .second, .val (.long q2), .second] [(.long q2)])) (fun _ k => XS.lloadN X1.here hx rfl (hb hby d_prog_19_method_1_code_24) rfl k) ?_
  refine Go.of (T' := T1) (f' := (mkF m 26 #[.val (.ref a1), .val (.long q1), .second, .val (.long q2), .second] [(.long (0 : Int64)), (.long q2)])) (fun _ k => XS.lconst X1.here hx rfl (hb hby d_prog_19_method_1_code_25) k) ?_
  refine Go.of (T' := T1) (f' := (mkF m 27 #[.val (.ref a1), .val (.long q1), .second, .val (.long q2), .second] [(.int (lcmpW q2 (0 : Int64)))])) (fun _ k => XS.lcmp X1.here hx rfl (hb hby d_prog_19_method_1_code_26) rfl k) ?_
  have hc27 : (0 : Int64) < q2 := hwn
  refine Go.of (T' := T1) (f' := (mkF m 44 #[.val (.ref a1), .val (.long q1), .second, .val (.long q2), .second] [])) (fun _ k => XS.ifYes X1.here hx rfl (pc0 := 27) (pc' := 44) rfl (hb hby d_prog_19_method_1_code_27) rfl ((if0 _ _).trans (tlt ((lw_gt _ _).mpr hc27)).2.2.1) (by decide) (by decide) k) ?_
  refine Go.of (T' := T1) (f' := (mkF m 45 #[.val (.ref a1), .val (.long q1), .second, .val (.long q2), .second] [(.ref a1)])) (fun _ k => XS.aloadN X1.here hx rfl (hb hby d_prog_19_method_1_code_44) rfl rfl k) ?_
  refine Go.of (T' := T1) (f' := (mkF m 46 #[.val (.ref a1), .val (.long q1), .second, .val (.long q2), .second] [(.long q1), (.ref a1)])) (fun _ k => XS.lloadN X1.here hx rfl (hb hby d_prog_19_method_1_code_45) rfl k) ?_
  obtain ⟨T2, h2, X2, e2, W2, st2⟩ := putF X1 hx hZ hown (host := "") (Or.inl (hw _ (List.mem_of_getElem? (i := 21) rfl))) Via.refl e1 F_limit E_a1 (Or.inr ⟨(hw _ (List.mem_of_getElem? (i := 22) rfl)), rfl, hnm⟩) (hw _ (List.mem_of_getElem? (i := 8) rfl)) (ty := .long) (by decide) rfl rfl (g := (mkF m 46 #[.val (.ref a1), .val (.long q1), .second, .val (.long q2), .second] [(.long q1), (.ref a1)])) rfl rfl (hb hby d_prog_19_method_1_code_46)
  have K2 := Keep.of_wr W2
  have M2 := M0.wr W2 (Or.inl (List.mem_of_getElem? (i := 0) rfl))
  replace F_limit := F_limit.same W2
  replace F_window := F_window.other W2 (Or.inr (slot_ne (Or.inr (hw _ (List.mem_of_getElem? (i := 24) rfl))) (Or.inr (hw _ (List.mem_of_getElem? (i := 22) rfl))) (by decide) (t := .long) (t' := .long) (by decide) (by decide)))
  replace E_a1 := E_a1.keep K2
  refine Go.of (T' := T2) (f' := (mkF m 49 #[.val (.ref a1), .val (.long q1), .second, .val (.long q2), .second] [])) st2 ?_
  refine Go.of (T' := T2) (f' := (mkF m 50 #[.val (.ref a1), .val (.long q1), .second, .val (.long q2), .second] [(.ref a1)])) (fun _ k => XS.aloadN X2.here hx rfl (hb hby d_prog_19_method_1_code_49) rfl rfl k) ?_
  refine Go.of (T' := T2) (f' := (mkF m 51 #[.val (.ref a1), .val (.long q1), .second, .val (.long q2), .second] [(.long q2), (.ref a1)])) (fun _ k => XS.lloadN X2.here hx rfl (hb hby d_prog_19_method_1_code_50) rfl k) ?_
  obtain ⟨T3, h3, X3, e3, W3, st3⟩ := putF X2 hx hZ hown (host := "") (Or.inl (hw _ (List.mem_of_getElem? (i := 23) rfl))) Via.refl e2 F_window E_a1 (Or.inr ⟨(hw _ (List.mem_of_getElem? (i := 24) rfl)), rfl, hnm⟩) (hw _ (List.mem_of_getElem? (i := 8) rfl)) (ty := .long) (by decide) rfl rfl (g := (mkF m 51 #[.val (.ref a1), .val (.long q1), .second, .val (.long q2), .second] [(.long q2), (.ref a1)])) rfl rfl (hb hby d_prog_19_method_1_code_51)
  have K3 := Keep.of_wr W3
  have M3 := M2.wr W3 (Or.inl (List.mem_of_getElem? (i := 0) rfl))
  replace F_limit := F_limit.other W3 (Or.inr (slot_ne (Or.inr (hw _ (List.mem_of_getElem? (i := 22) rfl))) (Or.inr (hw _ (List.mem_of_getElem? (i := 24) rfl))) (by decide) (t := .long) (t' := .long) (by decide) (by decide)))
  replace F_window := F_window.same W3
  replace E_a1 := E_a1.keep K3
  refine Go.of (T' := T3) (f' := (mkF m 54 #[.val (.ref a1), .val (.long q1), .second, .val (.long q2), .second] [])) st3 ?_
  exact goRet0 (Q := fun v h L => v = none ∧ Mv h0 h [a1] L ∧ Exa Z h a1 "com/example/sluiced/sluiced/limiter/SlidingWindowCounter" ∧ Fld Z h a1 "com/example/sluiced/sluiced/limiter/SlidingWindowCounter" "limit" "J" (.long q1) ∧ Fld Z h a1 "com/example/sluiced/sluiced/limiter/SlidingWindowCounter" "window" "J" (.long q2)) X3 hx hret hlk (hb hby d_prog_19_method_1_code_54) K (by decide) (by decide) e3 (⟨rfl, M3, E_a1, F_limit, F_window⟩)
theorem ef_rm_check (m : MethodId) (x0 : Addr) (x1 : Int64) (x2 : Int64) (x3 : Int64)  : entryFrame m #[(.ref x0), (.long x1), (.long x2), (.long x3)] 7 = mkF m 0 #[.val (.ref x0), .val (.long x1), .second, .val (.long x2), .second, .val (.long x3), .second] [] := by first | (simp [entryFrame, mkF, argsToLocals, Value.category]; done) | rfl
theorem d_prog_19_method_5_code_0 : decode prog_19_method_5_code 0 = .ok (.lload_n 1, 1) := by decide +kernel
theorem d_prog_19_method_5_code_1 : decode prog_19_method_5_code 1 = .ok (.lconst 0, 1) := by decide +kernel
theorem d_prog_19_method_5_code_2 : decode prog_19_method_5_code 2 = .ok (.lcmp, 1) := by decide +kernel
theorem d_prog_19_method_5_code_3 : decode prog_19_method_5_code 3 = .ok (.ifCond .lt 9, 3) := by decide +kernel
theorem d_prog_19_method_5_code_6 : decode prog_19_method_5_code 6 = .ok (.lload_n 3, 1) := by decide +kernel
theorem d_prog_19_method_5_code_7 : decode prog_19_method_5_code 7 = .ok (.lconst 0, 1) := by decide +kernel
theorem d_prog_19_method_5_code_8 : decode prog_19_method_5_code 8 = .ok (.lcmp, 1) := by decide +kernel
theorem d_prog_19_method_5_code_9 : decode prog_19_method_5_code 9 = .ok (.ifCond .ge 18, 3) := by decide +kernel
theorem d_prog_19_method_5_code_27 : decode prog_19_method_5_code 27 = .ok (.lload 5, 2) := by decide +kernel
theorem d_prog_19_method_5_code_29 : decode prog_19_method_5_code 29 = .ok (.lconst 0, 1) := by decide +kernel
theorem d_prog_19_method_5_code_30 : decode prog_19_method_5_code 30 = .ok (.lcmp, 1) := by decide +kernel
theorem d_prog_19_method_5_code_31 : decode prog_19_method_5_code 31 = .ok (.ifCond .lt 13, 3) := by decide +kernel
theorem d_prog_19_method_5_code_34 : decode prog_19_method_5_code 34 = .ok (.lload 5, 2) := by decide +kernel
theorem d_prog_19_method_5_code_36 : decode prog_19_method_5_code 36 = .ok (.aload_n 0, 1) := by decide +kernel
theorem d_prog_19_method_5_code_37 : decode prog_19_method_5_code 37 = .ok (.getfield 23, 3) := by decide +kernel
theorem d_prog_19_method_5_code_40 : decode prog_19_method_5_code 40 = .ok (.lcmp, 1) := by decide +kernel
theorem d_prog_19_method_5_code_41 : decode prog_19_method_5_code 41 = .ok (.ifCond .lt 22, 3) := by decide +kernel
theorem d_prog_19_method_5_code_63 : decode prog_19_method_5_code 63 = .ok (.return_, 1) := by decide +kernel
set_option maxRecDepth 65536 in
set_option maxHeartbeats 40000000 in
theorem rm_check (l : Launch) (Z : State) (a0 : Array Value) (hw : ∀ d ∈ tables_1, d.before a0 Z = true) (a1 : Addr) (q1 q2 q3 wn : Int64) (h0 : Heap) (F_window : Fld Z h0 a1 "com/example/sluiced/sluiced/limiter/SlidingWindowCounter" "window" "J" (.long wn)) (hq1 : ¬ q1 < (0 : Int64)) (hq2 : ¬ q2 < (0 : Int64)) (hq3 : ¬ q3 < (0 : Int64)) (hq4 : q3 < wn) :
    MeetsW l Z (⟨"com/example/sluiced/sluiced/limiter/SlidingWindowCounter", "checkArguments", "(JJJ)V"⟩ : MethodName) prog_19_method_5_code 7 none ({ frames := 0, cells := 0, slots := 0, locals := 0 } : Room) #[(.ref a1), (.long q1), (.long q2), (.long q3)] h0 (Pu h0 (fun v => v = none)) := by
  refine MeetsW.of (plainFor_of_name pn_com_example_sluiced_sluiced_limiter_SlidingWindowCounter) ?_
  intro p e s m below meth c s₁ P hx hby hml hZ hown hnm hret hlk X0 e0 K
  have M0 : Mv h0 h0 [] [] := Mv.refl _ _
  refine Go.cast (ef_rm_check m a1 q1 q2 q3 ) ?_
  refine Go.of (T' := s₁) (f' := (mkF m 1 #[.val (.ref a1), .val (.long q1), .second, .val (.long q2), .second, .val (.long q3), .second] [(.long q1)])) (fun _ k => XS.lloadN X0.here hx rfl (hb hby d_prog_19_method_5_code_0) rfl k) ?_
  refine Go.of (T' := s₁) (f' := (mkF m 2 #[.val (.ref a1), .val (.long q1), .second, .val (.long q2), .second, .val (.long q3), .second] [(.long (0 : Int64)), (.long q1)])) (fun _ k => XS.lconst X0.here hx rfl (hb hby d_prog_19_method_5_code_1) k) ?_
  refine Go.of (T' := s₁) (f' := (mkF m 3 #[.val (.ref a1), .val (.long q1), .second, .val (.long q2), .second, .val (.long q3), .second] [(.int (lcmpW q1 (0 : Int64)))])) (fun _ k => XS.lcmp X0.here hx rfl (hb hby d_prog_19_method_5_code_2) rfl k) ?_
  have hc3 : ¬ (q1 < (0 : Int64)) := hq1
  refine Go.of (T' := s₁) (f' := (mkF m 6 #[.val (.ref a1), .val (.long q1), .second, .val (.long q2), .second, .val (.long q3), .second] [])) (fun _ k => XS.ifNo X0.here hx rfl (hb hby d_prog_19_method_5_code_3) rfl ((if0 _ _).trans (flt (mt (lw_lt _ _).mp hc3)).1) k) ?_
  refine Go.of (T' := s₁) (f' := (mkF m 7 #[.val (.ref a1), .val (.long q1), .second, .val (.long q2), .second, .val (.long q3), .second] [(.long q2)])) (fun _ k => XS.lloadN X0.here hx rfl (hb hby d_prog_19_method_5_code_6) rfl k) ?_
  refine Go.of (T' := s₁) (f' := (mkF m 8 #[.val (.ref a1), .val (.long q1), .second, .val (.long q2), .second, .val (.long q3), .second] [(.long (0 : Int64)), (.long q2)])) (fun _ k => XS.lconst X0.here hx rfl (hb hby d_prog_19_method_5_code_7) k) ?_
  refine Go.of (T' := s₁) (f' := (mkF m 9 #[.val (.ref a1), .val (.long q1), .second, .val (.long q2), .second, .val (.long q3), .second] [(.int (lcmpW q2 (0 : Int64)))])) (fun _ k => XS.lcmp X0.here hx rfl (hb hby d_prog_19_method_5_code_8) rfl k) ?_
  have hc9 : ¬ (q2 < (0 : Int64)) := hq2
  refine Go.of (T' := s₁) (f' := (mkF m 27 #[.val (.ref a1), .val (.long q1), .second, .val (.long q2), .second, .val (.long q3), .second] [])) (fun _ k => XS.ifYes X0.here hx rfl (pc0 := 9) (pc' := 27) rfl (hb hby d_prog_19_method_5_code_9) rfl ((if0 _ _).trans (flt (mt (lw_lt _ _).mp hc9)).2.1) (by decide) (by decide) k) ?_
  refine Go.of (T' := s₁) (f' := (mkF m 29 #[.val (.ref a1), .val (.long q1), .second, .val (.long q2), .second, .val (.long q3), .second] [(.long q3)])) (fun _ k => XS.lload X0.here hx rfl (hb hby d_prog_19_method_5_code_27) rfl k) ?_
  refine Go.of (T' := s₁) (f' := (mkF m 30 #[.val (.ref a1), .val (.long q1), .second, .val (.long q2), .second, .val (.long q3), .second] [(.long (0 : Int64)), (.long q3)])) (fun _ k => XS.lconst X0.here hx rfl (hb hby d_prog_19_method_5_code_29) k) ?_
  refine Go.of (T' := s₁) (f' := (mkF m 31 #[.val (.ref a1), .val (.long q1), .second, .val (.long q2), .second, .val (.long q3), .second] [(.int (lcmpW q3 (0 : Int64)))])) (fun _ k => XS.lcmp X0.here hx rfl (hb hby d_prog_19_method_5_code_30) rfl k) ?_
  have hc31 : ¬ (q3 < (0 : Int64)) := hq3
  refine Go.of (T' := s₁) (f' := (mkF m 34 #[.val (.ref a1), .val (.long q1), .second, .val (.long q2), .second, .val (.long q3), .second] [])) (fun _ k => XS.ifNo X0.here hx rfl (hb hby d_prog_19_method_5_code_31) rfl ((if0 _ _).trans (flt (mt (lw_lt _ _).mp hc31)).1) k) ?_
  refine Go.of (T' := s₁) (f' := (mkF m 36 #[.val (.ref a1), .val (.long q1), .second, .val (.long q2), .second, .val (.long q3), .second] [(.long q3)])) (fun _ k => XS.lload X0.here hx rfl (hb hby d_prog_19_method_5_code_34) rfl k) ?_
  refine Go.of (T' := s₁) (f' := (mkF m 37 #[.val (.ref a1), .val (.long q1), .second, .val (.long q2), .second, .val (.long q3), .second] [(.ref a1), (.long q3)])) (fun _ k => XS.aloadN X0.here hx rfl (hb hby d_prog_19_method_5_code_36) rfl rfl k) ?_
  obtain ⟨T1, X1, e1, st1⟩ := getF X0 hx hZ hown (host := "") (Or.inl (hw _ (List.mem_of_getElem? (i := 23) rfl))) Via.refl e0 F_window (g := (mkF m 37 #[.val (.ref a1), .val (.long q1), .second, .val (.long q2), .second, .val (.long q3), .second] [(.ref a1), (.long q3)])) rfl rfl (hb hby d_prog_19_method_5_code_37)
  refine Go.of (T' := T1) (f' := (mkF m 40 #[.val (.ref a1), .val (.long q1), .second, .val (.long q2), .second, .val (.long q3), .second] [(.long wn), (.long q3)])) st1 ?_
  refine Go.of (T' := T1) (f' := (mkF m 41 #[.val (.ref a1), .val (.long q1), .second, .val (.long q2), .second, .val (.long q3), .second] [(.int (lcmpW q3 wn))])) (fun _ k => XS.lcmp X1.here hx rfl (hb hby d_prog_19_method_5_code_40) rfl k) ?_
  have hc41 : q3 < wn := hq4
  refine Go.of (T' := T1) (f' := (mkF m 63 #[.val (.ref a1), .val (.long q1), .second, .val (.long q2), .second, .val (.long q3), .second] [])) (fun _ k => XS.ifYes X1.here hx rfl (pc0 := 41) (pc' := 63) rfl (hb hby d_prog_19_method_5_code_41) rfl ((if0 _ _).trans (tlt ((lw_lt _ _).mpr hc41)).1) (by decide) (by decide) k) ?_
  exact goRet0 (Q := Pu h0 (fun v => v = none)) X1 hx hret hlk (hb hby d_prog_19_method_5_code_63) K (by decide) (by decide) e1 (⟨rfl, rfl, rfl⟩)
theorem pn_java_lang_Long : plainName "java/lang/Long" = true := by first | (simp [plainName, overriddenIn]; done) | decide +kernel
theorem ef_rm_compare (m : MethodId) (x0 : Int64) (x1 : Int64)  : entryFrame m #[(.long x0), (.long x1)] 4 = mkF m 0 #[.val (.long x0), .second, .val (.long x1), .second] [] := by first | (simp [entryFrame, mkF, argsToLocals, Value.category]; done) | rfl
theorem d_jdk_35_method_42_code_0 : decode jdk_35_method_42_code 0 = .ok (.lload_n 0, 1) := by decide +kernel
theorem d_jdk_35_method_42_code_1 : decode jdk_35_method_42_code 1 = .ok (.lload_n 2, 1) := by decide +kernel
theorem d_jdk_35_method_42_code_2 : decode jdk_35_method_42_code 2 = .ok (.lcmp, 1) := by decide +kernel
theorem d_jdk_35_method_42_code_3 : decode jdk_35_method_42_code 3 = .ok (.ifCond .ge 7, 3) := by decide +kernel
theorem d_jdk_35_method_42_code_6 : decode jdk_35_method_42_code 6 = .ok (.iconst (-1), 1) := by decide +kernel
theorem d_jdk_35_method_42_code_7 : decode jdk_35_method_42_code 7 = .ok (.goto 14, 3) := by decide +kernel
theorem d_jdk_35_method_42_code_21 : decode jdk_35_method_42_code 21 = .ok (.ireturn, 1) := by decide +kernel
theorem d_jdk_35_method_42_code_10 : decode jdk_35_method_42_code 10 = .ok (.lload_n 0, 1) := by decide +kernel
theorem d_jdk_35_method_42_code_11 : decode jdk_35_method_42_code 11 = .ok (.lload_n 2, 1) := by decide +kernel
theorem d_jdk_35_method_42_code_12 : decode jdk_35_method_42_code 12 = .ok (.lcmp, 1) := by decide +kernel
theorem d_jdk_35_method_42_code_13 : decode jdk_35_method_42_code 13 = .ok (.ifCond .ne 7, 3) := by decide +kernel
theorem d_jdk_35_method_42_code_16 : decode jdk_35_method_42_code 16 = .ok (.iconst 0, 1) := by decide +kernel
theorem d_jdk_35_method_42_code_17 : decode jdk_35_method_42_code 17 = .ok (.goto 4, 3) := by decide +kernel
theorem d_jdk_35_method_42_code_20 : decode jdk_35_method_42_code 20 = .ok (.iconst 1, 1) := by decide +kernel
set_option maxRecDepth 65536 in
set_option maxHeartbeats 40000000 in
theorem rm_compare (l : Launch) (Z : State) (a0 : Array Value) (hw : ∀ d ∈ tables_1, d.before a0 Z = true) (q1 q2 : Int64) (h0 : Heap)  :
    MeetsW l Z (⟨"java/lang/Long", "compare", "(JJ)I"⟩ : MethodName) jdk_35_method_42_code 4 (some .int) ({ frames := 0, cells := 0, slots := 0, locals := 0 } : Room) #[(.long q1), (.long q2)] h0 (Pu h0 (fun v => v = some (.int (cmpJ q1 q2)))) := by
  refine MeetsW.of (plainFor_of_name pn_java_lang_Long) ?_
  intro p e s m below meth c s₁ P hx hby hml hZ hown hnm hret hlk X0 e0 K
  have M0 : Mv h0 h0 [] [] := Mv.refl _ _
  refine Go.cast (ef_rm_compare m q1 q2 ) ?_
  refine Go.of (T' := s₁) (f' := (mkF m 1 #[.val (.long q1), .second, .val (.long q2), .second] [(.long q1)])) (fun _ k => XS.lloadN X0.here hx rfl (hb hby d_jdk_35_method_42_code_0) rfl k) ?_
  refine Go.of (T' := s₁) (f' := (mkF m 2 #[.val (.long q1), .second, .val (.long q2), .second] [(.long q2), (.long q1)])) (fun _ k => XS.lloadN X0.here hx rfl (hb hby d_jdk_35_method_42_code_1) rfl k) ?_
  refine Go.of (T' := s₁) (f' := (mkF m 3 #[.val (.long q1), .second, .val (.long q2), .second] [(.int (lcmpW q1 q2))])) (fun _ k => XS.lcmp X0.here hx rfl (hb hby d_jdk_35_method_42_code_2) rfl k) ?_
  by_cases hc3 : q1 < q2
  ·
    refine Go.of (T' := s₁) (f' := (mkF m 6 #[.val (.long q1), .second, .val (.long q2), .second] [])) (fun _ k => XS.ifNo X0.here hx rfl (hb hby d_jdk_35_method_42_code_3) rfl ((if0 _ _).trans (tlt ((lw_lt _ _).mpr hc3)).2.1) k) ?_
    refine Go.of (T' := s₁) (f' := (mkF m 7 #[.val (.long q1), .second, .val (.long q2), .second] [(.int (-1 : Int32))])) (fun _ k => XS.iconst X0.here hx rfl (hb hby d_jdk_35_method_42_code_6) k) ?_
    refine Go.of (T' := s₁) (f' := (mkF m 21 #[.val (.long q1), .second, .val (.long q2), .second] [(.int (-1 : Int32))])) (fun _ k => XS.goto X0.here hx rfl (pc0 := 7) (pc' := 21) rfl (hb hby d_jdk_35_method_42_code_7) (by decide) (by decide) k) ?_
    exact goRetI (Q := Pu h0 (fun v => v = some (.int (cmpJ q1 q2)))) X0 hx (t := .int) hret hlk rfl (by simp) (hb hby d_jdk_35_method_42_code_21) K (by decide) (by decide) e0 (⟨rfl, rfl, by simp only [cmpJ]; rw [if_pos hc3]⟩)
  ·
    refine Go.of (T' := s₁) (f' := (mkF m 10 #[.val (.long q1), .second, .val (.long q2), .second] [])) (fun _ k => XS.ifYes X0.here hx rfl (pc0 := 3) (pc' := 10) rfl (hb hby d_jdk_35_method_42_code_3) rfl ((if0 _ _).trans (flt (mt (lw_lt _ _).mp hc3)).2.1) (by decide) (by decide) k) ?_
    refine Go.of (T' := s₁) (f' := (mkF m 11 #[.val (.long q1), .second, .val (.long q2), .second] [(.long q1)])) (fun _ k => XS.lloadN X0.here hx rfl (hb hby d_jdk_35_method_42_code_10) rfl k) ?_
    refine Go.of (T' := s₁) (f' := (mkF m 12 #[.val (.long q1), .second, .val (.long q2), .second] [(.long q2), (.long q1)])) (fun _ k => XS.lloadN X0.here hx rfl (hb hby d_jdk_35_method_42_code_11) rfl k) ?_
    refine Go.of (T' := s₁) (f' := (mkF m 13 #[.val (.long q1), .second, .val (.long q2), .second] [(.int (lcmpW q1 q2))])) (fun _ k => XS.lcmp X0.here hx rfl (hb hby d_jdk_35_method_42_code_12) rfl k) ?_
    by_cases hc13 : q1 = q2
    ·
      refine Go.of (T' := s₁) (f' := (mkF m 16 #[.val (.long q1), .second, .val (.long q2), .second] [])) (fun _ k => XS.ifNo X0.here hx rfl (hb hby d_jdk_35_method_42_code_13) rfl ((if0 _ _).trans (teq ((lw_eq _ _).mpr hc13)).2) k) ?_
      refine Go.of (T' := s₁) (f' := (mkF m 17 #[.val (.long q1), .second, .val (.long q2), .second] [(.int (0 : Int32))])) (fun _ k => XS.iconst X0.here hx rfl (hb hby d_jdk_35_method_42_code_16) k) ?_
      refine Go.of (T' := s₁) (f' := (mkF m 21 #[.val (.long q1), .second, .val (.long q2), .second] [(.int (0 : Int32))])) (fun _ k => XS.goto X0.here hx rfl (pc0 := 17) (pc' := 21) rfl (hb hby d_jdk_35_method_42_code_17) (by decide) (by decide) k) ?_
      exact goRetI (Q := Pu h0 (fun v => v = some (.int (cmpJ q1 q2)))) X0 hx (t := .int) hret hlk rfl (by simp) (hb hby d_jdk_35_method_42_code_21) K (by decide) (by decide) e0 (⟨rfl, rfl, by simp only [cmpJ]; rw [if_neg hc3, if_pos hc13]⟩)
    ·
      refine Go.of (T' := s₁) (f' := (mkF m 20 #[.val (.long q1), .second, .val (.long q2), .second] [])) (fun _ k => XS.ifYes X0.here hx rfl (pc0 := 13) (pc' := 20) rfl (hb hby d_jdk_35_method_42_code_13) rfl ((if0 _ _).trans (feq (mt (lw_eq _ _).mp hc13)).2) (by decide) (by decide) k) ?_
      refine Go.of (T' := s₁) (f' := (mkF m 21 #[.val (.long q1), .second, .val (.long q2), .second] [(.int (1 : Int32))])) (fun _ k => XS.iconst X0.here hx rfl (hb hby d_jdk_35_method_42_code_20) k) ?_
      exact goRetI (Q := Pu h0 (fun v => v = some (.int (cmpJ q1 q2)))) X0 hx (t := .int) hret hlk rfl (by simp) (hb hby d_jdk_35_method_42_code_21) K (by decide) (by decide) e0 (⟨rfl, rfl, by simp only [cmpJ]; rw [if_neg hc3, if_neg hc13]⟩)
theorem ef_rm_compareU (m : MethodId) (x0 : Int64) (x1 : Int64)  : entryFrame m #[(.long x0), (.long x1)] 4 = mkF m 0 #[.val (.long x0), .second, .val (.long x1), .second] [] := by first | (simp [entryFrame, mkF, argsToLocals, Value.category]; done) | rfl
theorem d_jdk_35_method_43_code_0 : decode jdk_35_method_43_code 0 = .ok (.lload_n 0, 1) := by decide +kernel
theorem d_jdk_35_method_43_code_1 : decode jdk_35_method_43_code 1 = .ok (.ldc2_w 168, 3) := by decide +kernel
theorem d_jdk_35_method_43_code_4 : decode jdk_35_method_43_code 4 = .ok (.ladd, 1) := by decide +kernel
theorem d_jdk_35_method_43_code_5 : decode jdk_35_method_43_code 5 = .ok (.lload_n 2, 1) := by decide +kernel
theorem d_jdk_35_method_43_code_6 : decode jdk_35_method_43_code 6 = .ok (.ldc2_w 168, 3) := by decide +kernel
theorem d_jdk_35_method_43_code_9 : decode jdk_35_method_43_code 9 = .ok (.ladd, 1) := by decide +kernel
theorem d_jdk_35_method_43_code_10 : decode jdk_35_method_43_code 10 = .ok (.invokestatic 302, 3) := by decide +kernel
theorem pd__JJ_I : parseMethodDescriptor "(JJ)I" = some ⟨[.long, .long], some .int⟩ := by decide +kernel
theorem d_jdk_35_method_43_code_13 : decode jdk_35_method_43_code 13 = .ok (.ireturn, 1) := by decide +kernel
set_option maxRecDepth 65536 in
set_option maxHeartbeats 40000000 in
theorem rm_compareU (l : Launch) (Z : State) (a0 : Array Value) (hw : ∀ d ∈ tables_1, d.before a0 Z = true) (q1 q2 : Int64) (h0 : Heap)  :
    MeetsW l Z (⟨"java/lang/Long", "compareUnsigned", "(JJ)I"⟩ : MethodName) jdk_35_method_43_code 4 (some .int) ({ frames := 1, cells := 0, slots := 0, locals := 15 } : Room) #[(.long q1), (.long q2)] h0 (Pu h0 (fun v => v = some (.int (cmpJ (q1 + (-9223372036854775808 : Int64)) (q2 + (-9223372036854775808 : Int64)))))) := by
  refine MeetsW.of (plainFor_of_name pn_java_lang_Long) ?_
  intro p e s m below meth c s₁ P hx hby hml hZ hown hnm hret hlk X0 e0 K
  have M0 : Mv h0 h0 [] [] := Mv.refl _ _
  refine Go.cast (ef_rm_compareU m q1 q2 ) ?_
  refine Go.of (T' := s₁) (f' := (mkF m 1 #[.val (.long q1), .second, .val (.long q2), .second] [(.long q1)])) (fun _ k => XS.lloadN X0.here hx rfl (hb hby d_jdk_35_method_43_code_0) rfl k) ?_
  refine Go.of (T' := s₁) (f' := (mkF m 4 #[.val (.long q1), .second, .val (.long q2), .second] [(.long (-9223372036854775808 : Int64)), (.long q1)])) (fun _ k => X0.ldc2Long hx hown (mvT hZ (hw _ (List.mem_of_getElem? (i := 57) rfl))) (g := (mkF m 1 #[.val (.long q1), .second, .val (.long q2), .second] [(.long q1)])) rfl (hb hby d_jdk_35_method_43_code_1) _ k) ?_
  refine Go.of (T' := s₁) (f' := (mkF m 5 #[.val (.long q1), .second, .val (.long q2), .second] [(.long (q1 + (-9223372036854775808 : Int64)))])) (fun _ k => XS.ladd X0.here hx rfl (hb hby d_jdk_35_method_43_code_4) rfl k) ?_
  refine Go.of (T' := s₁) (f' := (mkF m 6 #[.val (.long q1), .second, .val (.long q2), .second] [(.long q2), (.long (q1 + (-9223372036854775808 : Int64)))])) (fun _ k => XS.lloadN X0.here hx rfl (hb hby d_jdk_35_method_43_code_5) rfl k) ?_
  refine Go.of (T' := s₁) (f' := (mkF m 9 #[.val (.long q1), .second, .val (.long q2), .second] [(.long (-9223372036854775808 : Int64)), (.long q2), (.long (q1 + (-9223372036854775808 : Int64)))])) (fun _ k => X0.ldc2Long hx hown (mvT hZ (hw _ (List.mem_of_getElem? (i := 57) rfl))) (g := (mkF m 6 #[.val (.long q1), .second, .val (.long q2), .second] [(.long q2), (.long (q1 + (-9223372036854775808 : Int64)))])) rfl (hb hby d_jdk_35_method_43_code_6) _ k) ?_
  refine Go.of (T' := s₁) (f' := (mkF m 10 #[.val (.long q1), .second, .val (.long q2), .second] [(.long (q2 + (-9223372036854775808 : Int64))), (.long (q1 + (-9223372036854775808 : Int64)))])) (fun _ k => XS.ladd X0.here hx rfl (hb hby d_jdk_35_method_43_code_9) rfl k) ?_
  refine goS X0 hx hZ hown (hw _ (List.mem_of_getElem? (i := 58) rfl)) (hw _ (List.mem_of_getElem? (i := 51) rfl)) (hw _ (List.mem_of_getElem? (i := 52) rfl)) (hw _ (List.mem_of_getElem? (i := 53) rfl)) (by decide) (C := 0) (S := 0) ((rm_compare l Z a0 hw (q1 + (-9223372036854775808 : Int64)) (q2 + (-9223372036854775808 : Int64)) h0 ).bk (W := 0) hZ (hw _ (List.mem_of_getElem? (i := 53) rfl)) (hw _ (List.mem_of_getElem? (i := 52) rfl)) (by decide) (by decide)) e0 (argsL := [(.long (q1 + (-9223372036854775808 : Int64))), (.long (q2 + (-9223372036854775808 : Int64)))]) (rest := []) (by rw [hml]; rfl) (lenOf pd__JJ_I rfl) rfl rfl (hb hby d_jdk_35_method_43_code_10) (Nat.le_of_eq rfl) (by decide) (by decide) ?_
  intro v1 T1 L1 X1 hQ1
  obtain ⟨nq1, e1, rfl⟩ := hQ1
  replace X1 := standNil X1 nq1
  show Go p e below P T1 (mkF m 13 #[.val (.long q1), .second, .val (.long q2), .second] [(.int (cmpJ (q1 + (-9223372036854775808 : Int64)) (q2 + (-9223372036854775808 : Int64))))])
  exact goRetI (Q := Pu h0 (fun v => v = some (.int (cmpJ (q1 + (-9223372036854775808 : Int64)) (q2 + (-9223372036854775808 : Int64)))))) X1 hx (t := .int) hret hlk rfl (by simp) (hb hby d_jdk_35_method_43_code_13) K (by decide) (by decide) e1 (⟨rfl, rfl, rfl⟩)
theorem ef_rm_mulHi (m : MethodId) (x0 : Int64) (x1 : Int64)  : entryFrame m #[(.long x0), (.long x1)] 20 = mkF m 0 #[.val (.long x0), .second, .val (.long x1), .second, .unset, .unset, .unset, .unset, .unset, .unset, .unset, .unset, .unset, .unset, .unset, .unset, .unset, .unset, .unset, .unset] [] := by first | (simp [entryFrame, mkF, argsToLocals, Value.category]; done) | rfl
theorem d_jdk_29_method_45_code_0 : decode jdk_29_method_45_code 0 = .ok (.lload_n 0, 1) := by decide +kernel
theorem d_jdk_29_method_45_code_1 : decode jdk_29_method_45_code 1 = .ok (.bipush 32, 2) := by decide +kernel
theorem d_jdk_29_method_45_code_3 : decode jdk_29_method_45_code 3 = .ok (.lshr, 1) := by decide +kernel
theorem d_jdk_29_method_45_code_4 : decode jdk_29_method_45_code 4 = .ok (.lstore 4, 2) := by decide +kernel
theorem d_jdk_29_method_45_code_6 : decode jdk_29_method_45_code 6 = .ok (.lload_n 0, 1) := by decide +kernel
theorem d_jdk_29_method_45_code_7 : decode jdk_29_method_45_code 7 = .ok (.ldc2_w 138, 3) := by decide +kernel
theorem d_jdk_29_method_45_code_10 : decode jdk_29_method_45_code 10 = .ok (.land, 1) := by decide +kernel
theorem d_jdk_29_method_45_code_11 : decode jdk_29_method_45_code 11 = .ok (.lstore 6, 2) := by decide +kernel
theorem d_jdk_29_method_45_code_13 : decode jdk_29_method_45_code 13 = .ok (.lload_n 2, 1) := by decide +kernel
theorem d_jdk_29_method_45_code_14 : decode jdk_29_method_45_code 14 = .ok (.bipush 32, 2) := by decide +kernel
theorem d_jdk_29_method_45_code_16 : decode jdk_29_method_45_code 16 = .ok (.lshr, 1) := by decide +kernel
theorem d_jdk_29_method_45_code_17 : decode jdk_29_method_45_code 17 = .ok (.lstore 8, 2) := by decide +kernel
theorem d_jdk_29_method_45_code_19 : decode jdk_29_method_45_code 19 = .ok (.lload_n 2, 1) := by decide +kernel
theorem d_jdk_29_method_45_code_20 : decode jdk_29_method_45_code 20 = .ok (.ldc2_w 138, 3) := by decide +kernel
theorem d_jdk_29_method_45_code_23 : decode jdk_29_method_45_code 23 = .ok (.land, 1) := by decide +kernel
theorem d_jdk_29_method_45_code_24 : decode jdk_29_method_45_code 24 = .ok (.lstore 10, 2) := by decide +kernel
theorem d_jdk_29_method_45_code_26 : decode jdk_29_method_45_code 26 = .ok (.lload 6, 2) := by decide +kernel
theorem d_jdk_29_method_45_code_28 : decode jdk_29_method_45_code 28 = .ok (.lload 10, 2) := by decide +kernel
theorem d_jdk_29_method_45_code_30 : decode jdk_29_method_45_code 30 = .ok (.lmul, 1) := by decide +kernel
theorem d_jdk_29_method_45_code_31 : decode jdk_29_method_45_code 31 = .ok (.lstore 12, 2) := by decide +kernel
theorem d_jdk_29_method_45_code_33 : decode jdk_29_method_45_code 33 = .ok (.lload 4, 2) := by decide +kernel
theorem d_jdk_29_method_45_code_35 : decode jdk_29_method_45_code 35 = .ok (.lload 10, 2) := by decide +kernel
theorem d_jdk_29_method_45_code_37 : decode jdk_29_method_45_code 37 = .ok (.lmul, 1) := by decide +kernel
theorem d_jdk_29_method_45_code_38 : decode jdk_29_method_45_code 38 = .ok (.lload 12, 2) := by decide +kernel
theorem d_jdk_29_method_45_code_40 : decode jdk_29_method_45_code 40 = .ok (.bipush 32, 2) := by decide +kernel
theorem d_jdk_29_method_45_code_42 : decode jdk_29_method_45_code 42 = .ok (.lushr, 1) := by decide +kernel
theorem d_jdk_29_method_45_code_43 : decode jdk_29_method_45_code 43 = .ok (.ladd, 1) := by decide +kernel
theorem d_jdk_29_method_45_code_44 : decode jdk_29_method_45_code 44 = .ok (.lstore 14, 2) := by decide +kernel
theorem d_jdk_29_method_45_code_46 : decode jdk_29_method_45_code 46 = .ok (.lload 14, 2) := by decide +kernel
theorem d_jdk_29_method_45_code_48 : decode jdk_29_method_45_code 48 = .ok (.ldc2_w 138, 3) := by decide +kernel
theorem d_jdk_29_method_45_code_51 : decode jdk_29_method_45_code 51 = .ok (.land, 1) := by decide +kernel
theorem d_jdk_29_method_45_code_52 : decode jdk_29_method_45_code 52 = .ok (.lstore 16, 2) := by decide +kernel
theorem d_jdk_29_method_45_code_54 : decode jdk_29_method_45_code 54 = .ok (.lload 14, 2) := by decide +kernel
theorem d_jdk_29_method_45_code_56 : decode jdk_29_method_45_code 56 = .ok (.bipush 32, 2) := by decide +kernel
theorem d_jdk_29_method_45_code_58 : decode jdk_29_method_45_code 58 = .ok (.lshr, 1) := by decide +kernel
theorem d_jdk_29_method_45_code_59 : decode jdk_29_method_45_code 59 = .ok (.lstore 18, 2) := by decide +kernel
theorem d_jdk_29_method_45_code_61 : decode jdk_29_method_45_code 61 = .ok (.lload 16, 2) := by decide +kernel
theorem d_jdk_29_method_45_code_63 : decode jdk_29_method_45_code 63 = .ok (.lload 6, 2) := by decide +kernel
theorem d_jdk_29_method_45_code_65 : decode jdk_29_method_45_code 65 = .ok (.lload 8, 2) := by decide +kernel
theorem d_jdk_29_method_45_code_67 : decode jdk_29_method_45_code 67 = .ok (.lmul, 1) := by decide +kernel
theorem d_jdk_29_method_45_code_68 : decode jdk_29_method_45_code 68 = .ok (.ladd, 1) := by decide +kernel
theorem d_jdk_29_method_45_code_69 : decode jdk_29_method_45_code 69 = .ok (.lstore 16, 2) := by decide +kernel
theorem d_jdk_29_method_45_code_71 : decode jdk_29_method_45_code 71 = .ok (.lload 4, 2) := by decide +kernel
theorem d_jdk_29_method_45_code_73 : decode jdk_29_method_45_code 73 = .ok (.lload 8, 2) := by decide +kernel
theorem d_jdk_29_method_45_code_75 : decode jdk_29_method_45_code 75 = .ok (.lmul, 1) := by decide +kernel
theorem d_jdk_29_method_45_code_76 : decode jdk_29_method_45_code 76 = .ok (.lload 18, 2) := by decide +kernel
theorem d_jdk_29_method_45_code_78 : decode jdk_29_method_45_code 78 = .ok (.ladd, 1) := by decide +kernel
theorem d_jdk_29_method_45_code_79 : decode jdk_29_method_45_code 79 = .ok (.lload 16, 2) := by decide +kernel
theorem d_jdk_29_method_45_code_81 : decode jdk_29_method_45_code 81 = .ok (.bipush 32, 2) := by decide +kernel
theorem d_jdk_29_method_45_code_83 : decode jdk_29_method_45_code 83 = .ok (.lshr, 1) := by decide +kernel
theorem d_jdk_29_method_45_code_84 : decode jdk_29_method_45_code 84 = .ok (.ladd, 1) := by decide +kernel
theorem d_jdk_29_method_45_code_85 : decode jdk_29_method_45_code 85 = .ok (.lreturn, 1) := by decide +kernel
set_option maxRecDepth 65536 in
set_option maxHeartbeats 40000000 in
theorem rm_mulHi (l : Launch) (Z : State) (a0 : Array Value) (hw : ∀ d ∈ tables_1, d.before a0 Z = true) (q1 q2 : Int64) (h0 : Heap)  :
    MeetsW l Z (⟨"java/lang/Math", "multiplyHigh", "(JJ)J"⟩ : MethodName) jdk_29_method_45_code 20 (some .long) ({ frames := 0, cells := 0, slots := 0, locals := 0 } : Room) #[(.long q1), (.long q2)] h0 (Pu h0 (fun v => v = some (.long (mulHi q1 q2)))) := by
  refine MeetsW.of (Jvm.Free.JP.mathPlain rfl (by decide +kernel)) ?_
  intro p e s m below meth c s₁ P hx hby hml hZ hown hnm hret hlk X0 e0 K
  have M0 : Mv h0 h0 [] [] := Mv.refl _ _
  refine Go.cast (ef_rm_mulHi m q1 q2 ) ?_
  refine Go.of (T' := s₁) (f' := (mkF m 1 #[.val (.long q1), .second, .val (.long q2), .second, .unset, .unset, .unset, .unset, .unset, .unset, .unset, .unset, .unset, .unset, .unset, .unset, .unset, .unset, .unset, .unset] [(.long q1)])) (fun _ k => XS.lloadN X0.here hx rfl (hb hby d_jdk_29_method_45_code_0) rfl k) ?_
  refine Go.of (T' := s₁) (f' := (mkF m 3 #[.val (.long q1), .second, .val (.long q2), .second, .unset, .unset, .unset, .unset, .unset, .unset, .unset, .unset, .unset, .unset, .unset, .unset, .unset, .unset, .unset, .unset] [(.int (32 : Int32)), (.long q1)])) (fun _ k => XS.bipush X0.here hx rfl (hb hby d_jdk_29_method_45_code_1) k) ?_
  refine Go.of (T' := s₁) (f' := (mkF m 4 #[.val (.long q1), .second, .val (.long q2), .second, .unset, .unset, .unset, .unset, .unset, .unset, .unset, .unset, .unset, .unset, .unset, .unset, .unset, .unset, .unset, .unset] [(.long (q1 >>> ((32 : Int32) &&& 0x3f).toInt64))])) (fun _ k => XS.lshr X0.here hx rfl (hb hby d_jdk_29_method_45_code_3) rfl k) ?_
  refine Go.of (T' := s₁) (f' := (mkF m 6 #[.val (.long q1), .second, .val (.long q2), .second, .val (.long (q1 >>> ((32 : Int32) &&& 0x3f).toInt64)), .second, .unset, .unset, .unset, .unset, .unset, .unset, .unset, .unset, .unset, .unset, .unset, .unset, .unset, .unset] [])) (fun _ k => XS.lstore X0.here hx rfl (hb hby d_jdk_29_method_45_code_4) rfl (l' := #[.val (.long q1), .second, .val (.long q2), .second, .val (.long (q1 >>> ((32 : Int32) &&& 0x3f).toInt64)), .second, .unset, .unset, .unset, .unset, .unset, .unset, .unset, .unset, .unset, .unset, .unset, .unset, .unset, .unset]) rfl k) ?_
  refine Go.of (T' := s₁) (f' := (mkF m 7 #[.val (.long q1), .second, .val (.long q2), .second, .val (.long (q1 >>> ((32 : Int32) &&& 0x3f).toInt64)), .second, .unset, .unset, .unset, .unset, .unset, .unset, .unset, .unset, .unset, .unset, .unset, .unset, .unset, .unset] [(.long q1)])) (fun _ k => XS.lloadN X0.here hx rfl (hb hby d_jdk_29_method_45_code_6) rfl k) ?_
  refine Go.of (T' := s₁) (f' := (mkF m 10 #[.val (.long q1), .second, .val (.long q2), .second, .val (.long (q1 >>> ((32 : Int32) &&& 0x3f).toInt64)), .second, .unset, .unset, .unset, .unset, .unset, .unset, .unset, .unset, .unset, .unset, .unset, .unset, .unset, .unset] [(.long (4294967295 : Int64)), (.long q1)])) (fun _ k => X0.ldc2Long hx hown (mvT hZ (hw _ (List.mem_of_getElem? (i := 49) rfl))) (g := (mkF m 7 #[.val (.long q1), .second, .val (.long q2), .second, .val (.long (q1 >>> ((32 : Int32) &&& 0x3f).toInt64)), .second, .unset, .unset, .unset, .unset, .unset, .unset, .unset, .unset, .unset, .unset, .unset, .unset, .unset, .unset] [(.long q1)])) rfl (hb hby d_jdk_29_method_45_code_7) _ k) ?_
  refine Go.of (T' := s₁) (f' := (mkF m 11 #[.val (.long q1), .second, .val (.long q2), .second, .val (.long (q1 >>> ((32 : Int32) &&& 0x3f).toInt64)), .second, .unset, .unset, .unset, .unset, .unset, .unset, .unset, .unset, .unset, .unset, .unset, .unset, .unset, .unset] [(.long (q1 &&& (4294967295 : Int64)))])) (fun _ k => XS.land X0.here hx rfl (hb hby d_jdk_29_method_45_code_10) rfl k) ?_
  refine Go.of (T' := s₁) (f' := (mkF m 13 #[.val (.long q1), .second, .val (.long q2), .second, .val (.long (q1 >>> ((32 : Int32) &&& 0x3f).toInt64)), .second, .val (.long (q1 &&& (4294967295 : Int64))), .second, .unset, .unset, .unset, .unset, .unset, .unset, .unset, .unset, .unset, .unset, .unset, .unset] [])) (fun _ k => XS.lstore X0.here hx rfl (hb hby d_jdk_29_method_45_code_11) rfl (l' := #[.val (.long q1), .second, .val (.long q2), .second, .val (.long (q1 >>> ((32 : Int32) &&& 0x3f).toInt64)), .second, .val (.long (q1 &&& (4294967295 : Int64))), .second, .unset, .unset, .unset, .unset, .unset, .unset, .unset, .unset, .unset, .unset, .unset, .unset]) rfl k) ?_
  refine Go.of (T' := s₁) (f' := (mkF m 14 #[.val (.long q1), .second, .val (.long q2), .second, .val (.long (q1 >>> ((32 : Int32) &&& 0x3f).toInt64)), .second, .val (.long (q1 &&& (4294967295 : Int64))), .second, .unset, .unset, .unset, .unset, .unset, .unset, .unset, .unset, .unset, .unset, .unset, .unset] [(.long q2)])) (fun _ k => XS.lloadN X0.here hx rfl (hb hby d_jdk_29_method_45_code_13) rfl k) ?_
  refine Go.of (T' := s₁) (f' := (mkF m 16 #[.val (.long q1), .second, .val (.long q2), .second, .val (.long (q1 >>> ((32 : Int32) &&& 0x3f).toInt64)), .second, .val (.long (q1 &&& (4294967295 : Int64))), .second, .unset, .unset, .unset, .unset, .unset, .unset, .unset, .unset, .unset, .unset, .unset, .unset] [(.int (32 : Int32)), (.long q2)])) (fun _ k => XS.bipush X0.here hx rfl (hb hby d_jdk_29_method_45_code_14) k) ?_
  refine Go.of (T' := s₁) (f' := (mkF m 17 #[.val (.long q1), .second, .val (.long q2), .second, .val (.long (q1 >>> ((32 : Int32) &&& 0x3f).toInt64)), .second, .val (.long (q1 &&& (4294967295 : Int64))), .second, .unset, .unset, .unset, .unset, .unset, .unset, .unset, .unset, .unset, .unset, .unset, .unset] [(.long (q2 >>> ((32 : Int32) &&& 0x3f).toInt64))])) (fun _ k => XS.lshr X0.here hx rfl (hb hby d_jdk_29_method_45_code_16) rfl k) ?_
  refine Go.of (T' := s₁) (f' := (mkF m 19 #[.val (.long q1), .second, .val (.long q2), .second, .val (.long (q1 >>> ((32 : Int32) &&& 0x3f).toInt64)), .second, .val (.long (q1 &&& (4294967295 : Int64))), .second, .val (.long (q2 >>> ((32 : Int32) &&& 0x3f).toInt64)), .second, .unset, .unset, .unset, .unset, .unset, .unset, .unset, .unset, .unset, .unset] [])) (fun _ k => XS.lstore X0.here hx rfl (hb hby d_jdk_29_method_45_code_17) rfl (l' := #[.val (.long q1), .second, .val (.long q2), .second, .val (.long (q1 >>> ((32 : Int32) &&& 0x3f).toInt64)), .second, .val (.long (q1 &&& (4294967295 : Int64))), .second, .val (.long (q2 >>> ((32 : Int32) &&& 0x3f).toInt64)), .second, .unset, .unset, .unset, .unset, .unset, .unset, .unset, .unset, .unset, .unset]) rfl k) ?_
  refine Go.of (T' := s₁) (f' := (mkF m 20 #[.val (.long q1), .second, .val (.long q2), .second, .val (.long (q1 >>> ((32 : Int32) &&& 0x3f).toInt64)), .second, .val (.long (q1 &&& (4294967295 : Int64))), .second, .val (.long (q2 >>> ((32 : Int32) &&& 0x3f).toInt64)), .second, .unset, .unset, .unset, .unset, .unset, .unset, .unset, .unset, .unset, .unset] [(.long q2)])) (fun _ k => XS.lloadN X0.here hx rfl (hb hby d_jdk_29_method_45_code_19) rfl k) ?_
  refine Go.of (T' := s₁) (f' := (mkF m 23 #[.val (.long q1), .second, .val (.long q2), .second, .val (.long (q1 >>> ((32 : Int32) &&& 0x3f).toInt64)), .second, .val (.long (q1 &&& (4294967295 : Int64))), .second, .val (.long (q2 >>> ((32 : Int32) &&& 0x3f).toInt64)), .second, .unset, .unset, .unset, .unset, .unset, .unset, .unset, .unset, .unset, .unset] [(.long (4294967295 : Int64)), (.long q2)])) (fun _ k => X0.ldc2Long hx hown (mvT hZ (hw _ (List.mem_of_getElem? (i := 49) rfl))) (g := (mkF m 20 #[.val (.long q1), .second, .val (.long q2), .second, .val (.long (q1 >>> ((32 : Int32) &&& 0x3f).toInt64)), .second, .val (.long (q1 &&& (4294967295 : Int64))), .second, .val (.long (q2 >>> ((32 : Int32) &&& 0x3f).toInt64)), .second, .unset, .unset, .unset, .unset, .unset, .unset, .unset, .unset, .unset, .unset] [(.long q2)])) rfl (hb hby d_jdk_29_method_45_code_20) _ k) ?_
  refine Go.of (T' := s₁) (f' := (mkF m 24 #[.val (.long q1), .second, .val (.long q2), .second, .val (.long (q1 >>> ((32 : Int32) &&& 0x3f).toInt64)), .second, .val (.long (q1 &&& (4294967295 : Int64))), .second, .val (.long (q2 >>> ((32 : Int32) &&& 0x3f).toInt64)), .second, .unset, .unset, .unset, .unset, .unset, .unset, .unset, .unset, .unset, .unset] [(.long (q2 &&& (4294967295 : Int64)))])) (fun _ k => XS.land X0.here hx rfl (hb hby d_jdk_29_method_45_code_23) rfl k) ?_
  refine Go.of (T' := s₁) (f' := (mkF m 26 #[.val (.long q1), .second, .val (.long q2), .second, .val (.long (q1 >>> ((32 : Int32) &&& 0x3f).toInt64)), .second, .val (.long (q1 &&& (4294967295 : Int64))), .second, .val (.long (q2 >>> ((32 : Int32) &&& 0x3f).toInt64)), .second, .val (.long (q2 &&& (4294967295 : Int64))), .second, .unset, .unset, .unset, .unset, .unset, .unset, .unset, .unset] [])) (fun _ k => XS.lstore X0.here hx rfl (hb hby d_jdk_29_method_45_code_24) rfl (l' := #[.val (.long q1), .second, .val (.long q2), .second, .val (.long (q1 >>> ((32 : Int32) &&& 0x3f).toInt64)), .second, .val (.long (q1 &&& (4294967295 : Int64))), .second, .val (.long (q2 >>> ((32 : Int32) &&& 0x3f).toInt64)), .second, .val (.long (q2 &&& (4294967295 : Int64))), .second, .unset, .unset, .unset, .unset, .unset, .unset, .unset, .unset]) rfl k) ?_
  refine Go.of (T' := s₁) (f' := (mkF m 28 #[.val (.long q1), .second, .val (.long q2), .second, .val (.long (q1 >>> ((32 : Int32) &&& 0x3f).toInt64)), .second, .val (.long (q1 &&& (4294967295 : Int64))), .second, .val (.long (q2 >>> ((32 : Int32) &&& 0x3f).toInt64)), .second, .val (.long (q2 &&& (4294967295 : Int64))), .second, .unset, .unset, .unset, .unset, .unset, .unset, .unset, .unset] [(.long (q1 &&& (4294967295 : Int64)))])) (fun _ k => XS.lload X0.here hx rfl (hb hby d_jdk_29_method_45_code_26) rfl k) ?_
  refine Go.of (T' := s₁) (f' := (mkF m 30 #[.val (.long q1), .second, .val (.long q2), .second, .val (.long (q1 >>> ((32 : Int32) &&& 0x3f).toInt64)), .second, .val (.long (q1 &&& (4294967295 : Int64))), .second, .val (.long (q2 >>> ((32 : Int32) &&& 0x3f).toInt64)), .second, .val (.long (q2 &&& (4294967295 : Int64))), .second, .unset, .unset, .unset, .unset, .unset, .unset, .unset, .unset] [(.long (q2 &&& (4294967295 : Int64))), (.long (q1 &&& (4294967295 : Int64)))])) (fun _ k => XS.lload X0.here hx rfl (hb hby d_jdk_29_method_45_code_28) rfl k) ?_
  refine Go.of (T' := s₁) (f' := (mkF m 31 #[.val (.long q1), .second, .val (.long q2), .second, .val (.long (q1 >>> ((32 : Int32) &&& 0x3f).toInt64)), .second, .val (.long (q1 &&& (4294967295 : Int64))), .second, .val (.long (q2 >>> ((32 : Int32) &&& 0x3f).toInt64)), .second, .val (.long (q2 &&& (4294967295 : Int64))), .second, .unset, .unset, .unset, .unset, .unset, .unset, .unset, .unset] [(.long ((q1 &&& (4294967295 : Int64)) * (q2 &&& (4294967295 : Int64))))])) (fun _ k => XS.lmul X0.here hx rfl (hb hby d_jdk_29_method_45_code_30) rfl k) ?_
  refine Go.of (T' := s₁) (f' := (mkF m 33 #[.val (.long q1), .second, .val (.long q2), .second, .val (.long (q1 >>> ((32 : Int32) &&& 0x3f).toInt64)), .second, .val (.long (q1 &&& (4294967295 : Int64))), .second, .val (.long (q2 >>> ((32 : Int32) &&& 0x3f).toInt64)), .second, .val (.long (q2 &&& (4294967295 : Int64))), .second, .val (.long ((q1 &&& (4294967295 : Int64)) * (q2 &&& (4294967295 : Int64)))), .second, .unset, .unset, .unset, .unset, .unset, .unset] [])) (fun _ k => XS.lstore X0.here hx rfl (hb hby d_jdk_29_method_45_code_31) rfl (l' := #[.val (.long q1), .second, .val (.long q2), .second, .val (.long (q1 >>> ((32 : Int32) &&& 0x3f).toInt64)), .second, .val (.long (q1 &&& (4294967295 : Int64))), .second, .val (.long (q2 >>> ((32 : Int32) &&& 0x3f).toInt64)), .second, .val (.long (q2 &&& (4294967295 : Int64))), .second, .val (.long ((q1 &&& (4294967295 : Int64)) * (q2 &&& (4294967295 : Int64)))), .second, .unset, .unset, .unset, .unset, .unset, .unset]) rfl k) ?_
  refine Go.of (T' := s₁) (f' := (mkF m 35 #[.val (.long q1), .second, .val (.long q2), .second, .val (.long (q1 >>> ((32 : Int32) &&& 0x3f).toInt64)), .second, .val (.long (q1 &&& (4294967295 : Int64))), .second, .val (.long (q2 >>> ((32 : Int32) &&& 0x3f).toInt64)), .second, .val (.long (q2 &&& (4294967295 : Int64))), .second, .val (.long ((q1 &&& (4294967295 : Int64)) * (q2 &&& (4294967295 : Int64)))), .second, .unset, .unset, .unset, .unset, .unset, .unset] [(.long (q1 >>> ((32 : Int32) &&& 0x3f).toInt64))])) (fun _ k => XS.lload X0.here hx rfl (hb hby d_jdk_29_method_45_code_33) rfl k) ?_
  refine Go.of (T' := s₁) (f' := (mkF m 37 #[.val (.long q1), .second, .val (.long q2), .second, .val (.long (q1 >>> ((32 : Int32) &&& 0x3f).toInt64)), .second, .val (.long (q1 &&& (4294967295 : Int64))), .second, .val (.long (q2 >>> ((32 : Int32) &&& 0x3f).toInt64)), .second, .val (.long (q2 &&& (4294967295 : Int64))), .second, .val (.long ((q1 &&& (4294967295 : Int64)) * (q2 &&& (4294967295 : Int64)))), .second, .unset, .unset, .unset, .unset, .unset, .unset] [(.long (q2 &&& (4294967295 : Int64))), (.long (q1 >>> ((32 : Int32) &&& 0x3f).toInt64))])) (fun _ k => XS.lload X0.here hx rfl (hb hby d_jdk_29_method_45_code_35) rfl k) ?_
  refine Go.of (T' := s₁) (f' := (mkF m 38 #[.val (.long q1), .second, .val (.long q2), .second, .val (.long (q1 >>> ((32 : Int32) &&& 0x3f).toInt64)), .second, .val (.long (q1 &&& (4294967295 : Int64))), .second, .val (.long (q2 >>> ((32 : Int32) &&& 0x3f).toInt64)), .second, .val (.long (q2 &&& (4294967295 : Int64))), .second, .val (.long ((q1 &&& (4294967295 : Int64)) * (q2 &&& (4294967295 : Int64)))), .second, .unset, .unset, .unset, .unset, .unset, .unset] [(.long ((q1 >>> ((32 : Int32) &&& 0x3f).toInt64) * (q2 &&& (4294967295 : Int64))))])) (fun _ k => XS.lmul X0.here hx rfl (hb hby d_jdk_29_method_45_code_37) rfl k) ?_
  refine Go.of (T' := s₁) (f' := (mkF m 40 #[.val (.long q1), .second, .val (.long q2), .second, .val (.long (q1 >>> ((32 : Int32) &&& 0x3f).toInt64)), .second, .val (.long (q1 &&& (4294967295 : Int64))), .second, .val (.long (q2 >>> ((32 : Int32) &&& 0x3f).toInt64)), .second, .val (.long (q2 &&& (4294967295 : Int64))), .second, .val (.long ((q1 &&& (4294967295 : Int64)) * (q2 &&& (4294967295 : Int64)))), .second, .unset, .unset, .unset, .unset, .unset, .unset] [(.long ((q1 &&& (4294967295 : Int64)) * (q2 &&& (4294967295 : Int64)))), (.long ((q1 >>> ((32 : Int32) &&& 0x3f).toInt64) * (q2 &&& (4294967295 : Int64))))])) (fun _ k => XS.lload X0.here hx rfl (hb hby d_jdk_29_method_45_code_38) rfl k) ?_
  refine Go.of (T' := s₁) (f' := (mkF m 42 #[.val (.long q1), .second, .val (.long q2), .second, .val (.long (q1 >>> ((32 : Int32) &&& 0x3f).toInt64)), .second, .val (.long (q1 &&& (4294967295 : Int64))), .second, .val (.long (q2 >>> ((32 : Int32) &&& 0x3f).toInt64)), .second, .val (.long (q2 &&& (4294967295 : Int64))), .second, .val (.long ((q1 &&& (4294967295 : Int64)) * (q2 &&& (4294967295 : Int64)))), .second, .unset, .unset, .unset, .unset, .unset, .unset] [(.int (32 : Int32)), (.long ((q1 &&& (4294967295 : Int64)) * (q2 &&& (4294967295 : Int64)))), (.long ((q1 >>> ((32 : Int32) &&& 0x3f).toInt64) * (q2 &&& (4294967295 : Int64))))])) (fun _ k => XS.bipush X0.here hx rfl (hb hby d_jdk_29_method_45_code_40) k) ?_
  refine Go.of (T' := s₁) (f' := (mkF m 43 #[.val (.long q1), .second, .val (.long q2), .second, .val (.long (q1 >>> ((32 : Int32) &&& 0x3f).toInt64)), .second, .val (.long (q1 &&& (4294967295 : Int64))), .second, .val (.long (q2 >>> ((32 : Int32) &&& 0x3f).toInt64)), .second, .val (.long (q2 &&& (4294967295 : Int64))), .second, .val (.long ((q1 &&& (4294967295 : Int64)) * (q2 &&& (4294967295 : Int64)))), .second, .unset, .unset, .unset, .unset, .unset, .unset] [(.long ((((q1 &&& (4294967295 : Int64)) * (q2 &&& (4294967295 : Int64))).toUInt64 >>> ((32 : Int32) &&& 0x3f).toInt64.toUInt64).toInt64)), (.long ((q1 >>> ((32 : Int32) &&& 0x3f).toInt64) * (q2 &&& (4294967295 : Int64))))])) (fun _ k => XS.lushr X0.here hx rfl (hb hby d_jdk_29_method_45_code_42) rfl k) ?_
  refine Go.of (T' := s₁) (f' := (mkF m 44 #[.val (.long q1), .second, .val (.long q2), .second, .val (.long (q1 >>> ((32 : Int32) &&& 0x3f).toInt64)), .second, .val (.long (q1 &&& (4294967295 : Int64))), .second, .val (.long (q2 >>> ((32 : Int32) &&& 0x3f).toInt64)), .second, .val (.long (q2 &&& (4294967295 : Int64))), .second, .val (.long ((q1 &&& (4294967295 : Int64)) * (q2 &&& (4294967295 : Int64)))), .second, .unset, .unset, .unset, .unset, .unset, .unset] [(.long (((q1 >>> ((32 : Int32) &&& 0x3f).toInt64) * (q2 &&& (4294967295 : Int64))) + ((((q1 &&& (4294967295 : Int64)) * (q2 &&& (4294967295 : Int64))).toUInt64 >>> ((32 : Int32) &&& 0x3f).toInt64.toUInt64).toInt64)))])) (fun _ k => XS.ladd X0.here hx rfl (hb hby d_jdk_29_method_45_code_43) rfl k) ?_
  refine Go.of (T' := s₁) (f' := (mkF m 46 #[.val (.long q1), .second, .val (.long q2), .second, .val (.long (q1 >>> ((32 : Int32) &&& 0x3f).toInt64)), .second, .val (.long (q1 &&& (4294967295 : Int64))), .second, .val (.long (q2 >>> ((32 : Int32) &&& 0x3f).toInt64)), .second, .val (.long (q2 &&& (4294967295 : Int64))), .second, .val (.long ((q1 &&& (4294967295 : Int64)) * (q2 &&& (4294967295 : Int64)))), .second, .val (.long (((q1 >>> ((32 : Int32) &&& 0x3f).toInt64) * (q2 &&& (4294967295 : Int64))) + ((((q1 &&& (4294967295 : Int64)) * (q2 &&& (4294967295 : Int64))).toUInt64 >>> ((32 : Int32) &&& 0x3f).toInt64.toUInt64).toInt64))), .second, .unset, .unset, .unset, .unset] [])) (fun _ k => XS.lstore X0.here hx rfl (hb hby d_jdk_29_method_45_code_44) rfl (l' := #[.val (.long q1), .second, .val (.long q2), .second, .val (.long (q1 >>> ((32 : Int32) &&& 0x3f).toInt64)), .second, .val (.long (q1 &&& (4294967295 : Int64))), .second, .val (.long (q2 >>> ((32 : Int32) &&& 0x3f).toInt64)), .second, .val (.long (q2 &&& (4294967295 : Int64))), .second, .val (.long ((q1 &&& (4294967295 : Int64)) * (q2 &&& (4294967295 : Int64)))), .second, .val (.long (((q1 >>> ((32 : Int32) &&& 0x3f).toInt64) * (q2 &&& (4294967295 : Int64))) + ((((q1 &&& (4294967295 : Int64)) * (q2 &&& (4294967295 : Int64))).toUInt64 >>> ((32 : Int32) &&& 0x3f).toInt64.toUInt64).toInt64))), .second, .unset, .unset, .unset, .unset]) rfl k) ?_
  refine Go.of (T' := s₁) (f' := (mkF m 48 #[.val (.long q1), .second, .val (.long q2), .second, .val (.long (q1 >>> ((32 : Int32) &&& 0x3f).toInt64)), .second, .val (.long (q1 &&& (4294967295 : Int64))), .second, .val (.long (q2 >>> ((32 : Int32) &&& 0x3f).toInt64)), .second, .val (.long (q2 &&& (4294967295 : Int64))), .second, .val (.long ((q1 &&& (4294967295 : Int64)) * (q2 &&& (4294967295 : Int64)))), .second, .val (.long (((q1 >>> ((32 : Int32) &&& 0x3f).toInt64) * (q2 &&& (4294967295 : Int64))) + ((((q1 &&& (4294967295 : Int64)) * (q2 &&& (4294967295 : Int64))).toUInt64 >>> ((32 : Int32) &&& 0x3f).toInt64.toUInt64).toInt64))), .second, .unset, .unset, .unset, .unset] [(.long (((q1 >>> ((32 : Int32) &&& 0x3f).toInt64) * (q2 &&& (4294967295 : Int64))) + ((((q1 &&& (4294967295 : Int64)) * (q2 &&& (4294967295 : Int64))).toUInt64 >>> ((32 : Int32) &&& 0x3f).toInt64.toUInt64).toInt64)))])) (fun _ k => XS.lload X0.here hx rfl (hb hby d_jdk_29_method_45_code_46) rfl k) ?_
  refine Go.of (T' := s₁) (f' := (mkF m 51 #[.val (.long q1), .second, .val (.long q2), .second, .val (.long (q1 >>> ((32 : Int32) &&& 0x3f).toInt64)), .second, .val (.long (q1 &&& (4294967295 : Int64))), .second, .val (.long (q2 >>> ((32 : Int32) &&& 0x3f).toInt64)), .second, .val (.long (q2 &&& (4294967295 : Int64))), .second, .val (.long ((q1 &&& (4294967295 : Int64)) * (q2 &&& (4294967295 : Int64)))), .second, .val (.long (((q1 >>> ((32 : Int32) &&& 0x3f).toInt64) * (q2 &&& (4294967295 : Int64))) + ((((q1 &&& (4294967295 : Int64)) * (q2 &&& (4294967295 : Int64))).toUInt64 >>> ((32 : Int32) &&& 0x3f).toInt64.toUInt64).toInt64))), .second, .unset, .unset, .unset, .unset] [(.long (4294967295 : Int64)), (.long (((q1 >>> ((32 : Int32) &&& 0x3f).toInt64) * (q2 &&& (4294967295 : Int64))) + ((((q1 &&& (4294967295 : Int64)) * (q2 &&& (4294967295 : Int64))).toUInt64 >>> ((32 : Int32) &&& 0x3f).toInt64.toUInt64).toInt64)))])) (fun _ k => X0.ldc2Long hx hown (mvT hZ (hw _ (List.mem_of_getElem? (i := 49) rfl))) (g := (mkF m 48 #[.val (.long q1), .second, .val (.long q2), .second, .val (.long (q1 >>> ((32 : Int32) &&& 0x3f).toInt64)), .second, .val (.long (q1 &&& (4294967295 : Int64))), .second, .val (.long (q2 >>> ((32 : Int32) &&& 0x3f).toInt64)), .second, .val (.long (q2 &&& (4294967295 : Int64))), .second, .val (.long ((q1 &&& (4294967295 : Int64)) * (q2 &&& (4294967295 : Int64)))), .second, .val (.long (((q1 >>> ((32 : Int32) &&& 0x3f).toInt64) * (q2 &&& (4294967295 : Int64))) + ((((q1 &&& (4294967295 : Int64)) * (q2 &&& (4294967295 : Int64))).toUInt64 >>> ((32 : Int32) &&& 0x3f).toInt64.toUInt64).toInt64))), .second, .unset, .unset, .unset, .unset] [(.long (((q1 >>> ((32 : Int32) &&& 0x3f).toInt64) * (q2 &&& (4294967295 : Int64))) + ((((q1 &&& (4294967295 : Int64)) * (q2 &&& (4294967295 : Int64))).toUInt64 >>> ((32 : Int32) &&& 0x3f).toInt64.toUInt64).toInt64)))])) rfl (hb hby d_jdk_29_method_45_code_48) _ k) ?_
  refine Go.of (T' := s₁) (f' := (mkF m 52 #[.val (.long q1), .second, .val (.long q2), .second, .val (.long (q1 >>> ((32 : Int32) &&& 0x3f).toInt64)), .second, .val (.long (q1 &&& (4294967295 : Int64))), .second, .val (.long (q2 >>> ((32 : Int32) &&& 0x3f).toInt64)), .second, .val (.long (q2 &&& (4294967295 : Int64))), .second, .val (.long ((q1 &&& (4294967295 : Int64)) * (q2 &&& (4294967295 : Int64)))), .second, .val (.long (((q1 >>> ((32 : Int32) &&& 0x3f).toInt64) * (q2 &&& (4294967295 : Int64))) + ((((q1 &&& (4294967295 : Int64)) * (q2 &&& (4294967295 : Int64))).toUInt64 >>> ((32 : Int32) &&& 0x3f).toInt64.toUInt64).toInt64))), .second, .unset, .unset, .unset, .unset] [(.long ((((q1 >>> ((32 : Int32) &&& 0x3f).toInt64) * (q2 &&& (4294967295 : Int64))) + ((((q1 &&& (4294967295 : Int64)) * (q2 &&& (4294967295 : Int64))).toUInt64 >>> ((32 : Int32) &&& 0x3f).toInt64.toUInt64).toInt64)) &&& (4294967295 : Int64)))])) (fun _ k => XS.land X0.here hx rfl (hb hby d_jdk_29_method_45_code_51) rfl k) ?_
  refine Go.of (T' := s₁) (f' := (mkF m 54 #[.val (.long q1), .second, .val (.long q2), .second, .val (.long (q1 >>> ((32 : Int32) &&& 0x3f).toInt64)), .second, .val (.long (q1 &&& (4294967295 : Int64))), .second, .val (.long (q2 >>> ((32 : Int32) &&& 0x3f).toInt64)), .second, .val (.long (q2 &&& (4294967295 : Int64))), .second, .val (.long ((q1 &&& (4294967295 : Int64)) * (q2 &&& (4294967295 : Int64)))), .second, .val (.long (((q1 >>> ((32 : Int32) &&& 0x3f).toInt64) * (q2 &&& (4294967295 : Int64))) + ((((q1 &&& (4294967295 : Int64)) * (q2 &&& (4294967295 : Int64))).toUInt64 >>> ((32 : Int32) &&& 0x3f).toInt64.toUInt64).toInt64))), .second, .val (.long ((((q1 >>> ((32 : Int32) &&& 0x3f).toInt64) * (q2 &&& (4294967295 : Int64))) + ((((q1 &&& (4294967295 : Int64)) * (q2 &&& (4294967295 : Int64))).toUInt64 >>> ((32 : Int32) &&& 0x3f).toInt64.toUInt64).toInt64)) &&& (4294967295 : Int64))), .second, .unset, .unset] [])) (fun _ k => XS.lstore X0.here hx rfl (hb hby d_jdk_29_method_45_code_52) rfl (l' := #[.val (.long q1), .second, .val (.long q2), .second, .val (.long (q1 >>> ((32 : Int32) &&& 0x3f).toInt64)), .second, .val (.long (q1 &&& (4294967295 : Int64))), .second, .val (.long (q2 >>> ((32 : Int32) &&& 0x3f).toInt64)), .second, .val (.long (q2 &&& (4294967295 : Int64))), .second, .val (.long ((q1 &&& (4294967295 : Int64)) * (q2 &&& (4294967295 : Int64)))), .second, .val (.long (((q1 >>> ((32 : Int32) &&& 0x3f).toInt64) * (q2 &&& (4294967295 : Int64))) + ((((q1 &&& (4294967295 : Int64)) * (q2 &&& (4294967295 : Int64))).toUInt64 >>> ((32 : Int32) &&& 0x3f).toInt64.toUInt64).toInt64))), .second, .val (.long ((((q1 >>> ((32 : Int32) &&& 0x3f).toInt64) * (q2 &&& (4294967295 : Int64))) + ((((q1 &&& (4294967295 : Int64)) * (q2 &&& (4294967295 : Int64))).toUInt64 >>> ((32 : Int32) &&& 0x3f).toInt64.toUInt64).toInt64)) &&& (4294967295 : Int64))), .second, .unset, .unset]) rfl k) ?_
  refine Go.of (T' := s₁) (f' := (mkF m 56 #[.val (.long q1), .second, .val (.long q2), .second, .val (.long (q1 >>> ((32 : Int32) &&& 0x3f).toInt64)), .second, .val (.long (q1 &&& (4294967295 : Int64))), .second, .val (.long (q2 >>> ((32 : Int32) &&& 0x3f).toInt64)), .second, .val (.long (q2 &&& (4294967295 : Int64))), .second, .val (.long ((q1 &&& (4294967295 : Int64)) * (q2 &&& (4294967295 : Int64)))), .second, .val (.long (((q1 >>> ((32 : Int32) &&& 0x3f).toInt64) * (q2 &&& (4294967295 : Int64))) + ((((q1 &&& (4294967295 : Int64)) * (q2 &&& (4294967295 : Int64))).toUInt64 >>> ((32 : Int32) &&& 0x3f).toInt64.toUInt64).toInt64))), .second, .val (.long ((((q1 >>> ((32 : Int32) &&& 0x3f).toInt64) * (q2 &&& (4294967295 : Int64))) + ((((q1 &&& (4294967295 : Int64)) * (q2 &&& (4294967295 : Int64))).toUInt64 >>> ((32 : Int32) &&& 0x3f).toInt64.toUInt64).toInt64)) &&& (4294967295 : Int64))), .second, .unset, .unset] [(.long (((q1 >>> ((32 : Int32) &&& 0x3f).toInt64) * (q2 &&& (4294967295 : Int64))) + ((((q1 &&& (4294967295 : Int64)) * (q2 &&& (4294967295 : Int64))).toUInt64 >>> ((32 : Int32) &&& 0x3f).toInt64.toUInt64).toInt64)))])) (fun _ k => XS.lload X0.here hx rfl (hb hby d_jdk_29_method_45_code_54) rfl k) ?_
  refine Go.of (T' := s₁) (f' := (mkF m 58 #[.val (.long q1), .second, .val (.long q2), .second, .val (.long (q1 >>> ((32 : Int32) &&& 0x3f).toInt64)), .second, .val (.long (q1 &&& (4294967295 : Int64))), .second, .val (.long (q2 >>> ((32 : Int32) &&& 0x3f).toInt64)), .second, .val (.long (q2 &&& (4294967295 : Int64))), .second, .val (.long ((q1 &&& (4294967295 : Int64)) * (q2 &&& (4294967295 : Int64)))), .second, .val (.long (((q1 >>> ((32 : Int32) &&& 0x3f).toInt64) * (q2 &&& (4294967295 : Int64))) + ((((q1 &&& (4294967295 : Int64)) * (q2 &&& (4294967295 : Int64))).toUInt64 >>> ((32 : Int32) &&& 0x3f).toInt64.toUInt64).toInt64))), .second, .val (.long ((((q1 >>> ((32 : Int32) &&& 0x3f).toInt64) * (q2 &&& (4294967295 : Int64))) + ((((q1 &&& (4294967295 : Int64)) * (q2 &&& (4294967295 : Int64))).toUInt64 >>> ((32 : Int32) &&& 0x3f).toInt64.toUInt64).toInt64)) &&& (4294967295 : Int64))), .second, .unset, .unset] [(.int (32 : Int32)), (.long (((q1 >>> ((32 : Int32) &&& 0x3f).toInt64) * (q2 &&& (4294967295 : Int64))) + ((((q1 &&& (4294967295 : Int64)) * (q2 &&& (4294967295 : Int64))).toUInt64 >>> ((32 : Int32) &&& 0x3f).toInt64.toUInt64).toInt64)))])) (fun _ k => XS.bipush X0.here hx rfl (hb hby d_jdk_29_method_45_code_56) k) ?_
  refine Go.of (T' := s₁) (f' := (mkF m 59 #[.val (.long q1), .second, .val (.long q2), .second, .val (.long (q1 >>> ((32 : Int32) &&& 0x3f).toInt64)), .second, .val (.long (q1 &&& (4294967295 : Int64))), .second, .val (.long (q2 >>> ((32 : Int32) &&& 0x3f).toInt64)), .second, .val (.long (q2 &&& (4294967295 : Int64))), .second, .val (.long ((q1 &&& (4294967295 : Int64)) * (q2 &&& (4294967295 : Int64)))), .second, .val (.long (((q1 >>> ((32 : Int32) &&& 0x3f).toInt64) * (q2 &&& (4294967295 : Int64))) + ((((q1 &&& (4294967295 : Int64)) * (q2 &&& (4294967295 : Int64))).toUInt64 >>> ((32 : Int32) &&& 0x3f).toInt64.toUInt64).toInt64))), .second, .val (.long ((((q1 >>> ((32 : Int32) &&& 0x3f).toInt64) * (q2 &&& (4294967295 : Int64))) + ((((q1 &&& (4294967295 : Int64)) * (q2 &&& (4294967295 : Int64))).toUInt64 >>> ((32 : Int32) &&& 0x3f).toInt64.toUInt64).toInt64)) &&& (4294967295 : Int64))), .second, .unset, .unset] [(.long ((((q1 >>> ((32 : Int32) &&& 0x3f).toInt64) * (q2 &&& (4294967295 : Int64))) + ((((q1 &&& (4294967295 : Int64)) * (q2 &&& (4294967295 : Int64))).toUInt64 >>> ((32 : Int32) &&& 0x3f).toInt64.toUInt64).toInt64)) >>> ((32 : Int32) &&& 0x3f).toInt64))])) (fun _ k => XS.lshr X0.here hx rfl (hb hby d_jdk_29_method_45_code_58) rfl k) ?_
  refine Go.of (T' := s₁) (f' := (mkF m 61 #[.val (.long q1), .second, .val (.long q2), .second, .val (.long (q1 >>> ((32 : Int32) &&& 0x3f).toInt64)), .second, .val (.long (q1 &&& (4294967295 : Int64))), .second, .val (.long (q2 >>> ((32 : Int32) &&& 0x3f).toInt64)), .second, .val (.long (q2 &&& (4294967295 : Int64))), .second, .val (.long ((q1 &&& (4294967295 : Int64)) * (q2 &&& (4294967295 : Int64)))), .second, .val (.long (((q1 >>> ((32 : Int32) &&& 0x3f).toInt64) * (q2 &&& (4294967295 : Int64))) + ((((q1 &&& (4294967295 : Int64)) * (q2 &&& (4294967295 : Int64))).toUInt64 >>> ((32 : Int32) &&& 0x3f).toInt64.toUInt64).toInt64))), .second, .val (.long ((((q1 >>> ((32 : Int32) &&& 0x3f).toInt64) * (q2 &&& (4294967295 : Int64))) + ((((q1 &&& (4294967295 : Int64)) * (q2 &&& (4294967295 : Int64))).toUInt64 >>> ((32 : Int32) &&& 0x3f).toInt64.toUInt64).toInt64)) &&& (4294967295 : Int64))), .second, .val (.long ((((q1 >>> ((32 : Int32) &&& 0x3f).toInt64) * (q2 &&& (4294967295 : Int64))) + ((((q1 &&& (4294967295 : Int64)) * (q2 &&& (4294967295 : Int64))).toUInt64 >>> ((32 : Int32) &&& 0x3f).toInt64.toUInt64).toInt64)) >>> ((32 : Int32) &&& 0x3f).toInt64)), .second] [])) (fun _ k => XS.lstore X0.here hx rfl (hb hby d_jdk_29_method_45_code_59) rfl (l' := #[.val (.long q1), .second, .val (.long q2), .second, .val (.long (q1 >>> ((32 : Int32) &&& 0x3f).toInt64)), .second, .val (.long (q1 &&& (4294967295 : Int64))), .second, .val (.long (q2 >>> ((32 : Int32) &&& 0x3f).toInt64)), .second, .val (.long (q2 &&& (4294967295 : Int64))), .second, .val (.long ((q1 &&& (4294967295 : Int64)) * (q2 &&& (4294967295 : Int64)))), .second, .val (.long (((q1 >>> ((32 : Int32) &&& 0x3f).toInt64) * (q2 &&& (4294967295 : Int64))) + ((((q1 &&& (4294967295 : Int64)) * (q2 &&& (4294967295 : Int64))).toUInt64 >>> ((32 : Int32) &&& 0x3f).toInt64.toUInt64).toInt64))), .second, .val (.long ((((q1 >>> ((32 : Int32) &&& 0x3f).toInt64) * (q2 &&& (4294967295 : Int64))) + ((((q1 &&& (4294967295 : Int64)) * (q2 &&& (4294967295 : Int64))).toUInt64 >>> ((32 : Int32) &&& 0x3f).toInt64.toUInt64).toInt64)) &&& (4294967295 : Int64))), .second, .val (.long ((((q1 >>> ((32 : Int32) &&& 0x3f).toInt64) * (q2 &&& (4294967295 : Int64))) + ((((q1 &&& (4294967295 : Int64)) * (q2 &&& (4294967295 : Int64))).toUInt64 >>> ((32 : Int32) &&& 0x3f).toInt64.toUInt64).toInt64)) >>> ((32 : Int32) &&& 0x3f).toInt64)), .second]) rfl k) ?_
  refine Go.of (T' := s₁) (f' := (mkF m 63 #[.val (.long q1), .second, .val (.long q2), .second, .val (.long (q1 >>> ((32 : Int32) &&& 0x3f).toInt64)), .second, .val (.long (q1 &&& (4294967295 : Int64))), .second, .val (.long (q2 >>> ((32 : Int32) &&& 0x3f).toInt64)), .second, .val (.long (q2 &&& (4294967295 : Int64))), .second, .val (.long ((q1 &&& (4294967295 : Int64)) * (q2 &&& (4294967295 : Int64)))), .second, .val (.long (((q1 >>> ((32 : Int32) &&& 0x3f).toInt64) * (q2 &&& (4294967295 : Int64))) + ((((q1 &&& (4294967295 : Int64)) * (q2 &&& (4294967295 : Int64))).toUInt64 >>> ((32 : Int32) &&& 0x3f).toInt64.toUInt64).toInt64))), .second, .val (.long ((((q1 >>> ((32 : Int32) &&& 0x3f).toInt64) * (q2 &&& (4294967295 : Int64))) + ((((q1 &&& (4294967295 : Int64)) * (q2 &&& (4294967295 : Int64))).toUInt64 >>> ((32 : Int32) &&& 0x3f).toInt64.toUInt64).toInt64)) &&& (4294967295 : Int64))), .second, .val (.long ((((q1 >>> ((32 : Int32) &&& 0x3f).toInt64) * (q2 &&& (4294967295 : Int64))) + ((((q1 &&& (4294967295 : Int64)) * (q2 &&& (4294967295 : Int64))).toUInt64 >>> ((32 : Int32) &&& 0x3f).toInt64.toUInt64).toInt64)) >>> ((32 : Int32) &&& 0x3f).toInt64)), .second] [(.long ((((q1 >>> ((32 : Int32) &&& 0x3f).toInt64) * (q2 &&& (4294967295 : Int64))) + ((((q1 &&& (4294967295 : Int64)) * (q2 &&& (4294967295 : Int64))).toUInt64 >>> ((32 : Int32) &&& 0x3f).toInt64.toUInt64).toInt64)) &&& (4294967295 : Int64)))])) (fun _ k => XS.lload X0.here hx rfl (hb hby d_jdk_29_method_45_code_61) rfl k) ?_
  refine Go.of (T' := s₁) (f' := (mkF m 65 #[.val (.long q1), .second, .val (.long q2), .second, .val (.long (q1 >>> ((32 : Int32) &&& 0x3f).toInt64)), .second, .val (.long (q1 &&& (4294967295 : Int64))), .second, .val (.long (q2 >>> ((32 : Int32) &&& 0x3f).toInt64)), .second, .val (.long (q2 &&& (4294967295 : Int64))), .second, .val (.long ((q1 &&& (4294967295 : Int64)) * (q2 &&& (4294967295 : Int64)))), .second, .val (.long (((q1 >>> ((32 : Int32) &&& 0x3f).toInt64) * (q2 &&& (4294967295 : Int64))) + ((((q1 &&& (4294967295 : Int64)) * (q2 &&& (4294967295 : Int64))).toUInt64 >>> ((32 : Int32) &&& 0x3f).toInt64.toUInt64).toInt64))), .second, .val (.long ((((q1 >>> ((32 : Int32) &&& 0x3f).toInt64) * (q2 &&& (4294967295 : Int64))) + ((((q1 &&& (4294967295 : Int64)) * (q2 &&& (4294967295 : Int64))).toUInt64 >>> ((32 : Int32) &&& 0x3f).toInt64.toUInt64).toInt64)) &&& (4294967295 : Int64))), .second, .val (.long ((((q1 >>> ((32 : Int32) &&& 0x3f).toInt64) * (q2 &&& (4294967295 : Int64))) + ((((q1 &&& (4294967295 : Int64)) * (q2 &&& (4294967295 : Int64))).toUInt64 >>> ((32 : Int32) &&& 0x3f).toInt64.toUInt64).toInt64)) >>> ((32 : Int32) &&& 0x3f).toInt64)), .second] [(.long (q1 &&& (4294967295 : Int64))), (.long ((((q1 >>> ((32 : Int32) &&& 0x3f).toInt64) * (q2 &&& (4294967295 : Int64))) + ((((q1 &&& (4294967295 : Int64)) * (q2 &&& (4294967295 : Int64))).toUInt64 >>> ((32 : Int32) &&& 0x3f).toInt64.toUInt64).toInt64)) &&& (4294967295 : Int64)))])) (fun _ k => XS.lload X0.here hx rfl (hb hby d_jdk_29_method_45_code_63) rfl k) ?_
  refine Go.of (T' := s₁) (f' := (mkF m 67 #[.val (.long q1), .second, .val (.long q2), .second, .val (.long (q1 >>> ((32 : Int32) &&& 0x3f).toInt64)), .second, .val (.long (q1 &&& (4294967295 : Int64))), .second, .val (.long (q2 >>> ((32 : Int32) &&& 0x3f).toInt64)), .second, .val (.long (q2 &&& (4294967295 : Int64))), .second, .val (.long ((q1 &&& (4294967295 : Int64)) * (q2 &&& (4294967295 : Int64)))), .second, .val (.long (((q1 >>> ((32 : Int32) &&& 0x3f).toInt64) * (q2 &&& (4294967295 : Int64))) + ((((q1 &&& (4294967295 : Int64)) * (q2 &&& (4294967295 : Int64))).toUInt64 >>> ((32 : Int32) &&& 0x3f).toInt64.toUInt64).toInt64))), .second, .val (.long ((((q1 >>> ((32 : Int32) &&& 0x3f).toInt64) * (q2 &&& (4294967295 : Int64))) + ((((q1 &&& (4294967295 : Int64)) * (q2 &&& (4294967295 : Int64))).toUInt64 >>> ((32 : Int32) &&& 0x3f).toInt64.toUInt64).toInt64)) &&& (4294967295 : Int64))), .second, .val (.long ((((q1 >>> ((32 : Int32) &&& 0x3f).toInt64) * (q2 &&& (4294967295 : Int64))) + ((((q1 &&& (4294967295 : Int64)) * (q2 &&& (4294967295 : Int64))).toUInt64 >>> ((32 : Int32) &&& 0x3f).toInt64.toUInt64).toInt64)) >>> ((32 : Int32) &&& 0x3f).toInt64)), .second] [(.long (q2 >>> ((32 : Int32) &&& 0x3f).toInt64)), (.long (q1 &&& (4294967295 : Int64))), (.long ((((q1 >>> ((32 : Int32) &&& 0x3f).toInt64) * (q2 &&& (4294967295 : Int64))) + ((((q1 &&& (4294967295 : Int64)) * (q2 &&& (4294967295 : Int64))).toUInt64 >>> ((32 : Int32) &&& 0x3f).toInt64.toUInt64).toInt64)) &&& (4294967295 : Int64)))])) (fun _ k => XS.lload X0.here hx rfl (hb hby d_jdk_29_method_45_code_65) rfl k) ?_
  refine Go.of (T' := s₁) (f' := (mkF m 68 #[.val (.long q1), .second, .val (.long q2), .second, .val (.long (q1 >>> ((32 : Int32) &&& 0x3f).toInt64)), .second, .val (.long (q1 &&& (4294967295 : Int64))), .second, .val (.long (q2 >>> ((32 : Int32) &&& 0x3f).toInt64)), .second, .val (.long (q2 &&& (4294967295 : Int64))), .second, .val (.long ((q1 &&& (4294967295 : Int64)) * (q2 &&& (4294967295 : Int64)))), .second, .val (.long (((q1 >>> ((32 : Int32) &&& 0x3f).toInt64) * (q2 &&& (4294967295 : Int64))) + ((((q1 &&& (4294967295 : Int64)) * (q2 &&& (4294967295 : Int64))).toUInt64 >>> ((32 : Int32) &&& 0x3f).toInt64.toUInt64).toInt64))), .second, .val (.long ((((q1 >>> ((32 : Int32) &&& 0x3f).toInt64) * (q2 &&& (4294967295 : Int64))) + ((((q1 &&& (4294967295 : Int64)) * (q2 &&& (4294967295 : Int64))).toUInt64 >>> ((32 : Int32) &&& 0x3f).toInt64.toUInt64).toInt64)) &&& (4294967295 : Int64))), .second, .val (.long ((((q1 >>> ((32 : Int32) &&& 0x3f).toInt64) * (q2 &&& (4294967295 : Int64))) + ((((q1 &&& (4294967295 : Int64)) * (q2 &&& (4294967295 : Int64))).toUInt64 >>> ((32 : Int32) &&& 0x3f).toInt64.toUInt64).toInt64)) >>> ((32 : Int32) &&& 0x3f).toInt64)), .second] [(.long ((q1 &&& (4294967295 : Int64)) * (q2 >>> ((32 : Int32) &&& 0x3f).toInt64))), (.long ((((q1 >>> ((32 : Int32) &&& 0x3f).toInt64) * (q2 &&& (4294967295 : Int64))) + ((((q1 &&& (4294967295 : Int64)) * (q2 &&& (4294967295 : Int64))).toUInt64 >>> ((32 : Int32) &&& 0x3f).toInt64.toUInt64).toInt64)) &&& (4294967295 : Int64)))])) (fun _ k => XS.lmul X0.here hx rfl (hb hby d_jdk_29_method_45_code_67) rfl k) ?_
  refine Go.of (T' := s₁) (f' := (mkF m 69 #[.val (.long q1), .second, .val (.long q2), .second, .val (.long (q1 >>> ((32 : Int32) &&& 0x3f).toInt64)), .second, .val (.long (q1 &&& (4294967295 : Int64))), .second, .val (.long (q2 >>> ((32 : Int32) &&& 0x3f).toInt64)), .second, .val (.long (q2 &&& (4294967295 : Int64))), .second, .val (.long ((q1 &&& (4294967295 : Int64)) * (q2 &&& (4294967295 : Int64)))), .second, .val (.long (((q1 >>> ((32 : Int32) &&& 0x3f).toInt64) * (q2 &&& (4294967295 : Int64))) + ((((q1 &&& (4294967295 : Int64)) * (q2 &&& (4294967295 : Int64))).toUInt64 >>> ((32 : Int32) &&& 0x3f).toInt64.toUInt64).toInt64))), .second, .val (.long ((((q1 >>> ((32 : Int32) &&& 0x3f).toInt64) * (q2 &&& (4294967295 : Int64))) + ((((q1 &&& (4294967295 : Int64)) * (q2 &&& (4294967295 : Int64))).toUInt64 >>> ((32 : Int32) &&& 0x3f).toInt64.toUInt64).toInt64)) &&& (4294967295 : Int64))), .second, .val (.long ((((q1 >>> ((32 : Int32) &&& 0x3f).toInt64) * (q2 &&& (4294967295 : Int64))) + ((((q1 &&& (4294967295 : Int64)) * (q2 &&& (4294967295 : Int64))).toUInt64 >>> ((32 : Int32) &&& 0x3f).toInt64.toUInt64).toInt64)) >>> ((32 : Int32) &&& 0x3f).toInt64)), .second] [(.long (((((q1 >>> ((32 : Int32) &&& 0x3f).toInt64) * (q2 &&& (4294967295 : Int64))) + ((((q1 &&& (4294967295 : Int64)) * (q2 &&& (4294967295 : Int64))).toUInt64 >>> ((32 : Int32) &&& 0x3f).toInt64.toUInt64).toInt64)) &&& (4294967295 : Int64)) + ((q1 &&& (4294967295 : Int64)) * (q2 >>> ((32 : Int32) &&& 0x3f).toInt64))))])) (fun _ k => XS.ladd X0.here hx rfl (hb hby d_jdk_29_method_45_code_68) rfl k) ?_
  refine Go.of (T' := s₁) (f' := (mkF m 71 #[.val (.long q1), .second, .val (.long q2), .second, .val (.long (q1 >>> ((32 : Int32) &&& 0x3f).toInt64)), .second, .val (.long (q1 &&& (4294967295 : Int64))), .second, .val (.long (q2 >>> ((32 : Int32) &&& 0x3f).toInt64)), .second, .val (.long (q2 &&& (4294967295 : Int64))), .second, .val (.long ((q1 &&& (4294967295 : Int64)) * (q2 &&& (4294967295 : Int64)))), .second, .val (.long (((q1 >>> ((32 : Int32) &&& 0x3f).toInt64) * (q2 &&& (4294967295 : Int64))) + ((((q1 &&& (4294967295 : Int64)) * (q2 &&& (4294967295 : Int64))).toUInt64 >>> ((32 : Int32) &&& 0x3f).toInt64.toUInt64).toInt64))), .second, .val (.long (((((q1 >>> ((32 : Int32) &&& 0x3f).toInt64) * (q2 &&& (4294967295 : Int64))) + ((((q1 &&& (4294967295 : Int64)) * (q2 &&& (4294967295 : Int64))).toUInt64 >>> ((32 : Int32) &&& 0x3f).toInt64.toUInt64).toInt64)) &&& (4294967295 : Int64)) + ((q1 &&& (4294967295 : Int64)) * (q2 >>> ((32 : Int32) &&& 0x3f).toInt64)))), .second, .val (.long ((((q1 >>> ((32 : Int32) &&& 0x3f).toInt64) * (q2 &&& (4294967295 : Int64))) + ((((q1 &&& (4294967295 : Int64)) * (q2 &&& (4294967295 : Int64))).toUInt64 >>> ((32 : Int32) &&& 0x3f).toInt64.toUInt64).toInt64)) >>> ((32 : Int32) &&& 0x3f).toInt64)), .second] [])) (fun _ k => XS.lstore X0.here hx rfl (hb hby d_jdk_29_method_45_code_69) rfl (l' := #[.val (.long q1), .second, .val (.long q2), .second, .val (.long (q1 >>> ((32 : Int32) &&& 0x3f).toInt64)), .second, .val (.long (q1 &&& (4294967295 : Int64))), .second, .val (.long (q2 >>> ((32 : Int32) &&& 0x3f).toInt64)), .second, .val (.long (q2 &&& (4294967295 : Int64))), .second, .val (.long ((q1 &&& (4294967295 : Int64)) * (q2 &&& (4294967295 : Int64)))), .second, .val (.long (((q1 >>> ((32 : Int32) &&& 0x3f).toInt64) * (q2 &&& (4294967295 : Int64))) + ((((q1 &&& (4294967295 : Int64)) * (q2 &&& (4294967295 : Int64))).toUInt64 >>> ((32 : Int32) &&& 0x3f).toInt64.toUInt64).toInt64))), .second, .val (.long (((((q1 >>> ((32 : Int32) &&& 0x3f).toInt64) * (q2 &&& (4294967295 : Int64))) + ((((q1 &&& (4294967295 : Int64)) * (q2 &&& (4294967295 : Int64))).toUInt64 >>> ((32 : Int32) &&& 0x3f).toInt64.toUInt64).toInt64)) &&& (4294967295 : Int64)) + ((q1 &&& (4294967295 : Int64)) * (q2 >>> ((32 : Int32) &&& 0x3f).toInt64)))), .second, .val (.long ((((q1 >>> ((32 : Int32) &&& 0x3f).toInt64) * (q2 &&& (4294967295 : Int64))) + ((((q1 &&& (4294967295 : Int64)) * (q2 &&& (4294967295 : Int64))).toUInt64 >>> ((32 : Int32) &&& 0x3f).toInt64.toUInt64).toInt64)) >>> ((32 : Int32) &&& 0x3f).toInt64)), .second]) rfl k) ?_
  refine Go.of (T' := s₁) (f' := (mkF m 73 #[.val (.long q1), .second, .val (.long q2), .second, .val (.long (q1 >>> ((32 : Int32) &&& 0x3f).toInt64)), .second, .val (.long (q1 &&& (4294967295 : Int64))), .second, .val (.long (q2 >>> ((32 : Int32) &&& 0x3f).toInt64)), .second, .val (.long (q2 &&& (4294967295 : Int64))), .second, .val (.long ((q1 &&& (4294967295 : Int64)) * (q2 &&& (4294967295 : Int64)))), .second, .val (.long (((q1 >>> ((32 : Int32) &&& 0x3f).toInt64) * (q2 &&& (4294967295 : Int64))) + ((((q1 &&& (4294967295 : Int64)) * (q2 &&& (4294967295 : Int64))).toUInt64 >>> ((32 : Int32) &&& 0x3f).toInt64.toUInt64).toInt64))), .second, .val (.long (((((q1 >>> ((32 : Int32) &&& 0x3f).toInt64) * (q2 &&& (4294967295 : Int64))) + ((((q1 &&& (4294967295 : Int64)) * (q2 &&& (4294967295 : Int64))).toUInt64 >>> ((32 : Int32) &&& 0x3f).toInt64.toUInt64).toInt64)) &&& (4294967295 : Int64)) + ((q1 &&& (4294967295 : Int64)) * (q2 >>> ((32 : Int32) &&& 0x3f).toInt64)))), .second, .val (.long ((((q1 >>> ((32 : Int32) &&& 0x3f).toInt64) * (q2 &&& (4294967295 : Int64))) + ((((q1 &&& (4294967295 : Int64)) * (q2 &&& (4294967295 : Int64))).toUInt64 >>> ((32 : Int32) &&& 0x3f).toInt64.toUInt64).toInt64)) >>> ((32 : Int32) &&& 0x3f).toInt64)), .second] [(.long (q1 >>> ((32 : Int32) &&& 0x3f).toInt64))])) (fun _ k => XS.lload X0.here hx rfl (hb hby d_jdk_29_method_45_code_71) rfl k) ?_
  refine Go.of (T' := s₁) (f' := (mkF m 75 #[.val (.long q1), .second, .val (.long q2), .second, .val (.long (q1 >>> ((32 : Int32) &&& 0x3f).toInt64)), .second, .val (.long (q1 &&& (4294967295 : Int64))), .second, .val (.long (q2 >>> ((32 : Int32) &&& 0x3f).toInt64)), .second, .val (.long (q2 &&& (4294967295 : Int64))), .second, .val (.long ((q1 &&& (4294967295 : Int64)) * (q2 &&& (4294967295 : Int64)))), .second, .val (.long (((q1 >>> ((32 : Int32) &&& 0x3f).toInt64) * (q2 &&& (4294967295 : Int64))) + ((((q1 &&& (4294967295 : Int64)) * (q2 &&& (4294967295 : Int64))).toUInt64 >>> ((32 : Int32) &&& 0x3f).toInt64.toUInt64).toInt64))), .second, .val (.long (((((q1 >>> ((32 : Int32) &&& 0x3f).toInt64) * (q2 &&& (4294967295 : Int64))) + ((((q1 &&& (4294967295 : Int64)) * (q2 &&& (4294967295 : Int64))).toUInt64 >>> ((32 : Int32) &&& 0x3f).toInt64.toUInt64).toInt64)) &&& (4294967295 : Int64)) + ((q1 &&& (4294967295 : Int64)) * (q2 >>> ((32 : Int32) &&& 0x3f).toInt64)))), .second, .val (.long ((((q1 >>> ((32 : Int32) &&& 0x3f).toInt64) * (q2 &&& (4294967295 : Int64))) + ((((q1 &&& (4294967295 : Int64)) * (q2 &&& (4294967295 : Int64))).toUInt64 >>> ((32 : Int32) &&& 0x3f).toInt64.toUInt64).toInt64)) >>> ((32 : Int32) &&& 0x3f).toInt64)), .second] [(.long (q2 >>> ((32 : Int32) &&& 0x3f).toInt64)), (.long (q1 >>> ((32 : Int32) &&& 0x3f).toInt64))])) (fun _ k => XS.lload X0.here hx rfl (hb hby d_jdk_29_method_45_code_73) rfl k) ?_
  refine Go.of (T' := s₁) (f' := (mkF m 76 #[.val (.long q1), .second, .val (.long q2), .second, .val (.long (q1 >>> ((32 : Int32) &&& 0x3f).toInt64)), .second, .val (.long (q1 &&& (4294967295 : Int64))), .second, .val (.long (q2 >>> ((32 : Int32) &&& 0x3f).toInt64)), .second, .val (.long (q2 &&& (4294967295 : Int64))), .second, .val (.long ((q1 &&& (4294967295 : Int64)) * (q2 &&& (4294967295 : Int64)))), .second, .val (.long (((q1 >>> ((32 : Int32) &&& 0x3f).toInt64) * (q2 &&& (4294967295 : Int64))) + ((((q1 &&& (4294967295 : Int64)) * (q2 &&& (4294967295 : Int64))).toUInt64 >>> ((32 : Int32) &&& 0x3f).toInt64.toUInt64).toInt64))), .second, .val (.long (((((q1 >>> ((32 : Int32) &&& 0x3f).toInt64) * (q2 &&& (4294967295 : Int64))) + ((((q1 &&& (4294967295 : Int64)) * (q2 &&& (4294967295 : Int64))).toUInt64 >>> ((32 : Int32) &&& 0x3f).toInt64.toUInt64).toInt64)) &&& (4294967295 : Int64)) + ((q1 &&& (4294967295 : Int64)) * (q2 >>> ((32 : Int32) &&& 0x3f).toInt64)))), .second, .val (.long ((((q1 >>> ((32 : Int32) &&& 0x3f).toInt64) * (q2 &&& (4294967295 : Int64))) + ((((q1 &&& (4294967295 : Int64)) * (q2 &&& (4294967295 : Int64))).toUInt64 >>> ((32 : Int32) &&& 0x3f).toInt64.toUInt64).toInt64)) >>> ((32 : Int32) &&& 0x3f).toInt64)), .second] [(.long ((q1 >>> ((32 : Int32) &&& 0x3f).toInt64) * (q2 >>> ((32 : Int32) &&& 0x3f).toInt64)))])) (fun _ k => XS.lmul X0.here hx rfl (hb hby d_jdk_29_method_45_code_75) rfl k) ?_
  refine Go.of (T' := s₁) (f' := (mkF m 78 #[.val (.long q1), .second, .val (.long q2), .second, .val (.long (q1 >>> ((32 : Int32) &&& 0x3f).toInt64)), .second, .val (.long (q1 &&& (4294967295 : Int64))), .second, .val (.long (q2 >>> ((32 : Int32) &&& 0x3f).toInt64)), .second, .val (.long (q2 &&& (4294967295 : Int64))), .second, .val (.long ((q1 &&& (4294967295 : Int64)) * (q2 &&& (4294967295 : Int64)))), .second, .val (.long (((q1 >>> ((32 : Int32) &&& 0x3f).toInt64) * (q2 &&& (4294967295 : Int64))) + ((((q1 &&& (4294967295 : Int64)) * (q2 &&& (4294967295 : Int64))).toUInt64 >>> ((32 : Int32) &&& 0x3f).toInt64.toUInt64).toInt64))), .second, .val (.long (((((q1 >>> ((32 : Int32) &&& 0x3f).toInt64) * (q2 &&& (4294967295 : Int64))) + ((((q1 &&& (4294967295 : Int64)) * (q2 &&& (4294967295 : Int64))).toUInt64 >>> ((32 : Int32) &&& 0x3f).toInt64.toUInt64).toInt64)) &&& (4294967295 : Int64)) + ((q1 &&& (4294967295 : Int64)) * (q2 >>> ((32 : Int32) &&& 0x3f).toInt64)))), .second, .val (.long ((((q1 >>> ((32 : Int32) &&& 0x3f).toInt64) * (q2 &&& (4294967295 : Int64))) + ((((q1 &&& (4294967295 : Int64)) * (q2 &&& (4294967295 : Int64))).toUInt64 >>> ((32 : Int32) &&& 0x3f).toInt64.toUInt64).toInt64)) >>> ((32 : Int32) &&& 0x3f).toInt64)), .second] [(.long ((((q1 >>> ((32 : Int32) &&& 0x3f).toInt64) * (q2 &&& (4294967295 : Int64))) + ((((q1 &&& (4294967295 : Int64)) * (q2 &&& (4294967295 : Int64))).toUInt64 >>> ((32 : Int32) &&& 0x3f).toInt64.toUInt64).toInt64)) >>> ((32 : Int32) &&& 0x3f).toInt64)), (.long ((q1 >>> ((32 : Int32) &&& 0x3f).toInt64) * (q2 >>> ((32 : Int32) &&& 0x3f).toInt64)))])) (fun _ k => XS.lload X0.here hx rfl (hb hby d_jdk_29_method_45_code_76) rfl k) ?_
  refine Go.of (T' := s₁) (f' := (mkF m 79 #[.val (.long q1), .second, .val (.long q2), .second, .val (.long (q1 >>> ((32 : Int32) &&& 0x3f).toInt64)), .second, .val (.long (q1 &&& (4294967295 : Int64))), .second, .val (.long (q2 >>> ((32 : Int32) &&& 0x3f).toInt64)), .second, .val (.long (q2 &&& (4294967295 : Int64))), .second, .val (.long ((q1 &&& (4294967295 : Int64)) * (q2 &&& (4294967295 : Int64)))), .second, .val (.long (((q1 >>> ((32 : Int32) &&& 0x3f).toInt64) * (q2 &&& (4294967295 : Int64))) + ((((q1 &&& (4294967295 : Int64)) * (q2 &&& (4294967295 : Int64))).toUInt64 >>> ((32 : Int32) &&& 0x3f).toInt64.toUInt64).toInt64))), .second, .val (.long (((((q1 >>> ((32 : Int32) &&& 0x3f).toInt64) * (q2 &&& (4294967295 : Int64))) + ((((q1 &&& (4294967295 : Int64)) * (q2 &&& (4294967295 : Int64))).toUInt64 >>> ((32 : Int32) &&& 0x3f).toInt64.toUInt64).toInt64)) &&& (4294967295 : Int64)) + ((q1 &&& (4294967295 : Int64)) * (q2 >>> ((32 : Int32) &&& 0x3f).toInt64)))), .second, .val (.long ((((q1 >>> ((32 : Int32) &&& 0x3f).toInt64) * (q2 &&& (4294967295 : Int64))) + ((((q1 &&& (4294967295 : Int64)) * (q2 &&& (4294967295 : Int64))).toUInt64 >>> ((32 : Int32) &&& 0x3f).toInt64.toUInt64).toInt64)) >>> ((32 : Int32) &&& 0x3f).toInt64)), .second] [(.long (((q1 >>> ((32 : Int32) &&& 0x3f).toInt64) * (q2 >>> ((32 : Int32) &&& 0x3f).toInt64)) + ((((q1 >>> ((32 : Int32) &&& 0x3f).toInt64) * (q2 &&& (4294967295 : Int64))) + ((((q1 &&& (4294967295 : Int64)) * (q2 &&& (4294967295 : Int64))).toUInt64 >>> ((32 : Int32) &&& 0x3f).toInt64.toUInt64).toInt64)) >>> ((32 : Int32) &&& 0x3f).toInt64)))])) (fun _ k => XS.ladd X0.here hx rfl (hb hby d_jdk_29_method_45_code_78) rfl k) ?_
  refine Go.of (T' := s₁) (f' := (mkF m 81 #[.val (.long q1), .second, .val (.long q2), .second, .val (.long (q1 >>> ((32 : Int32) &&& 0x3f).toInt64)), .second, .val (.long (q1 &&& (4294967295 : Int64))), .second, .val (.long (q2 >>> ((32 : Int32) &&& 0x3f).toInt64)), .second, .val (.long (q2 &&& (4294967295 : Int64))), .second, .val (.long ((q1 &&& (4294967295 : Int64)) * (q2 &&& (4294967295 : Int64)))), .second, .val (.long (((q1 >>> ((32 : Int32) &&& 0x3f).toInt64) * (q2 &&& (4294967295 : Int64))) + ((((q1 &&& (4294967295 : Int64)) * (q2 &&& (4294967295 : Int64))).toUInt64 >>> ((32 : Int32) &&& 0x3f).toInt64.toUInt64).toInt64))), .second, .val (.long (((((q1 >>> ((32 : Int32) &&& 0x3f).toInt64) * (q2 &&& (4294967295 : Int64))) + ((((q1 &&& (4294967295 : Int64)) * (q2 &&& (4294967295 : Int64))).toUInt64 >>> ((32 : Int32) &&& 0x3f).toInt64.toUInt64).toInt64)) &&& (4294967295 : Int64)) + ((q1 &&& (4294967295 : Int64)) * (q2 >>> ((32 : Int32) &&& 0x3f).toInt64)))), .second, .val (.long ((((q1 >>> ((32 : Int32) &&& 0x3f).toInt64) * (q2 &&& (4294967295 : Int64))) + ((((q1 &&& (4294967295 : Int64)) * (q2 &&& (4294967295 : Int64))).toUInt64 >>> ((32 : Int32) &&& 0x3f).toInt64.toUInt64).toInt64)) >>> ((32 : Int32) &&& 0x3f).toInt64)), .second] [(.long (((((q1 >>> ((32 : Int32) &&& 0x3f).toInt64) * (q2 &&& (4294967295 : Int64))) + ((((q1 &&& (4294967295 : Int64)) * (q2 &&& (4294967295 : Int64))).toUInt64 >>> ((32 : Int32) &&& 0x3f).toInt64.toUInt64).toInt64)) &&& (4294967295 : Int64)) + ((q1 &&& (4294967295 : Int64)) * (q2 >>> ((32 : Int32) &&& 0x3f).toInt64)))), (.long (((q1 >>> ((32 : Int32) &&& 0x3f).toInt64) * (q2 >>> ((32 : Int32) &&& 0x3f).toInt64)) + ((((q1 >>> ((32 : Int32) &&& 0x3f).toInt64) * (q2 &&& (4294967295 : Int64))) + ((((q1 &&& (4294967295 : Int64)) * (q2 &&& (4294967295 : Int64))).toUInt64 >>> ((32 : Int32) &&& 0x3f).toInt64.toUInt64).toInt64)) >>> ((32 : Int32) &&& 0x3f).toInt64)))])) (fun _ k => XS.lload X0.here hx rfl (hb hby d_jdk_29_method_45_code_79) rfl k) ?_
  refine Go.of (T' := s₁) (f' := (mkF m 83 #[.val (.long q1), .second, .val (.long q2), .second, .val (.long (q1 >>> ((32 : Int32) &&& 0x3f).toInt64)), .second, .val (.long (q1 &&& (4294967295 : Int64))), .second, .val (.long (q2 >>> ((32 : Int32) &&& 0x3f).toInt64)), .second, .val (.long (q2 &&& (4294967295 : Int64))), .second, .val (.long ((q1 &&& (4294967295 : Int64)) * (q2 &&& (4294967295 : Int64)))), .second, .val (.long (((q1 >>> ((32 : Int32) &&& 0x3f).toInt64) * (q2 &&& (4294967295 : Int64))) + ((((q1 &&& (4294967295 : Int64)) * (q2 &&& (4294967295 : Int64))).toUInt64 >>> ((32 : Int32) &&& 0x3f).toInt64.toUInt64).toInt64))), .second, .val (.long (((((q1 >>> ((32 : Int32) &&& 0x3f).toInt64) * (q2 &&& (4294967295 : Int64))) + ((((q1 &&& (4294967295 : Int64)) * (q2 &&& (4294967295 : Int64))).toUInt64 >>> ((32 : Int32) &&& 0x3f).toInt64.toUInt64).toInt64)) &&& (4294967295 : Int64)) + ((q1 &&& (4294967295 : Int64)) * (q2 >>> ((32 : Int32) &&& 0x3f).toInt64)))), .second, .val (.long ((((q1 >>> ((32 : Int32) &&& 0x3f).toInt64) * (q2 &&& (4294967295 : Int64))) + ((((q1 &&& (4294967295 : Int64)) * (q2 &&& (4294967295 : Int64))).toUInt64 >>> ((32 : Int32) &&& 0x3f).toInt64.toUInt64).toInt64)) >>> ((32 : Int32) &&& 0x3f).toInt64)), .second] [(.int (32 : Int32)), (.long (((((q1 >>> ((32 : Int32) &&& 0x3f).toInt64) * (q2 &&& (4294967295 : Int64))) + ((((q1 &&& (4294967295 : Int64)) * (q2 &&& (4294967295 : Int64))).toUInt64 >>> ((32 : Int32) &&& 0x3f).toInt64.toUInt64).toInt64)) &&& (4294967295 : Int64)) + ((q1 &&& (4294967295 : Int64)) * (q2 >>> ((32 : Int32) &&& 0x3f).toInt64)))), (.long (((q1 >>> ((32 : Int32) &&& 0x3f).toInt64) * (q2 >>> ((32 : Int32) &&& 0x3f).toInt64)) + ((((q1 >>> ((32 : Int32) &&& 0x3f).toInt64) * (q2 &&& (4294967295 : Int64))) + ((((q1 &&& (4294967295 : Int64)) * (q2 &&& (4294967295 : Int64))).toUInt64 >>> ((32 : Int32) &&& 0x3f).toInt64.toUInt64).toInt64)) >>> ((32 : Int32) &&& 0x3f).toInt64)))])) (fun _ k => XS.bipush X0.here hx rfl (hb hby d_jdk_29_method_45_code_81) k) ?_
  refine Go.of (T' := s₁) (f' := (mkF m 84 #[.val (.long q1), .second, .val (.long q2), .second, .val (.long (q1 >>> ((32 : Int32) &&& 0x3f).toInt64)), .second, .val (.long (q1 &&& (4294967295 : Int64))), .second, .val (.long (q2 >>> ((32 : Int32) &&& 0x3f).toInt64)), .second, .val (.long (q2 &&& (4294967295 : Int64))), .second, .val (.long ((q1 &&& (4294967295 : Int64)) * (q2 &&& (4294967295 : Int64)))), .second, .val (.long (((q1 >>> ((32 : Int32) &&& 0x3f).toInt64) * (q2 &&& (4294967295 : Int64))) + ((((q1 &&& (4294967295 : Int64)) * (q2 &&& (4294967295 : Int64))).toUInt64 >>> ((32 : Int32) &&& 0x3f).toInt64.toUInt64).toInt64))), .second, .val (.long (((((q1 >>> ((32 : Int32) &&& 0x3f).toInt64) * (q2 &&& (4294967295 : Int64))) + ((((q1 &&& (4294967295 : Int64)) * (q2 &&& (4294967295 : Int64))).toUInt64 >>> ((32 : Int32) &&& 0x3f).toInt64.toUInt64).toInt64)) &&& (4294967295 : Int64)) + ((q1 &&& (4294967295 : Int64)) * (q2 >>> ((32 : Int32) &&& 0x3f).toInt64)))), .second, .val (.long ((((q1 >>> ((32 : Int32) &&& 0x3f).toInt64) * (q2 &&& (4294967295 : Int64))) + ((((q1 &&& (4294967295 : Int64)) * (q2 &&& (4294967295 : Int64))).toUInt64 >>> ((32 : Int32) &&& 0x3f).toInt64.toUInt64).toInt64)) >>> ((32 : Int32) &&& 0x3f).toInt64)), .second] [(.long ((((((q1 >>> ((32 : Int32) &&& 0x3f).toInt64) * (q2 &&& (4294967295 : Int64))) + ((((q1 &&& (4294967295 : Int64)) * (q2 &&& (4294967295 : Int64))).toUInt64 >>> ((32 : Int32) &&& 0x3f).toInt64.toUInt64).toInt64)) &&& (4294967295 : Int64)) + ((q1 &&& (4294967295 : Int64)) * (q2 >>> ((32 : Int32) &&& 0x3f).toInt64))) >>> ((32 : Int32) &&& 0x3f).toInt64)), (.long (((q1 >>> ((32 : Int32) &&& 0x3f).toInt64) * (q2 >>> ((32 : Int32) &&& 0x3f).toInt64)) + ((((q1 >>> ((32 : Int32) &&& 0x3f).toInt64) * (q2 &&& (4294967295 : Int64))) + ((((q1 &&& (4294967295 : Int64)) * (q2 &&& (4294967295 : Int64))).toUInt64 >>> ((32 : Int32) &&& 0x3f).toInt64.toUInt64).toInt64)) >>> ((32 : Int32) &&& 0x3f).toInt64)))])) (fun _ k => XS.lshr X0.here hx rfl (hb hby d_jdk_29_method_45_code_83) rfl k) ?_
  refine Go.of (T' := s₁) (f' := (mkF m 85 #[.val (.long q1), .second, .val (.long q2), .second, .val (.long (q1 >>> ((32 : Int32) &&& 0x3f).toInt64)), .second, .val (.long (q1 &&& (4294967295 : Int64))), .second, .val (.long (q2 >>> ((32 : Int32) &&& 0x3f).toInt64)), .second, .val (.long (q2 &&& (4294967295 : Int64))), .second, .val (.long ((q1 &&& (4294967295 : Int64)) * (q2 &&& (4294967295 : Int64)))), .second, .val (.long (((q1 >>> ((32 : Int32) &&& 0x3f).toInt64) * (q2 &&& (4294967295 : Int64))) + ((((q1 &&& (4294967295 : Int64)) * (q2 &&& (4294967295 : Int64))).toUInt64 >>> ((32 : Int32) &&& 0x3f).toInt64.toUInt64).toInt64))), .second, .val (.long (((((q1 >>> ((32 : Int32) &&& 0x3f).toInt64) * (q2 &&& (4294967295 : Int64))) + ((((q1 &&& (4294967295 : Int64)) * (q2 &&& (4294967295 : Int64))).toUInt64 >>> ((32 : Int32) &&& 0x3f).toInt64.toUInt64).toInt64)) &&& (4294967295 : Int64)) + ((q1 &&& (4294967295 : Int64)) * (q2 >>> ((32 : Int32) &&& 0x3f).toInt64)))), .second, .val (.long ((((q1 >>> ((32 : Int32) &&& 0x3f).toInt64) * (q2 &&& (4294967295 : Int64))) + ((((q1 &&& (4294967295 : Int64)) * (q2 &&& (4294967295 : Int64))).toUInt64 >>> ((32 : Int32) &&& 0x3f).toInt64.toUInt64).toInt64)) >>> ((32 : Int32) &&& 0x3f).toInt64)), .second] [(.long ((((q1 >>> ((32 : Int32) &&& 0x3f).toInt64) * (q2 >>> ((32 : Int32) &&& 0x3f).toInt64)) + ((((q1 >>> ((32 : Int32) &&& 0x3f).toInt64) * (q2 &&& (4294967295 : Int64))) + ((((q1 &&& (4294967295 : Int64)) * (q2 &&& (4294967295 : Int64))).toUInt64 >>> ((32 : Int32) &&& 0x3f).toInt64.toUInt64).toInt64)) >>> ((32 : Int32) &&& 0x3f).toInt64)) + ((((((q1 >>> ((32 : Int32) &&& 0x3f).toInt64) * (q2 &&& (4294967295 : Int64))) + ((((q1 &&& (4294967295 : Int64)) * (q2 &&& (4294967295 : Int64))).toUInt64 >>> ((32 : Int32) &&& 0x3f).toInt64.toUInt64).toInt64)) &&& (4294967295 : Int64)) + ((q1 &&& (4294967295 : Int64)) * (q2 >>> ((32 : Int32) &&& 0x3f).toInt64))) >>> ((32 : Int32) &&& 0x3f).toInt64)))])) (fun _ k => XS.ladd X0.here hx rfl (hb hby d_jdk_29_method_45_code_84) rfl k) ?_
  exact goRetJ (Q := Pu h0 (fun v => v = some (.long (mulHi q1 q2)))) X0 hx hret hlk (hb hby d_jdk_29_method_45_code_85) K (by decide) (by decide) e0 (⟨rfl, rfl, rfl⟩)
theorem ef_rm_cmpProd (m : MethodId) (x0 : Int64) (x1 : Int64) (x2 : Int64) (x3 : Int64)  : entryFrame m #[(.long x0), (.long x1), (.long x2), (.long x3)] 12 = mkF m 0 #[.val (.long x0), .second, .val (.long x1), .second, .val (.long x2), .second, .val (.long x3), .second, .unset, .unset, .unset, .unset] [] := by first | (simp [entryFrame, mkF, argsToLocals, Value.category]; done) | rfl
theorem d_prog_19_method_8_code_0 : decode prog_19_method_8_code 0 = .ok (.lload_n 0, 1) := by decide +kernel
theorem d_prog_19_method_8_code_1 : decode prog_19_method_8_code 1 = .ok (.lload_n 2, 1) := by decide +kernel
theorem d_prog_19_method_8_code_2 : decode prog_19_method_8_code 2 = .ok (.invokestatic 54, 3) := by decide +kernel
theorem pd__JJ_J : parseMethodDescriptor "(JJ)J" = some ⟨[.long, .long], some .long⟩ := by decide +kernel
theorem d_prog_19_method_8_code_5 : decode prog_19_method_8_code 5 = .ok (.lstore 8, 2) := by decide +kernel
theorem d_prog_19_method_8_code_7 : decode prog_19_method_8_code 7 = .ok (.lload 4, 2) := by decide +kernel
theorem d_prog_19_method_8_code_9 : decode prog_19_method_8_code 9 = .ok (.lload 6, 2) := by decide +kernel
theorem d_prog_19_method_8_code_11 : decode prog_19_method_8_code 11 = .ok (.invokestatic 54, 3) := by decide +kernel
theorem d_prog_19_method_8_code_14 : decode prog_19_method_8_code 14 = .ok (.lstore 10, 2) := by decide +kernel
theorem d_prog_19_method_8_code_16 : decode prog_19_method_8_code 16 = .ok (.lload 8, 2) := by decide +kernel
theorem d_prog_19_method_8_code_18 : decode prog_19_method_8_code 18 = .ok (.lload 10, 2) := by decide +kernel
theorem d_prog_19_method_8_code_20 : decode prog_19_method_8_code 20 = .ok (.lcmp, 1) := by decide +kernel
theorem d_prog_19_method_8_code_21 : decode prog_19_method_8_code 21 = .ok (.ifCond .eq 11, 3) := by decide +kernel
theorem d_prog_19_method_8_code_32 : decode prog_19_method_8_code 32 = .ok (.lload_n 0, 1) := by decide +kernel
theorem d_prog_19_method_8_code_33 : decode prog_19_method_8_code 33 = .ok (.lload_n 2, 1) := by decide +kernel
theorem d_prog_19_method_8_code_34 : decode prog_19_method_8_code 34 = .ok (.lmul, 1) := by decide +kernel
theorem d_prog_19_method_8_code_35 : decode prog_19_method_8_code 35 = .ok (.lload 4, 2) := by decide +kernel
theorem d_prog_19_method_8_code_37 : decode prog_19_method_8_code 37 = .ok (.lload 6, 2) := by decide +kernel
theorem d_prog_19_method_8_code_39 : decode prog_19_method_8_code 39 = .ok (.lmul, 1) := by decide +kernel
theorem d_prog_19_method_8_code_40 : decode prog_19_method_8_code 40 = .ok (.invokestatic 63, 3) := by decide +kernel
theorem d_prog_19_method_8_code_43 : decode prog_19_method_8_code 43 = .ok (.ireturn, 1) := by decide +kernel
theorem d_prog_19_method_8_code_24 : decode prog_19_method_8_code 24 = .ok (.lload 8, 2) := by decide +kernel
theorem d_prog_19_method_8_code_26 : decode prog_19_method_8_code 26 = .ok (.lload 10, 2) := by decide +kernel
theorem d_prog_19_method_8_code_28 : decode prog_19_method_8_code 28 = .ok (.invokestatic 57, 3) := by decide +kernel
theorem d_prog_19_method_8_code_31 : decode prog_19_method_8_code 31 = .ok (.ireturn, 1) := by decide +kernel
set_option maxRecDepth 65536 in
set_option maxHeartbeats 40000000 in
theorem rm_cmpProd (l : Launch) (Z : State) (a0 : Array Value) (hw : ∀ d ∈ tables_1, d.before a0 Z = true) (q1 q2 q3 q4 : Int64) (h0 : Heap)  :
    MeetsW l Z (⟨"com/example/sluiced/sluiced/limiter/SlidingWindowCounter", "compareProducts", "(JJJJ)I"⟩ : MethodName) prog_19_method_8_code 12 (some .int) ({ frames := 2, cells := 0, slots := 0, locals := 31 } : Room) #[(.long q1), (.long q2), (.long q3), (.long q4)] h0 (Pu h0 (fun v => v = some (.int (cmpProd q1 q2 q3 q4)))) := by
  refine MeetsW.of (plainFor_of_name pn_com_example_sluiced_sluiced_limiter_SlidingWindowCounter) ?_
  intro p e s m below meth c s₁ P hx hby hml hZ hown hnm hret hlk X0 e0 K
  have M0 : Mv h0 h0 [] [] := Mv.refl _ _
  refine Go.cast (ef_rm_cmpProd m q1 q2 q3 q4 ) ?_
  refine Go.of (T' := s₁) (f' := (mkF m 1 #[.val (.long q1), .second, .val (.long q2), .second, .val (.long q3), .second, .val (.long q4), .second, .unset, .unset, .unset, .unset] [(.long q1)])) (fun _ k => XS.lloadN X0.here hx rfl (hb hby d_prog_19_method_8_code_0) rfl k) ?_
  refine Go.of (T' := s₁) (f' := (mkF m 2 #[.val (.long q1), .second, .val (.long q2), .second, .val (.long q3), .second, .val (.long q4), .second, .unset, .unset, .unset, .unset] [(.long q2), (.long q1)])) (fun _ k => XS.lloadN X0.here hx rfl (hb hby d_prog_19_method_8_code_1) rfl k) ?_
  refine goS X0 hx hZ hown (hw _ (List.mem_of_getElem? (i := 46) rfl)) (hw _ (List.mem_of_getElem? (i := 47) rfl)) (hw _ (List.mem_of_getElem? (i := 3) rfl)) (hw _ (List.mem_of_getElem? (i := 48) rfl)) (by decide) (C := 0) (S := 0) ((rm_mulHi l Z a0 hw q1 q2 h0 ).bk (W := 0) hZ (hw _ (List.mem_of_getElem? (i := 48) rfl)) (hw _ (List.mem_of_getElem? (i := 3) rfl)) (by decide) (by decide)) e0 (argsL := [(.long q1), (.long q2)]) (rest := []) (by rw [hml]; rfl) (lenOf pd__JJ_J rfl) rfl rfl (hb hby d_prog_19_method_8_code_2) (Nat.le_of_eq rfl) (by decide) (by decide) ?_
  intro v1 T1 L1 X1 hQ1
  obtain ⟨nq1, e1, rfl⟩ := hQ1
  replace X1 := standNil X1 nq1
  show Go p e below P T1 (mkF m 5 #[.val (.long q1), .second, .val (.long q2), .second, .val (.long q3), .second, .val (.long q4), .second, .unset, .unset, .unset, .unset] [(.long (mulHi q1 q2))])
  refine Go.of (T' := T1) (f' := (mkF m 7 #[.val (.long q1), .second, .val (.long q2), .second, .val (.long q3), .second, .val (.long q4), .second, .val (.long (mulHi q1 q2)), .second, .unset, .unset] [])) (fun _ k => XS.lstore X1.here hx rfl (hb hby d_prog_19_method_8_code_5) rfl (l' := #[.val (.long q1), .second, .val (.long q2), .second, .val (.long q3), .second, .val (.long q4), .second, .val (.long (mulHi q1 q2)), .second, .unset, .unset]) rfl k) ?_
  refine Go.of (T' := T1) (f' := (mkF m 9 #[.val (.long q1), .second, .val (.long q2), .second, .val (.long q3), .second, .val (.long q4), .second, .val (.long (mulHi q1 q2)), .second, .unset, .unset] [(.long q3)])) (fun _ k => XS.lload X1.here hx rfl (hb hby d_prog_19_method_8_code_7) rfl k) ?_
  refine Go.of (T' := T1) (f' := (mkF m 11 #[.val (.long q1), .second, .val (.long q2), .second, .val (.long q3), .second, .val (.long q4), .second, .val (.long (mulHi q1 q2)), .second, .unset, .unset] [(.long q4), (.long q3)])) (fun _ k => XS.lload X1.here hx rfl (hb hby d_prog_19_method_8_code_9) rfl k) ?_
  refine goS X1 hx hZ hown (hw _ (List.mem_of_getElem? (i := 46) rfl)) (hw _ (List.mem_of_getElem? (i := 47) rfl)) (hw _ (List.mem_of_getElem? (i := 3) rfl)) (hw _ (List.mem_of_getElem? (i := 48) rfl)) (by decide) (C := 0) (S := 0) ((rm_mulHi l Z a0 hw q3 q4 h0 ).bk (W := 0) hZ (hw _ (List.mem_of_getElem? (i := 48) rfl)) (hw _ (List.mem_of_getElem? (i := 3) rfl)) (by decide) (by decide)) e1 (argsL := [(.long q3), (.long q4)]) (rest := []) (by rw [hml]; rfl) (lenOf pd__JJ_J rfl) rfl rfl (hb hby d_prog_19_method_8_code_11) (Nat.le_of_eq rfl) (by decide) (by decide) ?_
  intro v2 T2 L2 X2 hQ2
  obtain ⟨nq2, e2, rfl⟩ := hQ2
  replace X2 := standNil X2 nq2
  show Go p e below P T2 (mkF m 14 #[.val (.long q1), .second, .val (.long q2), .second, .val (.long q3), .second, .val (.long q4), .second, .val (.long (mulHi q1 q2)), .second, .unset, .unset] [(.long (mulHi q3 q4))])
  refine Go.of (T' := T2) (f' := (mkF m 16 #[.val (.long q1), .second, .val (.long q2), .second, .val (.long q3), .second, .val (.long q4), .second, .val (.long (mulHi q1 q2)), .second, .val (.long (mulHi q3 q4)), .second] [])) (fun _ k => XS.lstore X2.here hx rfl (hb hby d_prog_19_method_8_code_14) rfl (l' := #[.val (.long q1), .second, .val (.long q2), .second, .val (.long q3), .second, .val (.long q4), .second, .val (.long (mulHi q1 q2)), .second, .val (.long (mulHi q3 q4)), .second]) rfl k) ?_
  refine Go.of (T' := T2) (f' := (mkF m 18 #[.val (.long q1), .second, .val (.long q2), .second, .val (.long q3), .second, .val (.long q4), .second, .val (.long (mulHi q1 q2)), .second, .val (.long (mulHi q3 q4)), .second] [(.long (mulHi q1 q2))])) (fun _ k => XS.lload X2.here hx rfl (hb hby d_prog_19_method_8_code_16) rfl k) ?_
  refine Go.of (T' := T2) (f' := (mkF m 20 #[.val (.long q1), .second, .val (.long q2), .second, .val (.long q3), .second, .val (.long q4), .second, .val (.long (mulHi q1 q2)), .second, .val (.long (mulHi q3 q4)), .second] [(.long (mulHi q3 q4)), (.long (mulHi q1 q2))])) (fun _ k => XS.lload X2.here hx rfl (hb hby d_prog_19_method_8_code_18) rfl k) ?_
  refine Go.of (T' := T2) (f' := (mkF m 21 #[.val (.long q1), .second, .val (.long q2), .second, .val (.long q3), .second, .val (.long q4), .second, .val (.long (mulHi q1 q2)), .second, .val (.long (mulHi q3 q4)), .second] [(.int (lcmpW (mulHi q1 q2) (mulHi q3 q4)))])) (fun _ k => XS.lcmp X2.here hx rfl (hb hby d_prog_19_method_8_code_20) rfl k) ?_
  by_cases hc21 : (mulHi q1 q2) = (mulHi q3 q4)
  ·
    refine Go.of (T' := T2) (f' := (mkF m 32 #[.val (.long q1), .second, .val (.long q2), .second, .val (.long q3), .second, .val (.long q4), .second, .val (.long (mulHi q1 q2)), .second, .val (.long (mulHi q3 q4)), .second] [])) (fun _ k => XS.ifYes X2.here hx rfl (pc0 := 21) (pc' := 32) rfl (hb hby d_prog_19_method_8_code_21) rfl ((if0 _ _).trans (teq ((lw_eq _ _).mpr hc21)).1) (by decide) (by decide) k) ?_
    refine Go.of (T' := T2) (f' := (mkF m 33 #[.val (.long q1), .second, .val (.long q2), .second, .val (.long q3), .second, .val (.long q4), .second, .val (.long (mulHi q1 q2)), .second, .val (.long (mulHi q3 q4)), .second] [(.long q1)])) (fun _ k => XS.lloadN X2.here hx rfl (hb hby d_prog_19_method_8_code_32) rfl k) ?_
    refine Go.of (T' := T2) (f' := (mkF m 34 #[.val (.long q1), .second, .val (.long q2), .second, .val (.long q3), .second, .val (.long q4), .second, .val (.long (mulHi q1 q2)), .second, .val (.long (mulHi q3 q4)), .second] [(.long q2), (.long q1)])) (fun _ k => XS.lloadN X2.here hx rfl (hb hby d_prog_19_method_8_code_33) rfl k) ?_
    refine Go.of (T' := T2) (f' := (mkF m 35 #[.val (.long q1), .second, .val (.long q2), .second, .val (.long q3), .second, .val (.long q4), .second, .val (.long (mulHi q1 q2)), .second, .val (.long (mulHi q3 q4)), .second] [(.long (q1 * q2))])) (fun _ k => XS.lmul X2.here hx rfl (hb hby d_prog_19_method_8_code_34) rfl k) ?_
    refine Go.of (T' := T2) (f' := (mkF m 37 #[.val (.long q1), .second, .val (.long q2), .second, .val (.long q3), .second, .val (.long q4), .second, .val (.long (mulHi q1 q2)), .second, .val (.long (mulHi q3 q4)), .second] [(.long q3), (.long (q1 * q2))])) (fun _ k => XS.lload X2.here hx rfl (hb hby d_prog_19_method_8_code_35) rfl k) ?_
    refine Go.of (T' := T2) (f' := (mkF m 39 #[.val (.long q1), .second, .val (.long q2), .second, .val (.long q3), .second, .val (.long q4), .second, .val (.long (mulHi q1 q2)), .second, .val (.long (mulHi q3 q4)), .second] [(.long q4), (.long q3), (.long (q1 * q2))])) (fun _ k => XS.lload X2.here hx rfl (hb hby d_prog_19_method_8_code_37) rfl k) ?_
    refine Go.of (T' := T2) (f' := (mkF m 40 #[.val (.long q1), .second, .val (.long q2), .second, .val (.long q3), .second, .val (.long q4), .second, .val (.long (mulHi q1 q2)), .second, .val (.long (mulHi q3 q4)), .second] [(.long (q3 * q4)), (.long (q1 * q2))])) (fun _ k => XS.lmul X2.here hx rfl (hb hby d_prog_19_method_8_code_39) rfl k) ?_
    refine goS X2 hx hZ hown (hw _ (List.mem_of_getElem? (i := 54) rfl)) (hw _ (List.mem_of_getElem? (i := 55) rfl)) (hw _ (List.mem_of_getElem? (i := 52) rfl)) (hw _ (List.mem_of_getElem? (i := 56) rfl)) (by decide) (C := 0) (S := 0) ((rm_compareU l Z a0 hw (q1 * q2) (q3 * q4) h0 ).bk (W := 0) hZ (hw _ (List.mem_of_getElem? (i := 56) rfl)) (hw _ (List.mem_of_getElem? (i := 52) rfl)) (by decide) (by decide)) e2 (argsL := [(.long (q1 * q2)), (.long (q3 * q4))]) (rest := []) (by rw [hml]; rfl) (lenOf pd__JJ_I rfl) rfl rfl (hb hby d_prog_19_method_8_code_40) (Nat.le_of_eq rfl) (by decide) (by decide) ?_
    intro v3 T3 L3 X3 hQ3
    obtain ⟨nq3, e3, rfl⟩ := hQ3
    replace X3 := standNil X3 nq3
    show Go p e below P T3 (mkF m 43 #[.val (.long q1), .second, .val (.long q2), .second, .val (.long q3), .second, .val (.long q4), .second, .val (.long (mulHi q1 q2)), .second, .val (.long (mulHi q3 q4)), .second] [(.int (cmpJ ((q1 * q2) + (-9223372036854775808 : Int64)) ((q3 * q4) + (-9223372036854775808 : Int64))))])
    exact goRetI (Q := Pu h0 (fun v => v = some (.int (cmpProd q1 q2 q3 q4)))) X3 hx (t := .int) hret hlk rfl (by simp) (hb hby d_prog_19_method_8_code_43) K (by decide) (by decide) e3 (⟨rfl, rfl, by simp only [cmpProd]; first | rw [if_pos hc21] | rw [if_neg hc21]⟩)
  ·
    refine Go.of (T' := T2) (f' := (mkF m 24 #[.val (.long q1), .second, .val (.long q2), .second, .val (.long q3), .second, .val (.long q4), .second, .val (.long (mulHi q1 q2)), .second, .val (.long (mulHi q3 q4)), .second] [])) (fun _ k => XS.ifNo X2.here hx rfl (hb hby d_prog_19_method_8_code_21) rfl ((if0 _ _).trans (feq (mt (lw_eq _ _).mp hc21)).1) k) ?_
    refine Go.of (T' := T2) (f' := (mkF m 26 #[.val (.long q1), .second, .val (.long q2), .second, .val (.long q3), .second, .val (.long q4), .second, .val (.long (mulHi q1 q2)), .second, .val (.long (mulHi q3 q4)), .second] [(.long (mulHi q1 q2))])) (fun _ k => XS.lload X2.here hx rfl (hb hby d_prog_19_method_8_code_24) rfl k) ?_
    refine Go.of (T' := T2) (f' := (mkF m 28 #[.val (.long q1), .second, .val (.long q2), .second, .val (.long q3), .second, .val (.long q4), .second, .val (.long (mulHi q1 q2)), .second, .val (.long (mulHi q3 q4)), .second] [(.long (mulHi q3 q4)), (.long (mulHi q1 q2))])) (fun _ k => XS.lload X2.here hx rfl (hb hby d_prog_19_method_8_code_26) rfl k) ?_
    refine goS X2 hx hZ hown (hw _ (List.mem_of_getElem? (i := 50) rfl)) (hw _ (List.mem_of_getElem? (i := 51) rfl)) (hw _ (List.mem_of_getElem? (i := 52) rfl)) (hw _ (List.mem_of_getElem? (i := 53) rfl)) (by decide) (C := 0) (S := 0) ((rm_compare l Z a0 hw (mulHi q1 q2) (mulHi q3 q4) h0 ).bk (W := 0) hZ (hw _ (List.mem_of_getElem? (i := 53) rfl)) (hw _ (List.mem_of_getElem? (i := 52) rfl)) (by decide) (by decide)) e2 (argsL := [(.long (mulHi q1 q2)), (.long (mulHi q3 q4))]) (rest := []) (by rw [hml]; rfl) (lenOf pd__JJ_I rfl) rfl rfl (hb hby d_prog_19_method_8_code_28) (Nat.le_of_eq rfl) (by decide) (by decide) ?_
    intro v4 T4 L4 X4 hQ4
    obtain ⟨nq4, e4, rfl⟩ := hQ4
    replace X4 := standNil X4 nq4
    show Go p e below P T4 (mkF m 31 #[.val (.long q1), .second, .val (.long q2), .second, .val (.long q3), .second, .val (.long q4), .second, .val (.long (mulHi q1 q2)), .second, .val (.long (mulHi q3 q4)), .second] [(.int (cmpJ (mulHi q1 q2) (mulHi q3 q4)))])
    exact goRetI (Q := Pu h0 (fun v => v = some (.int (cmpProd q1 q2 q3 q4)))) X4 hx (t := .int) hret hlk rfl (by simp) (hb hby d_prog_19_method_8_code_31) K (by decide) (by decide) e4 (⟨rfl, rfl, by simp only [cmpProd]; first | rw [if_pos hc21] | rw [if_neg hc21]⟩)
theorem ef_rm_weighs (m : MethodId) (x0 : Addr) (x1 : Int64) (x2 : Int64) (x3 : Int64)  : entryFrame m #[(.ref x0), (.long x1), (.long x2), (.long x3)] 9 = mkF m 0 #[.val (.ref x0), .val (.long x1), .second, .val (.long x2), .second, .val (.long x3), .second, .unset, .unset] [] := by first | (simp [entryFrame, mkF, argsToLocals, Value.category]; done) | rfl
theorem d_prog_19_method_6_code_0 : decode prog_19_method_6_code 0 = .ok (.aload_n 0, 1) := by decide +kernel
theorem d_prog_19_method_6_code_1 : decode prog_19_method_6_code 1 = .ok (.getfield 17, 3) := by decide +kernel
theorem d_prog_19_method_6_code_4 : decode prog_19_method_6_code 4 = .ok (.lload_n 3, 1) := by decide +kernel
theorem d_prog_19_method_6_code_5 : decode prog_19_method_6_code 5 = .ok (.lsub, 1) := by decide +kernel
theorem d_prog_19_method_6_code_6 : decode prog_19_method_6_code 6 = .ok (.lconst 1, 1) := by decide +kernel
theorem d_prog_19_method_6_code_7 : decode prog_19_method_6_code 7 = .ok (.lsub, 1) := by decide +kernel
theorem d_prog_19_method_6_code_8 : decode prog_19_method_6_code 8 = .ok (.lstore 7, 2) := by decide +kernel
theorem d_prog_19_method_6_code_10 : decode prog_19_method_6_code 10 = .ok (.lload_n 1, 1) := by decide +kernel
theorem d_prog_19_method_6_code_11 : decode prog_19_method_6_code 11 = .ok (.aload_n 0, 1) := by decide +kernel
theorem d_prog_19_method_6_code_12 : decode prog_19_method_6_code 12 = .ok (.getfield 23, 3) := by decide +kernel
theorem d_prog_19_method_6_code_15 : decode prog_19_method_6_code 15 = .ok (.lload 5, 2) := by decide +kernel
theorem d_prog_19_method_6_code_17 : decode prog_19_method_6_code 17 = .ok (.lsub, 1) := by decide +kernel
theorem d_prog_19_method_6_code_18 : decode prog_19_method_6_code 18 = .ok (.lload 7, 2) := by decide +kernel
theorem d_prog_19_method_6_code_20 : decode prog_19_method_6_code 20 = .ok (.aload_n 0, 1) := by decide +kernel
theorem d_prog_19_method_6_code_21 : decode prog_19_method_6_code 21 = .ok (.getfield 23, 3) := by decide +kernel
theorem d_prog_19_method_6_code_24 : decode prog_19_method_6_code 24 = .ok (.invokestatic 50, 3) := by decide +kernel
theorem pd__JJJJ_I : parseMethodDescriptor "(JJJJ)I" = some ⟨[.long, .long, .long, .long], some .int⟩ := by decide +kernel
theorem d_prog_19_method_6_code_27 : decode prog_19_method_6_code 27 = .ok (.ifCond .gt 7, 3) := by decide +kernel
theorem d_prog_19_method_6_code_34 : decode prog_19_method_6_code 34 = .ok (.iconst 0, 1) := by decide +kernel
theorem d_prog_19_method_6_code_35 : decode prog_19_method_6_code 35 = .ok (.ireturn, 1) := by decide +kernel
theorem d_prog_19_method_6_code_30 : decode prog_19_method_6_code 30 = .ok (.iconst 1, 1) := by decide +kernel
theorem d_prog_19_method_6_code_31 : decode prog_19_method_6_code 31 = .ok (.goto 4, 3) := by decide +kernel
set_option maxRecDepth 65536 in
set_option maxHeartbeats 40000000 in
theorem rm_weighs (l : Launch) (Z : State) (a0 : Array Value) (hw : ∀ d ∈ tables_1, d.before a0 Z = true) (a1 : Addr) (q1 q2 q3 li wn : Int64) (h0 : Heap) (F_limit : Fld Z h0 a1 "com/example/sluiced/sluiced/limiter/SlidingWindowCounter" "limit" "J" (.long li)) (F_window : Fld Z h0 a1 "com/example/sluiced/sluiced/limiter/SlidingWindowCounter" "window" "J" (.long wn)) :
    MeetsW l Z (⟨"com/example/sluiced/sluiced/limiter/SlidingWindowCounter", "weighsWithinLimit", "(JJJ)Z"⟩ : MethodName) prog_19_method_6_code 9 (some .boolean) ({ frames := 3, cells := 0, slots := 0, locals := 54 } : Room) #[(.ref a1), (.long q1), (.long q2), (.long q3)] h0 (Pu h0 (fun v => v = some (.int (bi (wwl li wn q1 q2 q3))))) := by
  refine MeetsW.of (plainFor_of_name pn_com_example_sluiced_sluiced_limiter_SlidingWindowCounter) ?_
  intro p e s m below meth c s₁ P hx hby hml hZ hown hnm hret hlk X0 e0 K
  have M0 : Mv h0 h0 [] [] := Mv.refl _ _
  refine Go.cast (ef_rm_weighs m a1 q1 q2 q3 ) ?_
  refine Go.of (T' := s₁) (f' := (mkF m 1 #[.val (.ref a1), .val (.long q1), .second, .val (.long q2), .second, .val (.long q3), .second, .unset, .unset] [(.ref a1)])) (fun _ k => XS.aloadN X0.here hx rfl (hb hby d_prog_19_method_6_code_0) rfl rfl k) ?_
  obtain ⟨T1, X1, e1, st1⟩ := getF X0 hx hZ hown (host := "") (Or.inl (hw _ (List.mem_of_getElem? (i := 21) rfl))) Via.refl e0 F_limit (g := (mkF m 1 #[.val (.ref a1), .val (.long q1), .second, .val (.long q2), .second, .val (.long q3), .second, .unset, .unset] [(.ref a1)])) rfl rfl (hb hby d_prog_19_method_6_code_1)
  refine Go.of (T' := T1) (f' := (mkF m 4 #[.val (.ref a1), .val (.long q1), .second, .val (.long q2), .second, .val (.long q3), .second, .unset, .unset] [(.long li)])) st1 ?_
  refine Go.of (T' := T1) (f' := (mkF m 5 #[.val (.ref a1), .val (.long q1), .second, .val (.long q2), .second, .val (.long q3), .second, .unset, .unset] [(.long q2), (.long li)])) (fun _ k => XS.lloadN X1.here hx rfl (hb hby d_prog_19_method_6_code_4) rfl k) ?_
  refine Go.of (T' := T1) (f' := (mkF m 6 #[.val (.ref a1), .val (.long q1), .second, .val (.long q2), .second, .val (.long q3), .second, .unset, .unset] [(.long (li - q2))])) (fun _ k => XS.lsub X1.here hx rfl (hb hby d_prog_19_method_6_code_5) rfl k) ?_
  refine Go.of (T' := T1) (f' := (mkF m 7 #[.val (.ref a1), .val (.long q1), .second, .val (.long q2), .second, .val (.long q3), .second, .unset, .unset] [(.long (1 : Int64)), (.long (li - q2))])) (fun _ k => XS.lconst X1.here hx rfl (hb hby d_prog_19_method_6_code_6) k) ?_
  refine Go.of (T' := T1) (f' := (mkF m 8 #[.val (.ref a1), .val (.long q1), .second, .val (.long q2), .second, .val (.long q3), .second, .unset, .unset] [(.long ((li - q2) - (1 : Int64)))])) (fun _ k => XS.lsub X1.here hx rfl (hb hby d_prog_19_method_6_code_7) rfl k) ?_
  refine Go.of (T' := T1) (f' := (mkF m 10 #[.val (.ref a1), .val (.long q1), .second, .val (.long q2), .second, .val (.long q3), .second, .val (.long ((li - q2) - (1 : Int64))), .second] [])) (fun _ k => XS.lstore X1.here hx rfl (hb hby d_prog_19_method_6_code_8) rfl (l' := #[.val (.ref a1), .val (.long q1), .second, .val (.long q2), .second, .val (.long q3), .second, .val (.long ((li - q2) - (1 : Int64))), .second]) rfl k) ?_
  refine Go.of (T' := T1) (f' := (mkF m 11 #[.val (.ref a1), .val (.long q1), .second, .val (.long q2), .second, .val (.long q3), .second, .val (.long ((li - q2) - (1 : Int64))), .second] [(.long q1)])) (fun _ k => XS.lloadN X1.here hx rfl (hb hby d_prog_19_method_6_code_10) rfl k) ?_
  refine Go.of (T' := T1) (f' := (mkF m 12 #[.val (.ref a1), .val (.long q1), .second, .val (.long q2), .second, .val (.long q3), .second, .val (.long ((li - q2) - (1 : Int64))), .second] [(.ref a1), (.long q1)])) (fun _ k => XS.aloadN X1.here hx rfl (hb hby d_prog_19_method_6_code_11) rfl rfl k) ?_
  obtain ⟨T2, X2, e2, st2⟩ := getF X1 hx hZ hown (host := "") (Or.inl (hw _ (List.mem_of_getElem? (i := 23) rfl))) Via.refl e1 F_window (g := (mkF m 12 #[.val (.ref a1), .val (.long q1), .second, .val (.long q2), .second, .val (.long q3), .second, .val (.long ((li - q2) - (1 : Int64))), .second] [(.ref a1), (.long q1)])) rfl rfl (hb hby d_prog_19_method_6_code_12)
  refine Go.of (T' := T2) (f' := (mkF m 15 #[.val (.ref a1), .val (.long q1), .second, .val (.long q2), .second, .val (.long q3), .second, .val (.long ((li - q2) - (1 : Int64))), .second] [(.long wn), (.long q1)])) st2 ?_
  refine Go.of (T' := T2) (f' := (mkF m 17 #[.val (.ref a1), .val (.long q1), .second, .val (.long q2), .second, .val (.long q3), .second, .val (.long ((li - q2) - (1 : Int64))), .second] [(.long q3), (.long wn), (.long q1)])) (fun _ k => XS.lload X2.here hx rfl (hb hby d_prog_19_method_6_code_15) rfl k) ?_
  refine Go.of (T' := T2) (f' := (mkF m 18 #[.val (.ref a1), .val (.long q1), .second, .val (.long q2), .second, .val (.long q3), .second, .val (.long ((li - q2) - (1 : Int64))), .second] [(.long (wn - q3)), (.long q1)])) (fun _ k => XS.lsub X2.here hx rfl (hb hby d_prog_19_method_6_code_17) rfl k) ?_
  refine Go.of (T' := T2) (f' := (mkF m 20 #[.val (.ref a1), .val (.long q1), .second, .val (.long q2), .second, .val (.long q3), .second, .val (.long ((li - q2) - (1 : Int64))), .second] [(.long ((li - q2) - (1 : Int64))), (.long (wn - q3)), (.long q1)])) (fun _ k => XS.lload X2.here hx rfl (hb hby d_prog_19_method_6_code_18) rfl k) ?_
  refine Go.of (T' := T2) (f' := (mkF m 21 #[.val (.ref a1), .val (.long q1), .second, .val (.long q2), .second, .val (.long q3), .second, .val (.long ((li - q2) - (1 : Int64))), .second] [(.ref a1), (.long ((li - q2) - (1 : Int64))), (.long (wn - q3)), (.long q1)])) (fun _ k => XS.aloadN X2.here hx rfl (hb hby d_prog_19_method_6_code_20) rfl rfl k) ?_
  obtain ⟨T3, X3, e3, st3⟩ := getF X2 hx hZ hown (host := "") (Or.inl (hw _ (List.mem_of_getElem? (i := 23) rfl))) Via.refl e2 F_window (g := (mkF m 21 #[.val (.ref a1), .val (.long q1), .second, .val (.long q2), .second, .val (.long q3), .second, .val (.long ((li - q2) - (1 : Int64))), .second] [(.ref a1), (.long ((li - q2) - (1 : Int64))), (.long (wn - q3)), (.long q1)])) rfl rfl (hb hby d_prog_19_method_6_code_21)
  refine Go.of (T' := T3) (f' := (mkF m 24 #[.val (.ref a1), .val (.long q1), .second, .val (.long q2), .second, .val (.long q3), .second, .val (.long ((li - q2) - (1 : Int64))), .second] [(.long wn), (.long ((li - q2) - (1 : Int64))), (.long (wn - q3)), (.long q1)])) st3 ?_
  refine goS X3 hx hZ hown (hw _ (List.mem_of_getElem? (i := 43) rfl)) (hw _ (List.mem_of_getElem? (i := 44) rfl)) (hw _ (List.mem_of_getElem? (i := 9) rfl)) (hw _ (List.mem_of_getElem? (i := 45) rfl)) (by decide) (C := 0) (S := 0) ((rm_cmpProd l Z a0 hw q1 (wn - q3) ((li - q2) - (1 : Int64)) wn h0 ).bk (W := 0) hZ (hw _ (List.mem_of_getElem? (i := 45) rfl)) (hw _ (List.mem_of_getElem? (i := 9) rfl)) (by decide) (by decide)) e3 (argsL := [(.long q1), (.long (wn - q3)), (.long ((li - q2) - (1 : Int64))), (.long wn)]) (rest := []) (by rw [hml]; rfl) (lenOf pd__JJJJ_I rfl) rfl rfl (hb hby d_prog_19_method_6_code_24) (Nat.le_of_eq rfl) (by decide) (by decide) ?_
  intro v4 T4 L4 X4 hQ4
  obtain ⟨nq4, e4, rfl⟩ := hQ4
  replace X4 := standNil X4 nq4
  show Go p e below P T4 (mkF m 27 #[.val (.ref a1), .val (.long q1), .second, .val (.long q2), .second, .val (.long q3), .second, .val (.long ((li - q2) - (1 : Int64))), .second] [(.int (cmpProd q1 (wn - q3) ((li - q2) - (1 : Int64)) wn))])
  by_cases hc27 : (0 : Int32) < (cmpProd q1 (wn - q3) ((li - q2) - (1 : Int64)) wn)
  ·
    refine Go.of (T' := T4) (f' := (mkF m 34 #[.val (.ref a1), .val (.long q1), .second, .val (.long q2), .second, .val (.long q3), .second, .val (.long ((li - q2) - (1 : Int64))), .second] [])) (fun _ k => XS.ifYes X4.here hx rfl (pc0 := 27) (pc' := 34) rfl (hb hby d_prog_19_method_6_code_27) rfl ((if0 _ _).trans (tlt hc27).2.2.1) (by decide) (by decide) k) ?_
    refine Go.of (T' := T4) (f' := (mkF m 35 #[.val (.ref a1), .val (.long q1), .second, .val (.long q2), .second, .val (.long q3), .second, .val (.long ((li - q2) - (1 : Int64))), .second] [(.int (0 : Int32))])) (fun _ k => XS.iconst X4.here hx rfl (hb hby d_prog_19_method_6_code_34) k) ?_
    exact goRetI (Q := Pu h0 (fun v => v = some (.int (bi (wwl li wn q1 q2 q3))))) X4 hx (t := .boolean) hret hlk rfl (by simp) (hb hby d_prog_19_method_6_code_35) K (by decide) (by decide) e4 (⟨rfl, rfl, by rw [bi_f (fun q => wwl_iff.mp q hc27)]⟩)
  ·
    refine Go.of (T' := T4) (f' := (mkF m 30 #[.val (.ref a1), .val (.long q1), .second, .val (.long q2), .second, .val (.long q3), .second, .val (.long ((li - q2) - (1 : Int64))), .second] [])) (fun _ k => XS.ifNo X4.here hx rfl (hb hby d_prog_19_method_6_code_27) rfl ((if0 _ _).trans (flt hc27).2.2.1) k) ?_
    refine Go.of (T' := T4) (f' := (mkF m 31 #[.val (.ref a1), .val (.long q1), .second, .val (.long q2), .second, .val (.long q3), .second, .val (.long ((li - q2) - (1 : Int64))), .second] [(.int (1 : Int32))])) (fun _ k => XS.iconst X4.here hx rfl (hb hby d_prog_19_method_6_code_30) k) ?_
    refine Go.of (T' := T4) (f' := (mkF m 35 #[.val (.ref a1), .val (.long q1), .second, .val (.long q2), .second, .val (.long q3), .second, .val (.long ((li - q2) - (1 : Int64))), .second] [(.int (1 : Int32))])) (fun _ k => XS.goto X4.here hx rfl (pc0 := 31) (pc' := 35) rfl (hb hby d_prog_19_method_6_code_31) (by decide) (by decide) k) ?_
    exact goRetI (Q := Pu h0 (fun v => v = some (.int (bi (wwl li wn q1 q2 q3))))) X4 hx (t := .boolean) hret hlk rfl (by simp) (hb hby d_prog_19_method_6_code_35) K (by decide) (by decide) e4 (⟨rfl, rfl, by rw [bi_t (wwl_iff.mpr hc27)]⟩)
def remOk (li wn p cu el : Int64) (m : Int) : Prop := p.toInt * (wn.toInt - el.toInt) ≤ (li.toInt - cu.toInt - m) * wn.toInt
def RemQ (li wn p cu el : Int64) (r : Int) : Prop := 0 ≤ r ∧ (r = 0 ∨ (r ≤ li.toInt - cu.toInt ∧ remOk li wn p cu el r)) ∧ ∀ m, r < m → m ≤ li.toInt - cu.toInt → ¬ remOk li wn p cu el m
def RInv (li wn p cu el lo hi : Int64) : Prop := 0 ≤ lo.toInt ∧ (lo.toInt = 0 ∨ (lo.toInt ≤ li.toInt - cu.toInt ∧ remOk li wn p cu el lo.toInt)) ∧ hi.toInt ≤ li.toInt - cu.toInt ∧ ∀ m, hi.toInt < m → m ≤ li.toInt - cu.toInt → ¬ remOk li wn p cu el m
theorem RInv.init {li wn p cu el : Int64} (G : Good li wn p cu el) : RInv li wn p cu el 0 (li - cu) := by
  have g := G.num
  have r1 := rng64 li
  have r2 := rng64 cu
  have e : (li - cu).toInt = li.toInt - cu.toInt := jsub (by omega) (by omega)
  refine ⟨by rw [z64]; exact Int.le_refl _, Or.inl z64, by rw [e]; exact Int.le_refl _, fun m h1 h2 => ?_⟩
  rw [e] at h1; omega
theorem mid_eq {li wn p cu el lo hi mid : Int64} (G : Good li wn p cu el) (I : RInv li wn p cu el lo hi) (h : lo < hi) (hm : (hi - ((hi - lo) / (2 : Int64))) = mid) : mid.toInt = hi.toInt - (hi.toInt - lo.toInt) / 2 ∧ lo.toInt < mid.toInt ∧ mid.toInt ≤ hi.toInt := by
  have g := G.num
  rw [jlt] at h
  have i1 := I.1
  have r1 := rng64 hi
  have e1 : (hi - lo).toInt = hi.toInt - lo.toInt := jsub (by omega) (by omega)
  have e2 := (c_ldiv (hi - lo) 2 2 (by decide) (by decide)).1 (by omega)
  have e3 : (hi - ((hi - lo) / (2 : Int64))).toInt = hi.toInt - ((hi - lo) / (2 : Int64)).toInt := jsub (by omega) (by omega)
  rw [hm] at e3
  omega
theorem wwl_mid {li wn p cu el mid : Int64} (G : Good li wn p cu el) (h1 : 0 < mid.toInt) (h2 : mid.toInt ≤ li.toInt - cu.toInt) : wwl li wn p ((cu + mid) - (1 : Int64)) el ↔ remOk li wn p cu el mid.toInt := by
  have g := G.num
  have r1 := rng64 li
  have r2 := rng64 wn
  have e1 : (cu + mid).toInt = cu.toInt + mid.toInt := jadd (by omega) (by omega)
  have e2 : ((cu + mid) - (1 : Int64)).toInt = cu.toInt + mid.toInt - 1 := by rw [jsub (by rw [o64]; omega) (by rw [o64]; omega), e1, o64]
  have e3 : (li - ((cu + mid) - (1 : Int64))).toInt = li.toInt - (cu.toInt + mid.toInt - 1) := by rw [jsub (by omega) (by omega), e2]
  have e4 : (li - ((cu + mid) - (1 : Int64)) - 1).toInt = li.toInt - cu.toInt - mid.toInt := by rw [jsub (by rw [o64]; omega) (by rw [o64]; omega), e3, o64]; omega
  have e5 : (wn - el).toInt = wn.toInt - el.toInt := jsub (by omega) (by omega)
  unfold wwl remOk
  rw [e4, e5]
theorem RInv.up {li wn p cu el lo hi mid : Int64} (G : Good li wn p cu el) (I : RInv li wn p cu el lo hi) (h : lo < hi) (hm : (hi - ((hi - lo) / (2 : Int64))) = mid) (k : wwl li wn p ((cu + mid) - (1 : Int64)) el) : RInv li wn p cu el mid hi ∧ (hi.toInt - mid.toInt).toNat < (hi.toInt - lo.toInt).toNat := by
  obtain ⟨e1, e2, e3⟩ := mid_eq G I h hm
  obtain ⟨i1, i2, i3, i4⟩ := I
  have k' := (wwl_mid G (by omega) (by omega)).mp k
  exact ⟨⟨by omega, Or.inr ⟨by omega, k'⟩, i3, i4⟩, by omega⟩
theorem RInv.dn {li wn p cu el lo hi mid : Int64} (G : Good li wn p cu el) (I : RInv li wn p cu el lo hi) (h : lo < hi) (hm : (hi - ((hi - lo) / (2 : Int64))) = mid) (k : ¬ wwl li wn p ((cu + mid) - (1 : Int64)) el) : RInv li wn p cu el lo (mid - (1 : Int64)) ∧ ((mid - (1 : Int64)).toInt - lo.toInt).toNat < (hi.toInt - lo.toInt).toNat := by
  obtain ⟨e1, e2, e3⟩ := mid_eq G I h hm
  obtain ⟨i1, i2, i3, i4⟩ := I
  have g := G.num
  have k' : ¬ remOk li wn p cu el mid.toInt := fun q => k ((wwl_mid G (by omega) (by omega)).mpr q)
  have e4 : (mid - (1 : Int64)).toInt = mid.toInt - 1 := by rw [jsub (by rw [o64]; omega) (by rw [o64]; have := rng64 mid; omega), o64]
  refine ⟨⟨i1, i2, by omega, fun m h1 h2 q => k' ?_⟩, by omega⟩
  unfold remOk at q ⊢
  have : (li.toInt - cu.toInt - m) * wn.toInt ≤ (li.toInt - cu.toInt - mid.toInt) * wn.toInt := Int.mul_le_mul_of_nonneg_right (by omega) (by omega)
  omega
theorem RInv.out {li wn p cu el lo hi : Int64} (I : RInv li wn p cu el lo hi) (h : ¬ lo < hi) : RemQ li wn p cu el lo.toInt := by
  obtain ⟨i1, i2, i3, i4⟩ := I
  rw [jlt] at h
  exact ⟨i1, i2, fun m h1 h2 => i4 m (by omega) h2⟩
def expd (li wn p cu el : Int64) : Int64 := if (0 : Int64) < (li - cu) then maxL (0 : Int64) ((li - cu) - ((p - ((p / wn) * el)) - (((p % wn) * el) / wn))) else (0 : Int64)
theorem expd_eq {li wn p cu el : Int64} (G : Good li wn p cu el) (hb : wn.toInt ≤ 2147483648) {r : Int64} (hr : RemQ li wn p cu el r.toInt) : r = expd li wn p cu el := by
  have g := G.num
  have r1 := rng64 li
  have r2 := rng64 cu
  have r3 := rng64 p
  have e0 : (li - cu).toInt = li.toInt - cu.toInt := jsub (by omega) (by omega)
  obtain ⟨q1, q2, q3⟩ := hr
  unfold expd
  by_cases h0 : (0 : Int64) < (li - cu)
  · rw [if_pos h0]
    have ne : wn ≠ -1 := fun q => by rw [q] at g; have : (-1 : Int64).toInt = -1 := by decide
                                     omega
    have ed := (c_ldiv p wn wn.toInt rfl ne).1 (by omega)
    have em : (p % wn).toInt = p.toInt % wn.toInt := by rw [Int64.toInt_mod]; exact Int.tmod_eq_emod_of_nonneg (by omega)
    rw [jlt, z64, e0] at h0
    generalize hQ : p / wn = Q at *
    generalize hS : p % wn = S at *
    have dm := Int.mul_ediv_add_emod p.toInt wn.toInt
    have s1 := Int.emod_nonneg p.toInt (show wn.toInt ≠ 0 by omega)
    have s2 := Int.emod_lt_of_pos p.toInt (show 0 < wn.toInt by omega)
    have t1 : 0 ≤ p.toInt / wn.toInt := Int.ediv_nonneg (by omega) (by omega)
    rw [← ed] at dm t1
    rw [← em] at dm s1 s2
    -- the two products
    have a1 : 0 ≤ Q.toInt * el.toInt := Int.mul_nonneg t1 (by omega)
    have a2 : Q.toInt * el.toInt ≤ Q.toInt * wn.toInt := Int.mul_le_mul_of_nonneg_left (by omega) t1
    have a3 : wn.toInt * Q.toInt = Q.toInt * wn.toInt := Int.mul_comm _ _
    have b1 : 0 ≤ S.toInt * el.toInt := Int.mul_nonneg s1 (by omega)
    have b2 : S.toInt * el.toInt ≤ S.toInt * wn.toInt := Int.mul_le_mul_of_nonneg_left (by omega) s1
    have b3 : S.toInt * wn.toInt ≤ 2147483648 * 2147483648 := Int.mul_le_mul (by omega) (by omega) (by omega) (by omega)
    have b4 : S.toInt * el.toInt / wn.toInt ≤ S.toInt := by
      have := Int.ediv_le_ediv (show 0 < wn.toInt by omega) b2
      rwa [Int.mul_ediv_cancel _ (by omega)] at this
    have b5 : 0 ≤ S.toInt * el.toInt / wn.toInt := Int.ediv_nonneg b1 (by omega)
    have m1 : (Q * el).toInt = Q.toInt * el.toInt := jmul (by omega) (by omega)
    have m2 : (S * el).toInt = S.toInt * el.toInt := jmul (by omega) (by omega)
    have d2 := (c_ldiv (S * el) wn wn.toInt rfl ne).1 (by omega)
    rw [m2] at d2
    have x1 : (p - (Q * el)).toInt = p.toInt - Q.toInt * el.toInt := by rw [jsub (by omega) (by omega), m1]
    have x2 : ((p - (Q * el)) - ((S * el) / wn)).toInt = p.toInt - Q.toInt * el.toInt - S.toInt * el.toInt / wn.toInt := by rw [jsub (by omega) (by omega), x1, d2]
    have x3 : ((li - cu) - ((p - (Q * el)) - ((S * el) / wn))).toInt = li.toInt - cu.toInt - (p.toInt - Q.toInt * el.toInt - S.toInt * el.toInt / wn.toInt) := by rw [jsub (by omega) (by omega), x2, e0]
    -- the weight, rounded up
    have key : ∀ m : Int, remOk li wn p cu el m ↔ m ≤ li.toInt - cu.toInt - (p.toInt - Q.toInt * el.toInt - S.toInt * el.toInt / wn.toInt) := by
      intro m
      unfold remOk
      have u1 : p.toInt * (wn.toInt - el.toInt) = p.toInt * wn.toInt - p.toInt * el.toInt := Int.mul_sub _ _ _
      have u2 : p.toInt * el.toInt = Q.toInt * el.toInt * wn.toInt + S.toInt * el.toInt := by
        have : p.toInt = Q.toInt * wn.toInt + S.toInt := by omega
        rw [this, Int.add_mul, Int.mul_right_comm]
      have u3 := Int.mul_ediv_add_emod (S.toInt * el.toInt) wn.toInt
      have u4 := Int.emod_nonneg (S.toInt * el.toInt) (show wn.toInt ≠ 0 by omega)
      have u5 := Int.emod_lt_of_pos (S.toInt * el.toInt) (show 0 < wn.toInt by omega)
      generalize S.toInt * el.toInt / wn.toInt = F at *
      generalize S.toInt * el.toInt % wn.toInt = M at *
      have u6 : p.toInt * (wn.toInt - el.toInt) = (p.toInt - Q.toInt * el.toInt - F) * wn.toInt - M := by
        rw [u1, u2, Int.sub_mul, Int.sub_mul, Int.mul_comm F]; omega
      rw [u6]
      generalize p.toInt - Q.toInt * el.toInt - F = G at *
      generalize li.toInt - cu.toInt = B at *
      constructor
      · intro h
        refine Int.not_lt.mp fun hlt => ?_
        have : (B - m + 1) * wn.toInt ≤ G * wn.toInt := Int.mul_le_mul_of_nonneg_right (by omega) (by omega)
        rw [Int.add_mul] at this
        omega
      · intro h
        have : G * wn.toInt ≤ (B - m) * wn.toInt := Int.mul_le_mul_of_nonneg_right (by omega) (by omega)
        omega
    have wt0 : 0 ≤ p.toInt - Q.toInt * el.toInt - S.toInt * el.toInt / wn.toInt := by omega
    generalize p.toInt - Q.toInt * el.toInt - S.toInt * el.toInt / wn.toInt = Wt at *
    unfold maxL
    split
    · rename_i hlt
      rw [jlt, z64, x3] at hlt
      rw [jeq, x3]
      have w1 : ¬ (r.toInt < li.toInt - cu.toInt - Wt) := fun q => q3 (li.toInt - cu.toInt - Wt) q (by omega) ((key _).mpr (Int.le_refl _))
      rcases q2 with q2 | ⟨-, q2⟩
      · omega
      · have := (key _).mp q2; omega
    · rename_i hlt
      rw [jlt, z64, x3] at hlt
      rw [jeq, z64]
      rcases q2 with q2 | ⟨-, q2⟩
      · exact q2
      · have := (key _).mp q2; omega
  · rw [if_neg h0]
    rw [jlt, z64, e0] at h0
    rw [jeq, z64]
    rcases q2 with q2 | ⟨q2, -⟩
    · exact q2
    · omega

theorem ef_rm_remaining (m : MethodId) (x0 : Addr) (x1 : Int64) (x2 : Int64) (x3 : Int64)  : entryFrame m #[(.ref x0), (.long x1), (.long x2), (.long x3)] 13 = mkF m 0 #[.val (.ref x0), .val (.long x1), .second, .val (.long x2), .second, .val (.long x3), .second, .unset, .unset, .unset, .unset, .unset, .unset] [] := by first | (simp [entryFrame, mkF, argsToLocals, Value.category]; done) | rfl
theorem d_prog_19_method_4_code_0 : decode prog_19_method_4_code 0 = .ok (.aload_n 0, 1) := by decide +kernel
theorem d_prog_19_method_4_code_1 : decode prog_19_method_4_code 1 = .ok (.lload_n 1, 1) := by decide +kernel
theorem d_prog_19_method_4_code_2 : decode prog_19_method_4_code 2 = .ok (.lload_n 3, 1) := by decide +kernel
theorem d_prog_19_method_4_code_3 : decode prog_19_method_4_code 3 = .ok (.lload 5, 2) := by decide +kernel
theorem d_prog_19_method_4_code_5 : decode prog_19_method_4_code 5 = .ok (.invokevirtual 26, 3) := by decide +kernel
theorem pd__JJJ_V : parseMethodDescriptor "(JJJ)V" = some ⟨[.long, .long, .long], none⟩ := by decide +kernel
theorem d_prog_19_method_4_code_8 : decode prog_19_method_4_code 8 = .ok (.lconst 0, 1) := by decide +kernel
theorem d_prog_19_method_4_code_9 : decode prog_19_method_4_code 9 = .ok (.lstore 7, 2) := by decide +kernel
theorem d_prog_19_method_4_code_11 : decode prog_19_method_4_code 11 = .ok (.aload_n 0, 1) := by decide +kernel
theorem d_prog_19_method_4_code_12 : decode prog_19_method_4_code 12 = .ok (.getfield 17, 3) := by decide +kernel
theorem d_prog_19_method_4_code_15 : decode prog_19_method_4_code 15 = .ok (.lload_n 3, 1) := by decide +kernel
theorem d_prog_19_method_4_code_16 : decode prog_19_method_4_code 16 = .ok (.lsub, 1) := by decide +kernel
theorem d_prog_19_method_4_code_17 : decode prog_19_method_4_code 17 = .ok (.lstore 9, 2) := by decide +kernel
theorem d_prog_19_method_4_code_19 : decode prog_19_method_4_code 19 = .ok (.lload 7, 2) := by decide +kernel
theorem d_prog_19_method_4_code_21 : decode prog_19_method_4_code 21 = .ok (.lload 9, 2) := by decide +kernel
theorem d_prog_19_method_4_code_23 : decode prog_19_method_4_code 23 = .ok (.lcmp, 1) := by decide +kernel
theorem d_prog_19_method_4_code_24 : decode prog_19_method_4_code 24 = .ok (.ifCond .ge 49, 3) := by decide +kernel
theorem d_prog_19_method_4_code_27 : decode prog_19_method_4_code 27 = .ok (.lload 9, 2) := by decide +kernel
theorem d_prog_19_method_4_code_29 : decode prog_19_method_4_code 29 = .ok (.lload 9, 2) := by decide +kernel
theorem d_prog_19_method_4_code_31 : decode prog_19_method_4_code 31 = .ok (.lload 7, 2) := by decide +kernel
theorem d_prog_19_method_4_code_33 : decode prog_19_method_4_code 33 = .ok (.lsub, 1) := by decide +kernel
theorem d_prog_19_method_4_code_34 : decode prog_19_method_4_code 34 = .ok (.ldc2_w 44, 3) := by decide +kernel
theorem d_prog_19_method_4_code_37 : decode prog_19_method_4_code 37 = .ok (.ldiv, 1) := by decide +kernel
theorem d_prog_19_method_4_code_38 : decode prog_19_method_4_code 38 = .ok (.lsub, 1) := by decide +kernel
theorem d_prog_19_method_4_code_39 : decode prog_19_method_4_code 39 = .ok (.lstore 11, 2) := by decide +kernel
theorem d_prog_19_method_4_code_41 : decode prog_19_method_4_code 41 = .ok (.aload_n 0, 1) := by decide +kernel
theorem d_prog_19_method_4_code_42 : decode prog_19_method_4_code 42 = .ok (.lload_n 1, 1) := by decide +kernel
theorem d_prog_19_method_4_code_43 : decode prog_19_method_4_code 43 = .ok (.lload_n 3, 1) := by decide +kernel
theorem d_prog_19_method_4_code_44 : decode prog_19_method_4_code 44 = .ok (.lload 11, 2) := by decide +kernel
theorem d_prog_19_method_4_code_46 : decode prog_19_method_4_code 46 = .ok (.ladd, 1) := by decide +kernel
theorem d_prog_19_method_4_code_47 : decode prog_19_method_4_code 47 = .ok (.lconst 1, 1) := by decide +kernel
theorem d_prog_19_method_4_code_48 : decode prog_19_method_4_code 48 = .ok (.lsub, 1) := by decide +kernel
theorem d_prog_19_method_4_code_49 : decode prog_19_method_4_code 49 = .ok (.lload 5, 2) := by decide +kernel
theorem d_prog_19_method_4_code_51 : decode prog_19_method_4_code 51 = .ok (.invokevirtual 30, 3) := by decide +kernel
theorem pd__JJJ_Z : parseMethodDescriptor "(JJJ)Z" = some ⟨[.long, .long, .long], some .boolean⟩ := by decide +kernel
theorem d_prog_19_method_4_code_54 : decode prog_19_method_4_code 54 = .ok (.ifCond .eq 10, 3) := by decide +kernel
theorem d_prog_19_method_4_code_57 : decode prog_19_method_4_code 57 = .ok (.lload 11, 2) := by decide +kernel
theorem d_prog_19_method_4_code_59 : decode prog_19_method_4_code 59 = .ok (.lstore 7, 2) := by decide +kernel
theorem d_prog_19_method_4_code_61 : decode prog_19_method_4_code 61 = .ok (.goto 9, 3) := by decide +kernel
theorem d_prog_19_method_4_code_70 : decode prog_19_method_4_code 70 = .ok (.goto (-51), 3) := by decide +kernel
theorem d_prog_19_method_4_code_64 : decode prog_19_method_4_code 64 = .ok (.lload 11, 2) := by decide +kernel
theorem d_prog_19_method_4_code_66 : decode prog_19_method_4_code 66 = .ok (.lconst 1, 1) := by decide +kernel
theorem d_prog_19_method_4_code_67 : decode prog_19_method_4_code 67 = .ok (.lsub, 1) := by decide +kernel
theorem d_prog_19_method_4_code_68 : decode prog_19_method_4_code 68 = .ok (.lstore 9, 2) := by decide +kernel
theorem d_prog_19_method_4_code_73 : decode prog_19_method_4_code 73 = .ok (.lload 7, 2) := by decide +kernel
theorem d_prog_19_method_4_code_75 : decode prog_19_method_4_code 75 = .ok (.lreturn, 1) := by decide +kernel
set_option maxRecDepth 65536 in
set_option maxHeartbeats 40000000 in
theorem rm_remaining (l : Launch) (Z : State) (a0 : Array Value) (hw : ∀ d ∈ tables_1, d.before a0 Z = true) (a1 : Addr) (q1 q2 q3 li wn : Int64) (h0 : Heap) (F_limit : Fld Z h0 a1 "com/example/sluiced/sluiced/limiter/SlidingWindowCounter" "limit" "J" (.long li)) (F_window : Fld Z h0 a1 "com/example/sluiced/sluiced/limiter/SlidingWindowCounter" "window" "J" (.long wn)) (E_a1 : Exa Z h0 a1 "com/example/sluiced/sluiced/limiter/SlidingWindowCounter") (hG : Good li wn q1 q2 q3) :
    MeetsW l Z (⟨"com/example/sluiced/sluiced/limiter/SlidingWindowCounter", "remaining", "(JJJ)J"⟩ : MethodName) prog_19_method_4_code 13 (some .long) ({ frames := 4, cells := 0, slots := 0, locals := 74 } : Room) #[(.ref a1), (.long q1), (.long q2), (.long q3)] h0 (Pu h0 (fun v => ∃ r : Int64, v = some (.long r) ∧ RemQ li wn q1 q2 q3 r.toInt)) := by
  refine MeetsW.of (plainFor_of_name pn_com_example_sluiced_sluiced_limiter_SlidingWindowCounter) ?_
  intro p e s m below meth c s₁ P hx hby hml hZ hown hnm hret hlk X0 e0 K
  have M0 : Mv h0 h0 [] [] := Mv.refl _ _
  refine Go.cast (ef_rm_remaining m a1 q1 q2 q3 ) ?_
  refine Go.of (T' := s₁) (f' := (mkF m 1 #[.val (.ref a1), .val (.long q1), .second, .val (.long q2), .second, .val (.long q3), .second, .unset, .unset, .unset, .unset, .unset, .unset] [(.ref a1)])) (fun _ k => XS.aloadN X0.here hx rfl (hb hby d_prog_19_method_4_code_0) rfl rfl k) ?_
  refine Go.of (T' := s₁) (f' := (mkF m 2 #[.val (.ref a1), .val (.long q1), .second, .val (.long q2), .second, .val (.long q3), .second, .unset, .unset, .unset, .unset, .unset, .unset] [(.long q1), (.ref a1)])) (fun _ k => XS.lloadN X0.here hx rfl (hb hby d_prog_19_method_4_code_1) rfl k) ?_
  refine Go.of (T' := s₁) (f' := (mkF m 3 #[.val (.ref a1), .val (.long q1), .second, .val (.long q2), .second, .val (.long q3), .second, .unset, .unset, .unset, .unset, .unset, .unset] [(.long q2), (.long q1), (.ref a1)])) (fun _ k => XS.lloadN X0.here hx rfl (hb hby d_prog_19_method_4_code_2) rfl k) ?_
  refine Go.of (T' := s₁) (f' := (mkF m 5 #[.val (.ref a1), .val (.long q1), .second, .val (.long q2), .second, .val (.long q3), .second, .unset, .unset, .unset, .unset, .unset, .unset] [(.long q3), (.long q2), (.long q1), (.ref a1)])) (fun _ k => XS.lload X0.here hx rfl (hb hby d_prog_19_method_4_code_3) rfl k) ?_
  refine goP X0 hx hZ hown (hw _ (List.mem_of_getElem? (i := 30) rfl)) (hw _ (List.mem_of_getElem? (i := 31) rfl)) (hw _ (List.mem_of_getElem? (i := 32) rfl)) (hw _ (List.mem_of_getElem? (i := 33) rfl)) (hw _ (List.mem_of_getElem? (i := 8) rfl)) (by decide) (C := 0) (S := 0) ((rm_check l Z a0 hw a1 q1 q2 q3 wn h0 F_window hG.2.2.1 hG.2.2.2.1 hG.2.2.2.2.1 hG.2.2.2.2.2).bk (W := 0) hZ (hw _ (List.mem_of_getElem? (i := 33) rfl)) (hw _ (List.mem_of_getElem? (i := 9) rfl)) (by decide) (by decide)) e0 E_a1 (argsL := [(.long q1), (.long q2), (.long q3)]) (rest := []) (by rw [hml]; rfl) (lenOf pd__JJJ_V rfl) rfl rfl (hb hby d_prog_19_method_4_code_5) (Nat.le_of_eq rfl) (by decide) (by decide) ?_
  intro v1 T1 L1 X1 hQ1
  obtain ⟨nq1, e1, rfl⟩ := hQ1
  replace X1 := standNil X1 nq1
  show Go p e below P T1 (mkF m 8 #[.val (.ref a1), .val (.long q1), .second, .val (.long q2), .second, .val (.long q3), .second, .unset, .unset, .unset, .unset, .unset, .unset] [])
  refine Go.of (T' := T1) (f' := (mkF m 9 #[.val (.ref a1), .val (.long q1), .second, .val (.long q2), .second, .val (.long q3), .second, .unset, .unset, .unset, .unset, .unset, .unset] [(.long (0 : Int64))])) (fun _ k => XS.lconst X1.here hx rfl (hb hby d_prog_19_method_4_code_8) k) ?_
  refine Go.of (T' := T1) (f' := (mkF m 11 #[.val (.ref a1), .val (.long q1), .second, .val (.long q2), .second, .val (.long q3), .second, .val (.long (0 : Int64)), .second, .unset, .unset, .unset, .unset] [])) (fun _ k => XS.lstore X1.here hx rfl (hb hby d_prog_19_method_4_code_9) rfl (l' := #[.val (.ref a1), .val (.long q1), .second, .val (.long q2), .second, .val (.long q3), .second, .val (.long (0 : Int64)), .second, .unset, .unset, .unset, .unset]) rfl k) ?_
  refine Go.of (T' := T1) (f' := (mkF m 12 #[.val (.ref a1), .val (.long q1), .second, .val (.long q2), .second, .val (.long q3), .second, .val (.long (0 : Int64)), .second, .unset, .unset, .unset, .unset] [(.ref a1)])) (fun _ k => XS.aloadN X1.here hx rfl (hb hby d_prog_19_method_4_code_11) rfl rfl k) ?_
  obtain ⟨T2, X2, e2, st2⟩ := getF X1 hx hZ hown (host := "") (Or.inl (hw _ (List.mem_of_getElem? (i := 21) rfl))) Via.refl e1 F_limit (g := (mkF m 12 #[.val (.ref a1), .val (.long q1), .second, .val (.long q2), .second, .val (.long q3), .second, .val (.long (0 : Int64)), .second, .unset, .unset, .unset, .unset] [(.ref a1)])) rfl rfl (hb hby d_prog_19_method_4_code_12)
  refine Go.of (T' := T2) (f' := (mkF m 15 #[.val (.ref a1), .val (.long q1), .second, .val (.long q2), .second, .val (.long q3), .second, .val (.long (0 : Int64)), .second, .unset, .unset, .unset, .unset] [(.long li)])) st2 ?_
  refine Go.of (T' := T2) (f' := (mkF m 16 #[.val (.ref a1), .val (.long q1), .second, .val (.long q2), .second, .val (.long q3), .second, .val (.long (0 : Int64)), .second, .unset, .unset, .unset, .unset] [(.long q2), (.long li)])) (fun _ k => XS.lloadN X2.here hx rfl (hb hby d_prog_19_method_4_code_15) rfl k) ?_
  refine Go.of (T' := T2) (f' := (mkF m 17 #[.val (.ref a1), .val (.long q1), .second, .val (.long q2), .second, .val (.long q3), .second, .val (.long (0 : Int64)), .second, .unset, .unset, .unset, .unset] [(.long (li - q2))])) (fun _ k => XS.lsub X2.here hx rfl (hb hby d_prog_19_method_4_code_16) rfl k) ?_
  refine Go.of (T' := T2) (f' := (mkF m 19 #[.val (.ref a1), .val (.long q1), .second, .val (.long q2), .second, .val (.long q3), .second, .val (.long (0 : Int64)), .second, .val (.long (li - q2)), .second, .unset, .unset] [])) (fun _ k => XS.lstore X2.here hx rfl (hb hby d_prog_19_method_4_code_17) rfl (l' := #[.val (.ref a1), .val (.long q1), .second, .val (.long q2), .second, .val (.long q3), .second, .val (.long (0 : Int64)), .second, .val (.long (li - q2)), .second, .unset, .unset]) rfl k) ?_
  have hI0 := RInv.init hG
  have loop : ∀ (n : Nat) (lo hi md : Int64) (Tl : State), Stand p l e ({ frames := 4, cells := 0, slots := 0, locals := 74 } : Room) s m #[(.ref a1), (.long q1), (.long q2), (.long q3)] below meth c Tl [] 0 0 → Tl.heap = h0 → RInv li wn q1 q2 q3 lo hi → (hi.toInt - lo.toInt).toNat = n → Go p e below P Tl (mkF m 19 #[.val (.ref a1), .val (.long q1), .second, .val (.long q2), .second, .val (.long q3), .second, .val (.long lo), .second, .val (.long hi), .second, .val (.long md), .second] []) := by
    intro n
    induction n using Nat.strongRecOn with
    | ind n ih =>
    intro lo hi md Tl Xl el hI hn
    refine Go.of (T' := Tl) (f' := (mkF m 21 #[.val (.ref a1), .val (.long q1), .second, .val (.long q2), .second, .val (.long q3), .second, .val (.long lo), .second, .val (.long hi), .second, .val (.long md), .second] [(.long lo)])) (fun _ k => XS.lload Xl.here hx rfl (hb hby d_prog_19_method_4_code_19) rfl k) ?_
    refine Go.of (T' := Tl) (f' := (mkF m 23 #[.val (.ref a1), .val (.long q1), .second, .val (.long q2), .second, .val (.long q3), .second, .val (.long lo), .second, .val (.long hi), .second, .val (.long md), .second] [(.long hi), (.long lo)])) (fun _ k => XS.lload Xl.here hx rfl (hb hby d_prog_19_method_4_code_21) rfl k) ?_
    refine Go.of (T' := Tl) (f' := (mkF m 24 #[.val (.ref a1), .val (.long q1), .second, .val (.long q2), .second, .val (.long q3), .second, .val (.long lo), .second, .val (.long hi), .second, .val (.long md), .second] [(.int (lcmpW lo hi))])) (fun _ k => XS.lcmp Xl.here hx rfl (hb hby d_prog_19_method_4_code_23) rfl k) ?_
    by_cases hc24 : lo < hi
    ·
      refine Go.of (T' := Tl) (f' := (mkF m 27 #[.val (.ref a1), .val (.long q1), .second, .val (.long q2), .second, .val (.long q3), .second, .val (.long lo), .second, .val (.long hi), .second, .val (.long md), .second] [])) (fun _ k => XS.ifNo Xl.here hx rfl (hb hby d_prog_19_method_4_code_24) rfl ((if0 _ _).trans (tlt ((lw_lt _ _).mpr hc24)).2.1) k) ?_
      refine Go.of (T' := Tl) (f' := (mkF m 29 #[.val (.ref a1), .val (.long q1), .second, .val (.long q2), .second, .val (.long q3), .second, .val (.long lo), .second, .val (.long hi), .second, .val (.long md), .second] [(.long hi)])) (fun _ k => XS.lload Xl.here hx rfl (hb hby d_prog_19_method_4_code_27) rfl k) ?_
      refine Go.of (T' := Tl) (f' := (mkF m 31 #[.val (.ref a1), .val (.long q1), .second, .val (.long q2), .second, .val (.long q3), .second, .val (.long lo), .second, .val (.long hi), .second, .val (.long md), .second] [(.long hi), (.long hi)])) (fun _ k => XS.lload Xl.here hx rfl (hb hby d_prog_19_method_4_code_29) rfl k) ?_
      refine Go.of (T' := Tl) (f' := (mkF m 33 #[.val (.ref a1), .val (.long q1), .second, .val (.long q2), .second, .val (.long q3), .second, .val (.long lo), .second, .val (.long hi), .second, .val (.long md), .second] [(.long lo), (.long hi), (.long hi)])) (fun _ k => XS.lload Xl.here hx rfl (hb hby d_prog_19_method_4_code_31) rfl k) ?_
      refine Go.of (T' := Tl) (f' := (mkF m 34 #[.val (.ref a1), .val (.long q1), .second, .val (.long q2), .second, .val (.long q3), .second, .val (.long lo), .second, .val (.long hi), .second, .val (.long md), .second] [(.long (hi - lo)), (.long hi)])) (fun _ k => XS.lsub Xl.here hx rfl (hb hby d_prog_19_method_4_code_33) rfl k) ?_
      refine Go.of (T' := Tl) (f' := (mkF m 37 #[.val (.ref a1), .val (.long q1), .second, .val (.long q2), .second, .val (.long q3), .second, .val (.long lo), .second, .val (.long hi), .second, .val (.long md), .second] [(.long (2 : Int64)), (.long (hi - lo)), (.long hi)])) (fun _ k => Xl.ldc2Long hx hown (mvT hZ (hw _ (List.mem_of_getElem? (i := 38) rfl))) (g := (mkF m 34 #[.val (.ref a1), .val (.long q1), .second, .val (.long q2), .second, .val (.long q3), .second, .val (.long lo), .second, .val (.long hi), .second, .val (.long md), .second] [(.long (hi - lo)), (.long hi)])) rfl (hb hby d_prog_19_method_4_code_34) _ k) ?_
      refine Go.of (T' := Tl) (f' := (mkF m 38 #[.val (.ref a1), .val (.long q1), .second, .val (.long q2), .second, .val (.long q3), .second, .val (.long lo), .second, .val (.long hi), .second, .val (.long md), .second] [(.long ((hi - lo) / (2 : Int64))), (.long hi)])) (fun _ k => XS.ldiv Xl.here hx rfl (hb hby d_prog_19_method_4_code_37) rfl (by decide) k) ?_
      refine Go.of (T' := Tl) (f' := (mkF m 39 #[.val (.ref a1), .val (.long q1), .second, .val (.long q2), .second, .val (.long q3), .second, .val (.long lo), .second, .val (.long hi), .second, .val (.long md), .second] [(.long (hi - ((hi - lo) / (2 : Int64))))])) (fun _ k => XS.lsub Xl.here hx rfl (hb hby d_prog_19_method_4_code_38) rfl k) ?_
      refine Go.of (T' := Tl) (f' := (mkF m 41 #[.val (.ref a1), .val (.long q1), .second, .val (.long q2), .second, .val (.long q3), .second, .val (.long lo), .second, .val (.long hi), .second, .val (.long (hi - ((hi - lo) / (2 : Int64)))), .second] [])) (fun _ k => XS.lstore Xl.here hx rfl (hb hby d_prog_19_method_4_code_39) rfl (l' := #[.val (.ref a1), .val (.long q1), .second, .val (.long q2), .second, .val (.long q3), .second, .val (.long lo), .second, .val (.long hi), .second, .val (.long (hi - ((hi - lo) / (2 : Int64)))), .second]) rfl k) ?_
      generalize hmd : (hi - ((hi - lo) / (2 : Int64))) = mid
      refine Go.of (T' := Tl) (f' := (mkF m 42 #[.val (.ref a1), .val (.long q1), .second, .val (.long q2), .second, .val (.long q3), .second, .val (.long lo), .second, .val (.long hi), .second, .val (.long mid), .second] [(.ref a1)])) (fun _ k => XS.aloadN Xl.here hx rfl (hb hby d_prog_19_method_4_code_41) rfl rfl k) ?_
      refine Go.of (T' := Tl) (f' := (mkF m 43 #[.val (.ref a1), .val (.long q1), .second, .val (.long q2), .second, .val (.long q3), .second, .val (.long lo), .second, .val (.long hi), .second, .val (.long mid), .second] [(.long q1), (.ref a1)])) (fun _ k => XS.lloadN Xl.here hx rfl (hb hby d_prog_19_method_4_code_42) rfl k) ?_
      refine Go.of (T' := Tl) (f' := (mkF m 44 #[.val (.ref a1), .val (.long q1), .second, .val (.long q2), .second, .val (.long q3), .second, .val (.long lo), .second, .val (.long hi), .second, .val (.long mid), .second] [(.long q2), (.long q1), (.ref a1)])) (fun _ k => XS.lloadN Xl.here hx rfl (hb hby d_prog_19_method_4_code_43) rfl k) ?_
      refine Go.of (T' := Tl) (f' := (mkF m 46 #[.val (.ref a1), .val (.long q1), .second, .val (.long q2), .second, .val (.long q3), .second, .val (.long lo), .second, .val (.long hi), .second, .val (.long mid), .second] [(.long mid), (.long q2), (.long q1), (.ref a1)])) (fun _ k => XS.lload Xl.here hx rfl (hb hby d_prog_19_method_4_code_44) rfl k) ?_
      refine Go.of (T' := Tl) (f' := (mkF m 47 #[.val (.ref a1), .val (.long q1), .second, .val (.long q2), .second, .val (.long q3), .second, .val (.long lo), .second, .val (.long hi), .second, .val (.long mid), .second] [(.long (q2 + mid)), (.long q1), (.ref a1)])) (fun _ k => XS.ladd Xl.here hx rfl (hb hby d_prog_19_method_4_code_46) rfl k) ?_
      refine Go.of (T' := Tl) (f' := (mkF m 48 #[.val (.ref a1), .val (.long q1), .second, .val (.long q2), .second, .val (.long q3), .second, .val (.long lo), .second, .val (.long hi), .second, .val (.long mid), .second] [(.long (1 : Int64)), (.long (q2 + mid)), (.long q1), (.ref a1)])) (fun _ k => XS.lconst Xl.here hx rfl (hb hby d_prog_19_method_4_code_47) k) ?_
      refine Go.of (T' := Tl) (f' := (mkF m 49 #[.val (.ref a1), .val (.long q1), .second, .val (.long q2), .second, .val (.long q3), .second, .val (.long lo), .second, .val (.long hi), .second, .val (.long mid), .second] [(.long ((q2 + mid) - (1 : Int64))), (.long q1), (.ref a1)])) (fun _ k => XS.lsub Xl.here hx rfl (hb hby d_prog_19_method_4_code_48) rfl k) ?_
      refine Go.of (T' := Tl) (f' := (mkF m 51 #[.val (.ref a1), .val (.long q1), .second, .val (.long q2), .second, .val (.long q3), .second, .val (.long lo), .second, .val (.long hi), .second, .val (.long mid), .second] [(.long q3), (.long ((q2 + mid) - (1 : Int64))), (.long q1), (.ref a1)])) (fun _ k => XS.lload Xl.here hx rfl (hb hby d_prog_19_method_4_code_49) rfl k) ?_
      refine goP Xl hx hZ hown (hw _ (List.mem_of_getElem? (i := 39) rfl)) (hw _ (List.mem_of_getElem? (i := 40) rfl)) (hw _ (List.mem_of_getElem? (i := 41) rfl)) (hw _ (List.mem_of_getElem? (i := 42) rfl)) (hw _ (List.mem_of_getElem? (i := 8) rfl)) (by decide) (C := 0) (S := 0) ((rm_weighs l Z a0 hw a1 q1 ((q2 + mid) - (1 : Int64)) q3 li wn h0 F_limit F_window).bk (W := 0) hZ (hw _ (List.mem_of_getElem? (i := 42) rfl)) (hw _ (List.mem_of_getElem? (i := 9) rfl)) (by decide) (by decide)) el E_a1 (argsL := [(.long q1), (.long ((q2 + mid) - (1 : Int64))), (.long q3)]) (rest := []) (by rw [hml]; rfl) (lenOf pd__JJJ_Z rfl) rfl rfl (hb hby d_prog_19_method_4_code_51) (Nat.le_of_eq rfl) (by decide) (by decide) ?_
      intro v4 T4 L4 X4 hQ4
      obtain ⟨nq4, e4, rfl⟩ := hQ4
      replace X4 := standNil X4 nq4
      show Go p e below P T4 (mkF m 54 #[.val (.ref a1), .val (.long q1), .second, .val (.long q2), .second, .val (.long q3), .second, .val (.long lo), .second, .val (.long hi), .second, .val (.long mid), .second] [(.int (bi (wwl li wn q1 ((q2 + mid) - (1 : Int64)) q3)))])
      by_cases hc54 : wwl li wn q1 ((q2 + mid) - (1 : Int64)) q3
      ·
        refine Go.of (T' := T4) (f' := (mkF m 57 #[.val (.ref a1), .val (.long q1), .second, .val (.long q2), .second, .val (.long q3), .second, .val (.long lo), .second, .val (.long hi), .second, .val (.long mid), .second] [])) (fun _ k => XS.ifNo X4.here hx rfl (hb hby d_prog_19_method_4_code_54) rfl ((if0 _ _).trans (feq (bi_ne hc54)).1) k) ?_
        refine Go.of (T' := T4) (f' := (mkF m 59 #[.val (.ref a1), .val (.long q1), .second, .val (.long q2), .second, .val (.long q3), .second, .val (.long lo), .second, .val (.long hi), .second, .val (.long mid), .second] [(.long mid)])) (fun _ k => XS.lload X4.here hx rfl (hb hby d_prog_19_method_4_code_57) rfl k) ?_
        refine Go.of (T' := T4) (f' := (mkF m 61 #[.val (.ref a1), .val (.long q1), .second, .val (.long q2), .second, .val (.long q3), .second, .val (.long mid), .second, .val (.long hi), .second, .val (.long mid), .second] [])) (fun _ k => XS.lstore X4.here hx rfl (hb hby d_prog_19_method_4_code_59) rfl (l' := #[.val (.ref a1), .val (.long q1), .second, .val (.long q2), .second, .val (.long q3), .second, .val (.long mid), .second, .val (.long hi), .second, .val (.long mid), .second]) rfl k) ?_
        refine Go.of (T' := T4) (f' := (mkF m 70 #[.val (.ref a1), .val (.long q1), .second, .val (.long q2), .second, .val (.long q3), .second, .val (.long mid), .second, .val (.long hi), .second, .val (.long mid), .second] [])) (fun _ k => XS.goto X4.here hx rfl (pc0 := 61) (pc' := 70) rfl (hb hby d_prog_19_method_4_code_61) (by decide) (by decide) k) ?_
        refine Go.of (T' := T4) (f' := (mkF m 19 #[.val (.ref a1), .val (.long q1), .second, .val (.long q2), .second, .val (.long q3), .second, .val (.long mid), .second, .val (.long hi), .second, .val (.long mid), .second] [])) (fun _ k => XS.goto X4.here hx rfl (pc0 := 70) (pc' := 19) rfl (hb hby d_prog_19_method_4_code_70) (by decide) (by decide) k) ?_
        have hs := RInv.up hG hI hc24 hmd hc54
        exact ih _ (by rw [← hn]; exact hs.2) _ _ _ _ X4 e4 hs.1 rfl
      ·
        refine Go.of (T' := T4) (f' := (mkF m 64 #[.val (.ref a1), .val (.long q1), .second, .val (.long q2), .second, .val (.long q3), .second, .val (.long lo), .second, .val (.long hi), .second, .val (.long mid), .second] [])) (fun _ k => XS.ifYes X4.here hx rfl (pc0 := 54) (pc' := 64) rfl (hb hby d_prog_19_method_4_code_54) rfl ((if0 _ _).trans (teq (bi_f hc54)).1) (by decide) (by decide) k) ?_
        refine Go.of (T' := T4) (f' := (mkF m 66 #[.val (.ref a1), .val (.long q1), .second, .val (.long q2), .second, .val (.long q3), .second, .val (.long lo), .second, .val (.long hi), .second, .val (.long mid), .second] [(.long mid)])) (fun _ k => XS.lload X4.here hx rfl (hb hby d_prog_19_method_4_code_64) rfl k) ?_
        refine Go.of (T' := T4) (f' := (mkF m 67 #[.val (.ref a1), .val (.long q1), .second, .val (.long q2), .second, .val (.long q3), .second, .val (.long lo), .second, .val (.long hi), .second, .val (.long mid), .second] [(.long (1 : Int64)), (.long mid)])) (fun _ k => XS.lconst X4.here hx rfl (hb hby d_prog_19_method_4_code_66) k) ?_
        refine Go.of (T' := T4) (f' := (mkF m 68 #[.val (.ref a1), .val (.long q1), .second, .val (.long q2), .second, .val (.long q3), .second, .val (.long lo), .second, .val (.long hi), .second, .val (.long mid), .second] [(.long (mid - (1 : Int64)))])) (fun _ k => XS.lsub X4.here hx rfl (hb hby d_prog_19_method_4_code_67) rfl k) ?_
        refine Go.of (T' := T4) (f' := (mkF m 70 #[.val (.ref a1), .val (.long q1), .second, .val (.long q2), .second, .val (.long q3), .second, .val (.long lo), .second, .val (.long (mid - (1 : Int64))), .second, .val (.long mid), .second] [])) (fun _ k => XS.lstore X4.here hx rfl (hb hby d_prog_19_method_4_code_68) rfl (l' := #[.val (.ref a1), .val (.long q1), .second, .val (.long q2), .second, .val (.long q3), .second, .val (.long lo), .second, .val (.long (mid - (1 : Int64))), .second, .val (.long mid), .second]) rfl k) ?_
        refine Go.of (T' := T4) (f' := (mkF m 19 #[.val (.ref a1), .val (.long q1), .second, .val (.long q2), .second, .val (.long q3), .second, .val (.long lo), .second, .val (.long (mid - (1 : Int64))), .second, .val (.long mid), .second] [])) (fun _ k => XS.goto X4.here hx rfl (pc0 := 70) (pc' := 19) rfl (hb hby d_prog_19_method_4_code_70) (by decide) (by decide) k) ?_
        have hs := RInv.dn hG hI hc24 hmd hc54
        exact ih _ (by rw [← hn]; exact hs.2) _ _ _ _ X4 e4 hs.1 rfl
    ·
      refine Go.of (T' := Tl) (f' := (mkF m 73 #[.val (.ref a1), .val (.long q1), .second, .val (.long q2), .second, .val (.long q3), .second, .val (.long lo), .second, .val (.long hi), .second, .val (.long md), .second] [])) (fun _ k => XS.ifYes Xl.here hx rfl (pc0 := 24) (pc' := 73) rfl (hb hby d_prog_19_method_4_code_24) rfl ((if0 _ _).trans (flt (mt (lw_lt _ _).mp hc24)).2.1) (by decide) (by decide) k) ?_
      refine Go.of (T' := Tl) (f' := (mkF m 75 #[.val (.ref a1), .val (.long q1), .second, .val (.long q2), .second, .val (.long q3), .second, .val (.long lo), .second, .val (.long hi), .second, .val (.long md), .second] [(.long lo)])) (fun _ k => XS.lload Xl.here hx rfl (hb hby d_prog_19_method_4_code_73) rfl k) ?_
      exact goRetJ (Q := Pu h0 (fun v => ∃ r : Int64, v = some (.long r) ∧ RemQ li wn q1 q2 q3 r.toInt)) Xl hx hret hlk (hb hby d_prog_19_method_4_code_75) K (by decide) (by decide) el (⟨rfl, rfl, _, rfl, RInv.out hI hc24⟩)
  refine Go.of (T' := T2) (f' := (mkF m 21 #[.val (.ref a1), .val (.long q1), .second, .val (.long q2), .second, .val (.long q3), .second, .val (.long (0 : Int64)), .second, .val (.long (li - q2)), .second, .unset, .unset] [(.long (0 : Int64))])) (fun _ k => XS.lload X2.here hx rfl (hb hby d_prog_19_method_4_code_19) rfl k) ?_
  refine Go.of (T' := T2) (f' := (mkF m 23 #[.val (.ref a1), .val (.long q1), .second, .val (.long q2), .second, .val (.long q3), .second, .val (.long (0 : Int64)), .second, .val (.long (li - q2)), .second, .unset, .unset] [(.long (li - q2)), (.long (0 : Int64))])) (fun _ k => XS.lload X2.here hx rfl (hb hby d_prog_19_method_4_code_21) rfl k) ?_
  refine Go.of (T' := T2) (f' := (mkF m 24 #[.val (.ref a1), .val (.long q1), .second, .val (.long q2), .second, .val (.long q3), .second, .val (.long (0 : Int64)), .second, .val (.long (li - q2)), .second, .unset, .unset] [(.int (lcmpW (0 : Int64) (li - q2)))])) (fun _ k => XS.lcmp X2.here hx rfl (hb hby d_prog_19_method_4_code_23) rfl k) ?_
  by_cases hc24 : (0 : Int64) < (li - q2)
  ·
    refine Go.of (T' := T2) (f' := (mkF m 27 #[.val (.ref a1), .val (.long q1), .second, .val (.long q2), .second, .val (.long q3), .second, .val (.long (0 : Int64)), .second, .val (.long (li - q2)), .second, .unset, .unset] [])) (fun _ k => XS.ifNo X2.here hx rfl (hb hby d_prog_19_method_4_code_24) rfl ((if0 _ _).trans (tlt ((lw_lt _ _).mpr hc24)).2.1) k) ?_
    refine Go.of (T' := T2) (f' := (mkF m 29 #[.val (.ref a1), .val (.long q1), .second, .val (.long q2), .second, .val (.long q3), .second, .val (.long (0 : Int64)), .second, .val (.long (li - q2)), .second, .unset, .unset] [(.long (li - q2))])) (fun _ k => XS.lload X2.here hx rfl (hb hby d_prog_19_method_4_code_27) rfl k) ?_
    refine Go.of (T' := T2) (f' := (mkF m 31 #[.val (.ref a1), .val (.long q1), .second, .val (.long q2), .second, .val (.long q3), .second, .val (.long (0 : Int64)), .second, .val (.long (li - q2)), .second, .unset, .unset] [(.long (li - q2)), (.long (li - q2))])) (fun _ k => XS.lload X2.here hx rfl (hb hby d_prog_19_method_4_code_29) rfl k) ?_
    refine Go.of (T' := T2) (f' := (mkF m 33 #[.val (.ref a1), .val (.long q1), .second, .val (.long q2), .second, .val (.long q3), .second, .val (.long (0 : Int64)), .second, .val (.long (li - q2)), .second, .unset, .unset] [(.long (0 : Int64)), (.long (li - q2)), (.long (li - q2))])) (fun _ k => XS.lload X2.here hx rfl (hb hby d_prog_19_method_4_code_31) rfl k) ?_
    refine Go.of (T' := T2) (f' := (mkF m 34 #[.val (.ref a1), .val (.long q1), .second, .val (.long q2), .second, .val (.long q3), .second, .val (.long (0 : Int64)), .second, .val (.long (li - q2)), .second, .unset, .unset] [(.long ((li - q2) - (0 : Int64))), (.long (li - q2))])) (fun _ k => XS.lsub X2.here hx rfl (hb hby d_prog_19_method_4_code_33) rfl k) ?_
    refine Go.of (T' := T2) (f' := (mkF m 37 #[.val (.ref a1), .val (.long q1), .second, .val (.long q2), .second, .val (.long q3), .second, .val (.long (0 : Int64)), .second, .val (.long (li - q2)), .second, .unset, .unset] [(.long (2 : Int64)), (.long ((li - q2) - (0 : Int64))), (.long (li - q2))])) (fun _ k => X2.ldc2Long hx hown (mvT hZ (hw _ (List.mem_of_getElem? (i := 38) rfl))) (g := (mkF m 34 #[.val (.ref a1), .val (.long q1), .second, .val (.long q2), .second, .val (.long q3), .second, .val (.long (0 : Int64)), .second, .val (.long (li - q2)), .second, .unset, .unset] [(.long ((li - q2) - (0 : Int64))), (.long (li - q2))])) rfl (hb hby d_prog_19_method_4_code_34) _ k) ?_
    refine Go.of (T' := T2) (f' := (mkF m 38 #[.val (.ref a1), .val (.long q1), .second, .val (.long q2), .second, .val (.long q3), .second, .val (.long (0 : Int64)), .second, .val (.long (li - q2)), .second, .unset, .unset] [(.long (((li - q2) - (0 : Int64)) / (2 : Int64))), (.long (li - q2))])) (fun _ k => XS.ldiv X2.here hx rfl (hb hby d_prog_19_method_4_code_37) rfl (by decide) k) ?_
    refine Go.of (T' := T2) (f' := (mkF m 39 #[.val (.ref a1), .val (.long q1), .second, .val (.long q2), .second, .val (.long q3), .second, .val (.long (0 : Int64)), .second, .val (.long (li - q2)), .second, .unset, .unset] [(.long ((li - q2) - (((li - q2) - (0 : Int64)) / (2 : Int64))))])) (fun _ k => XS.lsub X2.here hx rfl (hb hby d_prog_19_method_4_code_38) rfl k) ?_
    refine Go.of (T' := T2) (f' := (mkF m 41 #[.val (.ref a1), .val (.long q1), .second, .val (.long q2), .second, .val (.long q3), .second, .val (.long (0 : Int64)), .second, .val (.long (li - q2)), .second, .val (.long ((li - q2) - (((li - q2) - (0 : Int64)) / (2 : Int64)))), .second] [])) (fun _ k => XS.lstore X2.here hx rfl (hb hby d_prog_19_method_4_code_39) rfl (l' := #[.val (.ref a1), .val (.long q1), .second, .val (.long q2), .second, .val (.long q3), .second, .val (.long (0 : Int64)), .second, .val (.long (li - q2)), .second, .val (.long ((li - q2) - (((li - q2) - (0 : Int64)) / (2 : Int64)))), .second]) rfl k) ?_
    generalize hmd : ((li - q2) - (((li - q2) - (0 : Int64)) / (2 : Int64))) = mid
    refine Go.of (T' := T2) (f' := (mkF m 42 #[.val (.ref a1), .val (.long q1), .second, .val (.long q2), .second, .val (.long q3), .second, .val (.long (0 : Int64)), .second, .val (.long (li - q2)), .second, .val (.long mid), .second] [(.ref a1)])) (fun _ k => XS.aloadN X2.here hx rfl (hb hby d_prog_19_method_4_code_41) rfl rfl k) ?_
    refine Go.of (T' := T2) (f' := (mkF m 43 #[.val (.ref a1), .val (.long q1), .second, .val (.long q2), .second, .val (.long q3), .second, .val (.long (0 : Int64)), .second, .val (.long (li - q2)), .second, .val (.long mid), .second] [(.long q1), (.ref a1)])) (fun _ k => XS.lloadN X2.here hx rfl (hb hby d_prog_19_method_4_code_42) rfl k) ?_
    refine Go.of (T' := T2) (f' := (mkF m 44 #[.val (.ref a1), .val (.long q1), .second, .val (.long q2), .second, .val (.long q3), .second, .val (.long (0 : Int64)), .second, .val (.long (li - q2)), .second, .val (.long mid), .second] [(.long q2), (.long q1), (.ref a1)])) (fun _ k => XS.lloadN X2.here hx rfl (hb hby d_prog_19_method_4_code_43) rfl k) ?_
    refine Go.of (T' := T2) (f' := (mkF m 46 #[.val (.ref a1), .val (.long q1), .second, .val (.long q2), .second, .val (.long q3), .second, .val (.long (0 : Int64)), .second, .val (.long (li - q2)), .second, .val (.long mid), .second] [(.long mid), (.long q2), (.long q1), (.ref a1)])) (fun _ k => XS.lload X2.here hx rfl (hb hby d_prog_19_method_4_code_44) rfl k) ?_
    refine Go.of (T' := T2) (f' := (mkF m 47 #[.val (.ref a1), .val (.long q1), .second, .val (.long q2), .second, .val (.long q3), .second, .val (.long (0 : Int64)), .second, .val (.long (li - q2)), .second, .val (.long mid), .second] [(.long (q2 + mid)), (.long q1), (.ref a1)])) (fun _ k => XS.ladd X2.here hx rfl (hb hby d_prog_19_method_4_code_46) rfl k) ?_
    refine Go.of (T' := T2) (f' := (mkF m 48 #[.val (.ref a1), .val (.long q1), .second, .val (.long q2), .second, .val (.long q3), .second, .val (.long (0 : Int64)), .second, .val (.long (li - q2)), .second, .val (.long mid), .second] [(.long (1 : Int64)), (.long (q2 + mid)), (.long q1), (.ref a1)])) (fun _ k => XS.lconst X2.here hx rfl (hb hby d_prog_19_method_4_code_47) k) ?_
    refine Go.of (T' := T2) (f' := (mkF m 49 #[.val (.ref a1), .val (.long q1), .second, .val (.long q2), .second, .val (.long q3), .second, .val (.long (0 : Int64)), .second, .val (.long (li - q2)), .second, .val (.long mid), .second] [(.long ((q2 + mid) - (1 : Int64))), (.long q1), (.ref a1)])) (fun _ k => XS.lsub X2.here hx rfl (hb hby d_prog_19_method_4_code_48) rfl k) ?_
    refine Go.of (T' := T2) (f' := (mkF m 51 #[.val (.ref a1), .val (.long q1), .second, .val (.long q2), .second, .val (.long q3), .second, .val (.long (0 : Int64)), .second, .val (.long (li - q2)), .second, .val (.long mid), .second] [(.long q3), (.long ((q2 + mid) - (1 : Int64))), (.long q1), (.ref a1)])) (fun _ k => XS.lload X2.here hx rfl (hb hby d_prog_19_method_4_code_49) rfl k) ?_
    refine goP X2 hx hZ hown (hw _ (List.mem_of_getElem? (i := 39) rfl)) (hw _ (List.mem_of_getElem? (i := 40) rfl)) (hw _ (List.mem_of_getElem? (i := 41) rfl)) (hw _ (List.mem_of_getElem? (i := 42) rfl)) (hw _ (List.mem_of_getElem? (i := 8) rfl)) (by decide) (C := 0) (S := 0) ((rm_weighs l Z a0 hw a1 q1 ((q2 + mid) - (1 : Int64)) q3 li wn h0 F_limit F_window).bk (W := 0) hZ (hw _ (List.mem_of_getElem? (i := 42) rfl)) (hw _ (List.mem_of_getElem? (i := 9) rfl)) (by decide) (by decide)) e2 E_a1 (argsL := [(.long q1), (.long ((q2 + mid) - (1 : Int64))), (.long q3)]) (rest := []) (by rw [hml]; rfl) (lenOf pd__JJJ_Z rfl) rfl rfl (hb hby d_prog_19_method_4_code_51) (Nat.le_of_eq rfl) (by decide) (by decide) ?_
    intro v6 T6 L6 X6 hQ6
    obtain ⟨nq6, e6, rfl⟩ := hQ6
    replace X6 := standNil X6 nq6
    show Go p e below P T6 (mkF m 54 #[.val (.ref a1), .val (.long q1), .second, .val (.long q2), .second, .val (.long q3), .second, .val (.long (0 : Int64)), .second, .val (.long (li - q2)), .second, .val (.long mid), .second] [(.int (bi (wwl li wn q1 ((q2 + mid) - (1 : Int64)) q3)))])
    by_cases hc54 : wwl li wn q1 ((q2 + mid) - (1 : Int64)) q3
    ·
      refine Go.of (T' := T6) (f' := (mkF m 57 #[.val (.ref a1), .val (.long q1), .second, .val (.long q2), .second, .val (.long q3), .second, .val (.long (0 : Int64)), .second, .val (.long (li - q2)), .second, .val (.long mid), .second] [])) (fun _ k => XS.ifNo X6.here hx rfl (hb hby d_prog_19_method_4_code_54) rfl ((if0 _ _).trans (feq (bi_ne hc54)).1) k) ?_
      refine Go.of (T' := T6) (f' := (mkF m 59 #[.val (.ref a1), .val (.long q1), .second, .val (.long q2), .second, .val (.long q3), .second, .val (.long (0 : Int64)), .second, .val (.long (li - q2)), .second, .val (.long mid), .second] [(.long mid)])) (fun _ k => XS.lload X6.here hx rfl (hb hby d_prog_19_method_4_code_57) rfl k) ?_
      refine Go.of (T' := T6) (f' := (mkF m 61 #[.val (.ref a1), .val (.long q1), .second, .val (.long q2), .second, .val (.long q3), .second, .val (.long mid), .second, .val (.long (li - q2)), .second, .val (.long mid), .second] [])) (fun _ k => XS.lstore X6.here hx rfl (hb hby d_prog_19_method_4_code_59) rfl (l' := #[.val (.ref a1), .val (.long q1), .second, .val (.long q2), .second, .val (.long q3), .second, .val (.long mid), .second, .val (.long (li - q2)), .second, .val (.long mid), .second]) rfl k) ?_
      refine Go.of (T' := T6) (f' := (mkF m 70 #[.val (.ref a1), .val (.long q1), .second, .val (.long q2), .second, .val (.long q3), .second, .val (.long mid), .second, .val (.long (li - q2)), .second, .val (.long mid), .second] [])) (fun _ k => XS.goto X6.here hx rfl (pc0 := 61) (pc' := 70) rfl (hb hby d_prog_19_method_4_code_61) (by decide) (by decide) k) ?_
      refine Go.of (T' := T6) (f' := (mkF m 19 #[.val (.ref a1), .val (.long q1), .second, .val (.long q2), .second, .val (.long q3), .second, .val (.long mid), .second, .val (.long (li - q2)), .second, .val (.long mid), .second] [])) (fun _ k => XS.goto X6.here hx rfl (pc0 := 70) (pc' := 19) rfl (hb hby d_prog_19_method_4_code_70) (by decide) (by decide) k) ?_
      have hs := RInv.up hG hI0 hc24 hmd hc54
      exact loop _ _ _ _ _ X6 e6 hs.1 rfl
    ·
      refine Go.of (T' := T6) (f' := (mkF m 64 #[.val (.ref a1), .val (.long q1), .second, .val (.long q2), .second, .val (.long q3), .second, .val (.long (0 : Int64)), .second, .val (.long (li - q2)), .second, .val (.long mid), .second] [])) (fun _ k => XS.ifYes X6.here hx rfl (pc0 := 54) (pc' := 64) rfl (hb hby d_prog_19_method_4_code_54) rfl ((if0 _ _).trans (teq (bi_f hc54)).1) (by decide) (by decide) k) ?_
      refine Go.of (T' := T6) (f' := (mkF m 66 #[.val (.ref a1), .val (.long q1), .second, .val (.long q2), .second, .val (.long q3), .second, .val (.long (0 : Int64)), .second, .val (.long (li - q2)), .second, .val (.long mid), .second] [(.long mid)])) (fun _ k => XS.lload X6.here hx rfl (hb hby d_prog_19_method_4_code_64) rfl k) ?_
      refine Go.of (T' := T6) (f' := (mkF m 67 #[.val (.ref a1), .val (.long q1), .second, .val (.long q2), .second, .val (.long q3), .second, .val (.long (0 : Int64)), .second, .val (.long (li - q2)), .second, .val (.long mid), .second] [(.long (1 : Int64)), (.long mid)])) (fun _ k => XS.lconst X6.here hx rfl (hb hby d_prog_19_method_4_code_66) k) ?_
      refine Go.of (T' := T6) (f' := (mkF m 68 #[.val (.ref a1), .val (.long q1), .second, .val (.long q2), .second, .val (.long q3), .second, .val (.long (0 : Int64)), .second, .val (.long (li - q2)), .second, .val (.long mid), .second] [(.long (mid - (1 : Int64)))])) (fun _ k => XS.lsub X6.here hx rfl (hb hby d_prog_19_method_4_code_67) rfl k) ?_
      refine Go.of (T' := T6) (f' := (mkF m 70 #[.val (.ref a1), .val (.long q1), .second, .val (.long q2), .second, .val (.long q3), .second, .val (.long (0 : Int64)), .second, .val (.long (mid - (1 : Int64))), .second, .val (.long mid), .second] [])) (fun _ k => XS.lstore X6.here hx rfl (hb hby d_prog_19_method_4_code_68) rfl (l' := #[.val (.ref a1), .val (.long q1), .second, .val (.long q2), .second, .val (.long q3), .second, .val (.long (0 : Int64)), .second, .val (.long (mid - (1 : Int64))), .second, .val (.long mid), .second]) rfl k) ?_
      refine Go.of (T' := T6) (f' := (mkF m 19 #[.val (.ref a1), .val (.long q1), .second, .val (.long q2), .second, .val (.long q3), .second, .val (.long (0 : Int64)), .second, .val (.long (mid - (1 : Int64))), .second, .val (.long mid), .second] [])) (fun _ k => XS.goto X6.here hx rfl (pc0 := 70) (pc' := 19) rfl (hb hby d_prog_19_method_4_code_70) (by decide) (by decide) k) ?_
      have hs := RInv.dn hG hI0 hc24 hmd hc54
      exact loop _ _ _ _ _ X6 e6 hs.1 rfl
  ·
    refine Go.of (T' := T2) (f' := (mkF m 73 #[.val (.ref a1), .val (.long q1), .second, .val (.long q2), .second, .val (.long q3), .second, .val (.long (0 : Int64)), .second, .val (.long (li - q2)), .second, .unset, .unset] [])) (fun _ k => XS.ifYes X2.here hx rfl (pc0 := 24) (pc' := 73) rfl (hb hby d_prog_19_method_4_code_24) rfl ((if0 _ _).trans (flt (mt (lw_lt _ _).mp hc24)).2.1) (by decide) (by decide) k) ?_
    refine Go.of (T' := T2) (f' := (mkF m 75 #[.val (.ref a1), .val (.long q1), .second, .val (.long q2), .second, .val (.long q3), .second, .val (.long (0 : Int64)), .second, .val (.long (li - q2)), .second, .unset, .unset] [(.long (0 : Int64))])) (fun _ k => XS.lload X2.here hx rfl (hb hby d_prog_19_method_4_code_73) rfl k) ?_
    exact goRetJ (Q := Pu h0 (fun v => ∃ r : Int64, v = some (.long r) ∧ RemQ li wn q1 q2 q3 r.toInt)) X2 hx hret hlk (hb hby d_prog_19_method_4_code_75) K (by decide) (by decide) e2 (⟨rfl, rfl, _, rfl, RInv.out hI0 hc24⟩)
theorem pn_com_example_sluiced_sluiced_limiter_SlidingWindowCounterRemainingPinLaw : plainName "com/example/sluiced/sluiced/limiter/SlidingWindowCounterRemainingPinLaw" = true := by first | (simp [plainName, overriddenIn]; done) | decide +kernel
theorem ef_rm_expected (m : MethodId) (x0 : Int64) (x1 : Int64) (x2 : Int64) (x3 : Int64) (x4 : Int64)  : entryFrame m #[(.long x0), (.long x1), (.long x2), (.long x3), (.long x4)] 18 = mkF m 0 #[.val (.long x0), .second, .val (.long x1), .second, .val (.long x2), .second, .val (.long x3), .second, .val (.long x4), .second, .unset, .unset, .unset, .unset, .unset, .unset, .unset, .unset] [] := by first | (simp [entryFrame, mkF, argsToLocals, Value.category]; done) | rfl
theorem d_method_3_code_0 : decode method_3_code 0 = .ok (.lload_n 0, 1) := by decide +kernel
theorem d_method_3_code_1 : decode method_3_code 1 = .ok (.lload 6, 2) := by decide +kernel
theorem d_method_3_code_3 : decode method_3_code 3 = .ok (.lsub, 1) := by decide +kernel
theorem d_method_3_code_4 : decode method_3_code 4 = .ok (.lstore 10, 2) := by decide +kernel
theorem d_method_3_code_6 : decode method_3_code 6 = .ok (.lload 10, 2) := by decide +kernel
theorem d_method_3_code_8 : decode method_3_code 8 = .ok (.lconst 0, 1) := by decide +kernel
theorem d_method_3_code_9 : decode method_3_code 9 = .ok (.lcmp, 1) := by decide +kernel
theorem d_method_3_code_10 : decode method_3_code 10 = .ok (.ifCond .gt 5, 3) := by decide +kernel
theorem d_method_3_code_15 : decode method_3_code 15 = .ok (.lload 4, 2) := by decide +kernel
theorem d_method_3_code_17 : decode method_3_code 17 = .ok (.lload_n 2, 1) := by decide +kernel
theorem d_method_3_code_18 : decode method_3_code 18 = .ok (.ldiv, 1) := by decide +kernel
theorem d_method_3_code_19 : decode method_3_code 19 = .ok (.lstore 12, 2) := by decide +kernel
theorem d_method_3_code_21 : decode method_3_code 21 = .ok (.lload 4, 2) := by decide +kernel
theorem d_method_3_code_23 : decode method_3_code 23 = .ok (.lload_n 2, 1) := by decide +kernel
theorem d_method_3_code_24 : decode method_3_code 24 = .ok (.lrem, 1) := by decide +kernel
theorem d_method_3_code_25 : decode method_3_code 25 = .ok (.lstore 14, 2) := by decide +kernel
theorem d_method_3_code_27 : decode method_3_code 27 = .ok (.lload 4, 2) := by decide +kernel
theorem d_method_3_code_29 : decode method_3_code 29 = .ok (.lload 12, 2) := by decide +kernel
theorem d_method_3_code_31 : decode method_3_code 31 = .ok (.lload 8, 2) := by decide +kernel
theorem d_method_3_code_33 : decode method_3_code 33 = .ok (.lmul, 1) := by decide +kernel
theorem d_method_3_code_34 : decode method_3_code 34 = .ok (.lsub, 1) := by decide +kernel
theorem d_method_3_code_35 : decode method_3_code 35 = .ok (.lload 14, 2) := by decide +kernel
theorem d_method_3_code_37 : decode method_3_code 37 = .ok (.lload 8, 2) := by decide +kernel
theorem d_method_3_code_39 : decode method_3_code 39 = .ok (.lmul, 1) := by decide +kernel
theorem d_method_3_code_40 : decode method_3_code 40 = .ok (.lload_n 2, 1) := by decide +kernel
theorem d_method_3_code_41 : decode method_3_code 41 = .ok (.ldiv, 1) := by decide +kernel
theorem d_method_3_code_42 : decode method_3_code 42 = .ok (.lsub, 1) := by decide +kernel
theorem d_method_3_code_43 : decode method_3_code 43 = .ok (.lstore 16, 2) := by decide +kernel
theorem d_method_3_code_45 : decode method_3_code 45 = .ok (.lconst 0, 1) := by decide +kernel
theorem d_method_3_code_46 : decode method_3_code 46 = .ok (.lload 10, 2) := by decide +kernel
theorem d_method_3_code_48 : decode method_3_code 48 = .ok (.lload 16, 2) := by decide +kernel
theorem d_method_3_code_50 : decode method_3_code 50 = .ok (.lsub, 1) := by decide +kernel
theorem d_method_3_code_51 : decode method_3_code 51 = .ok (.invokestatic 11, 3) := by decide +kernel
theorem d_method_3_code_54 : decode method_3_code 54 = .ok (.lreturn, 1) := by decide +kernel
theorem d_method_3_code_13 : decode method_3_code 13 = .ok (.lconst 0, 1) := by decide +kernel
theorem d_method_3_code_14 : decode method_3_code 14 = .ok (.lreturn, 1) := by decide +kernel
set_option maxRecDepth 65536 in
set_option maxHeartbeats 40000000 in
theorem rm_expected (l : Launch) (Z : State) (a0 : Array Value) (hw : ∀ d ∈ tables_1, d.before a0 Z = true) (q1 q2 q3 q4 q5 : Int64) (h0 : Heap) (hwn : (0 : Int64) < q2) :
    MeetsW l Z (⟨"com/example/sluiced/sluiced/limiter/SlidingWindowCounterRemainingPinLaw", "expected", "(JJJJJ)J"⟩ : MethodName) method_3_code 18 (some .long) ({ frames := 1, cells := 0, slots := 0, locals := 15 } : Room) #[(.long q1), (.long q2), (.long q3), (.long q4), (.long q5)] h0 (Pu h0 (fun v => v = some (.long (expd q1 q2 q3 q4 q5)))) := by
  refine MeetsW.of (plainFor_of_name pn_com_example_sluiced_sluiced_limiter_SlidingWindowCounterRemainingPinLaw) ?_
  intro p e s m below meth c s₁ P hx hby hml hZ hown hnm hret hlk X0 e0 K
  have M0 : Mv h0 h0 [] [] := Mv.refl _ _
  refine Go.cast (ef_rm_expected m q1 q2 q3 q4 q5 ) ?_
  refine Go.of (T' := s₁) (f' := (mkF m 1 #[.val (.long q1), .second, .val (.long q2), .second, .val (.long q3), .second, .val (.long q4), .second, .val (.long q5), .second, .unset, .unset, .unset, .unset, .unset, .unset, .unset, .unset] [(.long q1)])) (fun _ k => XS.lloadN X0.here hx rfl (hb hby d_method_3_code_0) rfl k) ?_
  refine Go.of (T' := s₁) (f' := (mkF m 3 #[.val (.long q1), .second, .val (.long q2), .second, .val (.long q3), .second, .val (.long q4), .second, .val (.long q5), .second, .unset, .unset, .unset, .unset, .unset, .unset, .unset, .unset] [(.long q4), (.long q1)])) (fun _ k => XS.lload X0.here hx rfl (hb hby d_method_3_code_1) rfl k) ?_
  refine Go.of (T' := s₁) (f' := (mkF m 4 #[.val (.long q1), .second, .val (.long q2), .second, .val (.long q3), .second, .val (.long q4), .second, .val (.long q5), .second, .unset, .unset, .unset, .unset, .unset, .unset, .unset, .unset] [(.long (q1 - q4))])) (fun _ k => XS.lsub X0.here hx rfl (hb hby d_method_3_code_3) rfl k) ?_
  refine Go.of (T' := s₁) (f' := (mkF m 6 #[.val (.long q1), .second, .val (.long q2), .second, .val (.long q3), .second, .val (.long q4), .second, .val (.long q5), .second, .val (.long (q1 - q4)), .second, .unset, .unset, .unset, .unset, .unset, .unset] [])) (fun _ k => XS.lstore X0.here hx rfl (hb hby d_method_3_code_4) rfl (l' := #[.val (.long q1), .second, .val (.long q2), .second, .val (.long q3), .second, .val (.long q4), .second, .val (.long q5), .second, .val (.long (q1 - q4)), .second, .unset, .unset, .unset, .unset, .unset, .unset]) rfl k) ?_
  refine Go.of (T' := s₁) (f' := (mkF m 8 #[.val (.long q1), .second, .val (.long q2), .second, .val (.long q3), .second, .val (.long q4), .second, .val (.long q5), .second, .val (.long (q1 - q4)), .second, .unset, .unset, .unset, .unset, .unset, .unset] [(.long (q1 - q4))])) (fun _ k => XS.lload X0.here hx rfl (hb hby d_method_3_code_6) rfl k) ?_
  refine Go.of (T' := s₁) (f' := (mkF m 9 #[.val (.long q1), .second, .val (.long q2), .second, .val (.long q3), .second, .val (.long q4), .second, .val (.long q5), .second, .val (.long (q1 - q4)), .second, .unset, .unset, .unset, .unset, .unset, .unset] [(.long (0 : Int64)), (.long (q1 - q4))])) (fun _ k => XS.lconst X0.here hx rfl (hb hby d_method_3_code_8) k) ?_
  refine Go.of (T' := s₁) (f' := (mkF m 10 #[.val (.long q1), .second, .val (.long q2), .second, .val (.long q3), .second, .val (.long q4), .second, .val (.long q5), .second, .val (.long (q1 - q4)), .second, .unset, .unset, .unset, .unset, .unset, .unset] [(.int (lcmpW (q1 - q4) (0 : Int64)))])) (fun _ k => XS.lcmp X0.here hx rfl (hb hby d_method_3_code_9) rfl k) ?_
  by_cases hc10 : (0 : Int64) < (q1 - q4)
  ·
    refine Go.of (T' := s₁) (f' := (mkF m 15 #[.val (.long q1), .second, .val (.long q2), .second, .val (.long q3), .second, .val (.long q4), .second, .val (.long q5), .second, .val (.long (q1 - q4)), .second, .unset, .unset, .unset, .unset, .unset, .unset] [])) (fun _ k => XS.ifYes X0.here hx rfl (pc0 := 10) (pc' := 15) rfl (hb hby d_method_3_code_10) rfl ((if0 _ _).trans (tlt ((lw_gt _ _).mpr hc10)).2.2.1) (by decide) (by decide) k) ?_
    refine Go.of (T' := s₁) (f' := (mkF m 17 #[.val (.long q1), .second, .val (.long q2), .second, .val (.long q3), .second, .val (.long q4), .second, .val (.long q5), .second, .val (.long (q1 - q4)), .second, .unset, .unset, .unset, .unset, .unset, .unset] [(.long q3)])) (fun _ k => XS.lload X0.here hx rfl (hb hby d_method_3_code_15) rfl k) ?_
    refine Go.of (T' := s₁) (f' := (mkF m 18 #[.val (.long q1), .second, .val (.long q2), .second, .val (.long q3), .second, .val (.long q4), .second, .val (.long q5), .second, .val (.long (q1 - q4)), .second, .unset, .unset, .unset, .unset, .unset, .unset] [(.long q2), (.long q3)])) (fun _ k => XS.lloadN X0.here hx rfl (hb hby d_method_3_code_17) rfl k) ?_
    refine Go.of (T' := s₁) (f' := (mkF m 19 #[.val (.long q1), .second, .val (.long q2), .second, .val (.long q3), .second, .val (.long q4), .second, .val (.long q5), .second, .val (.long (q1 - q4)), .second, .unset, .unset, .unset, .unset, .unset, .unset] [(.long (q3 / q2))])) (fun _ k => XS.ldiv X0.here hx rfl (hb hby d_method_3_code_18) rfl (pos_ne hwn) k) ?_
    refine Go.of (T' := s₁) (f' := (mkF m 21 #[.val (.long q1), .second, .val (.long q2), .second, .val (.long q3), .second, .val (.long q4), .second, .val (.long q5), .second, .val (.long (q1 - q4)), .second, .val (.long (q3 / q2)), .second, .unset, .unset, .unset, .unset] [])) (fun _ k => XS.lstore X0.here hx rfl (hb hby d_method_3_code_19) rfl (l' := #[.val (.long q1), .second, .val (.long q2), .second, .val (.long q3), .second, .val (.long q4), .second, .val (.long q5), .second, .val (.long (q1 - q4)), .second, .val (.long (q3 / q2)), .second, .unset, .unset, .unset, .unset]) rfl k) ?_
    refine Go.of (T' := s₁) (f' := (mkF m 23 #[.val (.long q1), .second, .val (.long q2), .second, .val (.long q3), .second, .val (.long q4), .second, .val (.long q5), .second, .val (.long (q1 - q4)), .second, .val (.long (q3 / q2)), .second, .unset, .unset, .unset, .unset] [(.long q3)])) (fun _ k => XS.lload X0.here hx rfl (hb hby d_method_3_code_21) rfl k) ?_
    refine Go.of (T' := s₁) (f' := (mkF m 24 #[.val (.long q1), .second, .val (.long q2), .second, .val (.long q3), .second, .val (.long q4), .second, .val (.long q5), .second, .val (.long (q1 - q4)), .second, .val (.long (q3 / q2)), .second, .unset, .unset, .unset, .unset] [(.long q2), (.long q3)])) (fun _ k => XS.lloadN X0.here hx rfl (hb hby d_method_3_code_23) rfl k) ?_
    refine Go.of (T' := s₁) (f' := (mkF m 25 #[.val (.long q1), .second, .val (.long q2), .second, .val (.long q3), .second, .val (.long q4), .second, .val (.long q5), .second, .val (.long (q1 - q4)), .second, .val (.long (q3 / q2)), .second, .unset, .unset, .unset, .unset] [(.long (q3 % q2))])) (fun _ k => lremM X0 hx rfl (hb hby d_method_3_code_24) rfl (pos_ne hwn) k) ?_
    refine Go.of (T' := s₁) (f' := (mkF m 27 #[.val (.long q1), .second, .val (.long q2), .second, .val (.long q3), .second, .val (.long q4), .second, .val (.long q5), .second, .val (.long (q1 - q4)), .second, .val (.long (q3 / q2)), .second, .val (.long (q3 % q2)), .second, .unset, .unset] [])) (fun _ k => XS.lstore X0.here hx rfl (hb hby d_method_3_code_25) rfl (l' := #[.val (.long q1), .second, .val (.long q2), .second, .val (.long q3), .second, .val (.long q4), .second, .val (.long q5), .second, .val (.long (q1 - q4)), .second, .val (.long (q3 / q2)), .second, .val (.long (q3 % q2)), .second, .unset, .unset]) rfl k) ?_
    refine Go.of (T' := s₁) (f' := (mkF m 29 #[.val (.long q1), .second, .val (.long q2), .second, .val (.long q3), .second, .val (.long q4), .second, .val (.long q5), .second, .val (.long (q1 - q4)), .second, .val (.long (q3 / q2)), .second, .val (.long (q3 % q2)), .second, .unset, .unset] [(.long q3)])) (fun _ k => XS.lload X0.here hx rfl (hb hby d_method_3_code_27) rfl k) ?_
    refine Go.of (T' := s₁) (f' := (mkF m 31 #[.val (.long q1), .second, .val (.long q2), .second, .val (.long q3), .second, .val (.long q4), .second, .val (.long q5), .second, .val (.long (q1 - q4)), .second, .val (.long (q3 / q2)), .second, .val (.long (q3 % q2)), .second, .unset, .unset] [(.long (q3 / q2)), (.long q3)])) (fun _ k => XS.lload X0.here hx rfl (hb hby d_method_3_code_29) rfl k) ?_
    refine Go.of (T' := s₁) (f' := (mkF m 33 #[.val (.long q1), .second, .val (.long q2), .second, .val (.long q3), .second, .val (.long q4), .second, .val (.long q5), .second, .val (.long (q1 - q4)), .second, .val (.long (q3 / q2)), .second, .val (.long (q3 % q2)), .second, .unset, .unset] [(.long q5), (.long (q3 / q2)), (.long q3)])) (fun _ k => XS.lload X0.here hx rfl (hb hby d_method_3_code_31) rfl k) ?_
    refine Go.of (T' := s₁) (f' := (mkF m 34 #[.val (.long q1), .second, .val (.long q2), .second, .val (.long q3), .second, .val (.long q4), .second, .val (.long q5), .second, .val (.long (q1 - q4)), .second, .val (.long (q3 / q2)), .second, .val (.long (q3 % q2)), .second, .unset, .unset] [(.long ((q3 / q2) * q5)), (.long q3)])) (fun _ k => XS.lmul X0.here hx rfl (hb hby d_method_3_code_33) rfl k) ?_
    refine Go.of (T' := s₁) (f' := (mkF m 35 #[.val (.long q1), .second, .val (.long q2), .second, .val (.long q3), .second, .val (.long q4), .second, .val (.long q5), .second, .val (.long (q1 - q4)), .second, .val (.long (q3 / q2)), .second, .val (.long (q3 % q2)), .second, .unset, .unset] [(.long (q3 - ((q3 / q2) * q5)))])) (fun _ k => XS.lsub X0.here hx rfl (hb hby d_method_3_code_34) rfl k) ?_
    refine Go.of (T' := s₁) (f' := (mkF m 37 #[.val (.long q1), .second, .val (.long q2), .second, .val (.long q3), .second, .val (.long q4), .second, .val (.long q5), .second, .val (.long (q1 - q4)), .second, .val (.long (q3 / q2)), .second, .val (.long (q3 % q2)), .second, .unset, .unset] [(.long (q3 % q2)), (.long (q3 - ((q3 / q2) * q5)))])) (fun _ k => XS.lload X0.here hx rfl (hb hby d_method_3_code_35) rfl k) ?_
    refine Go.of (T' := s₁) (f' := (mkF m 39 #[.val (.long q1), .second, .val (.long q2), .second, .val (.long q3), .second, .val (.long q4), .second, .val (.long q5), .second, .val (.long (q1 - q4)), .second, .val (.long (q3 / q2)), .second, .val (.long (q3 % q2)), .second, .unset, .unset] [(.long q5), (.long (q3 % q2)), (.long (q3 - ((q3 / q2) * q5)))])) (fun _ k => XS.lload X0.here hx rfl (hb hby d_method_3_code_37) rfl k) ?_
    refine Go.of (T' := s₁) (f' := (mkF m 40 #[.val (.long q1), .second, .val (.long q2), .second, .val (.long q3), .second, .val (.long q4), .second, .val (.long q5), .second, .val (.long (q1 - q4)), .second, .val (.long (q3 / q2)), .second, .val (.long (q3 % q2)), .second, .unset, .unset] [(.long ((q3 % q2) * q5)), (.long (q3 - ((q3 / q2) * q5)))])) (fun _ k => XS.lmul X0.here hx rfl (hb hby d_method_3_code_39) rfl k) ?_
    refine Go.of (T' := s₁) (f' := (mkF m 41 #[.val (.long q1), .second, .val (.long q2), .second, .val (.long q3), .second, .val (.long q4), .second, .val (.long q5), .second, .val (.long (q1 - q4)), .second, .val (.long (q3 / q2)), .second, .val (.long (q3 % q2)), .second, .unset, .unset] [(.long q2), (.long ((q3 % q2) * q5)), (.long (q3 - ((q3 / q2) * q5)))])) (fun _ k => XS.lloadN X0.here hx rfl (hb hby d_method_3_code_40) rfl k) ?_
    refine Go.of (T' := s₁) (f' := (mkF m 42 #[.val (.long q1), .second, .val (.long q2), .second, .val (.long q3), .second, .val (.long q4), .second, .val (.long q5), .second, .val (.long (q1 - q4)), .second, .val (.long (q3 / q2)), .second, .val (.long (q3 % q2)), .second, .unset, .unset] [(.long (((q3 % q2) * q5) / q2)), (.long (q3 - ((q3 / q2) * q5)))])) (fun _ k => XS.ldiv X0.here hx rfl (hb hby d_method_3_code_41) rfl (pos_ne hwn) k) ?_
    refine Go.of (T' := s₁) (f' := (mkF m 43 #[.val (.long q1), .second, .val (.long q2), .second, .val (.long q3), .second, .val (.long q4), .second, .val (.long q5), .second, .val (.long (q1 - q4)), .second, .val (.long (q3 / q2)), .second, .val (.long (q3 % q2)), .second, .unset, .unset] [(.long ((q3 - ((q3 / q2) * q5)) - (((q3 % q2) * q5) / q2)))])) (fun _ k => XS.lsub X0.here hx rfl (hb hby d_method_3_code_42) rfl k) ?_
    refine Go.of (T' := s₁) (f' := (mkF m 45 #[.val (.long q1), .second, .val (.long q2), .second, .val (.long q3), .second, .val (.long q4), .second, .val (.long q5), .second, .val (.long (q1 - q4)), .second, .val (.long (q3 / q2)), .second, .val (.long (q3 % q2)), .second, .val (.long ((q3 - ((q3 / q2) * q5)) - (((q3 % q2) * q5) / q2))), .second] [])) (fun _ k => XS.lstore X0.here hx rfl (hb hby d_method_3_code_43) rfl (l' := #[.val (.long q1), .second, .val (.long q2), .second, .val (.long q3), .second, .val (.long q4), .second, .val (.long q5), .second, .val (.long (q1 - q4)), .second, .val (.long (q3 / q2)), .second, .val (.long (q3 % q2)), .second, .val (.long ((q3 - ((q3 / q2) * q5)) - (((q3 % q2) * q5) / q2))), .second]) rfl k) ?_
    refine Go.of (T' := s₁) (f' := (mkF m 46 #[.val (.long q1), .second, .val (.long q2), .second, .val (.long q3), .second, .val (.long q4), .second, .val (.long q5), .second, .val (.long (q1 - q4)), .second, .val (.long (q3 / q2)), .second, .val (.long (q3 % q2)), .second, .val (.long ((q3 - ((q3 / q2) * q5)) - (((q3 % q2) * q5) / q2))), .second] [(.long (0 : Int64))])) (fun _ k => XS.lconst X0.here hx rfl (hb hby d_method_3_code_45) k) ?_
    refine Go.of (T' := s₁) (f' := (mkF m 48 #[.val (.long q1), .second, .val (.long q2), .second, .val (.long q3), .second, .val (.long q4), .second, .val (.long q5), .second, .val (.long (q1 - q4)), .second, .val (.long (q3 / q2)), .second, .val (.long (q3 % q2)), .second, .val (.long ((q3 - ((q3 / q2) * q5)) - (((q3 % q2) * q5) / q2))), .second] [(.long (q1 - q4)), (.long (0 : Int64))])) (fun _ k => XS.lload X0.here hx rfl (hb hby d_method_3_code_46) rfl k) ?_
    refine Go.of (T' := s₁) (f' := (mkF m 50 #[.val (.long q1), .second, .val (.long q2), .second, .val (.long q3), .second, .val (.long q4), .second, .val (.long q5), .second, .val (.long (q1 - q4)), .second, .val (.long (q3 / q2)), .second, .val (.long (q3 % q2)), .second, .val (.long ((q3 - ((q3 / q2) * q5)) - (((q3 % q2) * q5) / q2))), .second] [(.long ((q3 - ((q3 / q2) * q5)) - (((q3 % q2) * q5) / q2))), (.long (q1 - q4)), (.long (0 : Int64))])) (fun _ k => XS.lload X0.here hx rfl (hb hby d_method_3_code_48) rfl k) ?_
    refine Go.of (T' := s₁) (f' := (mkF m 51 #[.val (.long q1), .second, .val (.long q2), .second, .val (.long q3), .second, .val (.long q4), .second, .val (.long q5), .second, .val (.long (q1 - q4)), .second, .val (.long (q3 / q2)), .second, .val (.long (q3 % q2)), .second, .val (.long ((q3 - ((q3 / q2) * q5)) - (((q3 % q2) * q5) / q2))), .second] [(.long ((q1 - q4) - ((q3 - ((q3 / q2) * q5)) - (((q3 % q2) * q5) / q2)))), (.long (0 : Int64))])) (fun _ k => XS.lsub X0.here hx rfl (hb hby d_method_3_code_50) rfl k) ?_
    refine goS X0 hx hZ hown (hw _ (List.mem_of_getElem? (i := 1) rfl)) (hw _ (List.mem_of_getElem? (i := 2) rfl)) (hw _ (List.mem_of_getElem? (i := 3) rfl)) (hw _ (List.mem_of_getElem? (i := 4) rfl)) (by decide) (C := 0) (S := 0) ((rm_max l Z a0 hw (0 : Int64) ((q1 - q4) - ((q3 - ((q3 / q2) * q5)) - (((q3 % q2) * q5) / q2))) h0 ).bk (W := 0) hZ (hw _ (List.mem_of_getElem? (i := 4) rfl)) (hw _ (List.mem_of_getElem? (i := 3) rfl)) (by decide) (by decide)) e0 (argsL := [(.long (0 : Int64)), (.long ((q1 - q4) - ((q3 - ((q3 / q2) * q5)) - (((q3 % q2) * q5) / q2))))]) (rest := []) (by rw [hml]; rfl) (lenOf pd__JJ_J rfl) rfl rfl (hb hby d_method_3_code_51) (Nat.le_of_eq rfl) (by decide) (by decide) ?_
    intro v1 T1 L1 X1 hQ1
    obtain ⟨nq1, e1, rfl⟩ := hQ1
    replace X1 := standNil X1 nq1
    show Go p e below P T1 (mkF m 54 #[.val (.long q1), .second, .val (.long q2), .second, .val (.long q3), .second, .val (.long q4), .second, .val (.long q5), .second, .val (.long (q1 - q4)), .second, .val (.long (q3 / q2)), .second, .val (.long (q3 % q2)), .second, .val (.long ((q3 - ((q3 / q2) * q5)) - (((q3 % q2) * q5) / q2))), .second] [(.long (maxL (0 : Int64) ((q1 - q4) - ((q3 - ((q3 / q2) * q5)) - (((q3 % q2) * q5) / q2)))))])
    exact goRetJ (Q := Pu h0 (fun v => v = some (.long (expd q1 q2 q3 q4 q5)))) X1 hx hret hlk (hb hby d_method_3_code_54) K (by decide) (by decide) e1 (⟨rfl, rfl, by simp only [expd]; first | rw [if_pos hc10] | rw [if_neg hc10]⟩)
  ·
    refine Go.of (T' := s₁) (f' := (mkF m 13 #[.val (.long q1), .second, .val (.long q2), .second, .val (.long q3), .second, .val (.long q4), .second, .val (.long q5), .second, .val (.long (q1 - q4)), .second, .unset, .unset, .unset, .unset, .unset, .unset] [])) (fun _ k => XS.ifNo X0.here hx rfl (hb hby d_method_3_code_10) rfl ((if0 _ _).trans (flt (mt (lw_gt _ _).mp hc10)).2.2.1) k) ?_
    refine Go.of (T' := s₁) (f' := (mkF m 14 #[.val (.long q1), .second, .val (.long q2), .second, .val (.long q3), .second, .val (.long q4), .second, .val (.long q5), .second, .val (.long (q1 - q4)), .second, .unset, .unset, .unset, .unset, .unset, .unset] [(.long (0 : Int64))])) (fun _ k => XS.lconst X0.here hx rfl (hb hby d_method_3_code_13) k) ?_
    exact goRetJ (Q := Pu h0 (fun v => v = some (.long (expd q1 q2 q3 q4 q5)))) X0 hx hret hlk (hb hby d_method_3_code_14) K (by decide) (by decide) e0 (⟨rfl, rfl, by simp only [expd]; first | rw [if_pos hc10] | rw [if_neg hc10]⟩)
theorem ef_rm_law (m : MethodId) (x0 : Int64) (x1 : Int64) (x2 : Int64) (x3 : Int64) (x4 : Int64) (x5 : Int32)  : entryFrame m #[(.long x0), (.long x1), (.long x2), (.long x3), (.long x4), (.int x5)] maxLocals = mkF m 0 #[.val (.long x0), .second, .val (.long x1), .second, .val (.long x2), .second, .val (.long x3), .second, .val (.long x4), .second, .val (.int x5), .unset, .unset, .unset, .unset, .unset, .unset, .unset, .unset, .unset, .unset, .unset, .unset, .unset] [] := by first | (simp [entryFrame, mkF, argsToLocals, Value.category, maxLocals]; done) | rfl
theorem pd__JJ_V : parseMethodDescriptor "(JJ)V" = some ⟨[.long, .long], none⟩ := by decide +kernel
theorem pd__JJJ_J : parseMethodDescriptor "(JJJ)J" = some ⟨[.long, .long, .long], some .long⟩ := by decide +kernel
theorem pd__JJJJJ_J : parseMethodDescriptor "(JJJJJ)J" = some ⟨[.long, .long, .long, .long, .long], some .long⟩ := by decide +kernel
set_option maxRecDepth 65536 in
set_option maxHeartbeats 40000000 in
theorem rm_law (l : Launch) (Z : State) (a0 : Array Value) (hw : ∀ d ∈ tables_1, d.before a0 Z = true) (p1 p2 p3 p4 p5 : Int64) (p6 : Int32) (h0 : Heap)  :
    MeetsW l Z x code maxLocals ret room_1 #[(.long p1), (.long p2), (.long p3), (.long p4), (.long p5), (.int p6)] h0 (fun v h L => v = some (.int 1) ∧ Mv h0 h [] L) := by
  refine MeetsW.of (plainFor_of_name pn_com_example_sluiced_sluiced_limiter_SlidingWindowCounterRemainingPinLaw) ?_
  intro p e s m below meth c s₁ P hx hby hml hZ hown hnm hret hlk X0 e0 K
  replace hown : s.vm.findClass "com/example/sluiced/sluiced/limiter/SlidingWindowCounterRemainingPinLaw" = some m.cls := hown
  have M0 : Mv h0 h0 [] [] := Mv.refl _ _
  refine Go.cast (ef_rm_law m p1 p2 p3 p4 p5 p6 ) ?_
  refine Go.of (T' := s₁) (f' := (mkF m 1 #[.val (.long p1), .second, .val (.long p2), .second, .val (.long p3), .second, .val (.long p4), .second, .val (.long p5), .second, .val (.int p6), .unset, .unset, .unset, .unset, .unset, .unset, .unset, .unset, .unset, .unset, .unset, .unset, .unset] [(.long (1 : Int64))])) (fun _ k => XS.lconst X0.here hx rfl (hb hby at_0) k) ?_
  refine Go.of (T' := s₁) (f' := (mkF m 2 #[.val (.long p1), .second, .val (.long p2), .second, .val (.long p3), .second, .val (.long p4), .second, .val (.long p5), .second, .val (.int p6), .unset, .unset, .unset, .unset, .unset, .unset, .unset, .unset, .unset, .unset, .unset, .unset, .unset] [(.long p1), (.long (1 : Int64))])) (fun _ k => XS.lloadN X0.here hx rfl (hb hby at_1) rfl k) ?_
  refine Go.of (T' := s₁) (f' := (mkF m 5 #[.val (.long p1), .second, .val (.long p2), .second, .val (.long p3), .second, .val (.long p4), .second, .val (.long p5), .second, .val (.int p6), .unset, .unset, .unset, .unset, .unset, .unset, .unset, .unset, .unset, .unset, .unset, .unset, .unset] [(.long (9223372036854775807 : Int64)), (.long p1), (.long (1 : Int64))])) (fun _ k => X0.ldc2Long hx hown (mvT hZ (hw _ (List.mem_of_getElem? (i := 0) rfl))) (g := (mkF m 2 #[.val (.long p1), .second, .val (.long p2), .second, .val (.long p3), .second, .val (.long p4), .second, .val (.long p5), .second, .val (.int p6), .unset, .unset, .unset, .unset, .unset, .unset, .unset, .unset, .unset, .unset, .unset, .unset, .unset] [(.long p1), (.long (1 : Int64))])) rfl (hb hby at_2) _ k) ?_
  refine Go.of (T' := s₁) (f' := (mkF m 6 #[.val (.long p1), .second, .val (.long p2), .second, .val (.long p3), .second, .val (.long p4), .second, .val (.long p5), .second, .val (.int p6), .unset, .unset, .unset, .unset, .unset, .unset, .unset, .unset, .unset, .unset, .unset, .unset, .unset] [(.long (p1 &&& (9223372036854775807 : Int64))), (.long (1 : Int64))])) (fun _ k => XS.land X0.here hx rfl (hb hby at_5) rfl k) ?_
  refine goS X0 hx hZ hown (hw _ (List.mem_of_getElem? (i := 1) rfl)) (hw _ (List.mem_of_getElem? (i := 2) rfl)) (hw _ (List.mem_of_getElem? (i := 3) rfl)) (hw _ (List.mem_of_getElem? (i := 4) rfl)) (by decide) (C := 0) (S := 0) ((rm_max l Z a0 hw (1 : Int64) (p1 &&& (9223372036854775807 : Int64)) h0 ).bk (W := 0) hZ (hw _ (List.mem_of_getElem? (i := 4) rfl)) (hw _ (List.mem_of_getElem? (i := 3) rfl)) (by decide) (by decide)) e0 (argsL := [(.long (1 : Int64)), (.long (p1 &&& (9223372036854775807 : Int64)))]) (rest := []) (by rw [hml]; rfl) (lenOf pd__JJ_J rfl) rfl rfl (hb hby at_6) (Nat.le_of_eq rfl) (by decide) (by decide) ?_
  intro v1 T1 L1 X1 hQ1
  obtain ⟨nq1, e1, rfl⟩ := hQ1
  replace X1 := standNil X1 nq1
  show Go p e below P T1 (mkF m 9 #[.val (.long p1), .second, .val (.long p2), .second, .val (.long p3), .second, .val (.long p4), .second, .val (.long p5), .second, .val (.int p6), .unset, .unset, .unset, .unset, .unset, .unset, .unset, .unset, .unset, .unset, .unset, .unset, .unset] [(.long (maxL (1 : Int64) (p1 &&& (9223372036854775807 : Int64))))])
  refine Go.of (T' := T1) (f' := (mkF m 11 #[.val (.long p1), .second, .val (.long p2), .second, .val (.long p3), .second, .val (.long p4), .second, .val (.long p5), .second, .val (.int p6), .val (.long (maxL (1 : Int64) (p1 &&& (9223372036854775807 : Int64)))), .second, .unset, .unset, .unset, .unset, .unset, .unset, .unset, .unset, .unset, .unset, .unset] [])) (fun _ k => XS.lstore X1.here hx rfl (hb hby at_9) rfl (l' := #[.val (.long p1), .second, .val (.long p2), .second, .val (.long p3), .second, .val (.long p4), .second, .val (.long p5), .second, .val (.int p6), .val (.long (maxL (1 : Int64) (p1 &&& (9223372036854775807 : Int64)))), .second, .unset, .unset, .unset, .unset, .unset, .unset, .unset, .unset, .unset, .unset, .unset]) rfl k) ?_
  refine Go.of (T' := T1) (f' := (mkF m 12 #[.val (.long p1), .second, .val (.long p2), .second, .val (.long p3), .second, .val (.long p4), .second, .val (.long p5), .second, .val (.int p6), .val (.long (maxL (1 : Int64) (p1 &&& (9223372036854775807 : Int64)))), .second, .unset, .unset, .unset, .unset, .unset, .unset, .unset, .unset, .unset, .unset, .unset] [(.long p2)])) (fun _ k => XS.lloadN X1.here hx rfl (hb hby at_11) rfl k) ?_
  refine Go.of (T' := T1) (f' := (mkF m 15 #[.val (.long p1), .second, .val (.long p2), .second, .val (.long p3), .second, .val (.long p4), .second, .val (.long p5), .second, .val (.int p6), .val (.long (maxL (1 : Int64) (p1 &&& (9223372036854775807 : Int64)))), .second, .unset, .unset, .unset, .unset, .unset, .unset, .unset, .unset, .unset, .unset, .unset] [(.long (2147483647 : Int64)), (.long p2)])) (fun _ k => X1.ldc2Long hx hown (mvT hZ (hw _ (List.mem_of_getElem? (i := 5) rfl))) (g := (mkF m 12 #[.val (.long p1), .second, .val (.long p2), .second, .val (.long p3), .second, .val (.long p4), .second, .val (.long p5), .second, .val (.int p6), .val (.long (maxL (1 : Int64) (p1 &&& (9223372036854775807 : Int64)))), .second, .unset, .unset, .unset, .unset, .unset, .unset, .unset, .unset, .unset, .unset, .unset] [(.long p2)])) rfl (hb hby at_12) _ k) ?_
  refine Go.of (T' := T1) (f' := (mkF m 16 #[.val (.long p1), .second, .val (.long p2), .second, .val (.long p3), .second, .val (.long p4), .second, .val (.long p5), .second, .val (.int p6), .val (.long (maxL (1 : Int64) (p1 &&& (9223372036854775807 : Int64)))), .second, .unset, .unset, .unset, .unset, .unset, .unset, .unset, .unset, .unset, .unset, .unset] [(.long (p2 &&& (2147483647 : Int64)))])) (fun _ k => XS.land X1.here hx rfl (hb hby at_15) rfl k) ?_
  refine Go.of (T' := T1) (f' := (mkF m 17 #[.val (.long p1), .second, .val (.long p2), .second, .val (.long p3), .second, .val (.long p4), .second, .val (.long p5), .second, .val (.int p6), .val (.long (maxL (1 : Int64) (p1 &&& (9223372036854775807 : Int64)))), .second, .unset, .unset, .unset, .unset, .unset, .unset, .unset, .unset, .unset, .unset, .unset] [(.long (1 : Int64)), (.long (p2 &&& (2147483647 : Int64)))])) (fun _ k => XS.lconst X1.here hx rfl (hb hby at_16) k) ?_
  refine Go.of (T' := T1) (f' := (mkF m 18 #[.val (.long p1), .second, .val (.long p2), .second, .val (.long p3), .second, .val (.long p4), .second, .val (.long p5), .second, .val (.int p6), .val (.long (maxL (1 : Int64) (p1 &&& (9223372036854775807 : Int64)))), .second, .unset, .unset, .unset, .unset, .unset, .unset, .unset, .unset, .unset, .unset, .unset] [(.long ((p2 &&& (2147483647 : Int64)) + (1 : Int64)))])) (fun _ k => XS.ladd X1.here hx rfl (hb hby at_17) rfl k) ?_
  refine Go.of (T' := T1) (f' := (mkF m 20 #[.val (.long p1), .second, .val (.long p2), .second, .val (.long p3), .second, .val (.long p4), .second, .val (.long p5), .second, .val (.int p6), .val (.long (maxL (1 : Int64) (p1 &&& (9223372036854775807 : Int64)))), .second, .val (.long ((p2 &&& (2147483647 : Int64)) + (1 : Int64))), .second, .unset, .unset, .unset, .unset, .unset, .unset, .unset, .unset, .unset] [])) (fun _ k => XS.lstore X1.here hx rfl (hb hby at_18) rfl (l' := #[.val (.long p1), .second, .val (.long p2), .second, .val (.long p3), .second, .val (.long p4), .second, .val (.long p5), .second, .val (.int p6), .val (.long (maxL (1 : Int64) (p1 &&& (9223372036854775807 : Int64)))), .second, .val (.long ((p2 &&& (2147483647 : Int64)) + (1 : Int64))), .second, .unset, .unset, .unset, .unset, .unset, .unset, .unset, .unset, .unset]) rfl k) ?_
  refine Go.of (T' := T1) (f' := (mkF m 22 #[.val (.long p1), .second, .val (.long p2), .second, .val (.long p3), .second, .val (.long p4), .second, .val (.long p5), .second, .val (.int p6), .val (.long (maxL (1 : Int64) (p1 &&& (9223372036854775807 : Int64)))), .second, .val (.long ((p2 &&& (2147483647 : Int64)) + (1 : Int64))), .second, .unset, .unset, .unset, .unset, .unset, .unset, .unset, .unset, .unset] [(.long p5)])) (fun _ k => XS.lload X1.here hx rfl (hb hby at_20) rfl k) ?_
  refine Go.of (T' := T1) (f' := (mkF m 25 #[.val (.long p1), .second, .val (.long p2), .second, .val (.long p3), .second, .val (.long p4), .second, .val (.long p5), .second, .val (.int p6), .val (.long (maxL (1 : Int64) (p1 &&& (9223372036854775807 : Int64)))), .second, .val (.long ((p2 &&& (2147483647 : Int64)) + (1 : Int64))), .second, .unset, .unset, .unset, .unset, .unset, .unset, .unset, .unset, .unset] [(.long (9223372036854775807 : Int64)), (.long p5)])) (fun _ k => X1.ldc2Long hx hown (mvT hZ (hw _ (List.mem_of_getElem? (i := 0) rfl))) (g := (mkF m 22 #[.val (.long p1), .second, .val (.long p2), .second, .val (.long p3), .second, .val (.long p4), .second, .val (.long p5), .second, .val (.int p6), .val (.long (maxL (1 : Int64) (p1 &&& (9223372036854775807 : Int64)))), .second, .val (.long ((p2 &&& (2147483647 : Int64)) + (1 : Int64))), .second, .unset, .unset, .unset, .unset, .unset, .unset, .unset, .unset, .unset] [(.long p5)])) rfl (hb hby at_22) _ k) ?_
  refine Go.of (T' := T1) (f' := (mkF m 26 #[.val (.long p1), .second, .val (.long p2), .second, .val (.long p3), .second, .val (.long p4), .second, .val (.long p5), .second, .val (.int p6), .val (.long (maxL (1 : Int64) (p1 &&& (9223372036854775807 : Int64)))), .second, .val (.long ((p2 &&& (2147483647 : Int64)) + (1 : Int64))), .second, .unset, .unset, .unset, .unset, .unset, .unset, .unset, .unset, .unset] [(.long (p5 &&& (9223372036854775807 : Int64)))])) (fun _ k => XS.land X1.here hx rfl (hb hby at_25) rfl k) ?_
  refine Go.of (T' := T1) (f' := (mkF m 28 #[.val (.long p1), .second, .val (.long p2), .second, .val (.long p3), .second, .val (.long p4), .second, .val (.long p5), .second, .val (.int p6), .val (.long (maxL (1 : Int64) (p1 &&& (9223372036854775807 : Int64)))), .second, .val (.long ((p2 &&& (2147483647 : Int64)) + (1 : Int64))), .second, .unset, .unset, .unset, .unset, .unset, .unset, .unset, .unset, .unset] [(.long ((p2 &&& (2147483647 : Int64)) + (1 : Int64))), (.long (p5 &&& (9223372036854775807 : Int64)))])) (fun _ k => XS.lload X1.here hx rfl (hb hby at_26) rfl k) ?_
  refine Go.of (T' := T1) (f' := (mkF m 29 #[.val (.long p1), .second, .val (.long p2), .second, .val (.long p3), .second, .val (.long p4), .second, .val (.long p5), .second, .val (.int p6), .val (.long (maxL (1 : Int64) (p1 &&& (9223372036854775807 : Int64)))), .second, .val (.long ((p2 &&& (2147483647 : Int64)) + (1 : Int64))), .second, .unset, .unset, .unset, .unset, .unset, .unset, .unset, .unset, .unset] [(.long ((p5 &&& (9223372036854775807 : Int64)) % ((p2 &&& (2147483647 : Int64)) + (1 : Int64))))])) (fun _ k => lremM X1 hx rfl (hb hby at_28) rfl (pos_ne (win_ok p2).1) k) ?_
  refine Go.of (T' := T1) (f' := (mkF m 31 #[.val (.long p1), .second, .val (.long p2), .second, .val (.long p3), .second, .val (.long p4), .second, .val (.long p5), .second, .val (.int p6), .val (.long (maxL (1 : Int64) (p1 &&& (9223372036854775807 : Int64)))), .second, .val (.long ((p2 &&& (2147483647 : Int64)) + (1 : Int64))), .second, .val (.long ((p5 &&& (9223372036854775807 : Int64)) % ((p2 &&& (2147483647 : Int64)) + (1 : Int64)))), .second, .unset, .unset, .unset, .unset, .unset, .unset, .unset] [])) (fun _ k => XS.lstore X1.here hx rfl (hb hby at_29) rfl (l' := #[.val (.long p1), .second, .val (.long p2), .second, .val (.long p3), .second, .val (.long p4), .second, .val (.long p5), .second, .val (.int p6), .val (.long (maxL (1 : Int64) (p1 &&& (9223372036854775807 : Int64)))), .second, .val (.long ((p2 &&& (2147483647 : Int64)) + (1 : Int64))), .second, .val (.long ((p5 &&& (9223372036854775807 : Int64)) % ((p2 &&& (2147483647 : Int64)) + (1 : Int64)))), .second, .unset, .unset, .unset, .unset, .unset, .unset, .unset]) rfl k) ?_
  refine Go.of (T' := T1) (f' := (mkF m 33 #[.val (.long p1), .second, .val (.long p2), .second, .val (.long p3), .second, .val (.long p4), .second, .val (.long p5), .second, .val (.int p6), .val (.long (maxL (1 : Int64) (p1 &&& (9223372036854775807 : Int64)))), .second, .val (.long ((p2 &&& (2147483647 : Int64)) + (1 : Int64))), .second, .val (.long ((p5 &&& (9223372036854775807 : Int64)) % ((p2 &&& (2147483647 : Int64)) + (1 : Int64)))), .second, .unset, .unset, .unset, .unset, .unset, .unset, .unset] [(.int p6)])) (fun _ k => XS.iload X1.here hx rfl (hb hby at_31) rfl k) ?_
  refine Go.of (T' := T1) (f' := (mkF m 34 #[.val (.long p1), .second, .val (.long p2), .second, .val (.long p3), .second, .val (.long p4), .second, .val (.long p5), .second, .val (.int p6), .val (.long (maxL (1 : Int64) (p1 &&& (9223372036854775807 : Int64)))), .second, .val (.long ((p2 &&& (2147483647 : Int64)) + (1 : Int64))), .second, .val (.long ((p5 &&& (9223372036854775807 : Int64)) % ((p2 &&& (2147483647 : Int64)) + (1 : Int64)))), .second, .unset, .unset, .unset, .unset, .unset, .unset, .unset] [(.int (2 : Int32)), (.int p6)])) (fun _ k => XS.iconst X1.here hx rfl (hb hby at_33) k) ?_
  refine Go.of (T' := T1) (f' := (mkF m 35 #[.val (.long p1), .second, .val (.long p2), .second, .val (.long p3), .second, .val (.long p4), .second, .val (.long p5), .second, .val (.int p6), .val (.long (maxL (1 : Int64) (p1 &&& (9223372036854775807 : Int64)))), .second, .val (.long ((p2 &&& (2147483647 : Int64)) + (1 : Int64))), .second, .val (.long ((p5 &&& (9223372036854775807 : Int64)) % ((p2 &&& (2147483647 : Int64)) + (1 : Int64)))), .second, .unset, .unset, .unset, .unset, .unset, .unset, .unset] [(.int (p6 &&& (2 : Int32)))])) (fun _ k => XS.iand X1.here hx rfl (hb hby at_34) rfl k) ?_
  by_cases hc35 : (p6 &&& (2 : Int32)) = (0 : Int32)
  ·
    refine Go.of (T' := T1) (f' := (mkF m 47 #[.val (.long p1), .second, .val (.long p2), .second, .val (.long p3), .second, .val (.long p4), .second, .val (.long p5), .second, .val (.int p6), .val (.long (maxL (1 : Int64) (p1 &&& (9223372036854775807 : Int64)))), .second, .val (.long ((p2 &&& (2147483647 : Int64)) + (1 : Int64))), .second, .val (.long ((p5 &&& (9223372036854775807 : Int64)) % ((p2 &&& (2147483647 : Int64)) + (1 : Int64)))), .second, .unset, .unset, .unset, .unset, .unset, .unset, .unset] [])) (fun _ k => XS.ifYes X1.here hx rfl (pc0 := 35) (pc' := 47) rfl (hb hby at_35) rfl ((if0 _ _).trans (teq hc35).1) (by decide) (by decide) k) ?_
    refine Go.of (T' := T1) (f' := (mkF m 49 #[.val (.long p1), .second, .val (.long p2), .second, .val (.long p3), .second, .val (.long p4), .second, .val (.long p5), .second, .val (.int p6), .val (.long (maxL (1 : Int64) (p1 &&& (9223372036854775807 : Int64)))), .second, .val (.long ((p2 &&& (2147483647 : Int64)) + (1 : Int64))), .second, .val (.long ((p5 &&& (9223372036854775807 : Int64)) % ((p2 &&& (2147483647 : Int64)) + (1 : Int64)))), .second, .unset, .unset, .unset, .unset, .unset, .unset, .unset] [(.long p3)])) (fun _ k => XS.lload X1.here hx rfl (hb hby at_47) rfl k) ?_
    refine Go.of (T' := T1) (f' := (mkF m 52 #[.val (.long p1), .second, .val (.long p2), .second, .val (.long p3), .second, .val (.long p4), .second, .val (.long p5), .second, .val (.int p6), .val (.long (maxL (1 : Int64) (p1 &&& (9223372036854775807 : Int64)))), .second, .val (.long ((p2 &&& (2147483647 : Int64)) + (1 : Int64))), .second, .val (.long ((p5 &&& (9223372036854775807 : Int64)) % ((p2 &&& (2147483647 : Int64)) + (1 : Int64)))), .second, .unset, .unset, .unset, .unset, .unset, .unset, .unset] [(.long (9223372036854775807 : Int64)), (.long p3)])) (fun _ k => X1.ldc2Long hx hown (mvT hZ (hw _ (List.mem_of_getElem? (i := 0) rfl))) (g := (mkF m 49 #[.val (.long p1), .second, .val (.long p2), .second, .val (.long p3), .second, .val (.long p4), .second, .val (.long p5), .second, .val (.int p6), .val (.long (maxL (1 : Int64) (p1 &&& (9223372036854775807 : Int64)))), .second, .val (.long ((p2 &&& (2147483647 : Int64)) + (1 : Int64))), .second, .val (.long ((p5 &&& (9223372036854775807 : Int64)) % ((p2 &&& (2147483647 : Int64)) + (1 : Int64)))), .second, .unset, .unset, .unset, .unset, .unset, .unset, .unset] [(.long p3)])) rfl (hb hby at_49) _ k) ?_
    refine Go.of (T' := T1) (f' := (mkF m 53 #[.val (.long p1), .second, .val (.long p2), .second, .val (.long p3), .second, .val (.long p4), .second, .val (.long p5), .second, .val (.int p6), .val (.long (maxL (1 : Int64) (p1 &&& (9223372036854775807 : Int64)))), .second, .val (.long ((p2 &&& (2147483647 : Int64)) + (1 : Int64))), .second, .val (.long ((p5 &&& (9223372036854775807 : Int64)) % ((p2 &&& (2147483647 : Int64)) + (1 : Int64)))), .second, .unset, .unset, .unset, .unset, .unset, .unset, .unset] [(.long (p3 &&& (9223372036854775807 : Int64)))])) (fun _ k => XS.land X1.here hx rfl (hb hby at_52) rfl k) ?_
    refine Go.of (T' := T1) (f' := (mkF m 55 #[.val (.long p1), .second, .val (.long p2), .second, .val (.long p3), .second, .val (.long p4), .second, .val (.long p5), .second, .val (.int p6), .val (.long (maxL (1 : Int64) (p1 &&& (9223372036854775807 : Int64)))), .second, .val (.long ((p2 &&& (2147483647 : Int64)) + (1 : Int64))), .second, .val (.long ((p5 &&& (9223372036854775807 : Int64)) % ((p2 &&& (2147483647 : Int64)) + (1 : Int64)))), .second, .val (.long (p3 &&& (9223372036854775807 : Int64))), .second, .unset, .unset, .unset, .unset, .unset] [])) (fun _ k => XS.lstore X1.here hx rfl (hb hby at_53) rfl (l' := #[.val (.long p1), .second, .val (.long p2), .second, .val (.long p3), .second, .val (.long p4), .second, .val (.long p5), .second, .val (.int p6), .val (.long (maxL (1 : Int64) (p1 &&& (9223372036854775807 : Int64)))), .second, .val (.long ((p2 &&& (2147483647 : Int64)) + (1 : Int64))), .second, .val (.long ((p5 &&& (9223372036854775807 : Int64)) % ((p2 &&& (2147483647 : Int64)) + (1 : Int64)))), .second, .val (.long (p3 &&& (9223372036854775807 : Int64))), .second, .unset, .unset, .unset, .unset, .unset]) rfl k) ?_
    refine Go.of (T' := T1) (f' := (mkF m 57 #[.val (.long p1), .second, .val (.long p2), .second, .val (.long p3), .second, .val (.long p4), .second, .val (.long p5), .second, .val (.int p6), .val (.long (maxL (1 : Int64) (p1 &&& (9223372036854775807 : Int64)))), .second, .val (.long ((p2 &&& (2147483647 : Int64)) + (1 : Int64))), .second, .val (.long ((p5 &&& (9223372036854775807 : Int64)) % ((p2 &&& (2147483647 : Int64)) + (1 : Int64)))), .second, .val (.long (p3 &&& (9223372036854775807 : Int64))), .second, .unset, .unset, .unset, .unset, .unset] [(.int p6)])) (fun _ k => XS.iload X1.here hx rfl (hb hby at_55) rfl k) ?_
    refine Go.of (T' := T1) (f' := (mkF m 58 #[.val (.long p1), .second, .val (.long p2), .second, .val (.long p3), .second, .val (.long p4), .second, .val (.long p5), .second, .val (.int p6), .val (.long (maxL (1 : Int64) (p1 &&& (9223372036854775807 : Int64)))), .second, .val (.long ((p2 &&& (2147483647 : Int64)) + (1 : Int64))), .second, .val (.long ((p5 &&& (9223372036854775807 : Int64)) % ((p2 &&& (2147483647 : Int64)) + (1 : Int64)))), .second, .val (.long (p3 &&& (9223372036854775807 : Int64))), .second, .unset, .unset, .unset, .unset, .unset] [(.int (1 : Int32)), (.int p6)])) (fun _ k => XS.iconst X1.here hx rfl (hb hby at_57) k) ?_
    refine Go.of (T' := T1) (f' := (mkF m 59 #[.val (.long p1), .second, .val (.long p2), .second, .val (.long p3), .second, .val (.long p4), .second, .val (.long p5), .second, .val (.int p6), .val (.long (maxL (1 : Int64) (p1 &&& (9223372036854775807 : Int64)))), .second, .val (.long ((p2 &&& (2147483647 : Int64)) + (1 : Int64))), .second, .val (.long ((p5 &&& (9223372036854775807 : Int64)) % ((p2 &&& (2147483647 : Int64)) + (1 : Int64)))), .second, .val (.long (p3 &&& (9223372036854775807 : Int64))), .second, .unset, .unset, .unset, .unset, .unset] [(.int (p6 &&& (1 : Int32)))])) (fun _ k => XS.iand X1.here hx rfl (hb hby at_58) rfl k) ?_
    by_cases hc59 : (p6 &&& (1 : Int32)) = (0 : Int32)
    ·
      refine Go.of (T' := T1) (f' := (mkF m 78 #[.val (.long p1), .second, .val (.long p2), .second, .val (.long p3), .second, .val (.long p4), .second, .val (.long p5), .second, .val (.int p6), .val (.long (maxL (1 : Int64) (p1 &&& (9223372036854775807 : Int64)))), .second, .val (.long ((p2 &&& (2147483647 : Int64)) + (1 : Int64))), .second, .val (.long ((p5 &&& (9223372036854775807 : Int64)) % ((p2 &&& (2147483647 : Int64)) + (1 : Int64)))), .second, .val (.long (p3 &&& (9223372036854775807 : Int64))), .second, .unset, .unset, .unset, .unset, .unset] [])) (fun _ k => XS.ifYes X1.here hx rfl (pc0 := 59) (pc' := 78) rfl (hb hby at_59) rfl ((if0 _ _).trans (teq hc59).1) (by decide) (by decide) k) ?_
      refine Go.of (T' := T1) (f' := (mkF m 80 #[.val (.long p1), .second, .val (.long p2), .second, .val (.long p3), .second, .val (.long p4), .second, .val (.long p5), .second, .val (.int p6), .val (.long (maxL (1 : Int64) (p1 &&& (9223372036854775807 : Int64)))), .second, .val (.long ((p2 &&& (2147483647 : Int64)) + (1 : Int64))), .second, .val (.long ((p5 &&& (9223372036854775807 : Int64)) % ((p2 &&& (2147483647 : Int64)) + (1 : Int64)))), .second, .val (.long (p3 &&& (9223372036854775807 : Int64))), .second, .unset, .unset, .unset, .unset, .unset] [(.long p4)])) (fun _ k => XS.lload X1.here hx rfl (hb hby at_78) rfl k) ?_
      refine Go.of (T' := T1) (f' := (mkF m 83 #[.val (.long p1), .second, .val (.long p2), .second, .val (.long p3), .second, .val (.long p4), .second, .val (.long p5), .second, .val (.int p6), .val (.long (maxL (1 : Int64) (p1 &&& (9223372036854775807 : Int64)))), .second, .val (.long ((p2 &&& (2147483647 : Int64)) + (1 : Int64))), .second, .val (.long ((p5 &&& (9223372036854775807 : Int64)) % ((p2 &&& (2147483647 : Int64)) + (1 : Int64)))), .second, .val (.long (p3 &&& (9223372036854775807 : Int64))), .second, .unset, .unset, .unset, .unset, .unset] [(.long (9223372036854775807 : Int64)), (.long p4)])) (fun _ k => X1.ldc2Long hx hown (mvT hZ (hw _ (List.mem_of_getElem? (i := 0) rfl))) (g := (mkF m 80 #[.val (.long p1), .second, .val (.long p2), .second, .val (.long p3), .second, .val (.long p4), .second, .val (.long p5), .second, .val (.int p6), .val (.long (maxL (1 : Int64) (p1 &&& (9223372036854775807 : Int64)))), .second, .val (.long ((p2 &&& (2147483647 : Int64)) + (1 : Int64))), .second, .val (.long ((p5 &&& (9223372036854775807 : Int64)) % ((p2 &&& (2147483647 : Int64)) + (1 : Int64)))), .second, .val (.long (p3 &&& (9223372036854775807 : Int64))), .second, .unset, .unset, .unset, .unset, .unset] [(.long p4)])) rfl (hb hby at_80) _ k) ?_
      refine Go.of (T' := T1) (f' := (mkF m 84 #[.val (.long p1), .second, .val (.long p2), .second, .val (.long p3), .second, .val (.long p4), .second, .val (.long p5), .second, .val (.int p6), .val (.long (maxL (1 : Int64) (p1 &&& (9223372036854775807 : Int64)))), .second, .val (.long ((p2 &&& (2147483647 : Int64)) + (1 : Int64))), .second, .val (.long ((p5 &&& (9223372036854775807 : Int64)) % ((p2 &&& (2147483647 : Int64)) + (1 : Int64)))), .second, .val (.long (p3 &&& (9223372036854775807 : Int64))), .second, .unset, .unset, .unset, .unset, .unset] [(.long (p4 &&& (9223372036854775807 : Int64)))])) (fun _ k => XS.land X1.here hx rfl (hb hby at_83) rfl k) ?_
      refine Go.of (T' := T1) (f' := (mkF m 86 #[.val (.long p1), .second, .val (.long p2), .second, .val (.long p3), .second, .val (.long p4), .second, .val (.long p5), .second, .val (.int p6), .val (.long (maxL (1 : Int64) (p1 &&& (9223372036854775807 : Int64)))), .second, .val (.long ((p2 &&& (2147483647 : Int64)) + (1 : Int64))), .second, .val (.long ((p5 &&& (9223372036854775807 : Int64)) % ((p2 &&& (2147483647 : Int64)) + (1 : Int64)))), .second, .val (.long (p3 &&& (9223372036854775807 : Int64))), .second, .val (.long (p4 &&& (9223372036854775807 : Int64))), .second, .unset, .unset, .unset] [])) (fun _ k => XS.lstore X1.here hx rfl (hb hby at_84) rfl (l' := #[.val (.long p1), .second, .val (.long p2), .second, .val (.long p3), .second, .val (.long p4), .second, .val (.long p5), .second, .val (.int p6), .val (.long (maxL (1 : Int64) (p1 &&& (9223372036854775807 : Int64)))), .second, .val (.long ((p2 &&& (2147483647 : Int64)) + (1 : Int64))), .second, .val (.long ((p5 &&& (9223372036854775807 : Int64)) % ((p2 &&& (2147483647 : Int64)) + (1 : Int64)))), .second, .val (.long (p3 &&& (9223372036854775807 : Int64))), .second, .val (.long (p4 &&& (9223372036854775807 : Int64))), .second, .unset, .unset, .unset]) rfl k) ?_
      have hl : (0 : Int64) < (maxL (1 : Int64) (p1 &&& (9223372036854775807 : Int64))) := max1_pos _
      have hwn := win_ok p2
      have hel := rem_ok p5 _ hwn.1
      have hpv : ¬ (p3 &&& (9223372036854775807 : Int64)) < (0 : Int64) := mask_nn _ _ (by decide)
      have hcu : ¬ (p4 &&& (9223372036854775807 : Int64)) < (0 : Int64) := mask_nn _ _ (by decide)
      generalize (p4 &&& (9223372036854775807 : Int64)) = cu at *
      generalize (p3 &&& (9223372036854775807 : Int64)) = pv at *
      generalize (maxL (1 : Int64) (p1 &&& (9223372036854775807 : Int64))) = lim at *
      generalize ((p5 &&& (9223372036854775807 : Int64)) % ((p2 &&& (2147483647 : Int64)) + (1 : Int64))) = elp at *
      generalize ((p2 &&& (2147483647 : Int64)) + (1 : Int64)) = win at *
      have hG : Good lim win pv cu elp := ⟨hl, hwn.1, hpv, hcu, hel.1, hel.2⟩
      obtain ⟨T2, h2, X2, e2, E2, A2, D2, -, st2⟩ := newO X1 hx hZ hown (hw _ (List.mem_of_getElem? (i := 7) rfl)) (hw _ (List.mem_of_getElem? (i := 8) rfl)) (hw _ (List.mem_of_getElem? (i := 9) rfl)) e1 (g := (mkF m 86 #[.val (.long p1), .second, .val (.long p2), .second, .val (.long p3), .second, .val (.long p4), .second, .val (.long p5), .second, .val (.int p6), .val (.long lim), .second, .val (.long win), .second, .val (.long elp), .second, .val (.long pv), .second, .val (.long cu), .second, .unset, .unset, .unset] [])) rfl (hb hby at_86) (by decide) (by decide)
      obtain ⟨b2, g2⟩ : ∃ z, z = h0.size := ⟨_, rfl⟩
      rw [← g2] at A2 D2 st2
      have fr_b2 : h0.size ≤ b2 := Nat.le_trans M0.le (Nat.le_of_eq g2.symm)
      have K2 := keepE E2
      have M2 := M0.ext E2
      have E_b2 := A2
      have F_limit_b2 : Fld Z h2 b2 "com/example/sluiced/sluiced/limiter/SlidingWindowCounter" "limit" "J" (.long (0 : Int64)) := D2 (Or.inr (hw _ (List.mem_of_getElem? (i := 22) rfl))) (ty := .long) (by decide)
      have F_window_b2 : Fld Z h2 b2 "com/example/sluiced/sluiced/limiter/SlidingWindowCounter" "window" "J" (.long (0 : Int64)) := D2 (Or.inr (hw _ (List.mem_of_getElem? (i := 24) rfl))) (ty := .long) (by decide)
      refine Go.of (T' := T2) (f' := (mkF m 89 #[.val (.long p1), .second, .val (.long p2), .second, .val (.long p3), .second, .val (.long p4), .second, .val (.long p5), .second, .val (.int p6), .val (.long lim), .second, .val (.long win), .second, .val (.long elp), .second, .val (.long pv), .second, .val (.long cu), .second, .unset, .unset, .unset] [(.ref b2)])) st2 ?_
      refine Go.of (T' := T2) (f' := (mkF m 90 #[.val (.long p1), .second, .val (.long p2), .second, .val (.long p3), .second, .val (.long p4), .second, .val (.long p5), .second, .val (.int p6), .val (.long lim), .second, .val (.long win), .second, .val (.long elp), .second, .val (.long pv), .second, .val (.long cu), .second, .unset, .unset, .unset] [(.ref b2), (.ref b2)])) (fun _ k => XS.dup X2.here hx rfl (hb hby at_89) rfl rfl k) ?_
      refine Go.of (T' := T2) (f' := (mkF m 92 #[.val (.long p1), .second, .val (.long p2), .second, .val (.long p3), .second, .val (.long p4), .second, .val (.long p5), .second, .val (.int p6), .val (.long lim), .second, .val (.long win), .second, .val (.long elp), .second, .val (.long pv), .second, .val (.long cu), .second, .unset, .unset, .unset] [(.long lim), (.ref b2), (.ref b2)])) (fun _ k => XS.lload X2.here hx rfl (hb hby at_90) rfl k) ?_
      refine Go.of (T' := T2) (f' := (mkF m 94 #[.val (.long p1), .second, .val (.long p2), .second, .val (.long p3), .second, .val (.long p4), .second, .val (.long p5), .second, .val (.int p6), .val (.long lim), .second, .val (.long win), .second, .val (.long elp), .second, .val (.long pv), .second, .val (.long cu), .second, .unset, .unset, .unset] [(.long win), (.long lim), (.ref b2), (.ref b2)])) (fun _ k => XS.lload X2.here hx rfl (hb hby at_92) rfl k) ?_
      refine goI X2 hx hZ rfl hown (hw _ (List.mem_of_getElem? (i := 10) rfl)) (hw _ (List.mem_of_getElem? (i := 11) rfl)) (hw _ (List.mem_of_getElem? (i := 12) rfl)) (by decide) (C := 0) (S := 0) ((rm_new l Z a0 hw b2 lim win h2 E_b2 F_limit_b2 F_window_b2 hl hwn.1).bk (W := 1) hZ (hw _ (List.mem_of_getElem? (i := 12) rfl)) (hw _ (List.mem_of_getElem? (i := 9) rfl)) (by decide) (by decide)) e2 (argsL := [(.long lim), (.long win)]) (rest := [(.ref b2)]) (by rw [hml]; rfl) (lenOf pd__JJ_V rfl) rfl rfl (hb hby at_94) (Nat.le_of_eq rfl) (by decide) (by decide) ?_
      intro v3 T3 L3 X3 hQ3
      obtain ⟨h3, e3⟩ : ∃ z, T3.heap = z := ⟨_, rfl⟩
      rw [e3] at hQ3
      obtain ⟨rfl, Mc3, Ec3, Fc3, Gc3⟩ := hQ3
      have M3 := M2.app Mc3 (allS (Or.inr fr_b2) all0)
      replace E_b2 := Ec3
      replace F_limit_b2 := Fc3
      replace F_window_b2 := Gc3
      show Go p e below P T3 (mkF m 97 #[.val (.long p1), .second, .val (.long p2), .second, .val (.long p3), .second, .val (.long p4), .second, .val (.long p5), .second, .val (.int p6), .val (.long lim), .second, .val (.long win), .second, .val (.long elp), .second, .val (.long pv), .second, .val (.long cu), .second, .unset, .unset, .unset] [(.ref b2)])
      refine Go.of (T' := T3) (f' := (mkF m 99 #[.val (.long p1), .second, .val (.long p2), .second, .val (.long p3), .second, .val (.long p4), .second, .val (.long p5), .second, .val (.int p6), .val (.long lim), .second, .val (.long win), .second, .val (.long elp), .second, .val (.long pv), .second, .val (.long cu), .second, .val (.ref b2), .unset, .unset] [])) (fun _ k => XS.astore X3.here hx rfl (hb hby at_97) rfl rfl (l' := #[.val (.long p1), .second, .val (.long p2), .second, .val (.long p3), .second, .val (.long p4), .second, .val (.long p5), .second, .val (.int p6), .val (.long lim), .second, .val (.long win), .second, .val (.long elp), .second, .val (.long pv), .second, .val (.long cu), .second, .val (.ref b2), .unset, .unset]) rfl k) ?_
      refine Go.of (T' := T3) (f' := (mkF m 101 #[.val (.long p1), .second, .val (.long p2), .second, .val (.long p3), .second, .val (.long p4), .second, .val (.long p5), .second, .val (.int p6), .val (.long lim), .second, .val (.long win), .second, .val (.long elp), .second, .val (.long pv), .second, .val (.long cu), .second, .val (.ref b2), .unset, .unset] [(.ref b2)])) (fun _ k => XS.aload X3.here hx rfl (hb hby at_99) rfl rfl k) ?_
      refine Go.of (T' := T3) (f' := (mkF m 103 #[.val (.long p1), .second, .val (.long p2), .second, .val (.long p3), .second, .val (.long p4), .second, .val (.long p5), .second, .val (.int p6), .val (.long lim), .second, .val (.long win), .second, .val (.long elp), .second, .val (.long pv), .second, .val (.long cu), .second, .val (.ref b2), .unset, .unset] [(.long pv), (.ref b2)])) (fun _ k => XS.lload X3.here hx rfl (hb hby at_101) rfl k) ?_
      refine Go.of (T' := T3) (f' := (mkF m 105 #[.val (.long p1), .second, .val (.long p2), .second, .val (.long p3), .second, .val (.long p4), .second, .val (.long p5), .second, .val (.int p6), .val (.long lim), .second, .val (.long win), .second, .val (.long elp), .second, .val (.long pv), .second, .val (.long cu), .second, .val (.ref b2), .unset, .unset] [(.long cu), (.long pv), (.ref b2)])) (fun _ k => XS.lload X3.here hx rfl (hb hby at_103) rfl k) ?_
      refine Go.of (T' := T3) (f' := (mkF m 107 #[.val (.long p1), .second, .val (.long p2), .second, .val (.long p3), .second, .val (.long p4), .second, .val (.long p5), .second, .val (.int p6), .val (.long lim), .second, .val (.long win), .second, .val (.long elp), .second, .val (.long pv), .second, .val (.long cu), .second, .val (.ref b2), .unset, .unset] [(.long elp), (.long cu), (.long pv), (.ref b2)])) (fun _ k => XS.lload X3.here hx rfl (hb hby at_105) rfl k) ?_
      refine goV X3 hx hZ (y := (⟨"com/example/sluiced/sluiced/limiter/SlidingWindowCounter", "remaining", "(JJJ)J"⟩ : MethodName)) (z := (⟨"com/example/sluiced/sluiced/limiter/SlidingWindowCounter", "remaining", "(JJJ)J"⟩ : MethodName)) hown (hw _ (List.mem_of_getElem? (i := 25) rfl)) (hw _ (List.mem_of_getElem? (i := 26) rfl)) (notFace_of_selects (args := #[]) (mvT hZ (hw _ (List.mem_of_getElem? (i := 28) rfl)))) (hw _ (List.mem_of_getElem? (i := 28) rfl)) (hw _ (List.mem_of_getElem? (i := 27) rfl)) (by decide) (C := 0) (S := 0) ((rm_remaining l Z a0 hw b2 pv cu elp lim win h3 F_limit_b2 F_window_b2 E_b2 hG).bk (W := 0) hZ (hw _ (List.mem_of_getElem? (i := 29) rfl)) (hw _ (List.mem_of_getElem? (i := 9) rfl)) (by decide) (by decide)) e3 E_b2 (argsL := [(.long pv), (.long cu), (.long elp)]) (rest := []) (by rw [hml]; rfl) (lenOf pd__JJJ_J rfl) rfl rfl (hb hby at_107) (Nat.le_of_eq rfl) (by decide) (by decide) ?_
      intro v4 T4 L4 X4 hQ4
      obtain ⟨nq4, e4, rr4, rfl, hr4⟩ := hQ4
      replace X4 := standNil X4 nq4
      show Go p e below P T4 (mkF m 110 #[.val (.long p1), .second, .val (.long p2), .second, .val (.long p3), .second, .val (.long p4), .second, .val (.long p5), .second, .val (.int p6), .val (.long lim), .second, .val (.long win), .second, .val (.long elp), .second, .val (.long pv), .second, .val (.long cu), .second, .val (.ref b2), .unset, .unset] [(.long rr4)])
      refine Go.of (T' := T4) (f' := (mkF m 112 #[.val (.long p1), .second, .val (.long p2), .second, .val (.long p3), .second, .val (.long p4), .second, .val (.long p5), .second, .val (.int p6), .val (.long lim), .second, .val (.long win), .second, .val (.long elp), .second, .val (.long pv), .second, .val (.long cu), .second, .val (.ref b2), .val (.long rr4), .second] [])) (fun _ k => XS.lstore X4.here hx rfl (hb hby at_110) rfl (l' := #[.val (.long p1), .second, .val (.long p2), .second, .val (.long p3), .second, .val (.long p4), .second, .val (.long p5), .second, .val (.int p6), .val (.long lim), .second, .val (.long win), .second, .val (.long elp), .second, .val (.long pv), .second, .val (.long cu), .second, .val (.ref b2), .val (.long rr4), .second]) rfl k) ?_
      refine Go.of (T' := T4) (f' := (mkF m 114 #[.val (.long p1), .second, .val (.long p2), .second, .val (.long p3), .second, .val (.long p4), .second, .val (.long p5), .second, .val (.int p6), .val (.long lim), .second, .val (.long win), .second, .val (.long elp), .second, .val (.long pv), .second, .val (.long cu), .second, .val (.ref b2), .val (.long rr4), .second] [(.long rr4)])) (fun _ k => XS.lload X4.here hx rfl (hb hby at_112) rfl k) ?_
      refine Go.of (T' := T4) (f' := (mkF m 116 #[.val (.long p1), .second, .val (.long p2), .second, .val (.long p3), .second, .val (.long p4), .second, .val (.long p5), .second, .val (.int p6), .val (.long lim), .second, .val (.long win), .second, .val (.long elp), .second, .val (.long pv), .second, .val (.long cu), .second, .val (.ref b2), .val (.long rr4), .second] [(.long lim), (.long rr4)])) (fun _ k => XS.lload X4.here hx rfl (hb hby at_114) rfl k) ?_
      refine Go.of (T' := T4) (f' := (mkF m 118 #[.val (.long p1), .second, .val (.long p2), .second, .val (.long p3), .second, .val (.long p4), .second, .val (.long p5), .second, .val (.int p6), .val (.long lim), .second, .val (.long win), .second, .val (.long elp), .second, .val (.long pv), .second, .val (.long cu), .second, .val (.ref b2), .val (.long rr4), .second] [(.long win), (.long lim), (.long rr4)])) (fun _ k => XS.lload X4.here hx rfl (hb hby at_116) rfl k) ?_
      refine Go.of (T' := T4) (f' := (mkF m 120 #[.val (.long p1), .second, .val (.long p2), .second, .val (.long p3), .second, .val (.long p4), .second, .val (.long p5), .second, .val (.int p6), .val (.long lim), .second, .val (.long win), .second, .val (.long elp), .second, .val (.long pv), .second, .val (.long cu), .second, .val (.ref b2), .val (.long rr4), .second] [(.long pv), (.long win), (.long lim), (.long rr4)])) (fun _ k => XS.lload X4.here hx rfl (hb hby at_118) rfl k) ?_
      refine Go.of (T' := T4) (f' := (mkF m 122 #[.val (.long p1), .second, .val (.long p2), .second, .val (.long p3), .second, .val (.long p4), .second, .val (.long p5), .second, .val (.int p6), .val (.long lim), .second, .val (.long win), .second, .val (.long elp), .second, .val (.long pv), .second, .val (.long cu), .second, .val (.ref b2), .val (.long rr4), .second] [(.long cu), (.long pv), (.long win), (.long lim), (.long rr4)])) (fun _ k => XS.lload X4.here hx rfl (hb hby at_120) rfl k) ?_
      refine Go.of (T' := T4) (f' := (mkF m 124 #[.val (.long p1), .second, .val (.long p2), .second, .val (.long p3), .second, .val (.long p4), .second, .val (.long p5), .second, .val (.int p6), .val (.long lim), .second, .val (.long win), .second, .val (.long elp), .second, .val (.long pv), .second, .val (.long cu), .second, .val (.ref b2), .val (.long rr4), .second] [(.long elp), (.long cu), (.long pv), (.long win), (.long lim), (.long rr4)])) (fun _ k => XS.lload X4.here hx rfl (hb hby at_122) rfl k) ?_
      refine goS X4 hx hZ hown (hw _ (List.mem_of_getElem? (i := 34) rfl)) (hw _ (List.mem_of_getElem? (i := 35) rfl)) (hw _ (List.mem_of_getElem? (i := 36) rfl)) (hw _ (List.mem_of_getElem? (i := 37) rfl)) (by decide) (C := 0) (S := 0) ((rm_expected l Z a0 hw lim win pv cu elp h3 hG.2.1).bk (W := 2) hZ (hw _ (List.mem_of_getElem? (i := 37) rfl)) (hw _ (List.mem_of_getElem? (i := 36) rfl)) (by decide) (by decide)) e4 (argsL := [(.long lim), (.long win), (.long pv), (.long cu), (.long elp)]) (rest := [(.long rr4)]) (by rw [hml]; rfl) (lenOf pd__JJJJJ_J rfl) rfl rfl (hb hby at_124) (Nat.le_of_eq rfl) (by decide) (by decide) ?_
      intro v5 T5 L5 X5 hQ5
      obtain ⟨nq5, e5, rfl⟩ := hQ5
      replace X5 := standNil X5 nq5
      show Go p e below P T5 (mkF m 127 #[.val (.long p1), .second, .val (.long p2), .second, .val (.long p3), .second, .val (.long p4), .second, .val (.long p5), .second, .val (.int p6), .val (.long lim), .second, .val (.long win), .second, .val (.long elp), .second, .val (.long pv), .second, .val (.long cu), .second, .val (.ref b2), .val (.long rr4), .second] [(.long (expd lim win pv cu elp)), (.long rr4)])
      refine Go.of (T' := T5) (f' := (mkF m 128 #[.val (.long p1), .second, .val (.long p2), .second, .val (.long p3), .second, .val (.long p4), .second, .val (.long p5), .second, .val (.int p6), .val (.long lim), .second, .val (.long win), .second, .val (.long elp), .second, .val (.long pv), .second, .val (.long cu), .second, .val (.ref b2), .val (.long rr4), .second] [(.int (lcmpW rr4 (expd lim win pv cu elp)))])) (fun _ k => XS.lcmp X5.here hx rfl (hb hby at_127) rfl k) ?_
      have hc128 : rr4 = (expd lim win pv cu elp) := expd_eq hG hwn.2 hr4
      refine Go.of (T' := T5) (f' := (mkF m 131 #[.val (.long p1), .second, .val (.long p2), .second, .val (.long p3), .second, .val (.long p4), .second, .val (.long p5), .second, .val (.int p6), .val (.long lim), .second, .val (.long win), .second, .val (.long elp), .second, .val (.long pv), .second, .val (.long cu), .second, .val (.ref b2), .val (.long rr4), .second] [])) (fun _ k => XS.ifNo X5.here hx rfl (hb hby at_128) rfl ((if0 _ _).trans (teq ((lw_eq _ _).mpr hc128)).2) k) ?_
      refine Go.of (T' := T5) (f' := (mkF m 132 #[.val (.long p1), .second, .val (.long p2), .second, .val (.long p3), .second, .val (.long p4), .second, .val (.long p5), .second, .val (.int p6), .val (.long lim), .second, .val (.long win), .second, .val (.long elp), .second, .val (.long pv), .second, .val (.long cu), .second, .val (.ref b2), .val (.long rr4), .second] [(.int (1 : Int32))])) (fun _ k => XS.iconst X5.here hx rfl (hb hby at_131) k) ?_
      refine Go.of (T' := T5) (f' := (mkF m 136 #[.val (.long p1), .second, .val (.long p2), .second, .val (.long p3), .second, .val (.long p4), .second, .val (.long p5), .second, .val (.int p6), .val (.long lim), .second, .val (.long win), .second, .val (.long elp), .second, .val (.long pv), .second, .val (.long cu), .second, .val (.ref b2), .val (.long rr4), .second] [(.int (1 : Int32))])) (fun _ k => XS.goto X5.here hx rfl (pc0 := 132) (pc' := 136) rfl (hb hby at_132) (by decide) (by decide) k) ?_
      exact goRetI (Q := fun v h L => v = some (.int 1) ∧ Mv h0 h [] L) X5 hx (t := .boolean) hret hlk rfl (by simp) (hb hby at_136) K (by decide) (by decide) e5 (⟨rfl, M3⟩)
    ·
      refine Go.of (T' := T1) (f' := (mkF m 62 #[.val (.long p1), .second, .val (.long p2), .second, .val (.long p3), .second, .val (.long p4), .second, .val (.long p5), .second, .val (.int p6), .val (.long (maxL (1 : Int64) (p1 &&& (9223372036854775807 : Int64)))), .second, .val (.long ((p2 &&& (2147483647 : Int64)) + (1 : Int64))), .second, .val (.long ((p5 &&& (9223372036854775807 : Int64)) % ((p2 &&& (2147483647 : Int64)) + (1 : Int64)))), .second, .val (.long (p3 &&& (9223372036854775807 : Int64))), .second, .unset, .unset, .unset, .unset, .unset] [])) (fun _ k => XS.ifNo X1.here hx rfl (hb hby at_59) rfl ((if0 _ _).trans (feq hc59).1) k) ?_
      refine Go.of (T' := T1) (f' := (mkF m 63 #[.val (.long p1), .second, .val (.long p2), .second, .val (.long p3), .second, .val (.long p4), .second, .val (.long p5), .second, .val (.int p6), .val (.long (maxL (1 : Int64) (p1 &&& (9223372036854775807 : Int64)))), .second, .val (.long ((p2 &&& (2147483647 : Int64)) + (1 : Int64))), .second, .val (.long ((p5 &&& (9223372036854775807 : Int64)) % ((p2 &&& (2147483647 : Int64)) + (1 : Int64)))), .second, .val (.long (p3 &&& (9223372036854775807 : Int64))), .second, .unset, .unset, .unset, .unset, .unset] [(.long (0 : Int64))])) (fun _ k => XS.lconst X1.here hx rfl (hb hby at_62) k) ?_
      refine Go.of (T' := T1) (f' := (mkF m 65 #[.val (.long p1), .second, .val (.long p2), .second, .val (.long p3), .second, .val (.long p4), .second, .val (.long p5), .second, .val (.int p6), .val (.long (maxL (1 : Int64) (p1 &&& (9223372036854775807 : Int64)))), .second, .val (.long ((p2 &&& (2147483647 : Int64)) + (1 : Int64))), .second, .val (.long ((p5 &&& (9223372036854775807 : Int64)) % ((p2 &&& (2147483647 : Int64)) + (1 : Int64)))), .second, .val (.long (p3 &&& (9223372036854775807 : Int64))), .second, .unset, .unset, .unset, .unset, .unset] [(.long (maxL (1 : Int64) (p1 &&& (9223372036854775807 : Int64)))), (.long (0 : Int64))])) (fun _ k => XS.lload X1.here hx rfl (hb hby at_63) rfl k) ?_
      refine Go.of (T' := T1) (f' := (mkF m 67 #[.val (.long p1), .second, .val (.long p2), .second, .val (.long p3), .second, .val (.long p4), .second, .val (.long p5), .second, .val (.int p6), .val (.long (maxL (1 : Int64) (p1 &&& (9223372036854775807 : Int64)))), .second, .val (.long ((p2 &&& (2147483647 : Int64)) + (1 : Int64))), .second, .val (.long ((p5 &&& (9223372036854775807 : Int64)) % ((p2 &&& (2147483647 : Int64)) + (1 : Int64)))), .second, .val (.long (p3 &&& (9223372036854775807 : Int64))), .second, .unset, .unset, .unset, .unset, .unset] [(.long p4), (.long (maxL (1 : Int64) (p1 &&& (9223372036854775807 : Int64)))), (.long (0 : Int64))])) (fun _ k => XS.lload X1.here hx rfl (hb hby at_65) rfl k) ?_
      refine Go.of (T' := T1) (f' := (mkF m 70 #[.val (.long p1), .second, .val (.long p2), .second, .val (.long p3), .second, .val (.long p4), .second, .val (.long p5), .second, .val (.int p6), .val (.long (maxL (1 : Int64) (p1 &&& (9223372036854775807 : Int64)))), .second, .val (.long ((p2 &&& (2147483647 : Int64)) + (1 : Int64))), .second, .val (.long ((p5 &&& (9223372036854775807 : Int64)) % ((p2 &&& (2147483647 : Int64)) + (1 : Int64)))), .second, .val (.long (p3 &&& (9223372036854775807 : Int64))), .second, .unset, .unset, .unset, .unset, .unset] [(.long (65535 : Int64)), (.long p4), (.long (maxL (1 : Int64) (p1 &&& (9223372036854775807 : Int64)))), (.long (0 : Int64))])) (fun _ k => X1.ldc2Long hx hown (mvT hZ (hw _ (List.mem_of_getElem? (i := 6) rfl))) (g := (mkF m 67 #[.val (.long p1), .second, .val (.long p2), .second, .val (.long p3), .second, .val (.long p4), .second, .val (.long p5), .second, .val (.int p6), .val (.long (maxL (1 : Int64) (p1 &&& (9223372036854775807 : Int64)))), .second, .val (.long ((p2 &&& (2147483647 : Int64)) + (1 : Int64))), .second, .val (.long ((p5 &&& (9223372036854775807 : Int64)) % ((p2 &&& (2147483647 : Int64)) + (1 : Int64)))), .second, .val (.long (p3 &&& (9223372036854775807 : Int64))), .second, .unset, .unset, .unset, .unset, .unset] [(.long p4), (.long (maxL (1 : Int64) (p1 &&& (9223372036854775807 : Int64)))), (.long (0 : Int64))])) rfl (hb hby at_67) _ k) ?_
      refine Go.of (T' := T1) (f' := (mkF m 71 #[.val (.long p1), .second, .val (.long p2), .second, .val (.long p3), .second, .val (.long p4), .second, .val (.long p5), .second, .val (.int p6), .val (.long (maxL (1 : Int64) (p1 &&& (9223372036854775807 : Int64)))), .second, .val (.long ((p2 &&& (2147483647 : Int64)) + (1 : Int64))), .second, .val (.long ((p5 &&& (9223372036854775807 : Int64)) % ((p2 &&& (2147483647 : Int64)) + (1 : Int64)))), .second, .val (.long (p3 &&& (9223372036854775807 : Int64))), .second, .unset, .unset, .unset, .unset, .unset] [(.long (p4 &&& (65535 : Int64))), (.long (maxL (1 : Int64) (p1 &&& (9223372036854775807 : Int64)))), (.long (0 : Int64))])) (fun _ k => XS.land X1.here hx rfl (hb hby at_70) rfl k) ?_
      refine Go.of (T' := T1) (f' := (mkF m 72 #[.val (.long p1), .second, .val (.long p2), .second, .val (.long p3), .second, .val (.long p4), .second, .val (.long p5), .second, .val (.int p6), .val (.long (maxL (1 : Int64) (p1 &&& (9223372036854775807 : Int64)))), .second, .val (.long ((p2 &&& (2147483647 : Int64)) + (1 : Int64))), .second, .val (.long ((p5 &&& (9223372036854775807 : Int64)) % ((p2 &&& (2147483647 : Int64)) + (1 : Int64)))), .second, .val (.long (p3 &&& (9223372036854775807 : Int64))), .second, .unset, .unset, .unset, .unset, .unset] [(.long ((maxL (1 : Int64) (p1 &&& (9223372036854775807 : Int64))) - (p4 &&& (65535 : Int64)))), (.long (0 : Int64))])) (fun _ k => XS.lsub X1.here hx rfl (hb hby at_71) rfl k) ?_
      refine goS X1 hx hZ hown (hw _ (List.mem_of_getElem? (i := 1) rfl)) (hw _ (List.mem_of_getElem? (i := 2) rfl)) (hw _ (List.mem_of_getElem? (i := 3) rfl)) (hw _ (List.mem_of_getElem? (i := 4) rfl)) (by decide) (C := 0) (S := 0) ((rm_max l Z a0 hw (0 : Int64) ((maxL (1 : Int64) (p1 &&& (9223372036854775807 : Int64))) - (p4 &&& (65535 : Int64))) h0 ).bk (W := 0) hZ (hw _ (List.mem_of_getElem? (i := 4) rfl)) (hw _ (List.mem_of_getElem? (i := 3) rfl)) (by decide) (by decide)) e1 (argsL := [(.long (0 : Int64)), (.long ((maxL (1 : Int64) (p1 &&& (9223372036854775807 : Int64))) - (p4 &&& (65535 : Int64))))]) (rest := []) (by rw [hml]; rfl) (lenOf pd__JJ_J rfl) rfl rfl (hb hby at_72) (Nat.le_of_eq rfl) (by decide) (by decide) ?_
      intro v6 T6 L6 X6 hQ6
      obtain ⟨nq6, e6, rfl⟩ := hQ6
      replace X6 := standNil X6 nq6
      show Go p e below P T6 (mkF m 75 #[.val (.long p1), .second, .val (.long p2), .second, .val (.long p3), .second, .val (.long p4), .second, .val (.long p5), .second, .val (.int p6), .val (.long (maxL (1 : Int64) (p1 &&& (9223372036854775807 : Int64)))), .second, .val (.long ((p2 &&& (2147483647 : Int64)) + (1 : Int64))), .second, .val (.long ((p5 &&& (9223372036854775807 : Int64)) % ((p2 &&& (2147483647 : Int64)) + (1 : Int64)))), .second, .val (.long (p3 &&& (9223372036854775807 : Int64))), .second, .unset, .unset, .unset, .unset, .unset] [(.long (maxL (0 : Int64) ((maxL (1 : Int64) (p1 &&& (9223372036854775807 : Int64))) - (p4 &&& (65535 : Int64)))))])
      refine Go.of (T' := T6) (f' := (mkF m 84 #[.val (.long p1), .second, .val (.long p2), .second, .val (.long p3), .second, .val (.long p4), .second, .val (.long p5), .second, .val (.int p6), .val (.long (maxL (1 : Int64) (p1 &&& (9223372036854775807 : Int64)))), .second, .val (.long ((p2 &&& (2147483647 : Int64)) + (1 : Int64))), .second, .val (.long ((p5 &&& (9223372036854775807 : Int64)) % ((p2 &&& (2147483647 : Int64)) + (1 : Int64)))), .second, .val (.long (p3 &&& (9223372036854775807 : Int64))), .second, .unset, .unset, .unset, .unset, .unset] [(.long (maxL (0 : Int64) ((maxL (1 : Int64) (p1 &&& (9223372036854775807 : Int64))) - (p4 &&& (65535 : Int64)))))])) (fun _ k => XS.goto X6.here hx rfl (pc0 := 75) (pc' := 84) rfl (hb hby at_75) (by decide) (by decide) k) ?_
      refine Go.of (T' := T6) (f' := (mkF m 86 #[.val (.long p1), .second, .val (.long p2), .second, .val (.long p3), .second, .val (.long p4), .second, .val (.long p5), .second, .val (.int p6), .val (.long (maxL (1 : Int64) (p1 &&& (9223372036854775807 : Int64)))), .second, .val (.long ((p2 &&& (2147483647 : Int64)) + (1 : Int64))), .second, .val (.long ((p5 &&& (9223372036854775807 : Int64)) % ((p2 &&& (2147483647 : Int64)) + (1 : Int64)))), .second, .val (.long (p3 &&& (9223372036854775807 : Int64))), .second, .val (.long (maxL (0 : Int64) ((maxL (1 : Int64) (p1 &&& (9223372036854775807 : Int64))) - (p4 &&& (65535 : Int64))))), .second, .unset, .unset, .unset] [])) (fun _ k => XS.lstore X6.here hx rfl (hb hby at_84) rfl (l' := #[.val (.long p1), .second, .val (.long p2), .second, .val (.long p3), .second, .val (.long p4), .second, .val (.long p5), .second, .val (.int p6), .val (.long (maxL (1 : Int64) (p1 &&& (9223372036854775807 : Int64)))), .second, .val (.long ((p2 &&& (2147483647 : Int64)) + (1 : Int64))), .second, .val (.long ((p5 &&& (9223372036854775807 : Int64)) % ((p2 &&& (2147483647 : Int64)) + (1 : Int64)))), .second, .val (.long (p3 &&& (9223372036854775807 : Int64))), .second, .val (.long (maxL (0 : Int64) ((maxL (1 : Int64) (p1 &&& (9223372036854775807 : Int64))) - (p4 &&& (65535 : Int64))))), .second, .unset, .unset, .unset]) rfl k) ?_
      have hl : (0 : Int64) < (maxL (1 : Int64) (p1 &&& (9223372036854775807 : Int64))) := max1_pos _
      have hwn := win_ok p2
      have hel := rem_ok p5 _ hwn.1
      have hpv : ¬ (p3 &&& (9223372036854775807 : Int64)) < (0 : Int64) := mask_nn _ _ (by decide)
      have hcu : ¬ (maxL (0 : Int64) ((maxL (1 : Int64) (p1 &&& (9223372036854775807 : Int64))) - (p4 &&& (65535 : Int64)))) < (0 : Int64) := max0_nn _
      generalize (maxL (0 : Int64) ((maxL (1 : Int64) (p1 &&& (9223372036854775807 : Int64))) - (p4 &&& (65535 : Int64)))) = cu at *
      generalize (p3 &&& (9223372036854775807 : Int64)) = pv at *
      generalize (maxL (1 : Int64) (p1 &&& (9223372036854775807 : Int64))) = lim at *
      generalize ((p5 &&& (9223372036854775807 : Int64)) % ((p2 &&& (2147483647 : Int64)) + (1 : Int64))) = elp at *
      generalize ((p2 &&& (2147483647 : Int64)) + (1 : Int64)) = win at *
      have hG : Good lim win pv cu elp := ⟨hl, hwn.1, hpv, hcu, hel.1, hel.2⟩
      obtain ⟨T7, h7, X7, e7, E7, A7, D7, -, st7⟩ := newO X6 hx hZ hown (hw _ (List.mem_of_getElem? (i := 7) rfl)) (hw _ (List.mem_of_getElem? (i := 8) rfl)) (hw _ (List.mem_of_getElem? (i := 9) rfl)) e6 (g := (mkF m 86 #[.val (.long p1), .second, .val (.long p2), .second, .val (.long p3), .second, .val (.long p4), .second, .val (.long p5), .second, .val (.int p6), .val (.long lim), .second, .val (.long win), .second, .val (.long elp), .second, .val (.long pv), .second, .val (.long cu), .second, .unset, .unset, .unset] [])) rfl (hb hby at_86) (by decide) (by decide)
      obtain ⟨b7, g7⟩ : ∃ z, z = h0.size := ⟨_, rfl⟩
      rw [← g7] at A7 D7 st7
      have fr_b7 : h0.size ≤ b7 := Nat.le_trans M0.le (Nat.le_of_eq g7.symm)
      have K7 := keepE E7
      have M7 := M0.ext E7
      have E_b7 := A7
      have F_limit_b7 : Fld Z h7 b7 "com/example/sluiced/sluiced/limiter/SlidingWindowCounter" "limit" "J" (.long (0 : Int64)) := D7 (Or.inr (hw _ (List.mem_of_getElem? (i := 22) rfl))) (ty := .long) (by decide)
      have F_window_b7 : Fld Z h7 b7 "com/example/sluiced/sluiced/limiter/SlidingWindowCounter" "window" "J" (.long (0 : Int64)) := D7 (Or.inr (hw _ (List.mem_of_getElem? (i := 24) rfl))) (ty := .long) (by decide)
      refine Go.of (T' := T7) (f' := (mkF m 89 #[.val (.long p1), .second, .val (.long p2), .second, .val (.long p3), .second, .val (.long p4), .second, .val (.long p5), .second, .val (.int p6), .val (.long lim), .second, .val (.long win), .second, .val (.long elp), .second, .val (.long pv), .second, .val (.long cu), .second, .unset, .unset, .unset] [(.ref b7)])) st7 ?_
      refine Go.of (T' := T7) (f' := (mkF m 90 #[.val (.long p1), .second, .val (.long p2), .second, .val (.long p3), .second, .val (.long p4), .second, .val (.long p5), .second, .val (.int p6), .val (.long lim), .second, .val (.long win), .second, .val (.long elp), .second, .val (.long pv), .second, .val (.long cu), .second, .unset, .unset, .unset] [(.ref b7), (.ref b7)])) (fun _ k => XS.dup X7.here hx rfl (hb hby at_89) rfl rfl k) ?_
      refine Go.of (T' := T7) (f' := (mkF m 92 #[.val (.long p1), .second, .val (.long p2), .second, .val (.long p3), .second, .val (.long p4), .second, .val (.long p5), .second, .val (.int p6), .val (.long lim), .second, .val (.long win), .second, .val (.long elp), .second, .val (.long pv), .second, .val (.long cu), .second, .unset, .unset, .unset] [(.long lim), (.ref b7), (.ref b7)])) (fun _ k => XS.lload X7.here hx rfl (hb hby at_90) rfl k) ?_
      refine Go.of (T' := T7) (f' := (mkF m 94 #[.val (.long p1), .second, .val (.long p2), .second, .val (.long p3), .second, .val (.long p4), .second, .val (.long p5), .second, .val (.int p6), .val (.long lim), .second, .val (.long win), .second, .val (.long elp), .second, .val (.long pv), .second, .val (.long cu), .second, .unset, .unset, .unset] [(.long win), (.long lim), (.ref b7), (.ref b7)])) (fun _ k => XS.lload X7.here hx rfl (hb hby at_92) rfl k) ?_
      refine goI X7 hx hZ rfl hown (hw _ (List.mem_of_getElem? (i := 10) rfl)) (hw _ (List.mem_of_getElem? (i := 11) rfl)) (hw _ (List.mem_of_getElem? (i := 12) rfl)) (by decide) (C := 0) (S := 0) ((rm_new l Z a0 hw b7 lim win h7 E_b7 F_limit_b7 F_window_b7 hl hwn.1).bk (W := 1) hZ (hw _ (List.mem_of_getElem? (i := 12) rfl)) (hw _ (List.mem_of_getElem? (i := 9) rfl)) (by decide) (by decide)) e7 (argsL := [(.long lim), (.long win)]) (rest := [(.ref b7)]) (by rw [hml]; rfl) (lenOf pd__JJ_V rfl) rfl rfl (hb hby at_94) (Nat.le_of_eq rfl) (by decide) (by decide) ?_
      intro v8 T8 L8 X8 hQ8
      obtain ⟨h8, e8⟩ : ∃ z, T8.heap = z := ⟨_, rfl⟩
      rw [e8] at hQ8
      obtain ⟨rfl, Mc8, Ec8, Fc8, Gc8⟩ := hQ8
      have M8 := M7.app Mc8 (allS (Or.inr fr_b7) all0)
      replace E_b7 := Ec8
      replace F_limit_b7 := Fc8
      replace F_window_b7 := Gc8
      show Go p e below P T8 (mkF m 97 #[.val (.long p1), .second, .val (.long p2), .second, .val (.long p3), .second, .val (.long p4), .second, .val (.long p5), .second, .val (.int p6), .val (.long lim), .second, .val (.long win), .second, .val (.long elp), .second, .val (.long pv), .second, .val (.long cu), .second, .unset, .unset, .unset] [(.ref b7)])
      refine Go.of (T' := T8) (f' := (mkF m 99 #[.val (.long p1), .second, .val (.long p2), .second, .val (.long p3), .second, .val (.long p4), .second, .val (.long p5), .second, .val (.int p6), .val (.long lim), .second, .val (.long win), .second, .val (.long elp), .second, .val (.long pv), .second, .val (.long cu), .second, .val (.ref b7), .unset, .unset] [])) (fun _ k => XS.astore X8.here hx rfl (hb hby at_97) rfl rfl (l' := #[.val (.long p1), .second, .val (.long p2), .second, .val (.long p3), .second, .val (.long p4), .second, .val (.long p5), .second, .val (.int p6), .val (.long lim), .second, .val (.long win), .second, .val (.long elp), .second, .val (.long pv), .second, .val (.long cu), .second, .val (.ref b7), .unset, .unset]) rfl k) ?_
      refine Go.of (T' := T8) (f' := (mkF m 101 #[.val (.long p1), .second, .val (.long p2), .second, .val (.long p3), .second, .val (.long p4), .second, .val (.long p5), .second, .val (.int p6), .val (.long lim), .second, .val (.long win), .second, .val (.long elp), .second, .val (.long pv), .second, .val (.long cu), .second, .val (.ref b7), .unset, .unset] [(.ref b7)])) (fun _ k => XS.aload X8.here hx rfl (hb hby at_99) rfl rfl k) ?_
      refine Go.of (T' := T8) (f' := (mkF m 103 #[.val (.long p1), .second, .val (.long p2), .second, .val (.long p3), .second, .val (.long p4), .second, .val (.long p5), .second, .val (.int p6), .val (.long lim), .second, .val (.long win), .second, .val (.long elp), .second, .val (.long pv), .second, .val (.long cu), .second, .val (.ref b7), .unset, .unset] [(.long pv), (.ref b7)])) (fun _ k => XS.lload X8.here hx rfl (hb hby at_101) rfl k) ?_
      refine Go.of (T' := T8) (f' := (mkF m 105 #[.val (.long p1), .second, .val (.long p2), .second, .val (.long p3), .second, .val (.long p4), .second, .val (.long p5), .second, .val (.int p6), .val (.long lim), .second, .val (.long win), .second, .val (.long elp), .second, .val (.long pv), .second, .val (.long cu), .second, .val (.ref b7), .unset, .unset] [(.long cu), (.long pv), (.ref b7)])) (fun _ k => XS.lload X8.here hx rfl (hb hby at_103) rfl k) ?_
      refine Go.of (T' := T8) (f' := (mkF m 107 #[.val (.long p1), .second, .val (.long p2), .second, .val (.long p3), .second, .val (.long p4), .second, .val (.long p5), .second, .val (.int p6), .val (.long lim), .second, .val (.long win), .second, .val (.long elp), .second, .val (.long pv), .second, .val (.long cu), .second, .val (.ref b7), .unset, .unset] [(.long elp), (.long cu), (.long pv), (.ref b7)])) (fun _ k => XS.lload X8.here hx rfl (hb hby at_105) rfl k) ?_
      refine goV X8 hx hZ (y := (⟨"com/example/sluiced/sluiced/limiter/SlidingWindowCounter", "remaining", "(JJJ)J"⟩ : MethodName)) (z := (⟨"com/example/sluiced/sluiced/limiter/SlidingWindowCounter", "remaining", "(JJJ)J"⟩ : MethodName)) hown (hw _ (List.mem_of_getElem? (i := 25) rfl)) (hw _ (List.mem_of_getElem? (i := 26) rfl)) (notFace_of_selects (args := #[]) (mvT hZ (hw _ (List.mem_of_getElem? (i := 28) rfl)))) (hw _ (List.mem_of_getElem? (i := 28) rfl)) (hw _ (List.mem_of_getElem? (i := 27) rfl)) (by decide) (C := 0) (S := 0) ((rm_remaining l Z a0 hw b7 pv cu elp lim win h8 F_limit_b7 F_window_b7 E_b7 hG).bk (W := 0) hZ (hw _ (List.mem_of_getElem? (i := 29) rfl)) (hw _ (List.mem_of_getElem? (i := 9) rfl)) (by decide) (by decide)) e8 E_b7 (argsL := [(.long pv), (.long cu), (.long elp)]) (rest := []) (by rw [hml]; rfl) (lenOf pd__JJJ_J rfl) rfl rfl (hb hby at_107) (Nat.le_of_eq rfl) (by decide) (by decide) ?_
      intro v9 T9 L9 X9 hQ9
      obtain ⟨nq9, e9, rr9, rfl, hr9⟩ := hQ9
      replace X9 := standNil X9 nq9
      show Go p e below P T9 (mkF m 110 #[.val (.long p1), .second, .val (.long p2), .second, .val (.long p3), .second, .val (.long p4), .second, .val (.long p5), .second, .val (.int p6), .val (.long lim), .second, .val (.long win), .second, .val (.long elp), .second, .val (.long pv), .second, .val (.long cu), .second, .val (.ref b7), .unset, .unset] [(.long rr9)])
      refine Go.of (T' := T9) (f' := (mkF m 112 #[.val (.long p1), .second, .val (.long p2), .second, .val (.long p3), .second, .val (.long p4), .second, .val (.long p5), .second, .val (.int p6), .val (.long lim), .second, .val (.long win), .second, .val (.long elp), .second, .val (.long pv), .second, .val (.long cu), .second, .val (.ref b7), .val (.long rr9), .second] [])) (fun _ k => XS.lstore X9.here hx rfl (hb hby at_110) rfl (l' := #[.val (.long p1), .second, .val (.long p2), .second, .val (.long p3), .second, .val (.long p4), .second, .val (.long p5), .second, .val (.int p6), .val (.long lim), .second, .val (.long win), .second, .val (.long elp), .second, .val (.long pv), .second, .val (.long cu), .second, .val (.ref b7), .val (.long rr9), .second]) rfl k) ?_
      refine Go.of (T' := T9) (f' := (mkF m 114 #[.val (.long p1), .second, .val (.long p2), .second, .val (.long p3), .second, .val (.long p4), .second, .val (.long p5), .second, .val (.int p6), .val (.long lim), .second, .val (.long win), .second, .val (.long elp), .second, .val (.long pv), .second, .val (.long cu), .second, .val (.ref b7), .val (.long rr9), .second] [(.long rr9)])) (fun _ k => XS.lload X9.here hx rfl (hb hby at_112) rfl k) ?_
      refine Go.of (T' := T9) (f' := (mkF m 116 #[.val (.long p1), .second, .val (.long p2), .second, .val (.long p3), .second, .val (.long p4), .second, .val (.long p5), .second, .val (.int p6), .val (.long lim), .second, .val (.long win), .second, .val (.long elp), .second, .val (.long pv), .second, .val (.long cu), .second, .val (.ref b7), .val (.long rr9), .second] [(.long lim), (.long rr9)])) (fun _ k => XS.lload X9.here hx rfl (hb hby at_114) rfl k) ?_
      refine Go.of (T' := T9) (f' := (mkF m 118 #[.val (.long p1), .second, .val (.long p2), .second, .val (.long p3), .second, .val (.long p4), .second, .val (.long p5), .second, .val (.int p6), .val (.long lim), .second, .val (.long win), .second, .val (.long elp), .second, .val (.long pv), .second, .val (.long cu), .second, .val (.ref b7), .val (.long rr9), .second] [(.long win), (.long lim), (.long rr9)])) (fun _ k => XS.lload X9.here hx rfl (hb hby at_116) rfl k) ?_
      refine Go.of (T' := T9) (f' := (mkF m 120 #[.val (.long p1), .second, .val (.long p2), .second, .val (.long p3), .second, .val (.long p4), .second, .val (.long p5), .second, .val (.int p6), .val (.long lim), .second, .val (.long win), .second, .val (.long elp), .second, .val (.long pv), .second, .val (.long cu), .second, .val (.ref b7), .val (.long rr9), .second] [(.long pv), (.long win), (.long lim), (.long rr9)])) (fun _ k => XS.lload X9.here hx rfl (hb hby at_118) rfl k) ?_
      refine Go.of (T' := T9) (f' := (mkF m 122 #[.val (.long p1), .second, .val (.long p2), .second, .val (.long p3), .second, .val (.long p4), .second, .val (.long p5), .second, .val (.int p6), .val (.long lim), .second, .val (.long win), .second, .val (.long elp), .second, .val (.long pv), .second, .val (.long cu), .second, .val (.ref b7), .val (.long rr9), .second] [(.long cu), (.long pv), (.long win), (.long lim), (.long rr9)])) (fun _ k => XS.lload X9.here hx rfl (hb hby at_120) rfl k) ?_
      refine Go.of (T' := T9) (f' := (mkF m 124 #[.val (.long p1), .second, .val (.long p2), .second, .val (.long p3), .second, .val (.long p4), .second, .val (.long p5), .second, .val (.int p6), .val (.long lim), .second, .val (.long win), .second, .val (.long elp), .second, .val (.long pv), .second, .val (.long cu), .second, .val (.ref b7), .val (.long rr9), .second] [(.long elp), (.long cu), (.long pv), (.long win), (.long lim), (.long rr9)])) (fun _ k => XS.lload X9.here hx rfl (hb hby at_122) rfl k) ?_
      refine goS X9 hx hZ hown (hw _ (List.mem_of_getElem? (i := 34) rfl)) (hw _ (List.mem_of_getElem? (i := 35) rfl)) (hw _ (List.mem_of_getElem? (i := 36) rfl)) (hw _ (List.mem_of_getElem? (i := 37) rfl)) (by decide) (C := 0) (S := 0) ((rm_expected l Z a0 hw lim win pv cu elp h8 hG.2.1).bk (W := 2) hZ (hw _ (List.mem_of_getElem? (i := 37) rfl)) (hw _ (List.mem_of_getElem? (i := 36) rfl)) (by decide) (by decide)) e9 (argsL := [(.long lim), (.long win), (.long pv), (.long cu), (.long elp)]) (rest := [(.long rr9)]) (by rw [hml]; rfl) (lenOf pd__JJJJJ_J rfl) rfl rfl (hb hby at_124) (Nat.le_of_eq rfl) (by decide) (by decide) ?_
      intro v10 T10 L10 X10 hQ10
      obtain ⟨nq10, e10, rfl⟩ := hQ10
      replace X10 := standNil X10 nq10
      show Go p e below P T10 (mkF m 127 #[.val (.long p1), .second, .val (.long p2), .second, .val (.long p3), .second, .val (.long p4), .second, .val (.long p5), .second, .val (.int p6), .val (.long lim), .second, .val (.long win), .second, .val (.long elp), .second, .val (.long pv), .second, .val (.long cu), .second, .val (.ref b7), .val (.long rr9), .second] [(.long (expd lim win pv cu elp)), (.long rr9)])
      refine Go.of (T' := T10) (f' := (mkF m 128 #[.val (.long p1), .second, .val (.long p2), .second, .val (.long p3), .second, .val (.long p4), .second, .val (.long p5), .second, .val (.int p6), .val (.long lim), .second, .val (.long win), .second, .val (.long elp), .second, .val (.long pv), .second, .val (.long cu), .second, .val (.ref b7), .val (.long rr9), .second] [(.int (lcmpW rr9 (expd lim win pv cu elp)))])) (fun _ k => XS.lcmp X10.here hx rfl (hb hby at_127) rfl k) ?_
      have hc128 : rr9 = (expd lim win pv cu elp) := expd_eq hG hwn.2 hr9
      refine Go.of (T' := T10) (f' := (mkF m 131 #[.val (.long p1), .second, .val (.long p2), .second, .val (.long p3), .second, .val (.long p4), .second, .val (.long p5), .second, .val (.int p6), .val (.long lim), .second, .val (.long win), .second, .val (.long elp), .second, .val (.long pv), .second, .val (.long cu), .second, .val (.ref b7), .val (.long rr9), .second] [])) (fun _ k => XS.ifNo X10.here hx rfl (hb hby at_128) rfl ((if0 _ _).trans (teq ((lw_eq _ _).mpr hc128)).2) k) ?_
      refine Go.of (T' := T10) (f' := (mkF m 132 #[.val (.long p1), .second, .val (.long p2), .second, .val (.long p3), .second, .val (.long p4), .second, .val (.long p5), .second, .val (.int p6), .val (.long lim), .second, .val (.long win), .second, .val (.long elp), .second, .val (.long pv), .second, .val (.long cu), .second, .val (.ref b7), .val (.long rr9), .second] [(.int (1 : Int32))])) (fun _ k => XS.iconst X10.here hx rfl (hb hby at_131) k) ?_
      refine Go.of (T' := T10) (f' := (mkF m 136 #[.val (.long p1), .second, .val (.long p2), .second, .val (.long p3), .second, .val (.long p4), .second, .val (.long p5), .second, .val (.int p6), .val (.long lim), .second, .val (.long win), .second, .val (.long elp), .second, .val (.long pv), .second, .val (.long cu), .second, .val (.ref b7), .val (.long rr9), .second] [(.int (1 : Int32))])) (fun _ k => XS.goto X10.here hx rfl (pc0 := 132) (pc' := 136) rfl (hb hby at_132) (by decide) (by decide) k) ?_
      exact goRetI (Q := fun v h L => v = some (.int 1) ∧ Mv h0 h [] L) X10 hx (t := .boolean) hret hlk rfl (by simp) (hb hby at_136) K (by decide) (by decide) e10 (⟨rfl, M8⟩)
  ·
    refine Go.of (T' := T1) (f' := (mkF m 38 #[.val (.long p1), .second, .val (.long p2), .second, .val (.long p3), .second, .val (.long p4), .second, .val (.long p5), .second, .val (.int p6), .val (.long (maxL (1 : Int64) (p1 &&& (9223372036854775807 : Int64)))), .second, .val (.long ((p2 &&& (2147483647 : Int64)) + (1 : Int64))), .second, .val (.long ((p5 &&& (9223372036854775807 : Int64)) % ((p2 &&& (2147483647 : Int64)) + (1 : Int64)))), .second, .unset, .unset, .unset, .unset, .unset, .unset, .unset] [])) (fun _ k => XS.ifNo X1.here hx rfl (hb hby at_35) rfl ((if0 _ _).trans (feq hc35).1) k) ?_
    refine Go.of (T' := T1) (f' := (mkF m 40 #[.val (.long p1), .second, .val (.long p2), .second, .val (.long p3), .second, .val (.long p4), .second, .val (.long p5), .second, .val (.int p6), .val (.long (maxL (1 : Int64) (p1 &&& (9223372036854775807 : Int64)))), .second, .val (.long ((p2 &&& (2147483647 : Int64)) + (1 : Int64))), .second, .val (.long ((p5 &&& (9223372036854775807 : Int64)) % ((p2 &&& (2147483647 : Int64)) + (1 : Int64)))), .second, .unset, .unset, .unset, .unset, .unset, .unset, .unset] [(.long p3)])) (fun _ k => XS.lload X1.here hx rfl (hb hby at_38) rfl k) ?_
    refine Go.of (T' := T1) (f' := (mkF m 43 #[.val (.long p1), .second, .val (.long p2), .second, .val (.long p3), .second, .val (.long p4), .second, .val (.long p5), .second, .val (.int p6), .val (.long (maxL (1 : Int64) (p1 &&& (9223372036854775807 : Int64)))), .second, .val (.long ((p2 &&& (2147483647 : Int64)) + (1 : Int64))), .second, .val (.long ((p5 &&& (9223372036854775807 : Int64)) % ((p2 &&& (2147483647 : Int64)) + (1 : Int64)))), .second, .unset, .unset, .unset, .unset, .unset, .unset, .unset] [(.long (65535 : Int64)), (.long p3)])) (fun _ k => X1.ldc2Long hx hown (mvT hZ (hw _ (List.mem_of_getElem? (i := 6) rfl))) (g := (mkF m 40 #[.val (.long p1), .second, .val (.long p2), .second, .val (.long p3), .second, .val (.long p4), .second, .val (.long p5), .second, .val (.int p6), .val (.long (maxL (1 : Int64) (p1 &&& (9223372036854775807 : Int64)))), .second, .val (.long ((p2 &&& (2147483647 : Int64)) + (1 : Int64))), .second, .val (.long ((p5 &&& (9223372036854775807 : Int64)) % ((p2 &&& (2147483647 : Int64)) + (1 : Int64)))), .second, .unset, .unset, .unset, .unset, .unset, .unset, .unset] [(.long p3)])) rfl (hb hby at_40) _ k) ?_
    refine Go.of (T' := T1) (f' := (mkF m 44 #[.val (.long p1), .second, .val (.long p2), .second, .val (.long p3), .second, .val (.long p4), .second, .val (.long p5), .second, .val (.int p6), .val (.long (maxL (1 : Int64) (p1 &&& (9223372036854775807 : Int64)))), .second, .val (.long ((p2 &&& (2147483647 : Int64)) + (1 : Int64))), .second, .val (.long ((p5 &&& (9223372036854775807 : Int64)) % ((p2 &&& (2147483647 : Int64)) + (1 : Int64)))), .second, .unset, .unset, .unset, .unset, .unset, .unset, .unset] [(.long (p3 &&& (65535 : Int64)))])) (fun _ k => XS.land X1.here hx rfl (hb hby at_43) rfl k) ?_
    refine Go.of (T' := T1) (f' := (mkF m 53 #[.val (.long p1), .second, .val (.long p2), .second, .val (.long p3), .second, .val (.long p4), .second, .val (.long p5), .second, .val (.int p6), .val (.long (maxL (1 : Int64) (p1 &&& (9223372036854775807 : Int64)))), .second, .val (.long ((p2 &&& (2147483647 : Int64)) + (1 : Int64))), .second, .val (.long ((p5 &&& (9223372036854775807 : Int64)) % ((p2 &&& (2147483647 : Int64)) + (1 : Int64)))), .second, .unset, .unset, .unset, .unset, .unset, .unset, .unset] [(.long (p3 &&& (65535 : Int64)))])) (fun _ k => XS.goto X1.here hx rfl (pc0 := 44) (pc' := 53) rfl (hb hby at_44) (by decide) (by decide) k) ?_
    refine Go.of (T' := T1) (f' := (mkF m 55 #[.val (.long p1), .second, .val (.long p2), .second, .val (.long p3), .second, .val (.long p4), .second, .val (.long p5), .second, .val (.int p6), .val (.long (maxL (1 : Int64) (p1 &&& (9223372036854775807 : Int64)))), .second, .val (.long ((p2 &&& (2147483647 : Int64)) + (1 : Int64))), .second, .val (.long ((p5 &&& (9223372036854775807 : Int64)) % ((p2 &&& (2147483647 : Int64)) + (1 : Int64)))), .second, .val (.long (p3 &&& (65535 : Int64))), .second, .unset, .unset, .unset, .unset, .unset] [])) (fun _ k => XS.lstore X1.here hx rfl (hb hby at_53) rfl (l' := #[.val (.long p1), .second, .val (.long p2), .second, .val (.long p3), .second, .val (.long p4), .second, .val (.long p5), .second, .val (.int p6), .val (.long (maxL (1 : Int64) (p1 &&& (9223372036854775807 : Int64)))), .second, .val (.long ((p2 &&& (2147483647 : Int64)) + (1 : Int64))), .second, .val (.long ((p5 &&& (9223372036854775807 : Int64)) % ((p2 &&& (2147483647 : Int64)) + (1 : Int64)))), .second, .val (.long (p3 &&& (65535 : Int64))), .second, .unset, .unset, .unset, .unset, .unset]) rfl k) ?_
    refine Go.of (T' := T1) (f' := (mkF m 57 #[.val (.long p1), .second, .val (.long p2), .second, .val (.long p3), .second, .val (.long p4), .second, .val (.long p5), .second, .val (.int p6), .val (.long (maxL (1 : Int64) (p1 &&& (9223372036854775807 : Int64)))), .second, .val (.long ((p2 &&& (2147483647 : Int64)) + (1 : Int64))), .second, .val (.long ((p5 &&& (9223372036854775807 : Int64)) % ((p2 &&& (2147483647 : Int64)) + (1 : Int64)))), .second, .val (.long (p3 &&& (65535 : Int64))), .second, .unset, .unset, .unset, .unset, .unset] [(.int p6)])) (fun _ k => XS.iload X1.here hx rfl (hb hby at_55) rfl k) ?_
    refine Go.of (T' := T1) (f' := (mkF m 58 #[.val (.long p1), .second, .val (.long p2), .second, .val (.long p3), .second, .val (.long p4), .second, .val (.long p5), .second, .val (.int p6), .val (.long (maxL (1 : Int64) (p1 &&& (9223372036854775807 : Int64)))), .second, .val (.long ((p2 &&& (2147483647 : Int64)) + (1 : Int64))), .second, .val (.long ((p5 &&& (9223372036854775807 : Int64)) % ((p2 &&& (2147483647 : Int64)) + (1 : Int64)))), .second, .val (.long (p3 &&& (65535 : Int64))), .second, .unset, .unset, .unset, .unset, .unset] [(.int (1 : Int32)), (.int p6)])) (fun _ k => XS.iconst X1.here hx rfl (hb hby at_57) k) ?_
    refine Go.of (T' := T1) (f' := (mkF m 59 #[.val (.long p1), .second, .val (.long p2), .second, .val (.long p3), .second, .val (.long p4), .second, .val (.long p5), .second, .val (.int p6), .val (.long (maxL (1 : Int64) (p1 &&& (9223372036854775807 : Int64)))), .second, .val (.long ((p2 &&& (2147483647 : Int64)) + (1 : Int64))), .second, .val (.long ((p5 &&& (9223372036854775807 : Int64)) % ((p2 &&& (2147483647 : Int64)) + (1 : Int64)))), .second, .val (.long (p3 &&& (65535 : Int64))), .second, .unset, .unset, .unset, .unset, .unset] [(.int (p6 &&& (1 : Int32)))])) (fun _ k => XS.iand X1.here hx rfl (hb hby at_58) rfl k) ?_
    by_cases hc59 : (p6 &&& (1 : Int32)) = (0 : Int32)
    ·
      refine Go.of (T' := T1) (f' := (mkF m 78 #[.val (.long p1), .second, .val (.long p2), .second, .val (.long p3), .second, .val (.long p4), .second, .val (.long p5), .second, .val (.int p6), .val (.long (maxL (1 : Int64) (p1 &&& (9223372036854775807 : Int64)))), .second, .val (.long ((p2 &&& (2147483647 : Int64)) + (1 : Int64))), .second, .val (.long ((p5 &&& (9223372036854775807 : Int64)) % ((p2 &&& (2147483647 : Int64)) + (1 : Int64)))), .second, .val (.long (p3 &&& (65535 : Int64))), .second, .unset, .unset, .unset, .unset, .unset] [])) (fun _ k => XS.ifYes X1.here hx rfl (pc0 := 59) (pc' := 78) rfl (hb hby at_59) rfl ((if0 _ _).trans (teq hc59).1) (by decide) (by decide) k) ?_
      refine Go.of (T' := T1) (f' := (mkF m 80 #[.val (.long p1), .second, .val (.long p2), .second, .val (.long p3), .second, .val (.long p4), .second, .val (.long p5), .second, .val (.int p6), .val (.long (maxL (1 : Int64) (p1 &&& (9223372036854775807 : Int64)))), .second, .val (.long ((p2 &&& (2147483647 : Int64)) + (1 : Int64))), .second, .val (.long ((p5 &&& (9223372036854775807 : Int64)) % ((p2 &&& (2147483647 : Int64)) + (1 : Int64)))), .second, .val (.long (p3 &&& (65535 : Int64))), .second, .unset, .unset, .unset, .unset, .unset] [(.long p4)])) (fun _ k => XS.lload X1.here hx rfl (hb hby at_78) rfl k) ?_
      refine Go.of (T' := T1) (f' := (mkF m 83 #[.val (.long p1), .second, .val (.long p2), .second, .val (.long p3), .second, .val (.long p4), .second, .val (.long p5), .second, .val (.int p6), .val (.long (maxL (1 : Int64) (p1 &&& (9223372036854775807 : Int64)))), .second, .val (.long ((p2 &&& (2147483647 : Int64)) + (1 : Int64))), .second, .val (.long ((p5 &&& (9223372036854775807 : Int64)) % ((p2 &&& (2147483647 : Int64)) + (1 : Int64)))), .second, .val (.long (p3 &&& (65535 : Int64))), .second, .unset, .unset, .unset, .unset, .unset] [(.long (9223372036854775807 : Int64)), (.long p4)])) (fun _ k => X1.ldc2Long hx hown (mvT hZ (hw _ (List.mem_of_getElem? (i := 0) rfl))) (g := (mkF m 80 #[.val (.long p1), .second, .val (.long p2), .second, .val (.long p3), .second, .val (.long p4), .second, .val (.long p5), .second, .val (.int p6), .val (.long (maxL (1 : Int64) (p1 &&& (9223372036854775807 : Int64)))), .second, .val (.long ((p2 &&& (2147483647 : Int64)) + (1 : Int64))), .second, .val (.long ((p5 &&& (9223372036854775807 : Int64)) % ((p2 &&& (2147483647 : Int64)) + (1 : Int64)))), .second, .val (.long (p3 &&& (65535 : Int64))), .second, .unset, .unset, .unset, .unset, .unset] [(.long p4)])) rfl (hb hby at_80) _ k) ?_
      refine Go.of (T' := T1) (f' := (mkF m 84 #[.val (.long p1), .second, .val (.long p2), .second, .val (.long p3), .second, .val (.long p4), .second, .val (.long p5), .second, .val (.int p6), .val (.long (maxL (1 : Int64) (p1 &&& (9223372036854775807 : Int64)))), .second, .val (.long ((p2 &&& (2147483647 : Int64)) + (1 : Int64))), .second, .val (.long ((p5 &&& (9223372036854775807 : Int64)) % ((p2 &&& (2147483647 : Int64)) + (1 : Int64)))), .second, .val (.long (p3 &&& (65535 : Int64))), .second, .unset, .unset, .unset, .unset, .unset] [(.long (p4 &&& (9223372036854775807 : Int64)))])) (fun _ k => XS.land X1.here hx rfl (hb hby at_83) rfl k) ?_
      refine Go.of (T' := T1) (f' := (mkF m 86 #[.val (.long p1), .second, .val (.long p2), .second, .val (.long p3), .second, .val (.long p4), .second, .val (.long p5), .second, .val (.int p6), .val (.long (maxL (1 : Int64) (p1 &&& (9223372036854775807 : Int64)))), .second, .val (.long ((p2 &&& (2147483647 : Int64)) + (1 : Int64))), .second, .val (.long ((p5 &&& (9223372036854775807 : Int64)) % ((p2 &&& (2147483647 : Int64)) + (1 : Int64)))), .second, .val (.long (p3 &&& (65535 : Int64))), .second, .val (.long (p4 &&& (9223372036854775807 : Int64))), .second, .unset, .unset, .unset] [])) (fun _ k => XS.lstore X1.here hx rfl (hb hby at_84) rfl (l' := #[.val (.long p1), .second, .val (.long p2), .second, .val (.long p3), .second, .val (.long p4), .second, .val (.long p5), .second, .val (.int p6), .val (.long (maxL (1 : Int64) (p1 &&& (9223372036854775807 : Int64)))), .second, .val (.long ((p2 &&& (2147483647 : Int64)) + (1 : Int64))), .second, .val (.long ((p5 &&& (9223372036854775807 : Int64)) % ((p2 &&& (2147483647 : Int64)) + (1 : Int64)))), .second, .val (.long (p3 &&& (65535 : Int64))), .second, .val (.long (p4 &&& (9223372036854775807 : Int64))), .second, .unset, .unset, .unset]) rfl k) ?_
      have hl : (0 : Int64) < (maxL (1 : Int64) (p1 &&& (9223372036854775807 : Int64))) := max1_pos _
      have hwn := win_ok p2
      have hel := rem_ok p5 _ hwn.1
      have hpv : ¬ (p3 &&& (65535 : Int64)) < (0 : Int64) := mask_nn _ _ (by decide)
      have hcu : ¬ (p4 &&& (9223372036854775807 : Int64)) < (0 : Int64) := mask_nn _ _ (by decide)
      generalize (p4 &&& (9223372036854775807 : Int64)) = cu at *
      generalize (p3 &&& (65535 : Int64)) = pv at *
      generalize (maxL (1 : Int64) (p1 &&& (9223372036854775807 : Int64))) = lim at *
      generalize ((p5 &&& (9223372036854775807 : Int64)) % ((p2 &&& (2147483647 : Int64)) + (1 : Int64))) = elp at *
      generalize ((p2 &&& (2147483647 : Int64)) + (1 : Int64)) = win at *
      have hG : Good lim win pv cu elp := ⟨hl, hwn.1, hpv, hcu, hel.1, hel.2⟩
      obtain ⟨T11, h11, X11, e11, E11, A11, D11, -, st11⟩ := newO X1 hx hZ hown (hw _ (List.mem_of_getElem? (i := 7) rfl)) (hw _ (List.mem_of_getElem? (i := 8) rfl)) (hw _ (List.mem_of_getElem? (i := 9) rfl)) e1 (g := (mkF m 86 #[.val (.long p1), .second, .val (.long p2), .second, .val (.long p3), .second, .val (.long p4), .second, .val (.long p5), .second, .val (.int p6), .val (.long lim), .second, .val (.long win), .second, .val (.long elp), .second, .val (.long pv), .second, .val (.long cu), .second, .unset, .unset, .unset] [])) rfl (hb hby at_86) (by decide) (by decide)
      obtain ⟨b11, g11⟩ : ∃ z, z = h0.size := ⟨_, rfl⟩
      rw [← g11] at A11 D11 st11
      have fr_b11 : h0.size ≤ b11 := Nat.le_trans M0.le (Nat.le_of_eq g11.symm)
      have K11 := keepE E11
      have M11 := M0.ext E11
      have E_b11 := A11
      have F_limit_b11 : Fld Z h11 b11 "com/example/sluiced/sluiced/limiter/SlidingWindowCounter" "limit" "J" (.long (0 : Int64)) := D11 (Or.inr (hw _ (List.mem_of_getElem? (i := 22) rfl))) (ty := .long) (by decide)
      have F_window_b11 : Fld Z h11 b11 "com/example/sluiced/sluiced/limiter/SlidingWindowCounter" "window" "J" (.long (0 : Int64)) := D11 (Or.inr (hw _ (List.mem_of_getElem? (i := 24) rfl))) (ty := .long) (by decide)
      refine Go.of (T' := T11) (f' := (mkF m 89 #[.val (.long p1), .second, .val (.long p2), .second, .val (.long p3), .second, .val (.long p4), .second, .val (.long p5), .second, .val (.int p6), .val (.long lim), .second, .val (.long win), .second, .val (.long elp), .second, .val (.long pv), .second, .val (.long cu), .second, .unset, .unset, .unset] [(.ref b11)])) st11 ?_
      refine Go.of (T' := T11) (f' := (mkF m 90 #[.val (.long p1), .second, .val (.long p2), .second, .val (.long p3), .second, .val (.long p4), .second, .val (.long p5), .second, .val (.int p6), .val (.long lim), .second, .val (.long win), .second, .val (.long elp), .second, .val (.long pv), .second, .val (.long cu), .second, .unset, .unset, .unset] [(.ref b11), (.ref b11)])) (fun _ k => XS.dup X11.here hx rfl (hb hby at_89) rfl rfl k) ?_
      refine Go.of (T' := T11) (f' := (mkF m 92 #[.val (.long p1), .second, .val (.long p2), .second, .val (.long p3), .second, .val (.long p4), .second, .val (.long p5), .second, .val (.int p6), .val (.long lim), .second, .val (.long win), .second, .val (.long elp), .second, .val (.long pv), .second, .val (.long cu), .second, .unset, .unset, .unset] [(.long lim), (.ref b11), (.ref b11)])) (fun _ k => XS.lload X11.here hx rfl (hb hby at_90) rfl k) ?_
      refine Go.of (T' := T11) (f' := (mkF m 94 #[.val (.long p1), .second, .val (.long p2), .second, .val (.long p3), .second, .val (.long p4), .second, .val (.long p5), .second, .val (.int p6), .val (.long lim), .second, .val (.long win), .second, .val (.long elp), .second, .val (.long pv), .second, .val (.long cu), .second, .unset, .unset, .unset] [(.long win), (.long lim), (.ref b11), (.ref b11)])) (fun _ k => XS.lload X11.here hx rfl (hb hby at_92) rfl k) ?_
      refine goI X11 hx hZ rfl hown (hw _ (List.mem_of_getElem? (i := 10) rfl)) (hw _ (List.mem_of_getElem? (i := 11) rfl)) (hw _ (List.mem_of_getElem? (i := 12) rfl)) (by decide) (C := 0) (S := 0) ((rm_new l Z a0 hw b11 lim win h11 E_b11 F_limit_b11 F_window_b11 hl hwn.1).bk (W := 1) hZ (hw _ (List.mem_of_getElem? (i := 12) rfl)) (hw _ (List.mem_of_getElem? (i := 9) rfl)) (by decide) (by decide)) e11 (argsL := [(.long lim), (.long win)]) (rest := [(.ref b11)]) (by rw [hml]; rfl) (lenOf pd__JJ_V rfl) rfl rfl (hb hby at_94) (Nat.le_of_eq rfl) (by decide) (by decide) ?_
      intro v12 T12 L12 X12 hQ12
      obtain ⟨h12, e12⟩ : ∃ z, T12.heap = z := ⟨_, rfl⟩
      rw [e12] at hQ12
      obtain ⟨rfl, Mc12, Ec12, Fc12, Gc12⟩ := hQ12
      have M12 := M11.app Mc12 (allS (Or.inr fr_b11) all0)
      replace E_b11 := Ec12
      replace F_limit_b11 := Fc12
      replace F_window_b11 := Gc12
      show Go p e below P T12 (mkF m 97 #[.val (.long p1), .second, .val (.long p2), .second, .val (.long p3), .second, .val (.long p4), .second, .val (.long p5), .second, .val (.int p6), .val (.long lim), .second, .val (.long win), .second, .val (.long elp), .second, .val (.long pv), .second, .val (.long cu), .second, .unset, .unset, .unset] [(.ref b11)])
      refine Go.of (T' := T12) (f' := (mkF m 99 #[.val (.long p1), .second, .val (.long p2), .second, .val (.long p3), .second, .val (.long p4), .second, .val (.long p5), .second, .val (.int p6), .val (.long lim), .second, .val (.long win), .second, .val (.long elp), .second, .val (.long pv), .second, .val (.long cu), .second, .val (.ref b11), .unset, .unset] [])) (fun _ k => XS.astore X12.here hx rfl (hb hby at_97) rfl rfl (l' := #[.val (.long p1), .second, .val (.long p2), .second, .val (.long p3), .second, .val (.long p4), .second, .val (.long p5), .second, .val (.int p6), .val (.long lim), .second, .val (.long win), .second, .val (.long elp), .second, .val (.long pv), .second, .val (.long cu), .second, .val (.ref b11), .unset, .unset]) rfl k) ?_
      refine Go.of (T' := T12) (f' := (mkF m 101 #[.val (.long p1), .second, .val (.long p2), .second, .val (.long p3), .second, .val (.long p4), .second, .val (.long p5), .second, .val (.int p6), .val (.long lim), .second, .val (.long win), .second, .val (.long elp), .second, .val (.long pv), .second, .val (.long cu), .second, .val (.ref b11), .unset, .unset] [(.ref b11)])) (fun _ k => XS.aload X12.here hx rfl (hb hby at_99) rfl rfl k) ?_
      refine Go.of (T' := T12) (f' := (mkF m 103 #[.val (.long p1), .second, .val (.long p2), .second, .val (.long p3), .second, .val (.long p4), .second, .val (.long p5), .second, .val (.int p6), .val (.long lim), .second, .val (.long win), .second, .val (.long elp), .second, .val (.long pv), .second, .val (.long cu), .second, .val (.ref b11), .unset, .unset] [(.long pv), (.ref b11)])) (fun _ k => XS.lload X12.here hx rfl (hb hby at_101) rfl k) ?_
      refine Go.of (T' := T12) (f' := (mkF m 105 #[.val (.long p1), .second, .val (.long p2), .second, .val (.long p3), .second, .val (.long p4), .second, .val (.long p5), .second, .val (.int p6), .val (.long lim), .second, .val (.long win), .second, .val (.long elp), .second, .val (.long pv), .second, .val (.long cu), .second, .val (.ref b11), .unset, .unset] [(.long cu), (.long pv), (.ref b11)])) (fun _ k => XS.lload X12.here hx rfl (hb hby at_103) rfl k) ?_
      refine Go.of (T' := T12) (f' := (mkF m 107 #[.val (.long p1), .second, .val (.long p2), .second, .val (.long p3), .second, .val (.long p4), .second, .val (.long p5), .second, .val (.int p6), .val (.long lim), .second, .val (.long win), .second, .val (.long elp), .second, .val (.long pv), .second, .val (.long cu), .second, .val (.ref b11), .unset, .unset] [(.long elp), (.long cu), (.long pv), (.ref b11)])) (fun _ k => XS.lload X12.here hx rfl (hb hby at_105) rfl k) ?_
      refine goV X12 hx hZ (y := (⟨"com/example/sluiced/sluiced/limiter/SlidingWindowCounter", "remaining", "(JJJ)J"⟩ : MethodName)) (z := (⟨"com/example/sluiced/sluiced/limiter/SlidingWindowCounter", "remaining", "(JJJ)J"⟩ : MethodName)) hown (hw _ (List.mem_of_getElem? (i := 25) rfl)) (hw _ (List.mem_of_getElem? (i := 26) rfl)) (notFace_of_selects (args := #[]) (mvT hZ (hw _ (List.mem_of_getElem? (i := 28) rfl)))) (hw _ (List.mem_of_getElem? (i := 28) rfl)) (hw _ (List.mem_of_getElem? (i := 27) rfl)) (by decide) (C := 0) (S := 0) ((rm_remaining l Z a0 hw b11 pv cu elp lim win h12 F_limit_b11 F_window_b11 E_b11 hG).bk (W := 0) hZ (hw _ (List.mem_of_getElem? (i := 29) rfl)) (hw _ (List.mem_of_getElem? (i := 9) rfl)) (by decide) (by decide)) e12 E_b11 (argsL := [(.long pv), (.long cu), (.long elp)]) (rest := []) (by rw [hml]; rfl) (lenOf pd__JJJ_J rfl) rfl rfl (hb hby at_107) (Nat.le_of_eq rfl) (by decide) (by decide) ?_
      intro v13 T13 L13 X13 hQ13
      obtain ⟨nq13, e13, rr13, rfl, hr13⟩ := hQ13
      replace X13 := standNil X13 nq13
      show Go p e below P T13 (mkF m 110 #[.val (.long p1), .second, .val (.long p2), .second, .val (.long p3), .second, .val (.long p4), .second, .val (.long p5), .second, .val (.int p6), .val (.long lim), .second, .val (.long win), .second, .val (.long elp), .second, .val (.long pv), .second, .val (.long cu), .second, .val (.ref b11), .unset, .unset] [(.long rr13)])
      refine Go.of (T' := T13) (f' := (mkF m 112 #[.val (.long p1), .second, .val (.long p2), .second, .val (.long p3), .second, .val (.long p4), .second, .val (.long p5), .second, .val (.int p6), .val (.long lim), .second, .val (.long win), .second, .val (.long elp), .second, .val (.long pv), .second, .val (.long cu), .second, .val (.ref b11), .val (.long rr13), .second] [])) (fun _ k => XS.lstore X13.here hx rfl (hb hby at_110) rfl (l' := #[.val (.long p1), .second, .val (.long p2), .second, .val (.long p3), .second, .val (.long p4), .second, .val (.long p5), .second, .val (.int p6), .val (.long lim), .second, .val (.long win), .second, .val (.long elp), .second, .val (.long pv), .second, .val (.long cu), .second, .val (.ref b11), .val (.long rr13), .second]) rfl k) ?_
      refine Go.of (T' := T13) (f' := (mkF m 114 #[.val (.long p1), .second, .val (.long p2), .second, .val (.long p3), .second, .val (.long p4), .second, .val (.long p5), .second, .val (.int p6), .val (.long lim), .second, .val (.long win), .second, .val (.long elp), .second, .val (.long pv), .second, .val (.long cu), .second, .val (.ref b11), .val (.long rr13), .second] [(.long rr13)])) (fun _ k => XS.lload X13.here hx rfl (hb hby at_112) rfl k) ?_
      refine Go.of (T' := T13) (f' := (mkF m 116 #[.val (.long p1), .second, .val (.long p2), .second, .val (.long p3), .second, .val (.long p4), .second, .val (.long p5), .second, .val (.int p6), .val (.long lim), .second, .val (.long win), .second, .val (.long elp), .second, .val (.long pv), .second, .val (.long cu), .second, .val (.ref b11), .val (.long rr13), .second] [(.long lim), (.long rr13)])) (fun _ k => XS.lload X13.here hx rfl (hb hby at_114) rfl k) ?_
      refine Go.of (T' := T13) (f' := (mkF m 118 #[.val (.long p1), .second, .val (.long p2), .second, .val (.long p3), .second, .val (.long p4), .second, .val (.long p5), .second, .val (.int p6), .val (.long lim), .second, .val (.long win), .second, .val (.long elp), .second, .val (.long pv), .second, .val (.long cu), .second, .val (.ref b11), .val (.long rr13), .second] [(.long win), (.long lim), (.long rr13)])) (fun _ k => XS.lload X13.here hx rfl (hb hby at_116) rfl k) ?_
      refine Go.of (T' := T13) (f' := (mkF m 120 #[.val (.long p1), .second, .val (.long p2), .second, .val (.long p3), .second, .val (.long p4), .second, .val (.long p5), .second, .val (.int p6), .val (.long lim), .second, .val (.long win), .second, .val (.long elp), .second, .val (.long pv), .second, .val (.long cu), .second, .val (.ref b11), .val (.long rr13), .second] [(.long pv), (.long win), (.long lim), (.long rr13)])) (fun _ k => XS.lload X13.here hx rfl (hb hby at_118) rfl k) ?_
      refine Go.of (T' := T13) (f' := (mkF m 122 #[.val (.long p1), .second, .val (.long p2), .second, .val (.long p3), .second, .val (.long p4), .second, .val (.long p5), .second, .val (.int p6), .val (.long lim), .second, .val (.long win), .second, .val (.long elp), .second, .val (.long pv), .second, .val (.long cu), .second, .val (.ref b11), .val (.long rr13), .second] [(.long cu), (.long pv), (.long win), (.long lim), (.long rr13)])) (fun _ k => XS.lload X13.here hx rfl (hb hby at_120) rfl k) ?_
      refine Go.of (T' := T13) (f' := (mkF m 124 #[.val (.long p1), .second, .val (.long p2), .second, .val (.long p3), .second, .val (.long p4), .second, .val (.long p5), .second, .val (.int p6), .val (.long lim), .second, .val (.long win), .second, .val (.long elp), .second, .val (.long pv), .second, .val (.long cu), .second, .val (.ref b11), .val (.long rr13), .second] [(.long elp), (.long cu), (.long pv), (.long win), (.long lim), (.long rr13)])) (fun _ k => XS.lload X13.here hx rfl (hb hby at_122) rfl k) ?_
      refine goS X13 hx hZ hown (hw _ (List.mem_of_getElem? (i := 34) rfl)) (hw _ (List.mem_of_getElem? (i := 35) rfl)) (hw _ (List.mem_of_getElem? (i := 36) rfl)) (hw _ (List.mem_of_getElem? (i := 37) rfl)) (by decide) (C := 0) (S := 0) ((rm_expected l Z a0 hw lim win pv cu elp h12 hG.2.1).bk (W := 2) hZ (hw _ (List.mem_of_getElem? (i := 37) rfl)) (hw _ (List.mem_of_getElem? (i := 36) rfl)) (by decide) (by decide)) e13 (argsL := [(.long lim), (.long win), (.long pv), (.long cu), (.long elp)]) (rest := [(.long rr13)]) (by rw [hml]; rfl) (lenOf pd__JJJJJ_J rfl) rfl rfl (hb hby at_124) (Nat.le_of_eq rfl) (by decide) (by decide) ?_
      intro v14 T14 L14 X14 hQ14
      obtain ⟨nq14, e14, rfl⟩ := hQ14
      replace X14 := standNil X14 nq14
      show Go p e below P T14 (mkF m 127 #[.val (.long p1), .second, .val (.long p2), .second, .val (.long p3), .second, .val (.long p4), .second, .val (.long p5), .second, .val (.int p6), .val (.long lim), .second, .val (.long win), .second, .val (.long elp), .second, .val (.long pv), .second, .val (.long cu), .second, .val (.ref b11), .val (.long rr13), .second] [(.long (expd lim win pv cu elp)), (.long rr13)])
      refine Go.of (T' := T14) (f' := (mkF m 128 #[.val (.long p1), .second, .val (.long p2), .second, .val (.long p3), .second, .val (.long p4), .second, .val (.long p5), .second, .val (.int p6), .val (.long lim), .second, .val (.long win), .second, .val (.long elp), .second, .val (.long pv), .second, .val (.long cu), .second, .val (.ref b11), .val (.long rr13), .second] [(.int (lcmpW rr13 (expd lim win pv cu elp)))])) (fun _ k => XS.lcmp X14.here hx rfl (hb hby at_127) rfl k) ?_
      have hc128 : rr13 = (expd lim win pv cu elp) := expd_eq hG hwn.2 hr13
      refine Go.of (T' := T14) (f' := (mkF m 131 #[.val (.long p1), .second, .val (.long p2), .second, .val (.long p3), .second, .val (.long p4), .second, .val (.long p5), .second, .val (.int p6), .val (.long lim), .second, .val (.long win), .second, .val (.long elp), .second, .val (.long pv), .second, .val (.long cu), .second, .val (.ref b11), .val (.long rr13), .second] [])) (fun _ k => XS.ifNo X14.here hx rfl (hb hby at_128) rfl ((if0 _ _).trans (teq ((lw_eq _ _).mpr hc128)).2) k) ?_
      refine Go.of (T' := T14) (f' := (mkF m 132 #[.val (.long p1), .second, .val (.long p2), .second, .val (.long p3), .second, .val (.long p4), .second, .val (.long p5), .second, .val (.int p6), .val (.long lim), .second, .val (.long win), .second, .val (.long elp), .second, .val (.long pv), .second, .val (.long cu), .second, .val (.ref b11), .val (.long rr13), .second] [(.int (1 : Int32))])) (fun _ k => XS.iconst X14.here hx rfl (hb hby at_131) k) ?_
      refine Go.of (T' := T14) (f' := (mkF m 136 #[.val (.long p1), .second, .val (.long p2), .second, .val (.long p3), .second, .val (.long p4), .second, .val (.long p5), .second, .val (.int p6), .val (.long lim), .second, .val (.long win), .second, .val (.long elp), .second, .val (.long pv), .second, .val (.long cu), .second, .val (.ref b11), .val (.long rr13), .second] [(.int (1 : Int32))])) (fun _ k => XS.goto X14.here hx rfl (pc0 := 132) (pc' := 136) rfl (hb hby at_132) (by decide) (by decide) k) ?_
      exact goRetI (Q := fun v h L => v = some (.int 1) ∧ Mv h0 h [] L) X14 hx (t := .boolean) hret hlk rfl (by simp) (hb hby at_136) K (by decide) (by decide) e14 (⟨rfl, M12⟩)
    ·
      refine Go.of (T' := T1) (f' := (mkF m 62 #[.val (.long p1), .second, .val (.long p2), .second, .val (.long p3), .second, .val (.long p4), .second, .val (.long p5), .second, .val (.int p6), .val (.long (maxL (1 : Int64) (p1 &&& (9223372036854775807 : Int64)))), .second, .val (.long ((p2 &&& (2147483647 : Int64)) + (1 : Int64))), .second, .val (.long ((p5 &&& (9223372036854775807 : Int64)) % ((p2 &&& (2147483647 : Int64)) + (1 : Int64)))), .second, .val (.long (p3 &&& (65535 : Int64))), .second, .unset, .unset, .unset, .unset, .unset] [])) (fun _ k => XS.ifNo X1.here hx rfl (hb hby at_59) rfl ((if0 _ _).trans (feq hc59).1) k) ?_
      refine Go.of (T' := T1) (f' := (mkF m 63 #[.val (.long p1), .second, .val (.long p2), .second, .val (.long p3), .second, .val (.long p4), .second, .val (.long p5), .second, .val (.int p6), .val (.long (maxL (1 : Int64) (p1 &&& (9223372036854775807 : Int64)))), .second, .val (.long ((p2 &&& (2147483647 : Int64)) + (1 : Int64))), .second, .val (.long ((p5 &&& (9223372036854775807 : Int64)) % ((p2 &&& (2147483647 : Int64)) + (1 : Int64)))), .second, .val (.long (p3 &&& (65535 : Int64))), .second, .unset, .unset, .unset, .unset, .unset] [(.long (0 : Int64))])) (fun _ k => XS.lconst X1.here hx rfl (hb hby at_62) k) ?_
      refine Go.of (T' := T1) (f' := (mkF m 65 #[.val (.long p1), .second, .val (.long p2), .second, .val (.long p3), .second, .val (.long p4), .second, .val (.long p5), .second, .val (.int p6), .val (.long (maxL (1 : Int64) (p1 &&& (9223372036854775807 : Int64)))), .second, .val (.long ((p2 &&& (2147483647 : Int64)) + (1 : Int64))), .second, .val (.long ((p5 &&& (9223372036854775807 : Int64)) % ((p2 &&& (2147483647 : Int64)) + (1 : Int64)))), .second, .val (.long (p3 &&& (65535 : Int64))), .second, .unset, .unset, .unset, .unset, .unset] [(.long (maxL (1 : Int64) (p1 &&& (9223372036854775807 : Int64)))), (.long (0 : Int64))])) (fun _ k => XS.lload X1.here hx rfl (hb hby at_63) rfl k) ?_
      refine Go.of (T' := T1) (f' := (mkF m 67 #[.val (.long p1), .second, .val (.long p2), .second, .val (.long p3), .second, .val (.long p4), .second, .val (.long p5), .second, .val (.int p6), .val (.long (maxL (1 : Int64) (p1 &&& (9223372036854775807 : Int64)))), .second, .val (.long ((p2 &&& (2147483647 : Int64)) + (1 : Int64))), .second, .val (.long ((p5 &&& (9223372036854775807 : Int64)) % ((p2 &&& (2147483647 : Int64)) + (1 : Int64)))), .second, .val (.long (p3 &&& (65535 : Int64))), .second, .unset, .unset, .unset, .unset, .unset] [(.long p4), (.long (maxL (1 : Int64) (p1 &&& (9223372036854775807 : Int64)))), (.long (0 : Int64))])) (fun _ k => XS.lload X1.here hx rfl (hb hby at_65) rfl k) ?_
      refine Go.of (T' := T1) (f' := (mkF m 70 #[.val (.long p1), .second, .val (.long p2), .second, .val (.long p3), .second, .val (.long p4), .second, .val (.long p5), .second, .val (.int p6), .val (.long (maxL (1 : Int64) (p1 &&& (9223372036854775807 : Int64)))), .second, .val (.long ((p2 &&& (2147483647 : Int64)) + (1 : Int64))), .second, .val (.long ((p5 &&& (9223372036854775807 : Int64)) % ((p2 &&& (2147483647 : Int64)) + (1 : Int64)))), .second, .val (.long (p3 &&& (65535 : Int64))), .second, .unset, .unset, .unset, .unset, .unset] [(.long (65535 : Int64)), (.long p4), (.long (maxL (1 : Int64) (p1 &&& (9223372036854775807 : Int64)))), (.long (0 : Int64))])) (fun _ k => X1.ldc2Long hx hown (mvT hZ (hw _ (List.mem_of_getElem? (i := 6) rfl))) (g := (mkF m 67 #[.val (.long p1), .second, .val (.long p2), .second, .val (.long p3), .second, .val (.long p4), .second, .val (.long p5), .second, .val (.int p6), .val (.long (maxL (1 : Int64) (p1 &&& (9223372036854775807 : Int64)))), .second, .val (.long ((p2 &&& (2147483647 : Int64)) + (1 : Int64))), .second, .val (.long ((p5 &&& (9223372036854775807 : Int64)) % ((p2 &&& (2147483647 : Int64)) + (1 : Int64)))), .second, .val (.long (p3 &&& (65535 : Int64))), .second, .unset, .unset, .unset, .unset, .unset] [(.long p4), (.long (maxL (1 : Int64) (p1 &&& (9223372036854775807 : Int64)))), (.long (0 : Int64))])) rfl (hb hby at_67) _ k) ?_
      refine Go.of (T' := T1) (f' := (mkF m 71 #[.val (.long p1), .second, .val (.long p2), .second, .val (.long p3), .second, .val (.long p4), .second, .val (.long p5), .second, .val (.int p6), .val (.long (maxL (1 : Int64) (p1 &&& (9223372036854775807 : Int64)))), .second, .val (.long ((p2 &&& (2147483647 : Int64)) + (1 : Int64))), .second, .val (.long ((p5 &&& (9223372036854775807 : Int64)) % ((p2 &&& (2147483647 : Int64)) + (1 : Int64)))), .second, .val (.long (p3 &&& (65535 : Int64))), .second, .unset, .unset, .unset, .unset, .unset] [(.long (p4 &&& (65535 : Int64))), (.long (maxL (1 : Int64) (p1 &&& (9223372036854775807 : Int64)))), (.long (0 : Int64))])) (fun _ k => XS.land X1.here hx rfl (hb hby at_70) rfl k) ?_
      refine Go.of (T' := T1) (f' := (mkF m 72 #[.val (.long p1), .second, .val (.long p2), .second, .val (.long p3), .second, .val (.long p4), .second, .val (.long p5), .second, .val (.int p6), .val (.long (maxL (1 : Int64) (p1 &&& (9223372036854775807 : Int64)))), .second, .val (.long ((p2 &&& (2147483647 : Int64)) + (1 : Int64))), .second, .val (.long ((p5 &&& (9223372036854775807 : Int64)) % ((p2 &&& (2147483647 : Int64)) + (1 : Int64)))), .second, .val (.long (p3 &&& (65535 : Int64))), .second, .unset, .unset, .unset, .unset, .unset] [(.long ((maxL (1 : Int64) (p1 &&& (9223372036854775807 : Int64))) - (p4 &&& (65535 : Int64)))), (.long (0 : Int64))])) (fun _ k => XS.lsub X1.here hx rfl (hb hby at_71) rfl k) ?_
      refine goS X1 hx hZ hown (hw _ (List.mem_of_getElem? (i := 1) rfl)) (hw _ (List.mem_of_getElem? (i := 2) rfl)) (hw _ (List.mem_of_getElem? (i := 3) rfl)) (hw _ (List.mem_of_getElem? (i := 4) rfl)) (by decide) (C := 0) (S := 0) ((rm_max l Z a0 hw (0 : Int64) ((maxL (1 : Int64) (p1 &&& (9223372036854775807 : Int64))) - (p4 &&& (65535 : Int64))) h0 ).bk (W := 0) hZ (hw _ (List.mem_of_getElem? (i := 4) rfl)) (hw _ (List.mem_of_getElem? (i := 3) rfl)) (by decide) (by decide)) e1 (argsL := [(.long (0 : Int64)), (.long ((maxL (1 : Int64) (p1 &&& (9223372036854775807 : Int64))) - (p4 &&& (65535 : Int64))))]) (rest := []) (by rw [hml]; rfl) (lenOf pd__JJ_J rfl) rfl rfl (hb hby at_72) (Nat.le_of_eq rfl) (by decide) (by decide) ?_
      intro v15 T15 L15 X15 hQ15
      obtain ⟨nq15, e15, rfl⟩ := hQ15
      replace X15 := standNil X15 nq15
      show Go p e below P T15 (mkF m 75 #[.val (.long p1), .second, .val (.long p2), .second, .val (.long p3), .second, .val (.long p4), .second, .val (.long p5), .second, .val (.int p6), .val (.long (maxL (1 : Int64) (p1 &&& (9223372036854775807 : Int64)))), .second, .val (.long ((p2 &&& (2147483647 : Int64)) + (1 : Int64))), .second, .val (.long ((p5 &&& (9223372036854775807 : Int64)) % ((p2 &&& (2147483647 : Int64)) + (1 : Int64)))), .second, .val (.long (p3 &&& (65535 : Int64))), .second, .unset, .unset, .unset, .unset, .unset] [(.long (maxL (0 : Int64) ((maxL (1 : Int64) (p1 &&& (9223372036854775807 : Int64))) - (p4 &&& (65535 : Int64)))))])
      refine Go.of (T' := T15) (f' := (mkF m 84 #[.val (.long p1), .second, .val (.long p2), .second, .val (.long p3), .second, .val (.long p4), .second, .val (.long p5), .second, .val (.int p6), .val (.long (maxL (1 : Int64) (p1 &&& (9223372036854775807 : Int64)))), .second, .val (.long ((p2 &&& (2147483647 : Int64)) + (1 : Int64))), .second, .val (.long ((p5 &&& (9223372036854775807 : Int64)) % ((p2 &&& (2147483647 : Int64)) + (1 : Int64)))), .second, .val (.long (p3 &&& (65535 : Int64))), .second, .unset, .unset, .unset, .unset, .unset] [(.long (maxL (0 : Int64) ((maxL (1 : Int64) (p1 &&& (9223372036854775807 : Int64))) - (p4 &&& (65535 : Int64)))))])) (fun _ k => XS.goto X15.here hx rfl (pc0 := 75) (pc' := 84) rfl (hb hby at_75) (by decide) (by decide) k) ?_
      refine Go.of (T' := T15) (f' := (mkF m 86 #[.val (.long p1), .second, .val (.long p2), .second, .val (.long p3), .second, .val (.long p4), .second, .val (.long p5), .second, .val (.int p6), .val (.long (maxL (1 : Int64) (p1 &&& (9223372036854775807 : Int64)))), .second, .val (.long ((p2 &&& (2147483647 : Int64)) + (1 : Int64))), .second, .val (.long ((p5 &&& (9223372036854775807 : Int64)) % ((p2 &&& (2147483647 : Int64)) + (1 : Int64)))), .second, .val (.long (p3 &&& (65535 : Int64))), .second, .val (.long (maxL (0 : Int64) ((maxL (1 : Int64) (p1 &&& (9223372036854775807 : Int64))) - (p4 &&& (65535 : Int64))))), .second, .unset, .unset, .unset] [])) (fun _ k => XS.lstore X15.here hx rfl (hb hby at_84) rfl (l' := #[.val (.long p1), .second, .val (.long p2), .second, .val (.long p3), .second, .val (.long p4), .second, .val (.long p5), .second, .val (.int p6), .val (.long (maxL (1 : Int64) (p1 &&& (9223372036854775807 : Int64)))), .second, .val (.long ((p2 &&& (2147483647 : Int64)) + (1 : Int64))), .second, .val (.long ((p5 &&& (9223372036854775807 : Int64)) % ((p2 &&& (2147483647 : Int64)) + (1 : Int64)))), .second, .val (.long (p3 &&& (65535 : Int64))), .second, .val (.long (maxL (0 : Int64) ((maxL (1 : Int64) (p1 &&& (9223372036854775807 : Int64))) - (p4 &&& (65535 : Int64))))), .second, .unset, .unset, .unset]) rfl k) ?_
      have hl : (0 : Int64) < (maxL (1 : Int64) (p1 &&& (9223372036854775807 : Int64))) := max1_pos _
      have hwn := win_ok p2
      have hel := rem_ok p5 _ hwn.1
      have hpv : ¬ (p3 &&& (65535 : Int64)) < (0 : Int64) := mask_nn _ _ (by decide)
      have hcu : ¬ (maxL (0 : Int64) ((maxL (1 : Int64) (p1 &&& (9223372036854775807 : Int64))) - (p4 &&& (65535 : Int64)))) < (0 : Int64) := max0_nn _
      generalize (maxL (0 : Int64) ((maxL (1 : Int64) (p1 &&& (9223372036854775807 : Int64))) - (p4 &&& (65535 : Int64)))) = cu at *
      generalize (p3 &&& (65535 : Int64)) = pv at *
      generalize (maxL (1 : Int64) (p1 &&& (9223372036854775807 : Int64))) = lim at *
      generalize ((p5 &&& (9223372036854775807 : Int64)) % ((p2 &&& (2147483647 : Int64)) + (1 : Int64))) = elp at *
      generalize ((p2 &&& (2147483647 : Int64)) + (1 : Int64)) = win at *
      have hG : Good lim win pv cu elp := ⟨hl, hwn.1, hpv, hcu, hel.1, hel.2⟩
      obtain ⟨T16, h16, X16, e16, E16, A16, D16, -, st16⟩ := newO X15 hx hZ hown (hw _ (List.mem_of_getElem? (i := 7) rfl)) (hw _ (List.mem_of_getElem? (i := 8) rfl)) (hw _ (List.mem_of_getElem? (i := 9) rfl)) e15 (g := (mkF m 86 #[.val (.long p1), .second, .val (.long p2), .second, .val (.long p3), .second, .val (.long p4), .second, .val (.long p5), .second, .val (.int p6), .val (.long lim), .second, .val (.long win), .second, .val (.long elp), .second, .val (.long pv), .second, .val (.long cu), .second, .unset, .unset, .unset] [])) rfl (hb hby at_86) (by decide) (by decide)
      obtain ⟨b16, g16⟩ : ∃ z, z = h0.size := ⟨_, rfl⟩
      rw [← g16] at A16 D16 st16
      have fr_b16 : h0.size ≤ b16 := Nat.le_trans M0.le (Nat.le_of_eq g16.symm)
      have K16 := keepE E16
      have M16 := M0.ext E16
      have E_b16 := A16
      have F_limit_b16 : Fld Z h16 b16 "com/example/sluiced/sluiced/limiter/SlidingWindowCounter" "limit" "J" (.long (0 : Int64)) := D16 (Or.inr (hw _ (List.mem_of_getElem? (i := 22) rfl))) (ty := .long) (by decide)
      have F_window_b16 : Fld Z h16 b16 "com/example/sluiced/sluiced/limiter/SlidingWindowCounter" "window" "J" (.long (0 : Int64)) := D16 (Or.inr (hw _ (List.mem_of_getElem? (i := 24) rfl))) (ty := .long) (by decide)
      refine Go.of (T' := T16) (f' := (mkF m 89 #[.val (.long p1), .second, .val (.long p2), .second, .val (.long p3), .second, .val (.long p4), .second, .val (.long p5), .second, .val (.int p6), .val (.long lim), .second, .val (.long win), .second, .val (.long elp), .second, .val (.long pv), .second, .val (.long cu), .second, .unset, .unset, .unset] [(.ref b16)])) st16 ?_
      refine Go.of (T' := T16) (f' := (mkF m 90 #[.val (.long p1), .second, .val (.long p2), .second, .val (.long p3), .second, .val (.long p4), .second, .val (.long p5), .second, .val (.int p6), .val (.long lim), .second, .val (.long win), .second, .val (.long elp), .second, .val (.long pv), .second, .val (.long cu), .second, .unset, .unset, .unset] [(.ref b16), (.ref b16)])) (fun _ k => XS.dup X16.here hx rfl (hb hby at_89) rfl rfl k) ?_
      refine Go.of (T' := T16) (f' := (mkF m 92 #[.val (.long p1), .second, .val (.long p2), .second, .val (.long p3), .second, .val (.long p4), .second, .val (.long p5), .second, .val (.int p6), .val (.long lim), .second, .val (.long win), .second, .val (.long elp), .second, .val (.long pv), .second, .val (.long cu), .second, .unset, .unset, .unset] [(.long lim), (.ref b16), (.ref b16)])) (fun _ k => XS.lload X16.here hx rfl (hb hby at_90) rfl k) ?_
      refine Go.of (T' := T16) (f' := (mkF m 94 #[.val (.long p1), .second, .val (.long p2), .second, .val (.long p3), .second, .val (.long p4), .second, .val (.long p5), .second, .val (.int p6), .val (.long lim), .second, .val (.long win), .second, .val (.long elp), .second, .val (.long pv), .second, .val (.long cu), .second, .unset, .unset, .unset] [(.long win), (.long lim), (.ref b16), (.ref b16)])) (fun _ k => XS.lload X16.here hx rfl (hb hby at_92) rfl k) ?_
      refine goI X16 hx hZ rfl hown (hw _ (List.mem_of_getElem? (i := 10) rfl)) (hw _ (List.mem_of_getElem? (i := 11) rfl)) (hw _ (List.mem_of_getElem? (i := 12) rfl)) (by decide) (C := 0) (S := 0) ((rm_new l Z a0 hw b16 lim win h16 E_b16 F_limit_b16 F_window_b16 hl hwn.1).bk (W := 1) hZ (hw _ (List.mem_of_getElem? (i := 12) rfl)) (hw _ (List.mem_of_getElem? (i := 9) rfl)) (by decide) (by decide)) e16 (argsL := [(.long lim), (.long win)]) (rest := [(.ref b16)]) (by rw [hml]; rfl) (lenOf pd__JJ_V rfl) rfl rfl (hb hby at_94) (Nat.le_of_eq rfl) (by decide) (by decide) ?_
      intro v17 T17 L17 X17 hQ17
      obtain ⟨h17, e17⟩ : ∃ z, T17.heap = z := ⟨_, rfl⟩
      rw [e17] at hQ17
      obtain ⟨rfl, Mc17, Ec17, Fc17, Gc17⟩ := hQ17
      have M17 := M16.app Mc17 (allS (Or.inr fr_b16) all0)
      replace E_b16 := Ec17
      replace F_limit_b16 := Fc17
      replace F_window_b16 := Gc17
      show Go p e below P T17 (mkF m 97 #[.val (.long p1), .second, .val (.long p2), .second, .val (.long p3), .second, .val (.long p4), .second, .val (.long p5), .second, .val (.int p6), .val (.long lim), .second, .val (.long win), .second, .val (.long elp), .second, .val (.long pv), .second, .val (.long cu), .second, .unset, .unset, .unset] [(.ref b16)])
      refine Go.of (T' := T17) (f' := (mkF m 99 #[.val (.long p1), .second, .val (.long p2), .second, .val (.long p3), .second, .val (.long p4), .second, .val (.long p5), .second, .val (.int p6), .val (.long lim), .second, .val (.long win), .second, .val (.long elp), .second, .val (.long pv), .second, .val (.long cu), .second, .val (.ref b16), .unset, .unset] [])) (fun _ k => XS.astore X17.here hx rfl (hb hby at_97) rfl rfl (l' := #[.val (.long p1), .second, .val (.long p2), .second, .val (.long p3), .second, .val (.long p4), .second, .val (.long p5), .second, .val (.int p6), .val (.long lim), .second, .val (.long win), .second, .val (.long elp), .second, .val (.long pv), .second, .val (.long cu), .second, .val (.ref b16), .unset, .unset]) rfl k) ?_
      refine Go.of (T' := T17) (f' := (mkF m 101 #[.val (.long p1), .second, .val (.long p2), .second, .val (.long p3), .second, .val (.long p4), .second, .val (.long p5), .second, .val (.int p6), .val (.long lim), .second, .val (.long win), .second, .val (.long elp), .second, .val (.long pv), .second, .val (.long cu), .second, .val (.ref b16), .unset, .unset] [(.ref b16)])) (fun _ k => XS.aload X17.here hx rfl (hb hby at_99) rfl rfl k) ?_
      refine Go.of (T' := T17) (f' := (mkF m 103 #[.val (.long p1), .second, .val (.long p2), .second, .val (.long p3), .second, .val (.long p4), .second, .val (.long p5), .second, .val (.int p6), .val (.long lim), .second, .val (.long win), .second, .val (.long elp), .second, .val (.long pv), .second, .val (.long cu), .second, .val (.ref b16), .unset, .unset] [(.long pv), (.ref b16)])) (fun _ k => XS.lload X17.here hx rfl (hb hby at_101) rfl k) ?_
      refine Go.of (T' := T17) (f' := (mkF m 105 #[.val (.long p1), .second, .val (.long p2), .second, .val (.long p3), .second, .val (.long p4), .second, .val (.long p5), .second, .val (.int p6), .val (.long lim), .second, .val (.long win), .second, .val (.long elp), .second, .val (.long pv), .second, .val (.long cu), .second, .val (.ref b16), .unset, .unset] [(.long cu), (.long pv), (.ref b16)])) (fun _ k => XS.lload X17.here hx rfl (hb hby at_103) rfl k) ?_
      refine Go.of (T' := T17) (f' := (mkF m 107 #[.val (.long p1), .second, .val (.long p2), .second, .val (.long p3), .second, .val (.long p4), .second, .val (.long p5), .second, .val (.int p6), .val (.long lim), .second, .val (.long win), .second, .val (.long elp), .second, .val (.long pv), .second, .val (.long cu), .second, .val (.ref b16), .unset, .unset] [(.long elp), (.long cu), (.long pv), (.ref b16)])) (fun _ k => XS.lload X17.here hx rfl (hb hby at_105) rfl k) ?_
      refine goV X17 hx hZ (y := (⟨"com/example/sluiced/sluiced/limiter/SlidingWindowCounter", "remaining", "(JJJ)J"⟩ : MethodName)) (z := (⟨"com/example/sluiced/sluiced/limiter/SlidingWindowCounter", "remaining", "(JJJ)J"⟩ : MethodName)) hown (hw _ (List.mem_of_getElem? (i := 25) rfl)) (hw _ (List.mem_of_getElem? (i := 26) rfl)) (notFace_of_selects (args := #[]) (mvT hZ (hw _ (List.mem_of_getElem? (i := 28) rfl)))) (hw _ (List.mem_of_getElem? (i := 28) rfl)) (hw _ (List.mem_of_getElem? (i := 27) rfl)) (by decide) (C := 0) (S := 0) ((rm_remaining l Z a0 hw b16 pv cu elp lim win h17 F_limit_b16 F_window_b16 E_b16 hG).bk (W := 0) hZ (hw _ (List.mem_of_getElem? (i := 29) rfl)) (hw _ (List.mem_of_getElem? (i := 9) rfl)) (by decide) (by decide)) e17 E_b16 (argsL := [(.long pv), (.long cu), (.long elp)]) (rest := []) (by rw [hml]; rfl) (lenOf pd__JJJ_J rfl) rfl rfl (hb hby at_107) (Nat.le_of_eq rfl) (by decide) (by decide) ?_
      intro v18 T18 L18 X18 hQ18
      obtain ⟨nq18, e18, rr18, rfl, hr18⟩ := hQ18
      replace X18 := standNil X18 nq18
      show Go p e below P T18 (mkF m 110 #[.val (.long p1), .second, .val (.long p2), .second, .val (.long p3), .second, .val (.long p4), .second, .val (.long p5), .second, .val (.int p6), .val (.long lim), .second, .val (.long win), .second, .val (.long elp), .second, .val (.long pv), .second, .val (.long cu), .second, .val (.ref b16), .unset, .unset] [(.long rr18)])
      refine Go.of (T' := T18) (f' := (mkF m 112 #[.val (.long p1), .second, .val (.long p2), .second, .val (.long p3), .second, .val (.long p4), .second, .val (.long p5), .second, .val (.int p6), .val (.long lim), .second, .val (.long win), .second, .val (.long elp), .second, .val (.long pv), .second, .val (.long cu), .second, .val (.ref b16), .val (.long rr18), .second] [])) (fun _ k => XS.lstore X18.here hx rfl (hb hby at_110) rfl (l' := #[.val (.long p1), .second, .val (.long p2), .second, .val (.long p3), .second, .val (.long p4), .second, .val (.long p5), .second, .val (.int p6), .val (.long lim), .second, .val (.long win), .second, .val (.long elp), .second, .val (.long pv), .second, .val (.long cu), .second, .val (.ref b16), .val (.long rr18), .second]) rfl k) ?_
      refine Go.of (T' := T18) (f' := (mkF m 114 #[.val (.long p1), .second, .val (.long p2), .second, .val (.long p3), .second, .val (.long p4), .second, .val (.long p5), .second, .val (.int p6), .val (.long lim), .second, .val (.long win), .second, .val (.long elp), .second, .val (.long pv), .second, .val (.long cu), .second, .val (.ref b16), .val (.long rr18), .second] [(.long rr18)])) (fun _ k => XS.lload X18.here hx rfl (hb hby at_112) rfl k) ?_
      refine Go.of (T' := T18) (f' := (mkF m 116 #[.val (.long p1), .second, .val (.long p2), .second, .val (.long p3), .second, .val (.long p4), .second, .val (.long p5), .second, .val (.int p6), .val (.long lim), .second, .val (.long win), .second, .val (.long elp), .second, .val (.long pv), .second, .val (.long cu), .second, .val (.ref b16), .val (.long rr18), .second] [(.long lim), (.long rr18)])) (fun _ k => XS.lload X18.here hx rfl (hb hby at_114) rfl k) ?_
      refine Go.of (T' := T18) (f' := (mkF m 118 #[.val (.long p1), .second, .val (.long p2), .second, .val (.long p3), .second, .val (.long p4), .second, .val (.long p5), .second, .val (.int p6), .val (.long lim), .second, .val (.long win), .second, .val (.long elp), .second, .val (.long pv), .second, .val (.long cu), .second, .val (.ref b16), .val (.long rr18), .second] [(.long win), (.long lim), (.long rr18)])) (fun _ k => XS.lload X18.here hx rfl (hb hby at_116) rfl k) ?_
      refine Go.of (T' := T18) (f' := (mkF m 120 #[.val (.long p1), .second, .val (.long p2), .second, .val (.long p3), .second, .val (.long p4), .second, .val (.long p5), .second, .val (.int p6), .val (.long lim), .second, .val (.long win), .second, .val (.long elp), .second, .val (.long pv), .second, .val (.long cu), .second, .val (.ref b16), .val (.long rr18), .second] [(.long pv), (.long win), (.long lim), (.long rr18)])) (fun _ k => XS.lload X18.here hx rfl (hb hby at_118) rfl k) ?_
      refine Go.of (T' := T18) (f' := (mkF m 122 #[.val (.long p1), .second, .val (.long p2), .second, .val (.long p3), .second, .val (.long p4), .second, .val (.long p5), .second, .val (.int p6), .val (.long lim), .second, .val (.long win), .second, .val (.long elp), .second, .val (.long pv), .second, .val (.long cu), .second, .val (.ref b16), .val (.long rr18), .second] [(.long cu), (.long pv), (.long win), (.long lim), (.long rr18)])) (fun _ k => XS.lload X18.here hx rfl (hb hby at_120) rfl k) ?_
      refine Go.of (T' := T18) (f' := (mkF m 124 #[.val (.long p1), .second, .val (.long p2), .second, .val (.long p3), .second, .val (.long p4), .second, .val (.long p5), .second, .val (.int p6), .val (.long lim), .second, .val (.long win), .second, .val (.long elp), .second, .val (.long pv), .second, .val (.long cu), .second, .val (.ref b16), .val (.long rr18), .second] [(.long elp), (.long cu), (.long pv), (.long win), (.long lim), (.long rr18)])) (fun _ k => XS.lload X18.here hx rfl (hb hby at_122) rfl k) ?_
      refine goS X18 hx hZ hown (hw _ (List.mem_of_getElem? (i := 34) rfl)) (hw _ (List.mem_of_getElem? (i := 35) rfl)) (hw _ (List.mem_of_getElem? (i := 36) rfl)) (hw _ (List.mem_of_getElem? (i := 37) rfl)) (by decide) (C := 0) (S := 0) ((rm_expected l Z a0 hw lim win pv cu elp h17 hG.2.1).bk (W := 2) hZ (hw _ (List.mem_of_getElem? (i := 37) rfl)) (hw _ (List.mem_of_getElem? (i := 36) rfl)) (by decide) (by decide)) e18 (argsL := [(.long lim), (.long win), (.long pv), (.long cu), (.long elp)]) (rest := [(.long rr18)]) (by rw [hml]; rfl) (lenOf pd__JJJJJ_J rfl) rfl rfl (hb hby at_124) (Nat.le_of_eq rfl) (by decide) (by decide) ?_
      intro v19 T19 L19 X19 hQ19
      obtain ⟨nq19, e19, rfl⟩ := hQ19
      replace X19 := standNil X19 nq19
      show Go p e below P T19 (mkF m 127 #[.val (.long p1), .second, .val (.long p2), .second, .val (.long p3), .second, .val (.long p4), .second, .val (.long p5), .second, .val (.int p6), .val (.long lim), .second, .val (.long win), .second, .val (.long elp), .second, .val (.long pv), .second, .val (.long cu), .second, .val (.ref b16), .val (.long rr18), .second] [(.long (expd lim win pv cu elp)), (.long rr18)])
      refine Go.of (T' := T19) (f' := (mkF m 128 #[.val (.long p1), .second, .val (.long p2), .second, .val (.long p3), .second, .val (.long p4), .second, .val (.long p5), .second, .val (.int p6), .val (.long lim), .second, .val (.long win), .second, .val (.long elp), .second, .val (.long pv), .second, .val (.long cu), .second, .val (.ref b16), .val (.long rr18), .second] [(.int (lcmpW rr18 (expd lim win pv cu elp)))])) (fun _ k => XS.lcmp X19.here hx rfl (hb hby at_127) rfl k) ?_
      have hc128 : rr18 = (expd lim win pv cu elp) := expd_eq hG hwn.2 hr18
      refine Go.of (T' := T19) (f' := (mkF m 131 #[.val (.long p1), .second, .val (.long p2), .second, .val (.long p3), .second, .val (.long p4), .second, .val (.long p5), .second, .val (.int p6), .val (.long lim), .second, .val (.long win), .second, .val (.long elp), .second, .val (.long pv), .second, .val (.long cu), .second, .val (.ref b16), .val (.long rr18), .second] [])) (fun _ k => XS.ifNo X19.here hx rfl (hb hby at_128) rfl ((if0 _ _).trans (teq ((lw_eq _ _).mpr hc128)).2) k) ?_
      refine Go.of (T' := T19) (f' := (mkF m 132 #[.val (.long p1), .second, .val (.long p2), .second, .val (.long p3), .second, .val (.long p4), .second, .val (.long p5), .second, .val (.int p6), .val (.long lim), .second, .val (.long win), .second, .val (.long elp), .second, .val (.long pv), .second, .val (.long cu), .second, .val (.ref b16), .val (.long rr18), .second] [(.int (1 : Int32))])) (fun _ k => XS.iconst X19.here hx rfl (hb hby at_131) k) ?_
      refine Go.of (T' := T19) (f' := (mkF m 136 #[.val (.long p1), .second, .val (.long p2), .second, .val (.long p3), .second, .val (.long p4), .second, .val (.long p5), .second, .val (.int p6), .val (.long lim), .second, .val (.long win), .second, .val (.long elp), .second, .val (.long pv), .second, .val (.long cu), .second, .val (.ref b16), .val (.long rr18), .second] [(.int (1 : Int32))])) (fun _ k => XS.goto X19.here hx rfl (pc0 := 132) (pc' := 136) rfl (hb hby at_132) (by decide) (by decide) k) ?_
      exact goRetI (Q := fun v h L => v = some (.int 1) ∧ Mv h0 h [] L) X19 hx (t := .boolean) hret hlk rfl (by simp) (hb hby at_136) K (by decide) (by decide) e19 (⟨rfl, M17⟩)
set_option maxRecDepth 65536 in
set_option maxHeartbeats 40000000 in
theorem comes_1 {Post : Tables → Env → Array Value → State → Outcome → State → Prop} (hpost : ∀ tb e args s v u, (limb_1_1.after args s (.returned v) u = true ∧ limb_1_2.after args s (.returned v) u = true ∧ True) → FrameEnd s (.returned v) u (Jvm.fieldLocs frame_1_writes args s ++ Jvm.arrayLocs frame_1_arrays args s ++ Jvm.staticLocs frame_1_statics s) 16 128 → Post tb e args s (.returned v) u) :
    ArmFor flags0 classFile x code maxLocals ret World_1 tables_1 room_1 Calls_1 rest_1 Pre_1 Post := by
  intro l hfl _ _ p e ha hc hk s m args below hf hA hF happ hP
  obtain ⟨hcalls, hrest, hpre⟩ := hP
  obtain ⟨-, -, -, hnamed, -, -, -, hat⟩ := (Spec.applies_iff hf).mp happ
  obtain ⟨hg, hn⟩ := and_e (Cond.before_iff.mp (show (Jvm.Cond.and given_1 narrow_1).before args s = true from hpre))
  obtain ⟨g1, g2⟩ := and_e hg
  obtain ⟨g3, g4⟩ := and_e g2
  obtain ⟨g5, g6⟩ := and_e g4
  obtain ⟨g7, g8⟩ := and_e g6
  obtain ⟨g9, g10⟩ := and_e g8
  obtain ⟨g11, g12⟩ := and_e g10
  obtain ⟨w0, w1, w2, w3, w4, w5, rfl⟩ : ∃ w0 w1 w2 w3 w4 w5 : Value, args = #[w0, w1, w2, w3, w4, w5] := by
    have hs : args.size = 6 := by simpa [Cond.value, given_1] using g1
    obtain ⟨L⟩ := args
    match L, hs with
    | [w0, w1, w2, w3, w4, w5], _ => exact ⟨w0, w1, w2, w3, w4, w5, rfl⟩
  have hw := fun d (hd : d ∈ tables_1) => atoms_spec (ws := Jvm.Cond.code x code maxLocals ret :: tables_1) hat d (List.mem_cons_of_mem _ hd)
  have hfit : Fit s := fun {y c} hc i hi => by
    obtain ⟨ha, rfl⟩ := Array.getElem?_eq_some_iff.mp hc
    have q := List.all_eq_true.mp ((Array.all_eq_true_iff_forall_mem.mp hF) _ (Array.getElem_mem ha)) i (List.mem_range.mpr hi)
    simpa [Array.getElem?_eq_getElem hi] using q
  obtain ⟨i0, ei0⟩ := isL_v g3
  obtain rfl : w0 = (.long i0) := Option.some.inj ei0
  obtain ⟨i1, ei1⟩ := isL_v g5
  obtain rfl : w1 = (.long i1) := Option.some.inj ei1
  obtain ⟨i2, ei2⟩ := isL_v g7
  obtain rfl : w2 = (.long i2) := Option.some.inj ei2
  obtain ⟨i3, ei3⟩ := isL_v g9
  obtain rfl : w3 = (.long i3) := Option.some.inj ei3
  obtain ⟨i4, ei4⟩ := isL_v g11
  obtain rfl : w4 = (.long i4) := Option.some.inj ei4
  obtain ⟨i5, ei5⟩ := is_v g12
  obtain rfl : w5 = (.int i5) := Option.some.inj ei5
  obtain ⟨n, o, h1, h2, h3, _, L, rfl, ⟨rfl, M⟩, hq⟩ := rm_law l s _ hw i0 i1 i2 i3 i4 i5  s.heap  tables_1 p e ha hc hk s m _ below hf ((Spec.applies_iff_loose hf).mp happ).1 ⟨rfl, State.Warmed39.refl s, rfl⟩ trivial
  refine ⟨n, _, h1, h2, h3, hpost _ _ _ _ _ _ ⟨Cond.after_iff.mpr rfl, Cond.after_iff.mpr (eq_i res_at (Term.int_eval (1)) rfl), trivial⟩ ⟨hq.1, hq.2.1, (hq.2.2.sift fun y hy => Or.inr (M.fr y hy)).mono (by decide) (by decide)⟩⟩
theorem main_1_1 : Claimed_1_1 := comes_1 fun _ _ _ _ _ _ h hF => ⟨h.1, hF⟩
theorem main_1_2 : Claimed_1_2 := comes_1 fun _ _ _ _ _ _ h hF => ⟨h.2.1, hF⟩
end Jvm.Pilot.@@N@@
namespace Jvm.Pilot.@@N@@
open Jvm Jvm.ClassFile Sem Op Lib Jvm.Free Jvm.Stand Jvm.Pilot.@@N@@.Jvm.D
/-! MADE BY PROGRAM (witnessworld.py) out of the Statement's table words and the real class files: 16 classes; the members and pool entries that the words name. The judged class is class 1, her method 1. -/
namespace start1
open Jvm.ClassFile
def u (s : String) : CpInfo := .utf8 (stringToUtf16 s)
/-- a pool by its gaps: so many unusable entries, then the entry; so many at the end -/
def gap : Nat → List CpInfo → List CpInfo
  | 0, r => r
  | n + 1, r => .unusable :: gap n r
def poolList (es : List (Nat × CpInfo)) (last : Nat) : List CpInfo := es.foldr (fun e r => gap e.1 (e.2 :: r)) (gap last [])
def pool (es : List (Nat × CpInfo)) (last : Nat) : Array CpInfo := ⟨poolList es last⟩
def fileOf (pool : Array CpInfo) (this : Nat) (attrs : Array Attribute := #[]) (ms : Array MethodInfo := #[]) (fl : Nat := 33) (sup : Nat := 0) (ifs : Array Nat := #[]) (fds : Array FieldInfo := #[]) : ClassFile where
  minorVersion := 0
  majorVersion := 65
  constantPool := pool
  accessFlags := fl
  thisClass := this
  superClass := sup
  interfaces := ifs
  fields := fds
  methods := ms
  attributes := attrs
def plain (name : String) (sup : Option ClassId) : Class where
  name := name
  kind := .ordinary
  loader := none
  accessFlags := 33
  super := sup
  interfaces := #[]
  cf := none
  fields := #[]
  methods := #[]
  instanceTypes := #[]
  staticTypes := #[]
  resolved := #[]
  callSites := []
  init := .initialized
  statics := none
  mirror := none

def pool0 : Array CpInfo := pool [(5, u "<init>"), (0, u "()V"), (1, .class_ 10), (1, u "java/lang/Object")] 113

def k0c0 : Code := { maxStack := 0, maxLocals := 1, code := object_method_1_code, exceptionTable := #[], attributes := #[] }
def k0m0 : Method := { name := "<init>", desc := "()V", sig := { parameters := [], returnType := none }, accessFlags := 1, code := some k0c0 }
/-- java/lang/Object -/
def k0 : Class := { plain "java/lang/Object" none with
  accessFlags := 33
  interfaces := #[]
  cf := some (fileOf pool0 8 #[] #[{ accessFlags := 1, nameIndex := 5, descriptorIndex := 6, attributes := #[] }] 33 0 #[] #[])
  fields := #[]
  methods := #[k0m0]
  instanceTypes := #[]
  staticTypes := #[]
  resolved := Array.replicate 124 none
  statics := none }

def pool1 : Array CpInfo := pool [(2, .class_ 4), (1, u "java/lang/Object"), (0, u "<init>"), (0, u "()V"), (2, .long 9223372036854775807), (1, .methodref 12 13), (0, .class_ 14), (0, .nameAndType 15 16), (0, u "java/lang/Math"), (0, u "max"), (0, u "(JJ)J"), (0, .long 2147483647), (1, .long 65535), (1, .class_ 22), (0, u "com/example/sluiced/sluiced/limiter/SlidingWindowCounter"), (0, .methodref 21 24), (0, .nameAndType 5 25), (0, u "(JJ)V"), (0, .methodref 21 27), (0, .nameAndType 28 29), (0, u "remaining"), (0, u "(JJJ)J"), (0, .methodref 31 32), (0, .class_ 33), (0, .nameAndType 34 35), (0, u "com/example/sluiced/sluiced/limiter/SlidingWindowCounterRemainingPinLaw"), (0, u "expected"), (0, u "(JJJJJ)J"), (2, u "law"), (0, u "(JJJJJI)Z")] 3

def k1m0 : Method := { name := "<init>", desc := "()V", sig := { parameters := [], returnType := none }, accessFlags := 1, code := none }
def k1c1 : Code := { maxStack := 12, maxLocals := 24, code := code, exceptionTable := #[], attributes := #[] }
def k1m1 : Method := { name := "law", desc := "(JJJJJI)Z", sig := { parameters := [.long, .long, .long, .long, .long, .int], returnType := some .boolean }, accessFlags := 9, code := some k1c1 }
def k1c2 : Code := { maxStack := 6, maxLocals := 18, code := method_3_code, exceptionTable := #[], attributes := #[] }
def k1m2 : Method := { name := "expected", desc := "(JJJJJ)J", sig := { parameters := [.long, .long, .long, .long, .long], returnType := some .long }, accessFlags := 10, code := some k1c2 }
/-- com/example/sluiced/sluiced/limiter/SlidingWindowCounterRemainingPinLaw -/
def k1 : Class := { plain "com/example/sluiced/sluiced/limiter/SlidingWindowCounterRemainingPinLaw" (some 0) with
  accessFlags := 49
  interfaces := #[]
  cf := some (fileOf pool1 31 #[] #[{ accessFlags := 1, nameIndex := 5, descriptorIndex := 6, attributes := #[] }, { accessFlags := 9, nameIndex := 38, descriptorIndex := 39, attributes := #[] }, { accessFlags := 10, nameIndex := 34, descriptorIndex := 35, attributes := #[] }] 49 2 #[] #[])
  fields := #[]
  methods := #[k1m0, k1m1, k1m2]
  instanceTypes := #[]
  staticTypes := #[]
  resolved := Array.replicate 43 none
  statics := none }

def pool2 : Array CpInfo := pool [(1, .class_ 2), (0, u "java/lang/Math"), (1, .class_ 6), (1, u "java/lang/Object"), (0, u "<init>"), (0, u "()V"), (89, .class_ 100), (1, u "java/lang/Math$RandomNumberGeneratorHolder"), (20, u "(JJ)J"), (16, .long 4294967295), (3, u "multiplyHigh"), (29, u "negativeZeroFloatBits"), (0, u "J"), (2, u "negativeZeroDoubleBits"), (21, u "max"), (46, u "$assertionsDisabled"), (0, u "Z"), (91, u "twoToTheDoubleScaleDown"), (0, u "D"), (4, u "twoToTheDoubleScaleUp"), (9, u "E"), (3, u "PI"), (2, u "TAU"), (2, u "DEGREES_TO_RADIANS"), (0, u "RADIANS_TO_DEGREES")] 94

def k2m0 : Method := { name := "<init>", desc := "()V", sig := { parameters := [], returnType := none }, accessFlags := 2, code := none }
def k2c1 : Code := { maxStack := 6, maxLocals := 20, code := jdk_29_method_45_code, exceptionTable := #[], attributes := #[] }
def k2m1 : Method := { name := "multiplyHigh", desc := "(JJ)J", sig := { parameters := [.long, .long], returnType := some .long }, accessFlags := 9, code := some k2c1 }
def k2c2 : Code := { maxStack := 4, maxLocals := 4, code := jdk_29_method_66_code, exceptionTable := #[], attributes := #[] }
def k2m2 : Method := { name := "max", desc := "(JJ)J", sig := { parameters := [.long, .long], returnType := some .long }, accessFlags := 9, code := some k2c2 }
/-- java/lang/Math -/
def k2 : Class := { plain "java/lang/Math" (some 0) with
  accessFlags := 49
  interfaces := #[]
  cf := some (fileOf pool2 1 #[.nestMembers #[98]] #[{ accessFlags := 2, nameIndex := 7, descriptorIndex := 8, attributes := #[] }, { accessFlags := 9, nameIndex := 142, descriptorIndex := 121, attributes := #[] }, { accessFlags := 9, nameIndex := 198, descriptorIndex := 121, attributes := #[] }] 49 4 #[] #[{ accessFlags := 25, nameIndex := 354, descriptorIndex := 339, attributes := #[] }, { accessFlags := 25, nameIndex := 358, descriptorIndex := 339, attributes := #[] }, { accessFlags := 25, nameIndex := 361, descriptorIndex := 339, attributes := #[] }, { accessFlags := 26, nameIndex := 364, descriptorIndex := 339, attributes := #[] }, { accessFlags := 26, nameIndex := 365, descriptorIndex := 339, attributes := #[] }, { accessFlags := 26, nameIndex := 172, descriptorIndex := 173, attributes := #[] }, { accessFlags := 26, nameIndex := 176, descriptorIndex := 173, attributes := #[] }, { accessFlags := 8, nameIndex := 344, descriptorIndex := 339, attributes := #[] }, { accessFlags := 8, nameIndex := 338, descriptorIndex := 339, attributes := #[] }, { accessFlags := 4120, nameIndex := 245, descriptorIndex := 246, attributes := #[] }])
  fields := #[{ name := "E", type := .double, accessFlags := 25, slot := 0, constantValue := 0 }, { name := "PI", type := .double, accessFlags := 25, slot := 1, constantValue := 0 }, { name := "TAU", type := .double, accessFlags := 25, slot := 2, constantValue := 0 }, { name := "DEGREES_TO_RADIANS", type := .double, accessFlags := 26, slot := 3, constantValue := 0 }, { name := "RADIANS_TO_DEGREES", type := .double, accessFlags := 26, slot := 4, constantValue := 0 }, { name := "negativeZeroFloatBits", type := .long, accessFlags := 26, slot := 5, constantValue := 0 }, { name := "negativeZeroDoubleBits", type := .long, accessFlags := 26, slot := 6, constantValue := 0 }, { name := "twoToTheDoubleScaleUp", type := .double, accessFlags := 8, slot := 7, constantValue := 0 }, { name := "twoToTheDoubleScaleDown", type := .double, accessFlags := 8, slot := 8, constantValue := 0 }, { name := "$assertionsDisabled", type := .boolean, accessFlags := 4120, slot := 9, constantValue := 0 }]
  methods := #[k2m0, k2m1, k2m2]
  instanceTypes := #[]
  staticTypes := #[.double, .double, .double, .double, .double, .long, .long, .double, .double, .boolean]
  resolved := Array.replicate 460 none
  statics := none }

def pool3 : Array CpInfo := pool [(1, .methodref 2 3), (0, .class_ 4), (0, .nameAndType 5 6), (0, u "java/lang/Object"), (0, u "<init>"), (0, u "()V"), (0, .class_ 8), (0, u "java/lang/Record")] 13

def k3c0 : Code := { maxStack := 1, maxLocals := 1, code := jdk_30_method_1_code, exceptionTable := #[], attributes := #[] }
def k3m0 : Method := { name := "<init>", desc := "()V", sig := { parameters := [], returnType := none }, accessFlags := 4, code := some k3c0 }
/-- java/lang/Record -/
def k3 : Class := { plain "java/lang/Record" (some 0) with
  accessFlags := 1057
  interfaces := #[]
  cf := some (fileOf pool3 7 #[] #[{ accessFlags := 4, nameIndex := 5, descriptorIndex := 6, attributes := #[] }] 1057 2 #[] #[])
  fields := #[]
  methods := #[k3m0]
  instanceTypes := #[]
  staticTypes := #[]
  resolved := Array.replicate 22 none
  statics := none }

def pool4 : Array CpInfo := pool [(1, .methodref 2 3), (0, .class_ 4), (0, .nameAndType 5 6), (0, u "java/lang/Record"), (0, u "<init>"), (0, u "()V"), (10, .fieldref 18 19), (0, .class_ 20), (0, .nameAndType 21 22), (0, u "com/example/sluiced/sluiced/limiter/SlidingWindowCounter"), (0, u "limit"), (0, u "J"), (0, .fieldref 18 24), (0, .nameAndType 25 22), (0, u "window"), (0, .methodref 18 27), (0, .nameAndType 28 29), (0, u "checkArguments"), (0, u "(JJJ)V"), (0, .methodref 18 31), (0, .nameAndType 32 33), (0, u "weighsWithinLimit"), (0, u "(JJJ)Z"), (3, u "(JJJ)J"), (1, .class_ 41), (1, u "java/lang/Math"), (1, u "(JJ)J"), (0, .long 2), (5, .methodref 18 51), (0, .nameAndType 52 53), (0, u "compareProducts"), (0, u "(JJJJ)I"), (0, .methodref 39 55), (0, .nameAndType 56 43), (0, u "multiplyHigh"), (0, .methodref 58 59), (0, .class_ 60), (0, .nameAndType 61 62), (0, u "java/lang/Long"), (0, u "compare"), (0, u "(JJ)I"), (0, .methodref 58 64), (0, .nameAndType 65 62), (0, u "compareUnsigned"), (12, u "(JJ)V"), (6, u "remaining")] 39

def k4c0 : Code := { maxStack := 4, maxLocals := 5, code := prog_19_method_1_code, exceptionTable := #[], attributes := #[] }
def k4m0 : Method := { name := "<init>", desc := "(JJ)V", sig := { parameters := [.long, .long], returnType := none }, accessFlags := 1, code := some k4c0 }
def k4c1 : Code := { maxStack := 7, maxLocals := 13, code := prog_19_method_4_code, exceptionTable := #[], attributes := #[] }
def k4m1 : Method := { name := "remaining", desc := "(JJJ)J", sig := { parameters := [.long, .long, .long], returnType := some .long }, accessFlags := 1, code := some k4c1 }
def k4c2 : Code := { maxStack := 6, maxLocals := 7, code := prog_19_method_5_code, exceptionTable := #[], attributes := #[] }
def k4m2 : Method := { name := "checkArguments", desc := "(JJJ)V", sig := { parameters := [.long, .long, .long], returnType := none }, accessFlags := 2, code := some k4c2 }
def k4c3 : Code := { maxStack := 8, maxLocals := 9, code := prog_19_method_6_code, exceptionTable := #[], attributes := #[] }
def k4m3 : Method := { name := "weighsWithinLimit", desc := "(JJJ)Z", sig := { parameters := [.long, .long, .long], returnType := some .boolean }, accessFlags := 2, code := some k4c3 }
def k4c4 : Code := { maxStack := 6, maxLocals := 12, code := prog_19_method_8_code, exceptionTable := #[], attributes := #[] }
def k4m4 : Method := { name := "compareProducts", desc := "(JJJJ)I", sig := { parameters := [.long, .long, .long, .long], returnType := some .int }, accessFlags := 10, code := some k4c4 }
/-- com/example/sluiced/sluiced/limiter/SlidingWindowCounter -/
def k4 : Class := { plain "com/example/sluiced/sluiced/limiter/SlidingWindowCounter" (some 3) with
  accessFlags := 49
  interfaces := #[]
  cf := some (fileOf pool4 18 #[] #[{ accessFlags := 1, nameIndex := 5, descriptorIndex := 78, attributes := #[] }, { accessFlags := 1, nameIndex := 85, descriptorIndex := 37, attributes := #[] }, { accessFlags := 2, nameIndex := 28, descriptorIndex := 29, attributes := #[] }, { accessFlags := 2, nameIndex := 32, descriptorIndex := 33, attributes := #[] }, { accessFlags := 10, nameIndex := 52, descriptorIndex := 53, attributes := #[] }] 49 2 #[] #[{ accessFlags := 18, nameIndex := 21, descriptorIndex := 22, attributes := #[] }, { accessFlags := 18, nameIndex := 25, descriptorIndex := 22, attributes := #[] }])
  fields := #[{ name := "limit", type := .long, accessFlags := 18, slot := 0, constantValue := 0 }, { name := "window", type := .long, accessFlags := 18, slot := 1, constantValue := 0 }]
  methods := #[k4m0, k4m1, k4m2, k4m3, k4m4]
  instanceTypes := #[.long, .long]
  staticTypes := #[]
  resolved := Array.replicate 125 none
  statics := none }

def pool5 : Array CpInfo := pool [(1, .class_ 2), (0, u "java/io/Serializable"), (0, .class_ 4), (0, u "java/lang/Object")] 2

/-- java/io/Serializable -/
def k5 : Class := { plain "java/io/Serializable" (some 0) with
  accessFlags := 1537
  interfaces := #[]
  cf := some (fileOf pool5 1 #[] #[] 1537 3 #[] #[])
  fields := #[]
  methods := #[]
  instanceTypes := #[]
  staticTypes := #[]
  resolved := Array.replicate 7 none
  statics := none }

def pool6 : Array CpInfo := pool [(2, .class_ 4), (1, u "java/lang/Object"), (0, u "<init>"), (0, u "()V"), (1, .class_ 10), (1, u "java/lang/Number"), (2, .class_ 14), (0, u "java/io/Serializable"), (0, u "serialVersionUID"), (0, u "J")] 20

def k6m0 : Method := { name := "<init>", desc := "()V", sig := { parameters := [], returnType := none }, accessFlags := 1, code := none }
/-- java/lang/Number -/
def k6 : Class := { plain "java/lang/Number" (some 0) with
  accessFlags := 1057
  interfaces := #[5]
  cf := some (fileOf pool6 8 #[] #[{ accessFlags := 1, nameIndex := 5, descriptorIndex := 6, attributes := #[] }] 1057 2 #[13] #[{ accessFlags := 26, nameIndex := 15, descriptorIndex := 16, attributes := #[] }])
  fields := #[{ name := "serialVersionUID", type := .long, accessFlags := 26, slot := 0, constantValue := 0 }]
  methods := #[k6m0]
  instanceTypes := #[]
  staticTypes := #[.long]
  resolved := Array.replicate 37 none
  statics := none }

def pool7 : Array CpInfo := pool [(1, .class_ 2), (0, u "java/lang/Comparable"), (0, .class_ 4), (0, u "java/lang/Object")] 7

/-- java/lang/Comparable -/
def k7 : Class := { plain "java/lang/Comparable" (some 0) with
  accessFlags := 1537
  interfaces := #[]
  cf := some (fileOf pool7 1 #[] #[] 1537 3 #[] #[])
  fields := #[]
  methods := #[]
  instanceTypes := #[]
  staticTypes := #[]
  resolved := Array.replicate 12 none
  statics := none }

def pool8 : Array CpInfo := pool [(1, .class_ 2), (0, u "java/lang/constant/Constable"), (0, .class_ 4), (0, u "java/lang/Object")] 6

/-- java/lang/constant/Constable -/
def k8 : Class := { plain "java/lang/constant/Constable" (some 0) with
  accessFlags := 1537
  interfaces := #[]
  cf := some (fileOf pool8 1 #[] #[] 1537 3 #[] #[])
  fields := #[]
  methods := #[]
  instanceTypes := #[]
  staticTypes := #[]
  resolved := Array.replicate 11 none
  statics := none }

def pool9 : Array CpInfo := pool [(1, .class_ 2), (0, u "java/lang/constant/ConstantDesc"), (0, .class_ 4), (0, u "java/lang/Object")] 32

/-- java/lang/constant/ConstantDesc -/
def k9 : Class := { plain "java/lang/constant/ConstantDesc" (some 0) with
  accessFlags := 1537
  interfaces := #[]
  cf := some (fileOf pool9 1 #[] #[] 1537 3 #[] #[])
  fields := #[]
  methods := #[]
  instanceTypes := #[]
  staticTypes := #[]
  resolved := Array.replicate 37 none
  statics := none }

def pool10 : Array CpInfo := pool [(1, .class_ 2), (0, u "java/lang/Long"), (165, .long 9223372036854775808), (66, .class_ 237), (1, u "java/lang/Long$LongCache"), (33, .class_ 272), (0, u "java/lang/Number"), (2, u "value"), (0, u "J"), (25, .methodref 1 303), (0, .nameAndType 304 305), (0, u "compare"), (0, u "(JJ)I"), (55, u "TYPE"), (0, u "Ljava/lang/Class;"), (0, .class_ 364), (0, u "java/lang/Comparable"), (0, .class_ 366), (0, u "java/lang/constant/Constable"), (0, .class_ 368), (0, u "java/lang/constant/ConstantDesc"), (0, u "MIN_VALUE"), (1, u "MAX_VALUE"), (4, u "SIZE"), (0, u "I"), (1, u "BYTES"), (1, u "serialVersionUID"), (87, u "compareUnsigned")] 54

def k10c0 : Code := { maxStack := 4, maxLocals := 4, code := jdk_35_method_42_code, exceptionTable := #[], attributes := #[] }
def k10m0 : Method := { name := "compare", desc := "(JJ)I", sig := { parameters := [.long, .long], returnType := some .int }, accessFlags := 9, code := some k10c0 }
def k10c1 : Code := { maxStack := 6, maxLocals := 4, code := jdk_35_method_43_code, exceptionTable := #[], attributes := #[] }
def k10m1 : Method := { name := "compareUnsigned", desc := "(JJ)I", sig := { parameters := [.long, .long], returnType := some .int }, accessFlags := 9, code := some k10c1 }
/-- java/lang/Long -/
def k10 : Class := { plain "java/lang/Long" (some 6) with
  accessFlags := 49
  interfaces := #[7, 8, 9]
  cf := some (fileOf pool10 1 #[.nestMembers #[235]] #[{ accessFlags := 9, nameIndex := 304, descriptorIndex := 305, attributes := #[] }, { accessFlags := 9, nameIndex := 469, descriptorIndex := 305, attributes := #[] }] 49 271 #[363, 365, 367] #[{ accessFlags := 25, nameIndex := 369, descriptorIndex := 276, attributes := #[] }, { accessFlags := 25, nameIndex := 371, descriptorIndex := 276, attributes := #[] }, { accessFlags := 25, nameIndex := 361, descriptorIndex := 362, attributes := #[] }, { accessFlags := 18, nameIndex := 275, descriptorIndex := 276, attributes := #[] }, { accessFlags := 25, nameIndex := 376, descriptorIndex := 377, attributes := #[] }, { accessFlags := 25, nameIndex := 379, descriptorIndex := 377, attributes := #[] }, { accessFlags := 26, nameIndex := 381, descriptorIndex := 276, attributes := #[] }])
  fields := #[{ name := "MIN_VALUE", type := .long, accessFlags := 25, slot := 0, constantValue := 0 }, { name := "MAX_VALUE", type := .long, accessFlags := 25, slot := 1, constantValue := 0 }, { name := "TYPE", type := (.object "java/lang/Class"), accessFlags := 25, slot := 2, constantValue := 0 }, { name := "value", type := .long, accessFlags := 18, slot := 0, constantValue := 0 }, { name := "SIZE", type := .int, accessFlags := 25, slot := 3, constantValue := 0 }, { name := "BYTES", type := .int, accessFlags := 25, slot := 4, constantValue := 0 }, { name := "serialVersionUID", type := .long, accessFlags := 26, slot := 5, constantValue := 0 }]
  methods := #[k10m0, k10m1]
  instanceTypes := #[.long]
  staticTypes := #[.long, .long, (.object "java/lang/Class"), .int, .int, .long]
  resolved := Array.replicate 524 none
  statics := none }

def pool11 : Array CpInfo := pool [(1, u "java/lang/Cloneable"), (0, .class_ 1), (0, u "java/lang/Object"), (0, .class_ 3)] 3

/-- java/lang/Cloneable -/
def k11 : Class := { plain "java/lang/Cloneable" (some 0) with
  accessFlags := 1537
  interfaces := #[]
  cf := some (fileOf pool11 2 #[] #[] 1537 4 #[] #[])
  fields := #[]
  methods := #[]
  instanceTypes := #[]
  staticTypes := #[]
  resolved := Array.replicate 8 none
  statics := none }

/-- the primitive byte -/
def k12 : Class := { plain "byte" none with kind := .primitive 'B', accessFlags := 0x411 }
/-- [B -/
def k13 : Class := { plain "[B" (some 0) with kind := .array 12 .byte, interfaces := #[11, 5], accessFlags := 1041 }

/-- the primitive int -/
def k14 : Class := { plain "int" none with kind := .primitive 'I', accessFlags := 0x411 }
/-- [I -/
def k15 : Class := { plain "[I" (some 0) with kind := .array 14 .int, interfaces := #[11, 5], accessFlags := 1041 }

def heap : Heap := #[]
def classes : Array Class := #[k0, k1, k2, k3, k4, k5, k6, k7, k8, k9, k10, k11, k12, k13, k14, k15]
def interned : List (Array UInt16 × Addr) := []
def slotsUsed : Nat := 0
def theMethod : MethodId := ⟨1, 1⟩
def args0 : Array Value := #[.long 5, .long 6, .long 7, .long 8, .long 9, .int 3]
def aboutOver (below : List Frame) : State where
  vm := { classes := classes, interned := interned.toArray }
  heap := heap
  slotsUsed := slotsUsed
  threads := #[{ frames := .invoking theMethod args0 :: below }]
def below0 : List Frame := [.native { method := ⟨0, 0⟩, args := #[] }]
def about1 : State := aboutOver below0
def p0 : Program := .bare "" "" ""
def e0 : Env := launch0.env 0 0 0
theorem w_frames : about1.frames = Frame.invoking theMethod args0 :: below0 := rfl
set_option maxRecDepth 65536 in
theorem w_args : argsFit about1.vm theMethod args0 = true := by decide +kernel
set_option maxRecDepth 65536 in
theorem w_heap : heapFits about1 = true := by decide +kernel
set_option maxRecDepth 65536 in
theorem w_runnable : about1.curStatus? = some .runnable := by decide +kernel
set_option maxRecDepth 65536 in
theorem w_alone : about1.alone = true := by decide +kernel
set_option maxRecDepth 65536 in
theorem w_named : about1.methodNamed? x = some theMethod := by decide +kernel
set_option maxRecDepth 65536 in
theorem w_hears : about1.hears theMethod below0 = true := by decide +kernel
set_option maxRecDepth 65536 in
theorem w_ripe : about1.ripe theMethod args0 below0 = true := by decide +kernel
theorem w_running : about1.status = .running := rfl
set_option maxRecDepth 65536 in
theorem w_room : about1.hasRoom e0.platform room_1 = true :=
  launch0.hasRoom_least _ room_1 (by decide +kernel) (by decide +kernel) (by decide +kernel) (by decide +kernel) (by decide +kernel) (by decide +kernel)
theorem allAtoms_all (ts : List Jvm.Cond) (a : Array Jvm.Value) (st : Jvm.State) : (allAtoms ts).before a st = ts.all (fun c => c.before a st) := by
  induction ts with
  | nil => rfl
  | cons c t ih =>
    show (Jvm.Cond.and c (allAtoms t)).before a st = _
    rw [Jvm.Cond.before_and, ih, List.all_cons]
def words1 : List Jvm.Cond := Jvm.Cond.code x code maxLocals ret :: tables_1
/-- a 'code' word, met by the world's own term for the bytes: nothing is compared byte by byte -/
theorem code_word {y : MethodName} {bytes : ByteArray} {mx : Nat} {rt : Option FieldType} {a : Array Value} {s : State} {m : MethodId} {meth : Method} {c : Code} (h1 : s.methodNamed? y = some m) (h2 : s.vm.method? m = some meth) (h3 : meth.code = some c) (h4 : c.code = bytes)
    (h5 : (c.maxLocals == mx && c.exceptionTable.isEmpty && decide (c.maxStack ≤ mostOperands) && decide (meth.sig.returnType = rt) && !meth.locks && decide (parseMethodDescriptor y.desc = some meth.sig)) = true) : (Jvm.Cond.code y bytes mx rt).before a s = true := by
  simp only [Bool.and_eq_true, beq_iff_eq, Bool.not_eq_true', decide_eq_true_eq] at h5
  obtain ⟨⟨⟨⟨⟨g1, g2⟩, g3⟩, g4⟩, g5⟩, g6⟩ := h5
  simp [Cond.before, Cond.holds, Cond.value, h1, h2, h3, h4, g1, g2, g3, g4, g5, g6]
def isCode : Jvm.Cond → Bool
  | .code _ _ _ _ => true
  | _ => false
theorem all_split {L : List Jvm.Cond} {P : Jvm.Cond → Bool} (h1 : L.all (fun c => isCode c || P c) = true) (h2 : ∀ c ∈ L.filter isCode, P c = true) : L.all P = true := by
  refine List.all_eq_true.mpr fun c hc => ?_
  have h := List.all_eq_true.mp h1 c hc
  rcases Bool.eq_false_or_eq_true (isCode c) with hi | hi
  · exact h2 c (List.mem_filter.mpr ⟨hc, hi⟩)
  · simpa [hi] using h
set_option maxRecDepth 65536 in
theorem w_c0 : (Jvm.Cond.code x code maxLocals ret).before args0 about1 = true := code_word (m := ⟨1, 1⟩) (meth := k1m1) (c := k1c1) (by decide +kernel) rfl rfl rfl (by decide +kernel)
set_option maxRecDepth 65536 in
theorem w_c1 : (Jvm.Cond.code ({ cls := "java/lang/Math", name := "max", desc := "(JJ)J" } : Jvm.MethodName) jdk_29_method_66_code (4 : Nat) (Option.some Jvm.ClassFile.FieldType.long)).before args0 about1 = true := code_word (m := ⟨2, 2⟩) (meth := k2m2) (c := k2c2) (by decide +kernel) rfl rfl rfl (by decide +kernel)
set_option maxRecDepth 65536 in
theorem w_c2 : (Jvm.Cond.code ({ cls := "com/example/sluiced/sluiced/limiter/SlidingWindowCounter", name := "<init>", desc := "(JJ)V" } : Jvm.MethodName) prog_19_method_1_code (5 : Nat) (Option.none : Option Jvm.ClassFile.FieldType)).before args0 about1 = true := code_word (m := ⟨4, 0⟩) (meth := k4m0) (c := k4c0) (by decide +kernel) rfl rfl rfl (by decide +kernel)
set_option maxRecDepth 65536 in
theorem w_c3 : (Jvm.Cond.code ({ cls := "java/lang/Record", name := "<init>", desc := "()V" } : Jvm.MethodName) jdk_30_method_1_code (1 : Nat) (Option.none : Option Jvm.ClassFile.FieldType)).before args0 about1 = true := code_word (m := ⟨3, 0⟩) (meth := k3m0) (c := k3c0) (by decide +kernel) rfl rfl rfl (by decide +kernel)
set_option maxRecDepth 65536 in
theorem w_c4 : (Jvm.Cond.code ({ cls := "java/lang/Object", name := "<init>", desc := "()V" } : Jvm.MethodName) object_method_1_code (1 : Nat) (Option.none : Option Jvm.ClassFile.FieldType)).before args0 about1 = true := code_word (m := ⟨0, 0⟩) (meth := k0m0) (c := k0c0) (by decide +kernel) rfl rfl rfl (by decide +kernel)
set_option maxRecDepth 65536 in
theorem w_c5 : (Jvm.Cond.code ({ cls := "com/example/sluiced/sluiced/limiter/SlidingWindowCounter", name := "remaining", desc := "(JJJ)J" } : Jvm.MethodName) prog_19_method_4_code (13 : Nat) (Option.some Jvm.ClassFile.FieldType.long)).before args0 about1 = true := code_word (m := ⟨4, 1⟩) (meth := k4m1) (c := k4c1) (by decide +kernel) rfl rfl rfl (by decide +kernel)
set_option maxRecDepth 65536 in
theorem w_c6 : (Jvm.Cond.code ({ cls := "com/example/sluiced/sluiced/limiter/SlidingWindowCounter", name := "checkArguments", desc := "(JJJ)V" } : Jvm.MethodName) prog_19_method_5_code (7 : Nat) (Option.none : Option Jvm.ClassFile.FieldType)).before args0 about1 = true := code_word (m := ⟨4, 2⟩) (meth := k4m2) (c := k4c2) (by decide +kernel) rfl rfl rfl (by decide +kernel)
set_option maxRecDepth 65536 in
theorem w_c7 : (Jvm.Cond.code ({ cls := "com/example/sluiced/sluiced/limiter/SlidingWindowCounterRemainingPinLaw", name := "expected", desc := "(JJJJJ)J" } : Jvm.MethodName) method_3_code (18 : Nat) (Option.some Jvm.ClassFile.FieldType.long)).before args0 about1 = true := code_word (m := ⟨1, 2⟩) (meth := k1m2) (c := k1c2) (by decide +kernel) rfl rfl rfl (by decide +kernel)
set_option maxRecDepth 65536 in
theorem w_c8 : (Jvm.Cond.code ({ cls := "com/example/sluiced/sluiced/limiter/SlidingWindowCounter", name := "weighsWithinLimit", desc := "(JJJ)Z" } : Jvm.MethodName) prog_19_method_6_code (9 : Nat) (Option.some Jvm.ClassFile.FieldType.boolean)).before args0 about1 = true := code_word (m := ⟨4, 3⟩) (meth := k4m3) (c := k4c3) (by decide +kernel) rfl rfl rfl (by decide +kernel)
set_option maxRecDepth 65536 in
theorem w_c9 : (Jvm.Cond.code ({ cls := "com/example/sluiced/sluiced/limiter/SlidingWindowCounter", name := "compareProducts", desc := "(JJJJ)I" } : Jvm.MethodName) prog_19_method_8_code (12 : Nat) (Option.some Jvm.ClassFile.FieldType.int)).before args0 about1 = true := code_word (m := ⟨4, 4⟩) (meth := k4m4) (c := k4c4) (by decide +kernel) rfl rfl rfl (by decide +kernel)
set_option maxRecDepth 65536 in
theorem w_c10 : (Jvm.Cond.code ({ cls := "java/lang/Math", name := "multiplyHigh", desc := "(JJ)J" } : Jvm.MethodName) jdk_29_method_45_code (20 : Nat) (Option.some Jvm.ClassFile.FieldType.long)).before args0 about1 = true := code_word (m := ⟨2, 1⟩) (meth := k2m1) (c := k2c1) (by decide +kernel) rfl rfl rfl (by decide +kernel)
set_option maxRecDepth 65536 in
theorem w_c11 : (Jvm.Cond.code ({ cls := "java/lang/Long", name := "compare", desc := "(JJ)I" } : Jvm.MethodName) jdk_35_method_42_code (4 : Nat) (Option.some Jvm.ClassFile.FieldType.int)).before args0 about1 = true := code_word (m := ⟨10, 0⟩) (meth := k10m0) (c := k10c0) (by decide +kernel) rfl rfl rfl (by decide +kernel)
set_option maxRecDepth 65536 in
theorem w_c12 : (Jvm.Cond.code ({ cls := "java/lang/Long", name := "compareUnsigned", desc := "(JJ)I" } : Jvm.MethodName) jdk_35_method_43_code (4 : Nat) (Option.some Jvm.ClassFile.FieldType.int)).before args0 about1 = true := code_word (m := ⟨10, 1⟩) (meth := k10m1) (c := k10c1) (by decide +kernel) rfl rfl rfl (by decide +kernel)
def codes1 : List Jvm.Cond := [Jvm.Cond.code x code maxLocals ret, Jvm.Cond.code ({ cls := "java/lang/Math", name := "max", desc := "(JJ)J" } : Jvm.MethodName) jdk_29_method_66_code (4 : Nat) (Option.some Jvm.ClassFile.FieldType.long), Jvm.Cond.code ({ cls := "com/example/sluiced/sluiced/limiter/SlidingWindowCounter", name := "<init>", desc := "(JJ)V" } : Jvm.MethodName) prog_19_method_1_code (5 : Nat) (Option.none : Option Jvm.ClassFile.FieldType), Jvm.Cond.code ({ cls := "java/lang/Record", name := "<init>", desc := "()V" } : Jvm.MethodName) jdk_30_method_1_code (1 : Nat) (Option.none : Option Jvm.ClassFile.FieldType), Jvm.Cond.code ({ cls := "java/lang/Object", name := "<init>", desc := "()V" } : Jvm.MethodName) object_method_1_code (1 : Nat) (Option.none : Option Jvm.ClassFile.FieldType), Jvm.Cond.code ({ cls := "com/example/sluiced/sluiced/limiter/SlidingWindowCounter", name := "remaining", desc := "(JJJ)J" } : Jvm.MethodName) prog_19_method_4_code (13 : Nat) (Option.some Jvm.ClassFile.FieldType.long), Jvm.Cond.code ({ cls := "com/example/sluiced/sluiced/limiter/SlidingWindowCounter", name := "checkArguments", desc := "(JJJ)V" } : Jvm.MethodName) prog_19_method_5_code (7 : Nat) (Option.none : Option Jvm.ClassFile.FieldType), Jvm.Cond.code ({ cls := "com/example/sluiced/sluiced/limiter/SlidingWindowCounterRemainingPinLaw", name := "expected", desc := "(JJJJJ)J" } : Jvm.MethodName) method_3_code (18 : Nat) (Option.some Jvm.ClassFile.FieldType.long), Jvm.Cond.code ({ cls := "com/example/sluiced/sluiced/limiter/SlidingWindowCounter", name := "weighsWithinLimit", desc := "(JJJ)Z" } : Jvm.MethodName) prog_19_method_6_code (9 : Nat) (Option.some Jvm.ClassFile.FieldType.boolean), Jvm.Cond.code ({ cls := "com/example/sluiced/sluiced/limiter/SlidingWindowCounter", name := "compareProducts", desc := "(JJJJ)I" } : Jvm.MethodName) prog_19_method_8_code (12 : Nat) (Option.some Jvm.ClassFile.FieldType.int), Jvm.Cond.code ({ cls := "java/lang/Math", name := "multiplyHigh", desc := "(JJ)J" } : Jvm.MethodName) jdk_29_method_45_code (20 : Nat) (Option.some Jvm.ClassFile.FieldType.long), Jvm.Cond.code ({ cls := "java/lang/Long", name := "compare", desc := "(JJ)I" } : Jvm.MethodName) jdk_35_method_42_code (4 : Nat) (Option.some Jvm.ClassFile.FieldType.int), Jvm.Cond.code ({ cls := "java/lang/Long", name := "compareUnsigned", desc := "(JJ)I" } : Jvm.MethodName) jdk_35_method_43_code (4 : Nat) (Option.some Jvm.ClassFile.FieldType.int)]
set_option maxRecDepth 65536 in
theorem codes_eq : words1.filter isCode = codes1 := rfl
theorem w_codes : ∀ c ∈ words1.filter isCode, c.before args0 about1 = true := by
  rw [codes_eq]
  intro c hc
  simp only [codes1, List.mem_cons, List.not_mem_nil, or_false] at hc
  rcases hc with rfl | rfl | rfl | rfl | rfl | rfl | rfl | rfl | rfl | rfl | rfl | rfl | rfl
  · exact w_c0
  · exact w_c1
  · exact w_c2
  · exact w_c3
  · exact w_c4
  · exact w_c5
  · exact w_c6
  · exact w_c7
  · exact w_c8
  · exact w_c9
  · exact w_c10
  · exact w_c11
  · exact w_c12
set_option maxRecDepth 65536 in
theorem w_t1 : (words1.take 24).all (fun c => isCode c || c.before args0 about1) = true := by decide +kernel
set_option maxRecDepth 65536 in
theorem w_t2 : ((words1.drop 24).take 24).all (fun c => isCode c || c.before args0 about1) = true := by decide +kernel
set_option maxRecDepth 65536 in
theorem w_t3 : ((words1.drop 24).drop 24).all (fun c => isCode c || c.before args0 about1) = true := by decide +kernel
theorem w_tables : (allAtoms (Jvm.Cond.code x code maxLocals ret :: tables_1)).before args0 about1 = true := by
  rw [allAtoms_all]
  show words1.all (fun c => c.before args0 about1) = true
  refine all_split ?_ w_codes
  rw [← List.take_append_drop 24 words1, List.all_append, w_t1, ← List.take_append_drop 24 (words1.drop 24), List.all_append, w_t2, w_t3]
  rfl
set_option maxRecDepth 65536 in
theorem w_case : (Jvm.Cond.and given_1 narrow_1).before args0 about1 = true := by decide +kernel
theorem w_applies : (headSpec (Jvm.Cond.code x code maxLocals ret :: tables_1) room_1).applies x e0.platform about1 = true :=
  (Spec.applies_iff w_frames).mpr ⟨w_running, w_runnable, w_alone, w_named, w_hears, w_ripe, w_room, w_tables⟩
theorem atStart : AtStart classFile x code maxLocals ret World_1 tables_1 room_1 Calls_1 rest_1 Pre_1 launch0 p0 e0 about1 theMethod args0 below0 :=
  ⟨lists_1, trivial, launch0.admits_env _ _ _, launch0.least_env, fairChoices_fair.cas, fairChoices_fair.clock, w_frames, w_args, w_heap, w_applies, trivial, trivial, w_case⟩
end start1
theorem witness_1 : WitnessClaimed_1 := ⟨start1.p0, start1.e0, start1.about1, start1.theMethod, start1.args0, start1.below0, start1.atStart⟩
end Jvm.Pilot.@@N@@
