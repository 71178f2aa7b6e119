import JvmDerived
import JvmDerived.Pilot.@@N@@Statement
import JvmDerived.Pilot.@@N@@Code
set_option linter.unusedVariables false
set_option linter.unusedSimpArgs false
namespace Jvm.Pilot.@@N@@
namespace W
open Jvm Jvm.ClassFile Sem Op Lib Jvm.Free Jvm.Stand Jvm.LawKit Jvm.RoadKit Bundle
/-! the run goes on from here and ends as P says -/
def Go (p : Program) (e : Env) (below : List Frame) (P : Outcome → State → Prop) (T : State) (f : JFrame) : Prop :=
  ∃ t o, Steps p.tables e below (T.setTop f) t ∧ t.status = .running ∧ Ended t below o ∧ P o t
theorem Go.of {p : Program} {e : Env} {below : List Frame} {P : Outcome → State → Prop} {T T' : State} {f f' : JFrame}
    (h : ∀ target, Steps p.tables e below (T'.setTop f') target → Steps p.tables e below (T.setTop f) target) (k : Go p e below P T' f') : Go p e below P T f := by
  obtain ⟨t, o, h1, h2⟩ := k
  exact ⟨t, o, h t h1, h2⟩
theorem Go.cast {p : Program} {e : Env} {below : List Frame} {P : Outcome → State → Prop} {T : State} {f f' : JFrame} (q : f = f') (k : Go p e below P T f') : Go p e below P T f := q ▸ k
/-! what has moved since h0: the old objects ws at the most, and new ones -/
def Mv (h0 h : Heap) (ws : List Addr) (L : List Loc) : Prop := Keep h0 h ws ∧ ∀ y ∈ L, y.base ∈ ws ∨ h0.size ≤ y.base
section Mvs
variable {h0 h h' : Heap} {ws ws' : List Addr} {L L' : List Loc} {a : Addr} {sl : Nat} {v : Value}
theorem Mv.refl (h : Heap) (ws : List Addr) : Mv h h ws [] := ⟨Keep.refl h ws, fun _ q => nomatch q⟩
theorem Mv.le (M : Mv h0 h ws L) : h0.size ≤ h.size := M.1.1
theorem Mv.ext (M : Mv h0 h ws L) (E : Ext h h') : Mv h0 h' ws L := ⟨M.1.ext E, M.2⟩
theorem Mv.wr (M : Mv h0 h ws L) (W : Wr h h' a sl v) (q : a ∈ ws ∨ h0.size ≤ a) : Mv h0 h' ws (L ++ [⟨a, sl⟩]) :=
  ⟨M.1.wr W q, fun y hy => (List.mem_append.mp hy).elim (M.2 y) fun z => by cases List.mem_singleton.mp z; exact q⟩
theorem Mv.app (M : Mv h0 h ws L) (M' : Mv h h' ws' L') (q : ∀ x ∈ ws', x ∈ ws ∨ h0.size ≤ x) : Mv h0 h' ws (L ++ L') :=
  ⟨M.1.trans M'.1 q, fun y hy => (List.mem_append.mp hy).elim (M.2 y) fun z => (M'.2 y z).elim (q _) fun r => Or.inr (Nat.le_trans M.1.1 r)⟩
theorem Mv.app0 (M : Mv h0 h ws L) (M' : Mv h h' [] L') : Mv h0 h' ws (L ++ L') := M.app M' fun _ q => nomatch q
theorem keepE (E : Ext h h') : Keep h h' [] := (Keep.refl h []).ext E
theorem Mv.fr (M : Mv h0 h [] L) : Fr h0.size L := fun y hy => (M.2 y hy).elim (fun q => nomatch q) id
theorem Mv.ofFr {n0 : Nat} (K : Keep h0 h ws) (F : ∀ y ∈ L, y.base ∈ ws) : Mv h0 h ws L := ⟨K, fun y hy => Or.inl (F y hy)⟩
end Mvs
theorem StaKeep {Z : State} {h h' : Heap} {C n d : String} {v : Value} {ws : List Addr} (F : Sta Z h C n d v) (K : Keep h h' ws) (q : ∀ x ∈ ws, ∀ c : Cell, h[x]? = some c → c.vm.isStatics = false) : Sta Z h' C n d v := by
  obtain ⟨cf, i, k, f, st, cell, h1, h2, h3, h4, h5, h6, h7⟩ := F
  refine ⟨cf, i, k, f, st, cell, h1, h2, h3, h4, K.2.1 _ _ h5 (fun z => ?_), h6, h7⟩
  rw [q st z cell h5] at h6; cases h6
theorem staExa {Z : State} {h : Heap} {a : Addr} {C : String} (F : Exa Z h a C) : ∀ c : Cell, h[a]? = some c → c.vm.isStatics = false := fun c hc => by
  obtain ⟨c', _, h1, -, -, h4, -⟩ := F; cases h1.symm.trans hc; exact h4
theorem staArv {Z : State} {h : Heap} {a : Addr} {k : ClassId} {ty : FieldType} {n : Int32} {vs : List Value} {d : Value} (F : Arv Z h a k ty n vs d) : ∀ c : Cell, h[a]? = some c → c.vm.isStatics = false := fun c hc => by
  obtain ⟨c', A, -⟩ := F; cases A.1.symm.trans hc; exact A.plain
/-! a contract -/
def MeetsW (l : Launch) (Z : State) (y : MethodName) (bytes : ByteArray) (maxL : Nat) (ret : Option FieldType) (rm : Room) (as : Array Value) (h0 : Heap) (Q : Option Value → Heap → List Loc → Prop) : Prop :=
  ∀ ws : List Jvm.Cond, MetFree l y (head1 (Jvm.Cond.code y bytes maxL ret :: ws) rm) (fun a U => a = as ∧ Z.Warmed39 U.vm ∧ U.heap = h0) (fun _ _ _ _ _ => True)
    (fun _ U o U' => ∃ v L, o = .returned v ∧ Q v U'.heap L ∧ FrameEnd U o U' L rm.cells rm.slots)
def Pu (h : Heap) (S : Option Value → Prop) (v : Option Value) (h' : Heap) (L : List Loc) : Prop := L = [] ∧ h' = h ∧ S v
theorem MeetsW.of {l : Launch} {Z : State} {y : MethodName} {bytes : ByteArray} {maxL : Nat} {ret : Option FieldType} {rm : Room} {as : Array Value} {h0 : Heap} {Q : Option Value → Heap → List Loc → Prop} (hpl : plainFor y = true)
    (body : ∀ (p : Program) (e : Env) (s : State) (m : MethodId) (below : List Frame) (meth : Method) (c : Code) (s₁ : State) (P : Outcome → State → Prop), p.tables.exec = Jvm.exec → c.code = bytes → c.maxLocals = maxL → Z.Warmed39 s.vm → s.vm.findClass y.cls = some m.cls → meth.name = y.name → meth.sig.returnType = ret → meth.locks = false →
      Stand p l e rm s m as below meth c s₁ [] 0 0 → s₁.heap = h0 → (∀ v t L, Q v t.heap L → FrameEnd s (.returned v) t L rm.cells rm.slots → P (.returned v) t) → Go p e below P s₁ (entryFrame m as maxL)) : MeetsW l Z y bytes maxL ret rm as h0 Q := by
  intro ws
  refine MetFree.of_bodySF hpl hisR ?_
  intro p e s m args below meth c s₁ Bd hml0 hP hK
  obtain ⟨rfl, hZ, hh⟩ := hP
  exact body p e s m below meth c s₁ _ Bd.exec Bd.bytes hml0 hZ (findClass_of_methodNamed Bd.named) (name_of_methodNamed Bd.named Bd.method).1 Bd.returns (BodyLoose.notSynchronized Bd) (Stand.of_body Bd) (by rw [← hh, Bd.state]; rfl) (fun v t L hq hf => ⟨v, L, rfl, hq, hf⟩)
/-! a call that comes back -/
def BK (l : Launch) (R : Room) (p : Program) (e : Env) (below : List Frame) (s : State) (args : Array Value) (y : MethodName) (W : Nat) (as : Array Value) (h : Heap) (C S : Nat) (Q : Option Value → Heap → List Loc → Prop) : Prop :=
  Back l R p e below s args y 3 W (fun A a => a = as ∧ A.U.heap = h ∧ A.cells + C ≤ R.cells ∧ A.slots + S ≤ R.slots)
    (fun A _ v B => ∃ L, Q v B.U.heap L ∧ B.locs = A.locs ++ L ∧ B.cells = A.cells + C ∧ B.slots = A.slots + S)
section Calls
variable {p : Program} {l : Launch} {e : Env} {R : Room} {s : State} {m : MethodId} {args : Array Value} {below : List Frame} {meth : Method} {c : Code} {T : State} {locs : List Loc} {cells slots : Nat} {Z : State} {a0 : Array Value} {h : Heap} {P : Outcome → State → Prop}
theorem standUp {C S : Nat} (X : Stand p l e R s m args below meth c T locs cells slots) (hc : cells ≤ C) (hs : slots ≤ S) : Stand p l e R s m args below meth c T locs C S :=
  ⟨X.admits, X.cas, X.clock, X.frames, X.room, X.hears, X.method, X.code, X.here, X.tail, X.warmed, X.limits, X.bytes, X.same.mono hc hs⟩
theorem MeetsW.bk {y : MethodName} {bytes : ByteArray} {maxL : Nat} {ret : Option FieldType} {rm : Room} {as : Array Value} {Q : Option Value → Heap → List Loc → Prop} {W : Nat} (M : MeetsW l Z y bytes maxL ret rm as h Q) (hZ : Z.Warmed39 s.vm)
    (wc : (Jvm.Cond.code y bytes maxL ret).before a0 Z = true) (wz : (Jvm.Cond.initialized y.cls).before a0 Z = true) (hf : rm.frames + 1 ≤ R.frames) (hl : W + (maxL + 11) + rm.locals ≤ R.locals) : BK l R p e below s args y W as h rm.cells rm.slots Q :=
  backOf (M []) hZ wc wz hf hl
theorem BK.mono {y : MethodName} {W : Nat} {as : Array Value} {C S : Nat} {Q Q' : Option Value → Heap → List Loc → Prop} (B : BK l R p e below s args y W as h C S Q) (q : ∀ v h' L, Q v h' L → Q' v h' L) : BK l R p e below s args y W as h C S Q' :=
  Back.mono B (fun _ _ z => z) (fun _ _ _ _ _ ⟨L, z, r⟩ => ⟨L, q _ _ _ z, r⟩)
theorem goS (X : Stand p l e R s m args below meth c T locs cells slots) (hx : p.tables.exec = Jvm.exec) (hZ : Z.Warmed39 s.vm) {own : String} {index : Nat} {y : MethodName} {bytes : ByteArray} {maxL : Nat} {ret : Option FieldType} (hown : s.vm.findClass own = some m.cls)
    (w1 : (Jvm.Cond.methodLink own index y).before a0 Z = true) (w2 : (Jvm.Cond.static y).before a0 Z = true) (w3 : (Jvm.Cond.initialized y.cls).before a0 Z = true) (w4 : (Jvm.Cond.code y bytes maxL ret).before a0 Z = true) (hy : y.cls ≠ "java/lang/invoke/MethodHandle" ∧ y.cls ≠ "java/lang/invoke/VarHandle")
    {W C S : Nat} {as : Array Value} {Q : Option Value → Heap → List Loc → Prop} (B : BK l R p e below s args y W as h C S Q) (eT : T.heap = h) {pc : Nat} {Ls : Array Slot} {st argsL rest : List Value} (hml : Ls.size = c.maxLocals)
    (hlen : ∀ sig, parseMethodDescriptor y.desc = some sig → argsL.length = sig.parameters.length) (hst : st = argsL.reverse ++ rest) (has : argsL.toArray = as) (hd : decode c.code pc = .ok (.invokestatic index, 3)) (hW : (rest.map fun v => v.category).sum ≤ W) (hc : cells + C ≤ R.cells) (hs : slots + S ≤ R.slots)
    (k : ∀ v T' L, Stand p l e R s m args below meth c T' (locs ++ L) (cells + C) (slots + S) → Q v T'.heap L → Go p e below P T' (mkF m (pc + 3) Ls (v.toList ++ rest))) : Go p e below P T (mkF m pc Ls st) := by
  obtain ⟨v, _, ⟨T', L', k', n'⟩, -, X', ⟨Lc, hQ, l1, l2, l3⟩, stp⟩ := Jvm.LawKit.callS X hx hown (mvT hZ w1) (mvT hZ w2) (mvT hZ w3) (mvT hZ w4) hy B (g := mkF m pc Ls st) rfl hml hlen hst (by show 2 * 0 + _ ≤ _; simpa using hW) hd (fun _ _ => ⟨has, eT, hc, hs⟩)
  dsimp only [Pt.U, Pt.locs, Pt.cells, Pt.slots] at X' l1 l2 l3 stp hQ
  subst l1 l2 l3
  exact Go.of stp (k v T' Lc X' hQ)
theorem goI (X : Stand p l e R s m args below meth c T locs cells slots) (hx : p.tables.exec = Jvm.exec) (hZ : Z.Warmed39 s.vm) {own : String} {index : Nat} {y : MethodName} {bytes : ByteArray} {maxL : Nat} (hn : y.name = "<init>") (hown : s.vm.findClass own = some m.cls)
    (w1 : (Jvm.Cond.methodLink own index y).before a0 Z = true) (w2 : (Jvm.Cond.instanceMethod y).before a0 Z = true) (w4 : (Jvm.Cond.code y bytes maxL none).before a0 Z = true) (hy : y.cls ≠ "java/lang/invoke/MethodHandle" ∧ y.cls ≠ "java/lang/invoke/VarHandle")
    {W C S : Nat} {as : Array Value} {Q : Option Value → Heap → List Loc → Prop} (B : BK l R p e below s args y W as h C S Q) (eT : T.heap = h) {pc : Nat} {Ls : Array Slot} {a : Addr} {st argsL rest : List Value} (hml : Ls.size = c.maxLocals)
    (hlen : ∀ sig, parseMethodDescriptor y.desc = some sig → argsL.length = sig.parameters.length) (hst : st = argsL.reverse ++ .ref a :: rest) (has : (.ref a :: argsL).toArray = as) (hd : decode c.code pc = .ok (.invokespecial index, 3)) (hW : (rest.map fun v => v.category).sum ≤ W) (hc : cells + C ≤ R.cells) (hs : slots + S ≤ R.slots)
    (k : ∀ v T' L, Stand p l e R s m args below meth c T' (locs ++ L) (cells + C) (slots + S) → Q v T'.heap L → Go p e below P T' (mkF m (pc + 3) Ls (v.toList ++ rest))) : Go p e below P T (mkF m pc Ls st) := by
  obtain ⟨v, _, ⟨T', L', k', n'⟩, -, X', ⟨Lc, hQ, l1, l2, l3⟩, stp⟩ := X.specialBack hx hn hown (mvT hZ w1) (mvT hZ w2) (mvT hZ w4) hy B (g := mkF m pc Ls st) rfl hml (Steps.refl _) hlen hst (by show 2 * 0 + _ ≤ _; simpa using hW) hd (fun _ _ => ⟨has, eT, hc, hs⟩)
  dsimp only [Pt.U, Pt.locs, Pt.cells, Pt.slots] at X' l1 l2 l3 stp hQ
  subst l1 l2 l3
  exact Go.of (fun _ z => stp.trans z) (k v T' Lc X' hQ)
theorem goV (X : Stand p l e R s m args below meth c T locs cells slots) (hx : p.tables.exec = Jvm.exec) (hZ : Z.Warmed39 s.vm) {own K : String} {index : Nat} {y z : MethodName} (hown : s.vm.findClass own = some m.cls)
    (w1 : (Jvm.Cond.methodLink own index y).before a0 Z = true) (w2 : (Jvm.Cond.declares y).before a0 Z = true) (hnf : NotFace s y) (w3 : (Jvm.Cond.selects K y z).before a0 Z = true) (w4 : (Jvm.Cond.instanceMethod z).before a0 Z = true) (hy : y.cls ≠ "java/lang/invoke/MethodHandle" ∧ y.cls ≠ "java/lang/invoke/VarHandle")
    {W C S : Nat} {as : Array Value} {Q : Option Value → Heap → List Loc → Prop} (B : BK l R p e below s args z W as h C S Q) (eT : T.heap = h) {b : Addr} (E : Exa Z h b K) {pc : Nat} {Ls : Array Slot} {st argsL rest : List Value} (hml : Ls.size = c.maxLocals)
    (hlen : ∀ sig, parseMethodDescriptor y.desc = some sig → argsL.length = sig.parameters.length) (hst : st = argsL.reverse ++ .ref b :: rest) (has : (.ref b :: argsL).toArray = as) (hd : decode c.code pc = .ok (.invokevirtual index, 3)) (hW : (rest.map fun v => v.category).sum ≤ W) (hc : cells + C ≤ R.cells) (hs : slots + S ≤ R.slots)
    (k : ∀ v T' L, Stand p l e R s m args below meth c T' (locs ++ L) (cells + C) (slots + S) → Q v T'.heap L → Go p e below P T' (mkF m (pc + 3) Ls (v.toList ++ rest))) : Go p e below P T (mkF m pc Ls st) := by
  obtain ⟨cq, kq, qa, -, qc⟩ := isOf hZ eT E
  obtain ⟨v, _, ⟨T', L', k', n'⟩, -, X', ⟨Lc, hQ, l1, l2, l3⟩, stp⟩ := X.virtualBack hx hown (mvT hZ w1) (mvT hZ w2) hnf (mvT hZ w3) (mvT hZ w4) hy B qa qc (g := mkF m pc Ls st) rfl hml (Steps.refl _) hlen hst (by show 2 * 0 + _ ≤ _; simpa using hW) hd (fun _ _ => ⟨has, eT, hc, hs⟩)
  dsimp only [Pt.U, Pt.locs, Pt.cells, Pt.slots] at X' l1 l2 l3 stp hQ
  subst l1 l2 l3
  exact Go.of (fun _ z => stp.trans z) (k v T' Lc X' hQ)
theorem goP (X : Stand p l e R s m args below meth c T locs cells slots) (hx : p.tables.exec = Jvm.exec) (hZ : Z.Warmed39 s.vm) {own : String} {index n : Nat} {y : MethodName} {bytes : ByteArray} {maxL : Nat} {ret : Option FieldType} (hown : s.vm.findClass own = some m.cls)
    (w1 : (Jvm.Cond.methodLink own index y).before a0 Z = true) (w2 : (Jvm.Cond.instanceMethod y).before a0 Z = true) (w3 : (Jvm.Cond.privateMethod y).before a0 Z = true) (w4 : (Jvm.Cond.code y bytes maxL ret).before a0 Z = true) (wi : (Jvm.Cond.instantiable y.cls n).before a0 Z = true) (hy : y.cls ≠ "java/lang/invoke/MethodHandle" ∧ y.cls ≠ "java/lang/invoke/VarHandle")
    {W C S : Nat} {as : Array Value} {Q : Option Value → Heap → List Loc → Prop} (B : BK l R p e below s args y W as h C S Q) (eT : T.heap = h) {b : Addr} {K : String} (E : Exa Z h b K) {pc : Nat} {Ls : Array Slot} {st argsL rest : List Value} (hml : Ls.size = c.maxLocals)
    (hlen : ∀ sig, parseMethodDescriptor y.desc = some sig → argsL.length = sig.parameters.length) (hst : st = argsL.reverse ++ .ref b :: rest) (has : (.ref b :: argsL).toArray = as) (hd : decode c.code pc = .ok (.invokevirtual index, 3)) (hW : (rest.map fun v => v.category).sum ≤ W) (hc : cells + C ≤ R.cells) (hs : slots + S ≤ R.slots)
    (k : ∀ v T' L, Stand p l e R s m args below meth c T' (locs ++ L) (cells + C) (slots + S) → Q v T'.heap L → Go p e below P T' (mkF m (pc + 3) Ls (v.toList ++ rest))) : Go p e below P T (mkF m pc Ls st) := by
  have hp := Cond.privateMethod_at (mvP hZ w3 (args := args))
  obtain ⟨ci, ki, i1, i2, i3, i4, i5, -⟩ := Cond.instantiable_spec (mvT hZ wi (args := args))
  have hsel : (Jvm.Cond.selects y.cls y y).before args s = true := Jvm.Stand.selects_self_of_private i1 i2 (Bool.or_eq_false_iff.mp i4).1 hp (mvT hZ w2) hy
  obtain ⟨cq, q1, q2⟩ := E.cell
  obtain ⟨v, _, ⟨T', L', k', n'⟩, -, X', ⟨Lc, hQ, l1, l2, l3⟩, stp⟩ := X.privateBack hx hown (mvT hZ w1) (mvT hZ w2) hsel hp (mvT hZ w4) hy B (g := mkF m pc Ls st) rfl hml (Steps.refl _) (by rw [eT]; exact q1) q2 hlen hst (by show 2 * 0 + _ ≤ _; simpa using hW) hd (fun _ _ => ⟨has, eT, hc, hs⟩)
  dsimp only [Pt.U, Pt.locs, Pt.cells, Pt.slots] at X' l1 l2 l3 stp hQ
  subst l1 l2 l3
  exact Go.of (fun _ z => stp.trans z) (k v T' Lc X' hQ)
/-! pure: what a contract 'Pu' gives -/
theorem standNil {L : List Loc} (X : Stand p l e R s m args below meth c T (locs ++ L) (cells + 0) (slots + 0)) (q : L = []) : Stand p l e R s m args below meth c T locs cells slots := by
  subst q; rw [List.append_nil] at X; exact X
/-! the end -/
theorem goRet0 (X : Stand p l e R s m args below meth c T locs cells slots) (hx : p.tables.exec = Jvm.exec) (hret : meth.sig.returnType = none) (hlk : meth.locks = false) {pc : Nat} {Ls : Array Slot} {C S : Nat} {Q : Option Value → Heap → List Loc → Prop}
    (hd : decode c.code pc = .ok (.return_, 1)) (K : ∀ v t L, Q v t.heap L → FrameEnd s (.returned v) t L C S → P (.returned v) t) (hc : cells ≤ C) (hs : slots ≤ S) (eT : T.heap = h) (hq : Q none h locs) : Go p e below P T (mkF m pc Ls []) := by
  obtain ⟨fs, hr, hrun, hended, hW, hsame⟩ := X.leave (v := none) (fun _ => rfl) hlk
  exact ⟨_, _, X.returnOut hx hret hd hr, hrun, hended, K _ _ _ (by rw [← eT] at hq; exact hq) ⟨⟨_, rfl⟩, hW, hsame.mono hc hs⟩⟩
theorem goRet (X : Stand p l e R s m args below meth c T locs cells slots) (hx : p.tables.exec = Jvm.exec) {t : FieldType} (hret : meth.sig.returnType = some t) (hlk : meth.locks = false) {pc : Nat} {Ls : Array Slot} {C S : Nat} {w : Value} {rest : List Value} {i : Instr} {Q : Option Value → Heap → List Loc → Prop}
    (hn : narrow t w = w) (hi : (i = .ireturn ∧ (t = .int ∨ t = .boolean ∨ t = .byte ∨ t = .char ∨ t = .short) ∧ ∃ z, w = .int z) ∨ (i = .lreturn ∧ t = .long ∧ ∃ z, w = .long z) ∨ (i = .dreturn ∧ t = .double ∧ ∃ z, w = .double z) ∨ (i = .freturn ∧ t = .float ∧ ∃ z, w = .float z) ∨ (i = .areturn ∧ t.isReference = true ∧ w.isRef = true))
    (hd : decode c.code pc = .ok (i, 1)) (K : ∀ v t L, Q v t.heap L → FrameEnd s (.returned v) t L C S → P (.returned v) t) (hc : cells ≤ C) (hs : slots ≤ S) (eT : T.heap = h) (hq : Q (some w) h locs) : Go p e below P T (mkF m pc Ls (w :: rest)) := by
  obtain ⟨fs, hr, hrun, hended, hW, hsame⟩ := X.leave (v := some w) (fun q => by rw [hret] at q; cases q) hlk
  exact ⟨_, _, retOut X hx hret hn hi hd hr, hrun, hended, K _ _ _ (by rw [← eT] at hq; exact hq) ⟨⟨_, rfl⟩, hW, hsame.mono hc hs⟩⟩
theorem goRetI (X : Stand p l e R s m args below meth c T locs cells slots) (hx : p.tables.exec = Jvm.exec) {t : FieldType} (hret : meth.sig.returnType = some t) (hlk : meth.locks = false) {pc : Nat} {Ls : Array Slot} {C S : Nat} {z : Int32} {rest : List Value} {Q : Option Value → Heap → List Loc → Prop}
    (hn : narrow t (.int z) = .int z) (ht : t = .int ∨ t = .boolean ∨ t = .byte ∨ t = .char ∨ t = .short) (hd : decode c.code pc = .ok (.ireturn, 1)) (K : ∀ v t L, Q v t.heap L → FrameEnd s (.returned v) t L C S → P (.returned v) t) (hc : cells ≤ C) (hs : slots ≤ S) (eT : T.heap = h) (hq : Q (some (.int z)) h locs) : Go p e below P T (mkF m pc Ls (.int z :: rest)) :=
  goRet X hx hret hlk hn (Or.inl ⟨rfl, ht, z, rfl⟩) hd K hc hs eT hq
theorem goRetJ (X : Stand p l e R s m args below meth c T locs cells slots) (hx : p.tables.exec = Jvm.exec) (hret : meth.sig.returnType = some .long) (hlk : meth.locks = false) {pc : Nat} {Ls : Array Slot} {C S : Nat} {z : Int64} {rest : List Value} {Q : Option Value → Heap → List Loc → Prop}
    (hd : decode c.code pc = .ok (.lreturn, 1)) (K : ∀ v t L, Q v t.heap L → FrameEnd s (.returned v) t L C S → P (.returned v) t) (hc : cells ≤ C) (hs : slots ≤ S) (eT : T.heap = h) (hq : Q (some (.long z)) h locs) : Go p e below P T (mkF m pc Ls (.long z :: rest)) :=
  goRet X hx hret hlk rfl (Or.inr (Or.inl ⟨rfl, rfl, z, rfl⟩)) hd K hc hs eT hq
theorem goRetR (X : Stand p l e R s m args below meth c T locs cells slots) (hx : p.tables.exec = Jvm.exec) {t : FieldType} (hret : meth.sig.returnType = some t) (ht : t.isReference = true) (hlk : meth.locks = false) {pc : Nat} {Ls : Array Slot} {C S : Nat} {w : Value} {rest : List Value} {Q : Option Value → Heap → List Loc → Prop}
    (hw : w.isRef = true) (hn : narrow t w = w) (hd : decode c.code pc = .ok (.areturn, 1)) (K : ∀ v t L, Q v t.heap L → FrameEnd s (.returned v) t L C S → P (.returned v) t) (hc : cells ≤ C) (hs : slots ≤ S) (eT : T.heap = h) (hq : Q (some w) h locs) : Go p e below P T (mkF m pc Ls (w :: rest)) :=
  goRet X hx hret hlk hn (Or.inr (Or.inr (Or.inr (Or.inr ⟨rfl, ht, hw⟩)))) hd K hc hs eT hq
theorem lremM {g : JFrame} {target : State} (X : Stand p l e R s m args below meth c T locs cells slots) (hx : p.tables.exec = Jvm.exec) (hg : g.method = m) {x y : Int64} {rest : List Value} (hd : decode c.code g.pc = .ok (.lrem, 1)) (hs : g.stack = .long y :: .long x :: rest) (hy : y ≠ 0)
    (hr : Steps p.tables e below (T.setTop { g with pc := g.pc + 1, stack := .long (x % y) :: rest }) target) : Steps p.tables e below (T.setTop g) target := by
  have q : x - x / y * y = x % y := lrem_mod x y
  exact XS.lrem X.here hx hg hd hs hy (by rw [q]; exact hr)
end Calls
theorem refcat {v : Value} (h : v.isRef = true) : v.category = 1 := by rcases ref_cases h with rfl | ⟨a, rfl⟩ <;> rfl
theorem narref {t : FieldType} {v : Value} (h : v.isRef = true) : narrow t v = v := by rcases ref_cases h with rfl | ⟨a, rfl⟩ <;> cases t <;> rfl
theorem fitrefO {C : String} {v : Value} (h : v.isRef = true) : fits (.object C) v = true := by rcases ref_cases h with rfl | ⟨a, rfl⟩ <;> rfl
theorem fitrefA {t : FieldType} {v : Value} (h : v.isRef = true) : fits (.array t) v = true := by rcases ref_cases h with rfl | ⟨a, rfl⟩ <;> rfl
/-! booleans -/
def bi (φ : Prop) [Decidable φ] : Int32 := if φ then 1 else 0
theorem bi_t {φ : Prop} [Decidable φ] (h : φ) : bi φ = 1 := if_pos h
theorem bi_f {φ : Prop} [Decidable φ] (h : ¬ φ) : bi φ = 0 := if_neg h
theorem bi_ne {φ : Prop} [Decidable φ] (h : φ) : ¬ bi φ = 0 := by rw [bi_t h]; decide
theorem narrow_bi {φ : Prop} [Decidable φ] : narrow .boolean (.int (bi φ)) = .int (bi φ) := by unfold bi; split <;> rfl
end W
end Jvm.Pilot.@@N@@
namespace Jvm.Pilot.@@N@@
open Jvm Jvm.ClassFile Sem Op Lib Jvm.Free Jvm.Stand Jvm.LawKit Jvm.RoadKit Bundle Jvm.Pilot.@@N@@.Jvm.D Jvm.Pilot.@@N@@.W
/-! plain laws of longs -/
def maxL (x y : Int64) : Int64 := if x < y then y else x
def minL (x y : Int64) : Int64 := if y < x then y else x
def cmpJ (x y : Int64) : Int32 := if x < y then (-1 : Int32) else if x = y then (0 : Int32) else (1 : Int32)
def mulHi (q1 q2 : Int64) : Int64 :=
  (((q1 >>> ((32 : Int32) &&& 0x3f).toInt64) * (q2 >>> ((32 : Int32) &&& 0x3f).toInt64)) + ((((q1 >>> ((32 : Int32) &&& 0x3f).toInt64) * (q2 &&& (4294967295 : Int64))) + ((((q1 &&& (4294967295 : Int64)) * (q2 &&& (4294967295 : Int64))).toUInt64 >>> ((32 : Int32) &&& 0x3f).toInt64.toUInt64).toInt64)) >>> ((32 : Int32) &&& 0x3f).toInt64)) + (((((((q1 >>> ((32 : Int32) &&& 0x3f).toInt64) * (q2 &&& (4294967295 : Int64))) + ((((q1 &&& (4294967295 : Int64)) * (q2 &&& (4294967295 : Int64))).toUInt64 >>> ((32 : Int32) &&& 0x3f).toInt64.toUInt64).toInt64)) &&& (4294967295 : Int64)) + ((q1 &&& (4294967295 : Int64)) * (q2 >>> ((32 : Int32) &&& 0x3f).toInt64)))) >>> ((32 : Int32) &&& 0x3f).toInt64)
def cmpProd (a b c d : Int64) : Int32 := if mulHi a b = mulHi c d then cmpJ (a * b + (-9223372036854775808 : Int64)) (c * d + (-9223372036854775808 : Int64)) else cmpJ (mulHi a b) (mulHi c d)
abbrev wwl (li wn p cu el : Int64) : Prop := p.toInt * (wn - el).toInt ≤ (li - cu - 1).toInt * wn.toInt
theorem jlt {x y : Int64} : x < y ↔ x.toInt < y.toInt := Int64.lt_iff_toInt_lt
theorem jeq {x y : Int64} : x = y ↔ x.toInt = y.toInt := Int64.toInt_inj.symm
theorem jadd {x y : Int64} (h1 : -9223372036854775808 ≤ x.toInt + y.toInt) (h2 : x.toInt + y.toInt < 9223372036854775808) : (x + y).toInt = x.toInt + y.toInt := by
  have := c_ladd x y; have := rng64 (x + y); omega
theorem jsub {x y : Int64} (h1 : -9223372036854775808 ≤ x.toInt - y.toInt) (h2 : x.toInt - y.toInt < 9223372036854775808) : (x - y).toInt = x.toInt - y.toInt := by
  have := c_lsub x y; have := rng64 (x - y); omega
theorem jmul {x y : Int64} (h1 : -9223372036854775808 ≤ x.toInt * y.toInt) (h2 : x.toInt * y.toInt < 9223372036854775808) : (x * y).toInt = x.toInt * y.toInt := by
  have := c_lmul x y; have := rng64 (x * y); omega
theorem cmpJ_pos {x y : Int64} : (0 : Int32) < cmpJ x y ↔ y.toInt < x.toInt := by
  unfold cmpJ
  by_cases h1 : x < y
  · rw [if_pos h1]; rw [jlt] at h1; constructor
    · intro h; exact absurd h (by decide)
    · intro h; omega
  · rw [if_neg h1]
    by_cases h2 : x = y
    · rw [if_pos h2]; subst h2; constructor
      · intro h; exact absurd h (by decide)
      · intro h; omega
    · rw [if_neg h2]; rw [jlt] at h1; rw [jeq] at h2; constructor
      · intro _; omega
      · intro _; decide
theorem hi_arith (P11 P12 P21 P22 : Int) : P11 + (P12 + P22 / 4294967296) / 4294967296 + ((P12 + P22 / 4294967296) % 4294967296 + P21) / 4294967296 = (P11 * 18446744073709551616 + (P12 + P21) * 4294967296 + P22) / 18446744073709551616 := by
  have e : (18446744073709551616 : Int) = 4294967296 * 4294967296 := by decide
  rw [e, ← Int.ediv_ediv_of_nonneg (by decide)]
  have q1 : (P11 * (4294967296 * 4294967296) + (P12 + P21) * 4294967296 + P22) / 4294967296 = P11 * 4294967296 + P12 + P21 + P22 / 4294967296 := by omega
  rw [q1]
  generalize P22 / 4294967296 = u
  omega
theorem mulHi_eq (a b : Int64) : (mulHi a b).toInt = (a.toInt * b.toInt) / 18446744073709551616 := by
  have ra := rng64 a
  have rb := rng64 b
  have ha1 : (a >>> ((32 : Int32) &&& 0x3f).toInt64).toInt = a.toInt / 4294967296 := c_lshr a 32 32 rfl
  have hb1 : (b >>> ((32 : Int32) &&& 0x3f).toInt64).toInt = b.toInt / 4294967296 := c_lshr b 32 32 rfl
  have ha2 : (a &&& (4294967295 : Int64)).toInt = a.toInt % 4294967296 := c_maskL a 4294967295 32 (by decide) (by decide)
  have hb2 : (b &&& (4294967295 : Int64)).toInt = b.toInt % 4294967296 := c_maskL b 4294967295 32 (by decide) (by decide)
  unfold mulHi
  generalize (a >>> ((32 : Int32) &&& 0x3f).toInt64) = x1 at *
  generalize (b >>> ((32 : Int32) &&& 0x3f).toInt64) = y1 at *
  generalize (a &&& (4294967295 : Int64)) = x2 at *
  generalize (b &&& (4294967295 : Int64)) = y2 at *
  have e1 : a.toInt = x1.toInt * 4294967296 + x2.toInt := by omega
  have e2 : b.toInt = y1.toInt * 4294967296 + y2.toInt := by omega
  have bx1 : -2147483648 ≤ x1.toInt ∧ x1.toInt ≤ 2147483647 := by omega
  have by1 : -2147483648 ≤ y1.toInt ∧ y1.toInt ≤ 2147483647 := by omega
  have bx2 : 0 ≤ x2.toInt ∧ x2.toInt ≤ 4294967295 := by omega
  have by2 : 0 ≤ y2.toInt ∧ y2.toInt ≤ 4294967295 := by omega
  clear ha1 hb1 ha2 hb2 ra rb
  have m22 := mc bx2.1 bx2.2 by2.1 by2.2
  have m12 := mc bx1.1 bx1.2 by2.1 by2.2
  have m21 := mc bx2.1 bx2.2 by1.1 by1.2
  have m11 := mc bx1.1 bx1.2 by1.1 by1.2
  have ep : a.toInt * b.toInt = x1.toInt * y1.toInt * 18446744073709551616 + (x1.toInt * y2.toInt + x2.toInt * y1.toInt) * 4294967296 + x2.toInt * y2.toInt := by
    rw [e1, e2, Int.add_mul, Int.mul_add, Int.mul_add]
    have q1 : x1.toInt * 4294967296 * (y1.toInt * 4294967296) = x1.toInt * y1.toInt * 18446744073709551616 := by
      rw [Int.mul_assoc, Int.mul_left_comm 4294967296, ← Int.mul_assoc]; rfl
    have q2 : x1.toInt * 4294967296 * y2.toInt = x1.toInt * y2.toInt * 4294967296 := Int.mul_right_comm _ _ _
    have q3 : x2.toInt * (y1.toInt * 4294967296) = x2.toInt * y1.toInt * 4294967296 := (Int.mul_assoc _ _ _).symm
    rw [q1, q2, q3, Int.add_mul]
    generalize x1.toInt * y1.toInt * 18446744073709551616 = A1
    generalize x1.toInt * y2.toInt * 4294967296 = A2
    generalize x2.toInt * y1.toInt * 4294967296 = A3
    generalize x2.toInt * y2.toInt = A4
    omega
  rw [ep, ← hi_arith]
  clear ep e1 e2
  have b22 : 0 ≤ x2.toInt * y2.toInt ∧ x2.toInt * y2.toInt < 18446744073709551616 := by omega
  have b12 : -9223372036854775808 ≤ x1.toInt * y2.toInt ∧ x1.toInt * y2.toInt ≤ 9223372030412324865 := by omega
  have b21 : -9223372036854775808 ≤ x2.toInt * y1.toInt ∧ x2.toInt * y1.toInt ≤ 9223372030412324865 := by omega
  have b11 : -4611686018427387904 ≤ x1.toInt * y1.toInt ∧ x1.toInt * y1.toInt ≤ 4611686018427387904 := by omega
  clear m22 m12 m21 m11
  have k12 : (x1 * y2).toInt = x1.toInt * y2.toInt := jmul b12.1 (by omega)
  have k21 : (x2 * y1).toInt = x2.toInt * y1.toInt := jmul b21.1 (by omega)
  have k11 : (x1 * y1).toInt = x1.toInt * y1.toInt := jmul (by omega) (by omega)
  have hz2 : ((x2 * y2).toUInt64 >>> ((32 : Int32) &&& 0x3f).toInt64.toUInt64).toInt64.toInt = ((x2 * y2).toInt % 18446744073709551616) / 4294967296 := c_lushr (x2 * y2) 32 32 rfl (by decide)
  have cz2 := c_lmul x2 y2
  generalize x1.toInt * y1.toInt = P11 at *
  generalize x1.toInt * y2.toInt = P12 at *
  generalize x2.toInt * y1.toInt = P21 at *
  generalize x2.toInt * y2.toInt = P22 at *
  have ez : (x2 * y2).toInt % 18446744073709551616 = P22 := by omega
  rw [ez] at hz2
  clear ez cz2
  generalize ((x2 * y2).toUInt64 >>> ((32 : Int32) &&& 0x3f).toInt64.toUInt64).toInt64 = z2 at *
  have et : (x1 * y2 + z2).toInt = P12 + P22 / 4294967296 := by
    rw [jadd (by rw [k12, hz2]; omega) (by rw [k12, hz2]; omega), k12, hz2]
  have hz0 : ((x1 * y2 + z2) >>> ((32 : Int32) &&& 0x3f).toInt64).toInt = (x1 * y2 + z2).toInt / 4294967296 := c_lshr (x1 * y2 + z2) 32 32 rfl
  have hz1 : ((x1 * y2 + z2) &&& (4294967295 : Int64)).toInt = (x1 * y2 + z2).toInt % 4294967296 := c_maskL (x1 * y2 + z2) 4294967295 32 (by decide) (by decide)
  rw [et] at hz0 hz1
  clear et k12 hz2
  generalize ((x1 * y2 + z2) >>> ((32 : Int32) &&& 0x3f).toInt64) = z0 at *
  generalize ((x1 * y2 + z2) &&& (4294967295 : Int64)) = z1 at *
  have bt : -9223372036854775808 ≤ P12 + P22 / 4294967296 ∧ P12 + P22 / 4294967296 < 9223372036854775808 := by omega
  generalize P12 + P22 / 4294967296 = t at *
  have es : (z1 + x2 * y1).toInt = t % 4294967296 + P21 := by
    rw [jadd (by rw [k21, hz1]; omega) (by rw [k21, hz1]; omega), k21, hz1]
  have hs : ((z1 + x2 * y1) >>> ((32 : Int32) &&& 0x3f).toInt64).toInt = (z1 + x2 * y1).toInt / 4294967296 := c_lshr (z1 + x2 * y1) 32 32 rfl
  rw [es] at hs
  clear es hz1 k21
  generalize ((z1 + x2 * y1) >>> ((32 : Int32) &&& 0x3f).toInt64) = w at *
  have d1 : (x1 * y1 + z0).toInt = P11 + t / 4294967296 := by
    rw [jadd (by rw [k11, hz0]; omega) (by rw [k11, hz0]; omega), k11, hz0]
  rw [jadd (by rw [d1, hs]; omega) (by rw [d1, hs]; omega), d1, hs]
theorem cmpProd_pos (a b c d : Int64) : (0 : Int32) < cmpProd a b c d ↔ c.toInt * d.toInt < a.toInt * b.toInt := by
  have h1 := mulHi_eq a b
  have h2 := mulHi_eq c d
  have m1 := c_lmul a b
  have m2 := c_lmul c d
  have g1 := c_ladd (a * b) (-9223372036854775808)
  have g2 := c_ladd (c * d) (-9223372036854775808)
  have r1 := rng64 (a * b + (-9223372036854775808))
  have r2 := rng64 (c * d + (-9223372036854775808))
  have k : (-9223372036854775808 : Int64).toInt = -9223372036854775808 := by decide
  unfold cmpProd
  by_cases q : mulHi a b = mulHi c d
  · rw [if_pos q, cmpJ_pos]
    rw [jeq] at q
    generalize a.toInt * b.toInt = P at *
    generalize c.toInt * d.toInt = Q at *
    omega
  · rw [if_neg q, cmpJ_pos]
    rw [jeq] at q
    generalize a.toInt * b.toInt = P at *
    generalize c.toInt * d.toInt = Q at *
    omega
theorem wwl_iff {li wn p cu el : Int64} : wwl li wn p cu el ↔ ¬ (0 : Int32) < cmpProd p (wn - el) (li - cu - 1) wn := by
  rw [cmpProd_pos]; exact Int.not_lt.symm
def Good (li wn p cu el : Int64) : Prop := (0 : Int64) < li ∧ (0 : Int64) < wn ∧ ¬ p < (0 : Int64) ∧ ¬ cu < (0 : Int64) ∧ ¬ el < (0 : Int64) ∧ el < wn
theorem z64 : (0 : Int64).toInt = 0 := by decide
theorem o64 : (1 : Int64).toInt = 1 := by decide
theorem Good.num {li wn p cu el : Int64} (G : Good li wn p cu el) : 0 < li.toInt ∧ 0 < wn.toInt ∧ 0 ≤ p.toInt ∧ 0 ≤ cu.toInt ∧ 0 ≤ el.toInt ∧ el.toInt < wn.toInt := by
  obtain ⟨a, b, c, d, e, f⟩ := G
  simp only [jlt, z64] at a b c d e f
  omega
theorem max1_pos (x : Int64) : (0 : Int64) < maxL (1 : Int64) x := by
  unfold maxL; split
  · rename_i h; rw [jlt] at h ⊢; rw [o64] at h; rw [z64]; omega
  · decide
theorem mask_nn (x m : Int64) (h : 0 ≤ m.toInt) : ¬ (x &&& m) < (0 : Int64) := by
  rw [jlt, z64]; have := (c_andSL x m).2.2 h; omega
theorem max0_nn (x : Int64) : ¬ maxL (0 : Int64) x < (0 : Int64) := by
  unfold maxL; split
  · rename_i h; rw [jlt] at h ⊢; rw [z64] at *; omega
  · decide
theorem win_ok (x : Int64) : (0 : Int64) < ((x &&& (2147483647 : Int64)) + (1 : Int64)) ∧ ((x &&& (2147483647 : Int64)) + (1 : Int64)).toInt ≤ 2147483648 := by
  have := c_maskL x 2147483647 31 (by decide) (by decide)
  have e : ((x &&& (2147483647 : Int64)) + (1 : Int64)).toInt = (x &&& (2147483647 : Int64)).toInt + 1 := by rw [jadd (by rw [o64]; omega) (by rw [o64]; omega), o64]
  rw [jlt, z64, e]; omega
theorem rem_ok (x w : Int64) (hw : (0 : Int64) < w) : ¬ ((x &&& (9223372036854775807 : Int64)) % w) < (0 : Int64) ∧ ((x &&& (9223372036854775807 : Int64)) % w) < w := by
  have h1 := mask_nn x 9223372036854775807 (by decide)
  rw [jlt, z64] at *
  rw [jlt]
  rw [Int64.toInt_mod, Int.tmod_eq_emod_of_nonneg (by omega)]
  have := Int.emod_nonneg (x &&& (9223372036854775807 : Int64)).toInt (show w.toInt ≠ 0 by omega)
  have := Int.emod_lt_of_pos (x &&& (9223372036854775807 : Int64)).toInt hw
  omega
theorem pos_ne {w : Int64} (h : (0 : Int64) < w) : w ≠ 0 := fun q => by rw [q] at h; revert h; decide

theorem pn_java_lang_Record : plainName "java/lang/Record" = true := by first | (simp [plainName, overriddenIn]; done) | decide +kernel
theorem ef_rm_record (m : MethodId) (x0 : Addr)  : entryFrame m #[(.ref x0)] 1 = mkF m 0 #[.val (.ref x0)] [] := by first | (simp [entryFrame, mkF, argsToLocals, Value.category]; done) | rfl
theorem d_jdk_30_method_1_code_0 : decode jdk_30_method_1_code 0 = .ok (.aload_n 0, 1) := by decide +kernel
theorem d_jdk_30_method_1_code_1 : decode jdk_30_method_1_code 1 = .ok (.invokespecial 1, 3) := by decide +kernel
theorem d_jdk_30_method_1_code_4 : decode jdk_30_method_1_code 4 = .ok (.return_, 1) := by decide +kernel
set_option maxRecDepth 65536 in
set_option maxHeartbeats 40000000 in
theorem rm_record (l : Launch) (Z : State) (a0 : Array Value) (hw : ∀ d ∈ tables_1, d.before a0 Z = true) (a1 : Addr) (h0 : Heap)  :
    MeetsW l Z (⟨"java/lang/Record", "<init>", "()V"⟩ : MethodName) jdk_30_method_1_code 1 none ({ frames := 1, cells := 0, slots := 0, locals := 12 } : Room) #[(.ref a1)] h0 (Pu h0 (fun v => v = none)) := by
  refine MeetsW.of (plainFor_of_name pn_java_lang_Record) ?_
  intro p e s m below meth c s₁ P hx hby hml hZ hown hnm hret hlk X0 e0 K
  have M0 : Mv h0 h0 [] [] := Mv.refl _ _
  refine Go.cast (ef_rm_record m a1 ) ?_
  refine Go.of (T' := s₁) (f' := (mkF m 1 #[.val (.ref a1)] [(.ref a1)])) (fun _ k => XS.aloadN X0.here hx rfl (hb hby d_jdk_30_method_1_code_0) rfl rfl k) ?_
  obtain ⟨T1, X1, e1, st1⟩ := initO X0 hx hZ hown (hw _ (List.mem_of_getElem? (i := 13) rfl)) (hw _ (List.mem_of_getElem? (i := 14) rfl)) (hw _ (List.mem_of_getElem? (i := 15) rfl)) e0 (g := (mkF m 1 #[.val (.ref a1)] [(.ref a1)])) rfl (by rw [hml]; rfl) rfl (hb hby d_jdk_30_method_1_code_1) (by decide) (W := 0) (by show 2 * 0 + _ ≤ _; exact Nat.le_of_eq rfl) (by decide)
  refine Go.of (T' := T1) (f' := (mkF m 4 #[.val (.ref a1)] [])) st1 ?_
  exact goRet0 (Q := Pu h0 (fun v => v = none)) X1 hx hret hlk (hb hby d_jdk_30_method_1_code_4) K (by decide) (by decide) e1 (⟨rfl, rfl, rfl⟩)
theorem pn_com_example_sluiced_sluiced_limiter_SlidingWindowCounter : plainName "com/example/sluiced/sluiced/limiter/SlidingWindowCounter" = true := by first | (simp [plainName, overriddenIn]; done) | decide +kernel
theorem ef_rm_new (m : MethodId) (x0 : Addr) (x1 : Int64) (x2 : Int64)  : entryFrame m #[(.ref x0), (.long x1), (.long x2)] 5 = mkF m 0 #[.val (.ref x0), .val (.long x1), .second, .val (.long x2), .second] [] := by first | (simp [entryFrame, mkF, argsToLocals, Value.category]; done) | rfl
theorem d_prog_19_method_1_code_0 : decode prog_19_method_1_code 0 = .ok (.aload_n 0, 1) := by decide +kernel
theorem d_prog_19_method_1_code_1 : decode prog_19_method_1_code 1 = .ok (.invokespecial 1, 3) := by decide +kernel
theorem pd___V : parseMethodDescriptor "()V" = some ⟨[], none⟩ := by decide +kernel
theorem d_prog_19_method_1_code_4 : decode prog_19_method_1_code 4 = .ok (.lload_n 1, 1) := by decide +kernel
theorem d_prog_19_method_1_code_5 : decode prog_19_method_1_code 5 = .ok (.lconst 0, 1) := by decide +kernel
theorem d_prog_19_method_1_code_6 : decode prog_19_method_1_code 6 = .ok (.lcmp, 1) := by decide +kernel
theorem d_prog_19_method_1_code_7 : decode prog_19_method_1_code 7 = .ok (.ifCond .gt 17, 3) := by decide +kernel
theorem d_prog_19_method_1_code_24 : decode prog_19_method_1_code 24 = .ok (.lload_n 3, 1) := by decide +kernel
theorem d_prog_19_method_1_code_25 : decode prog_19_method_1_code 25 = .ok (.lconst 0, 1) := by decide +kernel
theorem d_prog_19_method_1_code_26 : decode prog_19_method_1_code 26 = .ok (.lcmp, 1) := by decide +kernel
theorem d_prog_19_method_1_code_27 : decode prog_19_method_1_code 27 = .ok (.ifCond .gt 17, 3) := by decide +kernel
theorem d_prog_19_method_1_code_44 : decode prog_19_method_1_code 44 = .ok (.aload_n 0, 1) := by decide +kernel
theorem d_prog_19_method_1_code_45 : decode prog_19_method_1_code 45 = .ok (.lload_n 1, 1) := by decide +kernel
theorem d_prog_19_method_1_code_46 : decode prog_19_method_1_code 46 = .ok (.putfield 17, 3) := by decide +kernel
theorem d_prog_19_method_1_code_49 : decode prog_19_method_1_code 49 = .ok (.aload_n 0, 1) := by decide +kernel
theorem d_prog_19_method_1_code_50 : decode prog_19_method_1_code 50 = .ok (.lload_n 3, 1) := by decide +kernel
theorem d_prog_19_method_1_code_51 : decode prog_19_method_1_code 51 = .ok (.putfield 23, 3) := by decide +kernel
theorem d_prog_19_method_1_code_54 : decode prog_19_method_1_code 54 = .ok (.return_, 1) := by decide +kernel
set_option maxRecDepth 65536 in
set_option maxHeartbeats 40000000 in
theorem rm_new (l : Launch) (Z : State) (a0 : Array Value) (hw : ∀ d ∈ tables_1, d.before a0 Z = true) (a1 : Addr) (q1 q2 : Int64) (h0 : Heap) (E_a1 : Exa Z h0 a1 "com/example/sluiced/sluiced/limiter/SlidingWindowCounter") (F_limit : Fld Z h0 a1 "com/example/sluiced/sluiced/limiter/SlidingWindowCounter" "limit" "J" (.long (0 : Int64))) (F_window : Fld Z h0 a1 "com/example/sluiced/sluiced/limiter/SlidingWindowCounter" "window" "J" (.long (0 : Int64))) (hl : (0 : Int64) < q1) (hwn : (0 : Int64) < q2) :
    MeetsW l Z (⟨"com/example/sluiced/sluiced/limiter/SlidingWindowCounter", "<init>", "(JJ)V"⟩ : MethodName) prog_19_method_1_code 5 none ({ frames := 2, cells := 0, slots := 0, locals := 24 } : Room) #[(.ref a1), (.long q1), (.long q2)] h0 (fun v h L => v = none ∧ Mv h0 h [a1] L ∧ Exa Z h a1 "com/example/sluiced/sluiced/limiter/SlidingWindowCounter" ∧ Fld Z h a1 "com/example/sluiced/sluiced/limiter/SlidingWindowCounter" "limit" "J" (.long q1) ∧ Fld Z h a1 "com/example/sluiced/sluiced/limiter/SlidingWindowCounter" "window" "J" (.long q2)) := by
  refine MeetsW.of (plainFor_of_name pn_com_example_sluiced_sluiced_limiter_SlidingWindowCounter) ?_
  intro p e s m below meth c s₁ P hx hby hml hZ hown hnm hret hlk X0 e0 K
  have M0 : Mv h0 h0 [a1] [] := Mv.refl _ _
  refine Go.cast (ef_rm_new m a1 q1 q2 ) ?_
  refine Go.of (T' := s₁) (f' := (mkF m 1 #[.val (.ref a1), .val (.long q1), .second, .val (.long q2), .second] [(.ref a1)])) (fun _ k => XS.aloadN X0.here hx rfl (hb hby d_prog_19_method_1_code_0) rfl rfl k) ?_
  refine goI X0 hx hZ rfl hown (hw _ (List.mem_of_getElem? (i := 8) rfl)) (hw _ (List.mem_of_getElem? (i := 9) rfl)) (hw _ (List.mem_of_getElem? (i := 12) rfl)) (by decide) (C := 0) (S := 0) ((rm_record l Z a0 hw a1 h0 ).bk (W := 0) hZ (hw _ (List.mem_of_getElem? (i := 12) rfl)) (hw _ (List.mem_of_getElem? (i := 11) rfl)) (by decide) (by decide)) e0 (argsL := []) (rest := []) (by rw [hml]; rfl) (lenOf pd___V rfl) rfl rfl (hb hby d_prog_19_method_1_code_1) (Nat.le_of_eq rfl) (by decide) (by decide) ?_
  intro v1 T1 L1 X1 hQ1
  obtain ⟨nq1, e1, rfl⟩ := hQ1
  replace X1 := standNil X1 nq1
  show Go p e below P T1 (mkF m 4 #[.val (.ref a1), .val (.long q1), .second, .val (.long q2), .second] [])
  refine Go.of (T' := T1) (f' := (mkF m 5 #[.val (.ref a1), .val (.long q1), .second, .val (.long q2), .second] [(.long q1)])) (fun _ k => XS.lloadN X1.here hx rfl (hb hby d_prog_19_method_1_code_4) rfl k) ?_
  refine Go.of (T' := T1) (f' := (mkF m 6 #[.val (.ref a1), .val (.long q1), .second, .val (.long q2), .second] [(.long (0 : Int64)), (.long q1)])) (fun _ k => XS.lconst X1.here hx rfl (hb hby d_prog_19_method_1_code_5) k) ?_
  refine Go.of (T' := T1) (f' := (mkF m 7 #[.val (.ref a1), .val (.long q1), .second, .val (.long q2), .second] [(.int (lcmpW q1 (0 : Int64)))])) (fun _ k => XS.lcmp X1.here hx rfl (hb hby d_prog_19_method_1_code_6) rfl k) ?_
  have hc7 : (0 : Int64) < q1 := hl
  refine Go.of (T' := T1) (f' := (mkF m 24 #[.val (.ref a1), .val (.long q1), .second, .val (.long q2), .second] [])) (fun _ k => XS.ifYes X1.here hx rfl (pc0 := 7) (pc' := 24) rfl (hb hby d_prog_19_method_1_code_7) rfl ((if0 _ _).trans (tlt ((lw_gt _ _).mpr hc7)).2.2.1) (by decide) (by decide) k) ?_
  refine Go.of (T' := T1) (f' := (mkF m 25 #[.val (.ref a1), .val (.long q1), .second, .val (.long q2), .second] [(.long q2)])) (fun _ k => XS.lloadN X1.here hx rfl (hb hby d_prog_19_method_1_code_24) rfl k) ?_
  refine Go.of (T' := T1) (f' := (mkF m 26 #[.val (.ref a1), .val (.long q1), .second, .val (.long q2), .second] [(.long (0 : Int64)), (.long q2)])) (fun _ k => XS.lconst X1.here hx rfl (hb hby d_prog_19_method_1_code_25) k) ?_
  refine Go.of (T' := T1) (f' := (mkF m 27 #[.val (.ref a1), .val (.long q1), .second, .val (.long q2), .second] [(.int (lcmpW q2 (0 : Int64)))])) (fun _ k => XS.lcmp X1.here hx rfl (hb hby d_prog_19_method_1_code_26) rfl k) ?_
  have hc27 : (0 : Int64) < q2 := hwn
  refine Go.of (T' := T1) (f' := (mkF m 44 #[.val (.ref a1), .val (.long q1), .second, .val (.long q2), .second] [])) (fun _ k => XS.ifYes X1.here hx rfl (pc0 := 27) (pc' := 44) rfl (hb hby d_prog_19_method_1_code_27) rfl ((if0 _ _).trans (tlt ((lw_gt _ _).mpr hc27)).2.2.1) (by decide) (by decide) k) ?_
  refine Go.of (T' := T1) (f' := (mkF m 45 #[.val (.ref a1), .val (.long q1), .second, .val (.long q2), .second] [(.ref a1)])) (fun _ k => XS.aloadN X1.here hx rfl (hb hby d_prog_19_method_1_code_44) rfl rfl k) ?_
  refine Go.of (T' := T1) (f' := (mkF m 46 #[.val (.ref a1), .val (.long q1), .second, .val (.long q2), .second] [(.long q1), (.ref a1)])) (fun _ k => XS.lloadN X1.here hx rfl (hb hby d_prog_19_method_1_code_45) rfl k) ?_
  obtain ⟨T2, h2, X2, e2, W2, st2⟩ := putF X1 hx hZ hown (host := "") (Or.inl (hw _ (List.mem_of_getElem? (i := 16) rfl))) Via.refl e1 F_limit E_a1 (Or.inr ⟨(hw _ (List.mem_of_getElem? (i := 17) rfl)), rfl, hnm⟩) (hw _ (List.mem_of_getElem? (i := 3) rfl)) (ty := .long) (by decide) rfl rfl (g := (mkF m 46 #[.val (.ref a1), .val (.long q1), .second, .val (.long q2), .second] [(.long q1), (.ref a1)])) rfl rfl (hb hby d_prog_19_method_1_code_46)
  have K2 := Keep.of_wr W2
  have M2 := M0.wr W2 (Or.inl (List.mem_of_getElem? (i := 0) rfl))
  replace F_limit := F_limit.same W2
  replace F_window := F_window.other W2 (Or.inr (slot_ne (Or.inr (hw _ (List.mem_of_getElem? (i := 19) rfl))) (Or.inr (hw _ (List.mem_of_getElem? (i := 17) rfl))) (by decide) (t := .long) (t' := .long) (by decide) (by decide)))
  replace E_a1 := E_a1.keep K2
  refine Go.of (T' := T2) (f' := (mkF m 49 #[.val (.ref a1), .val (.long q1), .second, .val (.long q2), .second] [])) st2 ?_
  refine Go.of (T' := T2) (f' := (mkF m 50 #[.val (.ref a1), .val (.long q1), .second, .val (.long q2), .second] [(.ref a1)])) (fun _ k => XS.aloadN X2.here hx rfl (hb hby d_prog_19_method_1_code_49) rfl rfl k) ?_
  refine Go.of (T' := T2) (f' := (mkF m 51 #[.val (.ref a1), .val (.long q1), .second, .val (.long q2), .second] [(.long q2), (.ref a1)])) (fun _ k => XS.lloadN X2.here hx rfl (hb hby d_prog_19_method_1_code_50) rfl k) ?_
  obtain ⟨T3, h3, X3, e3, W3, st3⟩ := putF X2 hx hZ hown (host := "") (Or.inl (hw _ (List.mem_of_getElem? (i := 18) rfl))) Via.refl e2 F_window E_a1 (Or.inr ⟨(hw _ (List.mem_of_getElem? (i := 19) rfl)), rfl, hnm⟩) (hw _ (List.mem_of_getElem? (i := 3) rfl)) (ty := .long) (by decide) rfl rfl (g := (mkF m 51 #[.val (.ref a1), .val (.long q1), .second, .val (.long q2), .second] [(.long q2), (.ref a1)])) rfl rfl (hb hby d_prog_19_method_1_code_51)
  have K3 := Keep.of_wr W3
  have M3 := M2.wr W3 (Or.inl (List.mem_of_getElem? (i := 0) rfl))
  replace F_limit := F_limit.other W3 (Or.inr (slot_ne (Or.inr (hw _ (List.mem_of_getElem? (i := 17) rfl))) (Or.inr (hw _ (List.mem_of_getElem? (i := 19) rfl))) (by decide) (t := .long) (t' := .long) (by decide) (by decide)))
  replace F_window := F_window.same W3
  replace E_a1 := E_a1.keep K3
  refine Go.of (T' := T3) (f' := (mkF m 54 #[.val (.ref a1), .val (.long q1), .second, .val (.long q2), .second] [])) st3 ?_
  exact goRet0 (Q := fun v h L => v = none ∧ Mv h0 h [a1] L ∧ Exa Z h a1 "com/example/sluiced/sluiced/limiter/SlidingWindowCounter" ∧ Fld Z h a1 "com/example/sluiced/sluiced/limiter/SlidingWindowCounter" "limit" "J" (.long q1) ∧ Fld Z h a1 "com/example/sluiced/sluiced/limiter/SlidingWindowCounter" "window" "J" (.long q2)) X3 hx hret hlk (hb hby d_prog_19_method_1_code_54) K (by decide) (by decide) e3 (⟨rfl, M3, E_a1, F_limit, F_window⟩)
theorem ef_rm_check (m : MethodId) (x0 : Addr) (x1 : Int64) (x2 : Int64) (x3 : Int64)  : entryFrame m #[(.ref x0), (.long x1), (.long x2), (.long x3)] 7 = mkF m 0 #[.val (.ref x0), .val (.long x1), .second, .val (.long x2), .second, .val (.long x3), .second] [] := by first | (simp [entryFrame, mkF, argsToLocals, Value.category]; done) | rfl
theorem d_prog_19_method_5_code_0 : decode prog_19_method_5_code 0 = .ok (.lload_n 1, 1) := by decide +kernel
theorem d_prog_19_method_5_code_1 : decode prog_19_method_5_code 1 = .ok (.lconst 0, 1) := by decide +kernel
theorem d_prog_19_method_5_code_2 : decode prog_19_method_5_code 2 = .ok (.lcmp, 1) := by decide +kernel
theorem d_prog_19_method_5_code_3 : decode prog_19_method_5_code 3 = .ok (.ifCond .lt 9, 3) := by decide +kernel
theorem d_prog_19_method_5_code_6 : decode prog_19_method_5_code 6 = .ok (.lload_n 3, 1) := by decide +kernel
theorem d_prog_19_method_5_code_7 : decode prog_19_method_5_code 7 = .ok (.lconst 0, 1) := by decide +kernel
theorem d_prog_19_method_5_code_8 : decode prog_19_method_5_code 8 = .ok (.lcmp, 1) := by decide +kernel
theorem d_prog_19_method_5_code_9 : decode prog_19_method_5_code 9 = .ok (.ifCond .ge 18, 3) := by decide +kernel
theorem d_prog_19_method_5_code_27 : decode prog_19_method_5_code 27 = .ok (.lload 5, 2) := by decide +kernel
theorem d_prog_19_method_5_code_29 : decode prog_19_method_5_code 29 = .ok (.lconst 0, 1) := by decide +kernel
theorem d_prog_19_method_5_code_30 : decode prog_19_method_5_code 30 = .ok (.lcmp, 1) := by decide +kernel
theorem d_prog_19_method_5_code_31 : decode prog_19_method_5_code 31 = .ok (.ifCond .lt 13, 3) := by decide +kernel
theorem d_prog_19_method_5_code_34 : decode prog_19_method_5_code 34 = .ok (.lload 5, 2) := by decide +kernel
theorem d_prog_19_method_5_code_36 : decode prog_19_method_5_code 36 = .ok (.aload_n 0, 1) := by decide +kernel
theorem d_prog_19_method_5_code_37 : decode prog_19_method_5_code 37 = .ok (.getfield 23, 3) := by decide +kernel
theorem d_prog_19_method_5_code_40 : decode prog_19_method_5_code 40 = .ok (.lcmp, 1) := by decide +kernel
theorem d_prog_19_method_5_code_41 : decode prog_19_method_5_code 41 = .ok (.ifCond .lt 22, 3) := by decide +kernel
theorem d_prog_19_method_5_code_63 : decode prog_19_method_5_code 63 = .ok (.return_, 1) := by decide +kernel
set_option maxRecDepth 65536 in
set_option maxHeartbeats 40000000 in
theorem rm_check (l : Launch) (Z : State) (a0 : Array Value) (hw : ∀ d ∈ tables_1, d.before a0 Z = true) (a1 : Addr) (q1 q2 q3 wn : Int64) (h0 : Heap) (F_window : Fld Z h0 a1 "com/example/sluiced/sluiced/limiter/SlidingWindowCounter" "window" "J" (.long wn)) (hq1 : ¬ q1 < (0 : Int64)) (hq2 : ¬ q2 < (0 : Int64)) (hq3 : ¬ q3 < (0 : Int64)) (hq4 : q3 < wn) :
    MeetsW l Z (⟨"com/example/sluiced/sluiced/limiter/SlidingWindowCounter", "checkArguments", "(JJJ)V"⟩ : MethodName) prog_19_method_5_code 7 none ({ frames := 0, cells := 0, slots := 0, locals := 0 } : Room) #[(.ref a1), (.long q1), (.long q2), (.long q3)] h0 (Pu h0 (fun v => v = none)) := by
  refine MeetsW.of (plainFor_of_name pn_com_example_sluiced_sluiced_limiter_SlidingWindowCounter) ?_
  intro p e s m below meth c s₁ P hx hby hml hZ hown hnm hret hlk X0 e0 K
  have M0 : Mv h0 h0 [] [] := Mv.refl _ _
  refine Go.cast (ef_rm_check m a1 q1 q2 q3 ) ?_
  refine Go.of (T' := s₁) (f' := (mkF m 1 #[.val (.ref a1), .val (.long q1), .second, .val (.long q2), .second, .val (.long q3), .second] [(.long q1)])) (fun _ k => XS.lloadN X0.here hx rfl (hb hby d_prog_19_method_5_code_0) rfl k) ?_
  refine Go.of (T' := s₁) (f' := (mkF m 2 #[.val (.ref a1), .val (.long q1), .second, .val (.long q2), .second, .val (.long q3), .second] [(.long (0 : Int64)), (.long q1)])) (fun _ k => XS.lconst X0.here hx rfl (hb hby d_prog_19_method_5_code_1) k) ?_
  refine Go.of (T' := s₁) (f' := (mkF m 3 #[.val (.ref a1), .val (.long q1), .second, .val (.long q2), .second, .val (.long q3), .second] [(.int (lcmpW q1 (0 : Int64)))])) (fun _ k => XS.lcmp X0.here hx rfl (hb hby d_prog_19_method_5_code_2) rfl k) ?_
  have hc3 : ¬ (q1 < (0 : Int64)) := hq1
  refine Go.of (T' := s₁) (f' := (mkF m 6 #[.val (.ref a1), .val (.long q1), .second, .val (.long q2), .second, .val (.long q3), .second] [])) (fun _ k => XS.ifNo X0.here hx rfl (hb hby d_prog_19_method_5_code_3) rfl ((if0 _ _).trans (flt (mt (lw_lt _ _).mp hc3)).1) k) ?_
  refine Go.of (T' := s₁) (f' := (mkF m 7 #[.val (.ref a1), .val (.long q1), .second, .val (.long q2), .second, .val (.long q3), .second] [(.long q2)])) (fun _ k => XS.lloadN X0.here hx rfl (hb hby d_prog_19_method_5_code_6) rfl k) ?_
  refine Go.of (T' := s₁) (f' := (mkF m 8 #[.val (.ref a1), .val (.long q1), .second, .val (.long q2), .second, .val (.long q3), .second] [(.long (0 : Int64)), (.long q2)])) (fun _ k => XS.lconst X0.here hx rfl (hb hby d_prog_19_method_5_code_7) k) ?_
  refine Go.of (T' := s₁) (f' := (mkF m 9 #[.val (.ref a1), .val (.long q1), .second, .val (.long q2), .second, .val (.long q3), .second] [(.int (lcmpW q2 (0 : Int64)))])) (fun _ k => XS.lcmp X0.here hx rfl (hb hby d_prog_19_method_5_code_8) rfl k) ?_
  have hc9 : ¬ (q2 < (0 : Int64)) := hq2
  refine Go.of (T' := s₁) (f' := (mkF m 27 #[.val (.ref a1), .val (.long q1), .second, .val (.long q2), .second, .val (.long q3), .second] [])) (fun _ k => XS.ifYes X0.here hx rfl (pc0 := 9) (pc' := 27) rfl (hb hby d_prog_19_method_5_code_9) rfl ((if0 _ _).trans (flt (mt (lw_lt _ _).mp hc9)).2.1) (by decide) (by decide) k) ?_
  refine Go.of (T' := s₁) (f' := (mkF m 29 #[.val (.ref a1), .val (.long q1), .second, .val (.long q2), .second, .val (.long q3), .second] [(.long q3)])) (fun _ k => XS.lload X0.here hx rfl (hb hby d_prog_19_method_5_code_27) rfl k) ?_
  refine Go.of (T' := s₁) (f' := (mkF m 30 #[.val (.ref a1), .val (.long q1), .second, .val (.long q2), .second, .val (.long q3), .second] [(.long (0 : Int64)), (.long q3)])) (fun _ k => XS.lconst X0.here hx rfl (hb hby d_prog_19_method_5_code_29) k) ?_
  refine Go.of (T' := s₁) (f' := (mkF m 31 #[.val (.ref a1), .val (.long q1), .second, .val (.long q2), .second, .val (.long q3), .second] [(.int (lcmpW q3 (0 : Int64)))])) (fun _ k => XS.lcmp X0.here hx rfl (hb hby d_prog_19_method_5_code_30) rfl k) ?_
  have hc31 : ¬ (q3 < (0 : Int64)) := hq3
  refine Go.of (T' := s₁) (f' := (mkF m 34 #[.val (.ref a1), .val (.long q1), .second, .val (.long q2), .second, .val (.long q3), .second] [])) (fun _ k => XS.ifNo X0.here hx rfl (hb hby d_prog_19_method_5_code_31) rfl ((if0 _ _).trans (flt (mt (lw_lt _ _).mp hc31)).1) k) ?_
  refine Go.of (T' := s₁) (f' := (mkF m 36 #[.val (.ref a1), .val (.long q1), .second, .val (.long q2), .second, .val (.long q3), .second] [(.long q3)])) (fun _ k => XS.lload X0.here hx rfl (hb hby d_prog_19_method_5_code_34) rfl k) ?_
  refine Go.of (T' := s₁) (f' := (mkF m 37 #[.val (.ref a1), .val (.long q1), .second, .val (.long q2), .second, .val (.long q3), .second] [(.ref a1), (.long q3)])) (fun _ k => XS.aloadN X0.here hx rfl (hb hby d_prog_19_method_5_code_36) rfl rfl k) ?_
  obtain ⟨T1, X1, e1, st1⟩ := getF X0 hx hZ hown (host := "") (Or.inl (hw _ (List.mem_of_getElem? (i := 18) rfl))) Via.refl e0 F_window (g := (mkF m 37 #[.val (.ref a1), .val (.long q1), .second, .val (.long q2), .second, .val (.long q3), .second] [(.ref a1), (.long q3)])) rfl rfl (hb hby d_prog_19_method_5_code_37)
  refine Go.of (T' := T1) (f' := (mkF m 40 #[.val (.ref a1), .val (.long q1), .second, .val (.long q2), .second, .val (.long q3), .second] [(.long wn), (.long q3)])) st1 ?_
  refine Go.of (T' := T1) (f' := (mkF m 41 #[.val (.ref a1), .val (.long q1), .second, .val (.long q2), .second, .val (.long q3), .second] [(.int (lcmpW q3 wn))])) (fun _ k => XS.lcmp X1.here hx rfl (hb hby d_prog_19_method_5_code_40) rfl k) ?_
  have hc41 : q3 < wn := hq4
  refine Go.of (T' := T1) (f' := (mkF m 63 #[.val (.ref a1), .val (.long q1), .second, .val (.long q2), .second, .val (.long q3), .second] [])) (fun _ k => XS.ifYes X1.here hx rfl (pc0 := 41) (pc' := 63) rfl (hb hby d_prog_19_method_5_code_41) rfl ((if0 _ _).trans (tlt ((lw_lt _ _).mpr hc41)).1) (by decide) (by decide) k) ?_
  exact goRet0 (Q := Pu h0 (fun v => v = none)) X1 hx hret hlk (hb hby d_prog_19_method_5_code_63) K (by decide) (by decide) e1 (⟨rfl, rfl, rfl⟩)
theorem pn_java_lang_Long : plainName "java/lang/Long" = true := by first | (simp [plainName, overriddenIn]; done) | decide +kernel
theorem ef_rm_compare (m : MethodId) (x0 : Int64) (x1 : Int64)  : entryFrame m #[(.long x0), (.long x1)] 4 = mkF m 0 #[.val (.long x0), .second, .val (.long x1), .second] [] := by first | (simp [entryFrame, mkF, argsToLocals, Value.category]; done) | rfl
theorem d_jdk_35_method_42_code_0 : decode jdk_35_method_42_code 0 = .ok (.lload_n 0, 1) := by decide +kernel
theorem d_jdk_35_method_42_code_1 : decode jdk_35_method_42_code 1 = .ok (.lload_n 2, 1) := by decide +kernel
theorem d_jdk_35_method_42_code_2 : decode jdk_35_method_42_code 2 = .ok (.lcmp, 1) := by decide +kernel
theorem d_jdk_35_method_42_code_3 : decode jdk_35_method_42_code 3 = .ok (.ifCond .ge 7, 3) := by decide +kernel
theorem d_jdk_35_method_42_code_6 : decode jdk_35_method_42_code 6 = .ok (.iconst (-1), 1) := by decide +kernel
theorem d_jdk_35_method_42_code_7 : decode jdk_35_method_42_code 7 = .ok (.goto 14, 3) := by decide +kernel
theorem d_jdk_35_method_42_code_21 : decode jdk_35_method_42_code 21 = .ok (.ireturn, 1) := by decide +kernel
theorem d_jdk_35_method_42_code_10 : decode jdk_35_method_42_code 10 = .ok (.lload_n 0, 1) := by decide +kernel
theorem d_jdk_35_method_42_code_11 : decode jdk_35_method_42_code 11 = .ok (.lload_n 2, 1) := by decide +kernel
theorem d_jdk_35_method_42_code_12 : decode jdk_35_method_42_code 12 = .ok (.lcmp, 1) := by decide +kernel
theorem d_jdk_35_method_42_code_13 : decode jdk_35_method_42_code 13 = .ok (.ifCond .ne 7, 3) := by decide +kernel
theorem d_jdk_35_method_42_code_16 : decode jdk_35_method_42_code 16 = .ok (.iconst 0, 1) := by decide +kernel
theorem d_jdk_35_method_42_code_17 : decode jdk_35_method_42_code 17 = .ok (.goto 4, 3) := by decide +kernel
theorem d_jdk_35_method_42_code_20 : decode jdk_35_method_42_code 20 = .ok (.iconst 1, 1) := by decide +kernel
set_option maxRecDepth 65536 in
set_option maxHeartbeats 40000000 in
theorem rm_compare (l : Launch) (Z : State) (a0 : Array Value) (hw : ∀ d ∈ tables_1, d.before a0 Z = true) (q1 q2 : Int64) (h0 : Heap)  :
    MeetsW l Z (⟨"java/lang/Long", "compare", "(JJ)I"⟩ : MethodName) jdk_35_method_42_code 4 (some .int) ({ frames := 0, cells := 0, slots := 0, locals := 0 } : Room) #[(.long q1), (.long q2)] h0 (Pu h0 (fun v => v = some (.int (cmpJ q1 q2)))) := by
  refine MeetsW.of (plainFor_of_name pn_java_lang_Long) ?_
  intro p e s m below meth c s₁ P hx hby hml hZ hown hnm hret hlk X0 e0 K
  have M0 : Mv h0 h0 [] [] := Mv.refl _ _
  refine Go.cast (ef_rm_compare m q1 q2 ) ?_
  refine Go.of (T' := s₁) (f' := (mkF m 1 #[.val (.long q1), .second, .val (.long q2), .second] [(.long q1)])) (fun _ k => XS.lloadN X0.here hx rfl (hb hby d_jdk_35_method_42_code_0) rfl k) ?_
  refine Go.of (T' := s₁) (f' := (mkF m 2 #[.val (.long q1), .second, .val (.long q2), .second] [(.long q2), (.long q1)])) (fun _ k => XS.lloadN X0.here hx rfl (hb hby d_jdk_35_method_42_code_1) rfl k) ?_
  refine Go.of (T' := s₁) (f' := (mkF m 3 #[.val (.long q1), .second, .val (.long q2), .second] [(.int (lcmpW q1 q2))])) (fun _ k => XS.lcmp X0.here hx rfl (hb hby d_jdk_35_method_42_code_2) rfl k) ?_
  by_cases hc3 : q1 < q2
  ·
    refine Go.of (T' := s₁) (f' := (mkF m 6 #[.val (.long q1), .second, .val (.long q2), .second] [])) (fun _ k => XS.ifNo X0.here hx rfl (hb hby d_jdk_35_method_42_code_3) rfl ((if0 _ _).trans (tlt ((lw_lt _ _).mpr hc3)).2.1) k) ?_
    refine Go.of (T' := s₁) (f' := (mkF m 7 #[.val (.long q1), .second, .val (.long q2), .second] [(.int (-1 : Int32))])) (fun _ k => XS.iconst X0.here hx rfl (hb hby d_jdk_35_method_42_code_6) k) ?_
    refine Go.of (T' := s₁) (f' := (mkF m 21 #[.val (.long q1), .second, .val (.long q2), .second] [(.int (-1 : Int32))])) (fun _ k => XS.goto X0.here hx rfl (pc0 := 7) (pc' := 21) rfl (hb hby d_jdk_35_method_42_code_7) (by decide) (by decide) k) ?_
    exact goRetI (Q := Pu h0 (fun v => v = some (.int (cmpJ q1 q2)))) X0 hx (t := .int) hret hlk rfl (by simp) (hb hby d_jdk_35_method_42_code_21) K (by decide) (by decide) e0 (⟨rfl, rfl, by simp only [cmpJ]; rw [if_pos hc3]⟩)
  ·
    refine Go.of (T' := s₁) (f' := (mkF m 10 #[.val (.long q1), .second, .val (.long q2), .second] [])) (fun _ k => XS.ifYes X0.here hx rfl (pc0 := 3) (pc' := 10) rfl (hb hby d_jdk_35_method_42_code_3) rfl ((if0 _ _).trans (flt (mt (lw_lt _ _).mp hc3)).2.1) (by decide) (by decide) k) ?_
    refine Go.of (T' := s₁) (f' := (mkF m 11 #[.val (.long q1), .second, .val (.long q2), .second] [(.long q1)])) (fun _ k => XS.lloadN X0.here hx rfl (hb hby d_jdk_35_method_42_code_10) rfl k) ?_
    refine Go.of (T' := s₁) (f' := (mkF m 12 #[.val (.long q1), .second, .val (.long q2), .second] [(.long q2), (.long q1)])) (fun _ k => XS.lloadN X0.here hx rfl (hb hby d_jdk_35_method_42_code_11) rfl k) ?_
    refine Go.of (T' := s₁) (f' := (mkF m 13 #[.val (.long q1), .second, .val (.long q2), .second] [(.int (lcmpW q1 q2))])) (fun _ k => XS.lcmp X0.here hx rfl (hb hby d_jdk_35_method_42_code_12) rfl k) ?_
    by_cases hc13 : q1 = q2
    ·
      refine Go.of (T' := s₁) (f' := (mkF m 16 #[.val (.long q1), .second, .val (.long q2), .second] [])) (fun _ k => XS.ifNo X0.here hx rfl (hb hby d_jdk_35_method_42_code_13) rfl ((if0 _ _).trans (teq ((lw_eq _ _).mpr hc13)).2) k) ?_
      refine Go.of (T' := s₁) (f' := (mkF m 17 #[.val (.long q1), .second, .val (.long q2), .second] [(.int (0 : Int32))])) (fun _ k => XS.iconst X0.here hx rfl (hb hby d_jdk_35_method_42_code_16) k) ?_
      refine Go.of (T' := s₁) (f' := (mkF m 21 #[.val (.long q1), .second, .val (.long q2), .second] [(.int (0 : Int32))])) (fun _ k => XS.goto X0.here hx rfl (pc0 := 17) (pc' := 21) rfl (hb hby d_jdk_35_method_42_code_17) (by decide) (by decide) k) ?_
      exact goRetI (Q := Pu h0 (fun v => v = some (.int (cmpJ q1 q2)))) X0 hx (t := .int) hret hlk rfl (by simp) (hb hby d_jdk_35_method_42_code_21) K (by decide) (by decide) e0 (⟨rfl, rfl, by simp only [cmpJ]; rw [if_neg hc3, if_pos hc13]⟩)
    ·
      refine Go.of (T' := s₁) (f' := (mkF m 20 #[.val (.long q1), .second, .val (.long q2), .second] [])) (fun _ k => XS.ifYes X0.here hx rfl (pc0 := 13) (pc' := 20) rfl (hb hby d_jdk_35_method_42_code_13) rfl ((if0 _ _).trans (feq (mt (lw_eq _ _).mp hc13)).2) (by decide) (by decide) k) ?_
      refine Go.of (T' := s₁) (f' := (mkF m 21 #[.val (.long q1), .second, .val (.long q2), .second] [(.int (1 : Int32))])) (fun _ k => XS.iconst X0.here hx rfl (hb hby d_jdk_35_method_42_code_20) k) ?_
      exact goRetI (Q := Pu h0 (fun v => v = some (.int (cmpJ q1 q2)))) X0 hx (t := .int) hret hlk rfl (by simp) (hb hby d_jdk_35_method_42_code_21) K (by decide) (by decide) e0 (⟨rfl, rfl, by simp only [cmpJ]; rw [if_neg hc3, if_neg hc13]⟩)
theorem ef_rm_compareU (m : MethodId) (x0 : Int64) (x1 : Int64)  : entryFrame m #[(.long x0), (.long x1)] 4 = mkF m 0 #[.val (.long x0), .second, .val (.long x1), .second] [] := by first | (simp [entryFrame, mkF, argsToLocals, Value.category]; done) | rfl
theorem d_jdk_35_method_43_code_0 : decode jdk_35_method_43_code 0 = .ok (.lload_n 0, 1) := by decide +kernel
theorem d_jdk_35_method_43_code_1 : decode jdk_35_method_43_code 1 = .ok (.ldc2_w 168, 3) := by decide +kernel
theorem d_jdk_35_method_43_code_4 : decode jdk_35_method_43_code 4 = .ok (.ladd, 1) := by decide +kernel
theorem d_jdk_35_method_43_code_5 : decode jdk_35_method_43_code 5 = .ok (.lload_n 2, 1) := by decide +kernel
theorem d_jdk_35_method_43_code_6 : decode jdk_35_method_43_code 6 = .ok (.ldc2_w 168, 3) := by decide +kernel
theorem d_jdk_35_method_43_code_9 : decode jdk_35_method_43_code 9 = .ok (.ladd, 1) := by decide +kernel
theorem d_jdk_35_method_43_code_10 : decode jdk_35_method_43_code 10 = .ok (.invokestatic 302, 3) := by decide +kernel
theorem pd__JJ_I : parseMethodDescriptor "(JJ)I" = some ⟨[.long, .long], some .int⟩ := by decide +kernel
theorem d_jdk_35_method_43_code_13 : decode jdk_35_method_43_code 13 = .ok (.ireturn, 1) := by decide +kernel
set_option maxRecDepth 65536 in
set_option maxHeartbeats 40000000 in
theorem rm_compareU (l : Launch) (Z : State) (a0 : Array Value) (hw : ∀ d ∈ tables_1, d.before a0 Z = true) (q1 q2 : Int64) (h0 : Heap)  :
    MeetsW l Z (⟨"java/lang/Long", "compareUnsigned", "(JJ)I"⟩ : MethodName) jdk_35_method_43_code 4 (some .int) ({ frames := 1, cells := 0, slots := 0, locals := 15 } : Room) #[(.long q1), (.long q2)] h0 (Pu h0 (fun v => v = some (.int (cmpJ (q1 + (-9223372036854775808 : Int64)) (q2 + (-9223372036854775808 : Int64)))))) := by
  refine MeetsW.of (plainFor_of_name pn_java_lang_Long) ?_
  intro p e s m below meth c s₁ P hx hby hml hZ hown hnm hret hlk X0 e0 K
  have M0 : Mv h0 h0 [] [] := Mv.refl _ _
  refine Go.cast (ef_rm_compareU m q1 q2 ) ?_
  refine Go.of (T' := s₁) (f' := (mkF m 1 #[.val (.long q1), .second, .val (.long q2), .second] [(.long q1)])) (fun _ k => XS.lloadN X0.here hx rfl (hb hby d_jdk_35_method_43_code_0) rfl k) ?_
  refine Go.of (T' := s₁) (f' := (mkF m 4 #[.val (.long q1), .second, .val (.long q2), .second] [(.long (-9223372036854775808 : Int64)), (.long q1)])) (fun _ k => X0.ldc2Long hx hown (mvT hZ (hw _ (List.mem_of_getElem? (i := 45) rfl))) (g := (mkF m 1 #[.val (.long q1), .second, .val (.long q2), .second] [(.long q1)])) rfl (hb hby d_jdk_35_method_43_code_1) _ k) ?_
  refine Go.of (T' := s₁) (f' := (mkF m 5 #[.val (.long q1), .second, .val (.long q2), .second] [(.long (q1 + (-9223372036854775808 : Int64)))])) (fun _ k => XS.ladd X0.here hx rfl (hb hby d_jdk_35_method_43_code_4) rfl k) ?_
  refine Go.of (T' := s₁) (f' := (mkF m 6 #[.val (.long q1), .second, .val (.long q2), .second] [(.long q2), (.long (q1 + (-9223372036854775808 : Int64)))])) (fun _ k => XS.lloadN X0.here hx rfl (hb hby d_jdk_35_method_43_code_5) rfl k) ?_
  refine Go.of (T' := s₁) (f' := (mkF m 9 #[.val (.long q1), .second, .val (.long q2), .second] [(.long (-9223372036854775808 : Int64)), (.long q2), (.long (q1 + (-9223372036854775808 : Int64)))])) (fun _ k => X0.ldc2Long hx hown (mvT hZ (hw _ (List.mem_of_getElem? (i := 45) rfl))) (g := (mkF m 6 #[.val (.long q1), .second, .val (.long q2), .second] [(.long q2), (.long (q1 + (-9223372036854775808 : Int64)))])) rfl (hb hby d_jdk_35_method_43_code_6) _ k) ?_
  refine Go.of (T' := s₁) (f' := (mkF m 10 #[.val (.long q1), .second, .val (.long q2), .second] [(.long (q2 + (-9223372036854775808 : Int64))), (.long (q1 + (-9223372036854775808 : Int64)))])) (fun _ k => XS.ladd X0.here hx rfl (hb hby d_jdk_35_method_43_code_9) rfl k) ?_
  refine goS X0 hx hZ hown (hw _ (List.mem_of_getElem? (i := 46) rfl)) (hw _ (List.mem_of_getElem? (i := 47) rfl)) (hw _ (List.mem_of_getElem? (i := 43) rfl)) (hw _ (List.mem_of_getElem? (i := 48) rfl)) (by decide) (C := 0) (S := 0) ((rm_compare l Z a0 hw (q1 + (-9223372036854775808 : Int64)) (q2 + (-9223372036854775808 : Int64)) h0 ).bk (W := 0) hZ (hw _ (List.mem_of_getElem? (i := 48) rfl)) (hw _ (List.mem_of_getElem? (i := 43) rfl)) (by decide) (by decide)) e0 (argsL := [(.long (q1 + (-9223372036854775808 : Int64))), (.long (q2 + (-9223372036854775808 : Int64)))]) (rest := []) (by rw [hml]; rfl) (lenOf pd__JJ_I rfl) rfl rfl (hb hby d_jdk_35_method_43_code_10) (Nat.le_of_eq rfl) (by decide) (by decide) ?_
  intro v1 T1 L1 X1 hQ1
  obtain ⟨nq1, e1, rfl⟩ := hQ1
  replace X1 := standNil X1 nq1
  show Go p e below P T1 (mkF m 13 #[.val (.long q1), .second, .val (.long q2), .second] [(.int (cmpJ (q1 + (-9223372036854775808 : Int64)) (q2 + (-9223372036854775808 : Int64))))])
  exact goRetI (Q := Pu h0 (fun v => v = some (.int (cmpJ (q1 + (-9223372036854775808 : Int64)) (q2 + (-9223372036854775808 : Int64)))))) X1 hx (t := .int) hret hlk rfl (by simp) (hb hby d_jdk_35_method_43_code_13) K (by decide) (by decide) e1 (⟨rfl, rfl, rfl⟩)
theorem ef_rm_mulHi (m : MethodId) (x0 : Int64) (x1 : Int64)  : entryFrame m #[(.long x0), (.long x1)] 20 = mkF m 0 #[.val (.long x0), .second, .val (.long x1), .second, .unset, .unset, .unset, .unset, .unset, .unset, .unset, .unset, .unset, .unset, .unset, .unset, .unset, .unset, .unset, .unset] [] := by first | (simp [entryFrame, mkF, argsToLocals, Value.category]; done) | rfl
theorem d_jdk_29_method_45_code_0 : decode jdk_29_method_45_code 0 = .ok (.lload_n 0, 1) := by decide +kernel
theorem d_jdk_29_method_45_code_1 : decode jdk_29_method_45_code 1 = .ok (.bipush 32, 2) := by decide +kernel
theorem d_jdk_29_method_45_code_3 : decode jdk_29_method_45_code 3 = .ok (.lshr, 1) := by decide +kernel
theorem d_jdk_29_method_45_code_4 : decode jdk_29_method_45_code 4 = .ok (.lstore 4, 2) := by decide +kernel
theorem d_jdk_29_method_45_code_6 : decode jdk_29_method_45_code 6 = .ok (.lload_n 0, 1) := by decide +kernel
theorem d_jdk_29_method_45_code_7 : decode jdk_29_method_45_code 7 = .ok (.ldc2_w 138, 3) := by decide +kernel
theorem d_jdk_29_method_45_code_10 : decode jdk_29_method_45_code 10 = .ok (.land, 1) := by decide +kernel
theorem d_jdk_29_method_45_code_11 : decode jdk_29_method_45_code 11 = .ok (.lstore 6, 2) := by decide +kernel
theorem d_jdk_29_method_45_code_13 : decode jdk_29_method_45_code 13 = .ok (.lload_n 2, 1) := by decide +kernel
theorem d_jdk_29_method_45_code_14 : decode jdk_29_method_45_code 14 = .ok (.bipush 32, 2) := by decide +kernel
theorem d_jdk_29_method_45_code_16 : decode jdk_29_method_45_code 16 = .ok (.lshr, 1) := by decide +kernel
theorem d_jdk_29_method_45_code_17 : decode jdk_29_method_45_code 17 = .ok (.lstore 8, 2) := by decide +kernel
theorem d_jdk_29_method_45_code_19 : decode jdk_29_method_45_code 19 = .ok (.lload_n 2, 1) := by decide +kernel
theorem d_jdk_29_method_45_code_20 : decode jdk_29_method_45_code 20 = .ok (.ldc2_w 138, 3) := by decide +kernel
theorem d_jdk_29_method_45_code_23 : decode jdk_29_method_45_code 23 = .ok (.land, 1) := by decide +kernel
theorem d_jdk_29_method_45_code_24 : decode jdk_29_method_45_code 24 = .ok (.lstore 10, 2) := by decide +kernel
theorem d_jdk_29_method_45_code_26 : decode jdk_29_method_45_code 26 = .ok (.lload 6, 2) := by decide +kernel
theorem d_jdk_29_method_45_code_28 : decode jdk_29_method_45_code 28 = .ok (.lload 10, 2) := by decide +kernel
theorem d_jdk_29_method_45_code_30 : decode jdk_29_method_45_code 30 = .ok (.lmul, 1) := by decide +kernel
theorem d_jdk_29_method_45_code_31 : decode jdk_29_method_45_code 31 = .ok (.lstore 12, 2) := by decide +kernel
theorem d_jdk_29_method_45_code_33 : decode jdk_29_method_45_code 33 = .ok (.lload 4, 2) := by decide +kernel
theorem d_jdk_29_method_45_code_35 : decode jdk_29_method_45_code 35 = .ok (.lload 10, 2) := by decide +kernel
theorem d_jdk_29_method_45_code_37 : decode jdk_29_method_45_code 37 = .ok (.lmul, 1) := by decide +kernel
theorem d_jdk_29_method_45_code_38 : decode jdk_29_method_45_code 38 = .ok (.lload 12, 2) := by decide +kernel
theorem d_jdk_29_method_45_code_40 : decode jdk_29_method_45_code 40 = .ok (.bipush 32, 2) := by decide +kernel
theorem d_jdk_29_method_45_code_42 : decode jdk_29_method_45_code 42 = .ok (.lushr, 1) := by decide +kernel
theorem d_jdk_29_method_45_code_43 : decode jdk_29_method_45_code 43 = .ok (.ladd, 1) := by decide +kernel
theorem d_jdk_29_method_45_code_44 : decode jdk_29_method_45_code 44 = .ok (.lstore 14, 2) := by decide +kernel
theorem d_jdk_29_method_45_code_46 : decode jdk_29_method_45_code 46 = .ok (.lload 14, 2) := by decide +kernel
theorem d_jdk_29_method_45_code_48 : decode jdk_29_method_45_code 48 = .ok (.ldc2_w 138, 3) := by decide +kernel
theorem d_jdk_29_method_45_code_51 : decode jdk_29_method_45_code 51 = .ok (.land, 1) := by decide +kernel
theorem d_jdk_29_method_45_code_52 : decode jdk_29_method_45_code 52 = .ok (.lstore 16, 2) := by decide +kernel
theorem d_jdk_29_method_45_code_54 : decode jdk_29_method_45_code 54 = .ok (.lload 14, 2) := by decide +kernel
theorem d_jdk_29_method_45_code_56 : decode jdk_29_method_45_code 56 = .ok (.bipush 32, 2) := by decide +kernel
theorem d_jdk_29_method_45_code_58 : decode jdk_29_method_45_code 58 = .ok (.lshr, 1) := by decide +kernel
theorem d_jdk_29_method_45_code_59 : decode jdk_29_method_45_code 59 = .ok (.lstore 18, 2) := by decide +kernel
theorem d_jdk_29_method_45_code_61 : decode jdk_29_method_45_code 61 = .ok (.lload 16, 2) := by decide +kernel
theorem d_jdk_29_method_45_code_63 : decode jdk_29_method_45_code 63 = .ok (.lload 6, 2) := by decide +kernel
theorem d_jdk_29_method_45_code_65 : decode jdk_29_method_45_code 65 = .ok (.lload 8, 2) := by decide +kernel
theorem d_jdk_29_method_45_code_67 : decode jdk_29_method_45_code 67 = .ok (.lmul, 1) := by decide +kernel
theorem d_jdk_29_method_45_code_68 : decode jdk_29_method_45_code 68 = .ok (.ladd, 1) := by decide +kernel
theorem d_jdk_29_method_45_code_69 : decode jdk_29_method_45_code 69 = .ok (.lstore 16, 2) := by decide +kernel
theorem d_jdk_29_method_45_code_71 : decode jdk_29_method_45_code 71 = .ok (.lload 4, 2) := by decide +kernel
theorem d_jdk_29_method_45_code_73 : decode jdk_29_method_45_code 73 = .ok (.lload 8, 2) := by decide +kernel
theorem d_jdk_29_method_45_code_75 : decode jdk_29_method_45_code 75 = .ok (.lmul, 1) := by decide +kernel
theorem d_jdk_29_method_45_code_76 : decode jdk_29_method_45_code 76 = .ok (.lload 18, 2) := by decide +kernel
theorem d_jdk_29_method_45_code_78 : decode jdk_29_method_45_code 78 = .ok (.ladd, 1) := by decide +kernel
theorem d_jdk_29_method_45_code_79 : decode jdk_29_method_45_code 79 = .ok (.lload 16, 2) := by decide +kernel
theorem d_jdk_29_method_45_code_81 : decode jdk_29_method_45_code 81 = .ok (.bipush 32, 2) := by decide +kernel
theorem d_jdk_29_method_45_code_83 : decode jdk_29_method_45_code 83 = .ok (.lshr, 1) := by decide +kernel
theorem d_jdk_29_method_45_code_84 : decode jdk_29_method_45_code 84 = .ok (.ladd, 1) := by decide +kernel
theorem d_jdk_29_method_45_code_85 : decode jdk_29_method_45_code 85 = .ok (.lreturn, 1) := by decide +kernel
set_option maxRecDepth 65536 in
set_option maxHeartbeats 40000000 in
theorem rm_mulHi (l : Launch) (Z : State) (a0 : Array Value) (hw : ∀ d ∈ tables_1, d.before a0 Z = true) (q1 q2 : Int64) (h0 : Heap)  :
    MeetsW l Z (⟨"java/lang/Math", "multiplyHigh", "(JJ)J"⟩ : MethodName) jdk_29_method_45_code 20 (some .long) ({ frames := 0, cells := 0, slots := 0, locals := 0 } : Room) #[(.long q1), (.long q2)] h0 (Pu h0 (fun v => v = some (.long (mulHi q1 q2)))) := by
  refine MeetsW.of (Jvm.Free.JP.mathPlain rfl (by decide +kernel)) ?_
  intro p e s m below meth c s₁ P hx hby hml hZ hown hnm hret hlk X0 e0 K
  have M0 : Mv h0 h0 [] [] := Mv.refl _ _
  refine Go.cast (ef_rm_mulHi m q1 q2 ) ?_
  refine Go.of (T' := s₁) (f' := (mkF m 1 #[.val (.long q1), .second, .val (.long q2), .second, .unset, .unset, .unset, .unset, .unset, .unset, .unset, .unset, .unset, .unset, .unset, .unset, .unset, .unset, .unset, .unset] [(.long q1)])) (fun _ k => XS.lloadN X0.here hx rfl (hb hby d_jdk_29_method_45_code_0) rfl k) ?_
  refine Go.of (T' := s₁) (f' := (mkF m 3 #[.val (.long q1), .second, .val (.long q2), .second, .unset, .unset, .unset, .unset, .unset, .unset, .unset, .unset, .unset, .unset, .unset, .unset, .unset, .unset, .unset, .unset] [(.int (32 : Int32)), (.long q1)])) (fun _ k => XS.bipush X0.here hx rfl (hb hby d_jdk_29_method_45_code_1) k) ?_
  refine Go.of (T' := s₁) (f' := (mkF m 4 #[.val (.long q1), .second, .val (.long q2), .second, .unset, .unset, .unset, .unset, .unset, .unset, .unset, .unset, .unset, .unset, .unset, .unset, .unset, .unset, .unset, .unset] [(.long (q1 >>> ((32 : Int32) &&& 0x3f).toInt64))])) (fun _ k => XS.lshr X0.here hx rfl (hb hby d_jdk_29_method_45_code_3) rfl k) ?_
  refine Go.of (T' := s₁) (f' := (mkF m 6 #[.val (.long q1), .second, .val (.long q2), .second, .val (.long (q1 >>> ((32 : Int32) &&& 0x3f).toInt64)), .second, .unset, .unset, .unset, .unset, .unset, .unset, .unset, .unset, .unset, .unset, .unset, .unset, .unset, .unset] [])) (fun _ k => XS.lstore X0.here hx rfl (hb hby d_jdk_29_method_45_code_4) rfl (l' := #[.val (.long q1), .second, .val (.long q2), .second, .val (.long (q1 >>> ((32 : Int32) &&& 0x3f).toInt64)), .second, .unset, .unset, .unset, .unset, .unset, .unset, .unset, .unset, .unset, .unset, .unset, .unset, .unset, .unset]) rfl k) ?_
  refine Go.of (T' := s₁) (f' := (mkF m 7 #[.val (.long q1), .second, .val (.long q2), .second, .val (.long (q1 >>> ((32 : Int32) &&& 0x3f).toInt64)), .second, .unset, .unset, .unset, .unset, .unset, .unset, .unset, .unset, .unset, .unset, .unset, .unset, .unset, .unset] [(.long q1)])) (fun _ k => XS.lloadN X0.here hx rfl (hb hby d_jdk_29_method_45_code_6) rfl k) ?_
  refine Go.of (T' := s₁) (f' := (mkF m 10 #[.val (.long q1), .second, .val (.long q2), .second, .val (.long (q1 >>> ((32 : Int32) &&& 0x3f).toInt64)), .second, .unset, .unset, .unset, .unset, .unset, .unset, .unset, .unset, .unset, .unset, .unset, .unset, .unset, .unset] [(.long (4294967295 : Int64)), (.long q1)])) (fun _ k => X0.ldc2Long hx hown (mvT hZ (hw _ (List.mem_of_getElem? (i := 40) rfl))) (g := (mkF m 7 #[.val (.long q1), .second, .val (.long q2), .second, .val (.long (q1 >>> ((32 : Int32) &&& 0x3f).toInt64)), .second, .unset, .unset, .unset, .unset, .unset, .unset, .unset, .unset, .unset, .unset, .unset, .unset, .unset, .unset] [(.long q1)])) rfl (hb hby d_jdk_29_method_45_code_7) _ k) ?_
  refine Go.of (T' := s₁) (f' := (mkF m 11 #[.val (.long q1), .second, .val (.long q2), .second, .val (.long (q1 >>> ((32 : Int32) &&& 0x3f).toInt64)), .second, .unset, .unset, .unset, .unset, .unset, .unset, .unset, .unset, .unset, .unset, .unset, .unset, .unset, .unset] [(.long (q1 &&& (4294967295 : Int64)))])) (fun _ k => XS.land X0.here hx rfl (hb hby d_jdk_29_method_45_code_10) rfl k) ?_
  refine Go.of (T' := s₁) (f' := (mkF m 13 #[.val (.long q1), .second, .val (.long q2), .second, .val (.long (q1 >>> ((32 : Int32) &&& 0x3f).toInt64)), .second, .val (.long (q1 &&& (4294967295 : Int64))), .second, .unset, .unset, .unset, .unset, .unset, .unset, .unset, .unset, .unset, .unset, .unset, .unset] [])) (fun _ k => XS.lstore X0.here hx rfl (hb hby d_jdk_29_method_45_code_11) rfl (l' := #[.val (.long q1), .second, .val (.long q2), .second, .val (.long (q1 >>> ((32 : Int32) &&& 0x3f).toInt64)), .second, .val (.long (q1 &&& (4294967295 : Int64))), .second, .unset, .unset, .unset, .unset, .unset, .unset, .unset, .unset, .unset, .unset, .unset, .unset]) rfl k) ?_
  refine Go.of (T' := s₁) (f' := (mkF m 14 #[.val (.long q1), .second, .val (.long q2), .second, .val (.long (q1 >>> ((32 : Int32) &&& 0x3f).toInt64)), .second, .val (.long (q1 &&& (4294967295 : Int64))), .second, .unset, .unset, .unset, .unset, .unset, .unset, .unset, .unset, .unset, .unset, .unset, .unset] [(.long q2)])) (fun _ k => XS.lloadN X0.here hx rfl (hb hby d_jdk_29_method_45_code_13) rfl k) ?_
  refine Go.of (T' := s₁) (f' := (mkF m 16 #[.val (.long q1), .second, .val (.long q2), .second, .val (.long (q1 >>> ((32 : Int32) &&& 0x3f).toInt64)), .second, .val (.long (q1 &&& (4294967295 : Int64))), .second, .unset, .unset, .unset, .unset, .unset, .unset, .unset, .unset, .unset, .unset, .unset, .unset] [(.int (32 : Int32)), (.long q2)])) (fun _ k => XS.bipush X0.here hx rfl (hb hby d_jdk_29_method_45_code_14) k) ?_
  refine Go.of (T' := s₁) (f' := (mkF m 17 #[.val (.long q1), .second, .val (.long q2), .second, .val (.long (q1 >>> ((32 : Int32) &&& 0x3f).toInt64)), .second, .val (.long (q1 &&& (4294967295 : Int64))), .second, .unset, .unset, .unset, .unset, .unset, .unset, .unset, .unset, .unset, .unset, .unset, .unset] [(.long (q2 >>> ((32 : Int32) &&& 0x3f).toInt64))])) (fun _ k => XS.lshr X0.here hx rfl (hb hby d_jdk_29_method_45_code_16) rfl k) ?_
  refine Go.of (T' := s₁) (f' := (mkF m 19 #[.val (.long q1), .second, .val (.long q2), .second, .val (.long (q1 >>> ((32 : Int32) &&& 0x3f).toInt64)), .second, .val (.long (q1 &&& (4294967295 : Int64))), .second, .val (.long (q2 >>> ((32 : Int32) &&& 0x3f).toInt64)), .second, .unset, .unset, .unset, .unset, .unset, .unset, .unset, .unset, .unset, .unset] [])) (fun _ k => XS.lstore X0.here hx rfl (hb hby d_jdk_29_method_45_code_17) rfl (l' := #[.val (.long q1), .second, .val (.long q2), .second, .val (.long (q1 >>> ((32 : Int32) &&& 0x3f).toInt64)), .second, .val (.long (q1 &&& (4294967295 : Int64))), .second, .val (.long (q2 >>> ((32 : Int32) &&& 0x3f).toInt64)), .second, .unset, .unset, .unset, .unset, .unset, .unset, .unset, .unset, .unset, .unset]) rfl k) ?_
  refine Go.of (T' := s₁) (f' := (mkF m 20 #[.val (.long q1), .second, .val (.long q2), .second, .val (.long (q1 >>> ((32 : Int32) &&& 0x3f).toInt64)), .second, .val (.long (q1 &&& (4294967295 : Int64))), .second, .val (.long (q2 >>> ((32 : Int32) &&& 0x3f).toInt64)), .second, .unset, .unset, .unset, .unset, .unset, .unset, .unset, .unset, .unset, .unset] [(.long q2)])) (fun _ k => XS.lloadN X0.here hx rfl (hb hby d_jdk_29_method_45_code_19) rfl k) ?_
  refine Go.of (T' := s₁) (f' := (mkF m 23 #[.val (.long q1), .second, .val (.long q2), .second, .val (.long (q1 >>> ((32 : Int32) &&& 0x3f).toInt64)), .second, .val (.long (q1 &&& (4294967295 : Int64))), .second, .val (.long (q2 >>> ((32 : Int32) &&& 0x3f).toInt64)), .second, .unset, .unset, .unset, .unset, .unset, .unset, .unset, .unset, .unset, .unset] [(.long (4294967295 : Int64)), (.long q2)])) (fun _ k => X0.ldc2Long hx hown (mvT hZ (hw _ (List.mem_of_getElem? (i := 40) rfl))) (g := (mkF m 20 #[.val (.long q1), .second, .val (.long q2), .second, .val (.long (q1 >>> ((32 : Int32) &&& 0x3f).toInt64)), .second, .val (.long (q1 &&& (4294967295 : Int64))), .second, .val (.long (q2 >>> ((32 : Int32) &&& 0x3f).toInt64)), .second, .unset, .unset, .unset, .unset, .unset, .unset, .unset, .unset, .unset, .unset] [(.long q2)])) rfl (hb hby d_jdk_29_method_45_code_20) _ k) ?_
  refine Go.of (T' := s₁) (f' := (mkF m 24 #[.val (.long q1), .second, .val (.long q2), .second, .val (.long (q1 >>> ((32 : Int32) &&& 0x3f).toInt64)), .second, .val (.long (q1 &&& (4294967295 : Int64))), .second, .val (.long (q2 >>> ((32 : Int32) &&& 0x3f).toInt64)), .second, .unset, .unset, .unset, .unset, .unset, .unset, .unset, .unset, .unset, .unset] [(.long (q2 &&& (4294967295 : Int64)))])) (fun _ k => XS.land X0.here hx rfl (hb hby d_jdk_29_method_45_code_23) rfl k) ?_
  refine Go.of (T' := s₁) (f' := (mkF m 26 #[.val (.long q1), .second, .val (.long q2), .second, .val (.long (q1 >>> ((32 : Int32) &&& 0x3f).toInt64)), .second, .val (.long (q1 &&& (4294967295 : Int64))), .second, .val (.long (q2 >>> ((32 : Int32) &&& 0x3f).toInt64)), .second, .val (.long (q2 &&& (4294967295 : Int64))), .second, .unset, .unset, .unset, .unset, .unset, .unset, .unset, .unset] [])) (fun _ k => XS.lstore X0.here hx rfl (hb hby d_jdk_29_method_45_code_24) rfl (l' := #[.val (.long q1), .second, .val (.long q2), .second, .val (.long (q1 >>> ((32 : Int32) &&& 0x3f).toInt64)), .second, .val (.long (q1 &&& (4294967295 : Int64))), .second, .val (.long (q2 >>> ((32 : Int32) &&& 0x3f).toInt64)), .second, .val (.long (q2 &&& (4294967295 : Int64))), .second, .unset, .unset, .unset, .unset, .unset, .unset, .unset, .unset]) rfl k) ?_
  refine Go.of (T' := s₁) (f' := (mkF m 28 #[.val (.long q1), .second, .val (.long q2), .second, .val (.long (q1 >>> ((32 : Int32) &&& 0x3f).toInt64)), .second, .val (.long (q1 &&& (4294967295 : Int64))), .second, .val (.long (q2 >>> ((32 : Int32) &&& 0x3f).toInt64)), .second, .val (.long (q2 &&& (4294967295 : Int64))), .second, .unset, .unset, .unset, .unset, .unset, .unset, .unset, .unset] [(.long (q1 &&& (4294967295 : Int64)))])) (fun _ k => XS.lload X0.here hx rfl (hb hby d_jdk_29_method_45_code_26) rfl k) ?_
  refine Go.of (T' := s₁) (f' := (mkF m 30 #[.val (.long q1), .second, .val (.long q2), .second, .val (.long (q1 >>> ((32 : Int32) &&& 0x3f).toInt64)), .second, .val (.long (q1 &&& (4294967295 : Int64))), .second, .val (.long (q2 >>> ((32 : Int32) &&& 0x3f).toInt64)), .second, .val (.long (q2 &&& (4294967295 : Int64))), .second, .unset, .unset, .unset, .unset, .unset, .unset, .unset, .unset] [(.long (q2 &&& (4294967295 : Int64))), (.long (q1 &&& (4294967295 : Int64)))])) (fun _ k => XS.lload X0.here hx rfl (hb hby d_jdk_29_method_45_code_28) rfl k) ?_
  refine Go.of (T' := s₁) (f' := (mkF m 31 #[.val (.long q1), .second, .val (.long q2), .second, .val (.long (q1 >>> ((32 : Int32) &&& 0x3f).toInt64)), .second, .val (.long (q1 &&& (4294967295 : Int64))), .second, .val (.long (q2 >>> ((32 : Int32) &&& 0x3f).toInt64)), .second, .val (.long (q2 &&& (4294967295 : Int64))), .second, .unset, .unset, .unset, .unset, .unset, .unset, .unset, .unset] [(.long ((q1 &&& (4294967295 : Int64)) * (q2 &&& (4294967295 : Int64))))])) (fun _ k => XS.lmul X0.here hx rfl (hb hby d_jdk_29_method_45_code_30) rfl k) ?_
  refine Go.of (T' := s₁) (f' := (mkF m 33 #[.val (.long q1), .second, .val (.long q2), .second, .val (.long (q1 >>> ((32 : Int32) &&& 0x3f).toInt64)), .second, .val (.long (q1 &&& (4294967295 : Int64))), .second, .val (.long (q2 >>> ((32 : Int32) &&& 0x3f).toInt64)), .second, .val (.long (q2 &&& (4294967295 : Int64))), .second, .val (.long ((q1 &&& (4294967295 : Int64)) * (q2 &&& (4294967295 : Int64)))), .second, .unset, .unset, .unset, .unset, .unset, .unset] [])) (fun _ k => XS.lstore X0.here hx rfl (hb hby d_jdk_29_method_45_code_31) rfl (l' := #[.val (.long q1), .second, .val (.long q2), .second, .val (.long (q1 >>> ((32 : Int32) &&& 0x3f).toInt64)), .second, .val (.long (q1 &&& (4294967295 : Int64))), .second, .val (.long (q2 >>> ((32 : Int32) &&& 0x3f).toInt64)), .second, .val (.long (q2 &&& (4294967295 : Int64))), .second, .val (.long ((q1 &&& (4294967295 : Int64)) * (q2 &&& (4294967295 : Int64)))), .second, .unset, .unset, .unset, .unset, .unset, .unset]) rfl k) ?_
  refine Go.of (T' := s₁) (f' := (mkF m 35 #[.val (.long q1), .second, .val (.long q2), .second, .val (.long (q1 >>> ((32 : Int32) &&& 0x3f).toInt64)), .second, .val (.long (q1 &&& (4294967295 : Int64))), .second, .val (.long (q2 >>> ((32 : Int32) &&& 0x3f).toInt64)), .second, .val (.long (q2 &&& (4294967295 : Int64))), .second, .val (.long ((q1 &&& (4294967295 : Int64)) * (q2 &&& (4294967295 : Int64)))), .second, .unset, .unset, .unset, .unset, .unset, .unset] [(.long (q1 >>> ((32 : Int32) &&& 0x3f).toInt64))])) (fun _ k => XS.lload X0.here hx rfl (hb hby d_jdk_29_method_45_code_33) rfl k) ?_
  refine Go.of (T' := s₁) (f' := (mkF m 37 #[.val (.long q1), .second, .val (.long q2), .second, .val (.long (q1 >>> ((32 : Int32) &&& 0x3f).toInt64)), .second, .val (.long (q1 &&& (4294967295 : Int64))), .second, .val (.long (q2 >>> ((32 : Int32) &&& 0x3f).toInt64)), .second, .val (.long (q2 &&& (4294967295 : Int64))), .second, .val (.long ((q1 &&& (4294967295 : Int64)) * (q2 &&& (4294967295 : Int64)))), .second, .unset, .unset, .unset, .unset, .unset, .unset] [(.long (q2 &&& (4294967295 : Int64))), (.long (q1 >>> ((32 : Int32) &&& 0x3f).toInt64))])) (fun _ k => XS.lload X0.here hx rfl (hb hby d_jdk_29_method_45_code_35) rfl k) ?_
  refine Go.of (T' := s₁) (f' := (mkF m 38 #[.val (.long q1), .second, .val (.long q2), .second, .val (.long (q1 >>> ((32 : Int32) &&& 0x3f).toInt64)), .second, .val (.long (q1 &&& (4294967295 : Int64))), .second, .val (.long (q2 >>> ((32 : Int32) &&& 0x3f).toInt64)), .second, .val (.long (q2 &&& (4294967295 : Int64))), .second, .val (.long ((q1 &&& (4294967295 : Int64)) * (q2 &&& (4294967295 : Int64)))), .second, .unset, .unset, .unset, .unset, .unset, .unset] [(.long ((q1 >>> ((32 : Int32) &&& 0x3f).toInt64) * (q2 &&& (4294967295 : Int64))))])) (fun _ k => XS.lmul X0.here hx rfl (hb hby d_jdk_29_method_45_code_37) rfl k) ?_
  refine Go.of (T' := s₁) (f' := (mkF m 40 #[.val (.long q1), .second, .val (.long q2), .second, .val (.long (q1 >>> ((32 : Int32) &&& 0x3f).toInt64)), .second, .val (.long (q1 &&& (4294967295 : Int64))), .second, .val (.long (q2 >>> ((32 : Int32) &&& 0x3f).toInt64)), .second, .val (.long (q2 &&& (4294967295 : Int64))), .second, .val (.long ((q1 &&& (4294967295 : Int64)) * (q2 &&& (4294967295 : Int64)))), .second, .unset, .unset, .unset, .unset, .unset, .unset] [(.long ((q1 &&& (4294967295 : Int64)) * (q2 &&& (4294967295 : Int64)))), (.long ((q1 >>> ((32 : Int32) &&& 0x3f).toInt64) * (q2 &&& (4294967295 : Int64))))])) (fun _ k => XS.lload X0.here hx rfl (hb hby d_jdk_29_method_45_code_38) rfl k) ?_
  refine Go.of (T' := s₁) (f' := (mkF m 42 #[.val (.long q1), .second, .val (.long q2), .second, .val (.long (q1 >>> ((32 : Int32) &&& 0x3f).toInt64)), .second, .val (.long (q1 &&& (4294967295 : Int64))), .second, .val (.long (q2 >>> ((32 : Int32) &&& 0x3f).toInt64)), .second, .val (.long (q2 &&& (4294967295 : Int64))), .second, .val (.long ((q1 &&& (4294967295 : Int64)) * (q2 &&& (4294967295 : Int64)))), .second, .unset, .unset, .unset, .unset, .unset, .unset] [(.int (32 : Int32)), (.long ((q1 &&& (4294967295 : Int64)) * (q2 &&& (4294967295 : Int64)))), (.long ((q1 >>> ((32 : Int32) &&& 0x3f).toInt64) * (q2 &&& (4294967295 : Int64))))])) (fun _ k => XS.bipush X0.here hx rfl (hb hby d_jdk_29_method_45_code_40) k) ?_
  refine Go.of (T' := s₁) (f' := (mkF m 43 #[.val (.long q1), .second, .val (.long q2), .second, .val (.long (q1 >>> ((32 : Int32) &&& 0x3f).toInt64)), .second, .val (.long (q1 &&& (4294967295 : Int64))), .second, .val (.long (q2 >>> ((32 : Int32) &&& 0x3f).toInt64)), .second, .val (.long (q2 &&& (4294967295 : Int64))), .second, .val (.long ((q1 &&& (4294967295 : Int64)) * (q2 &&& (4294967295 : Int64)))), .second, .unset, .unset, .unset, .unset, .unset, .unset] [(.long ((((q1 &&& (4294967295 : Int64)) * (q2 &&& (4294967295 : Int64))).toUInt64 >>> ((32 : Int32) &&& 0x3f).toInt64.toUInt64).toInt64)), (.long ((q1 >>> ((32 : Int32) &&& 0x3f).toInt64) * (q2 &&& (4294967295 : Int64))))])) (fun _ k => XS.lushr X0.here hx rfl (hb hby d_jdk_29_method_45_code_42) rfl k) ?_
  refine Go.of (T' := s₁) (f' := (mkF m 44 #[.val (.long q1), .second, .val (.long q2), .second, .val (.long (q1 >>> ((32 : Int32) &&& 0x3f).toInt64)), .second, .val (.long (q1 &&& (4294967295 : Int64))), .second, .val (.long (q2 >>> ((32 : Int32) &&& 0x3f).toInt64)), .second, .val (.long (q2 &&& (4294967295 : Int64))), .second, .val (.long ((q1 &&& (4294967295 : Int64)) * (q2 &&& (4294967295 : Int64)))), .second, .unset, .unset, .unset, .unset, .unset, .unset] [(.long (((q1 >>> ((32 : Int32) &&& 0x3f).toInt64) * (q2 &&& (4294967295 : Int64))) + ((((q1 &&& (4294967295 : Int64)) * (q2 &&& (4294967295 : Int64))).toUInt64 >>> ((32 : Int32) &&& 0x3f).toInt64.toUInt64).toInt64)))])) (fun _ k => XS.ladd X0.here hx rfl (hb hby d_jdk_29_method_45_code_43) rfl k) ?_
  refine Go.of (T' := s₁) (f' := (mkF m 46 #[.val (.long q1), .second, .val (.long q2), .second, .val (.long (q1 >>> ((32 : Int32) &&& 0x3f).toInt64)), .second, .val (.long (q1 &&& (4294967295 : Int64))), .second, .val (.long (q2 >>> ((32 : Int32) &&& 0x3f).toInt64)), .second, .val (.long (q2 &&& (4294967295 : Int64))), .second, .val (.long ((q1 &&& (4294967295 : Int64)) * (q2 &&& (4294967295 : Int64)))), .second, .val (.long (((q1 >>> ((32 : Int32) &&& 0x3f).toInt64) * (q2 &&& (4294967295 : Int64))) + ((((q1 &&& (4294967295 : Int64)) * (q2 &&& (4294967295 : Int64))).toUInt64 >>> ((32 : Int32) &&& 0x3f).toInt64.toUInt64).toInt64))), .second, .unset, .unset, .unset, .unset] [])) (fun _ k => XS.lstore X0.here hx rfl (hb hby d_jdk_29_method_45_code_44) rfl (l' := #[.val (.long q1), .second, .val (.long q2), .second, .val (.long (q1 >>> ((32 : Int32) &&& 0x3f).toInt64)), .second, .val (.long (q1 &&& (4294967295 : Int64))), .second, .val (.long (q2 >>> ((32 : Int32) &&& 0x3f).toInt64)), .second, .val (.long (q2 &&& (4294967295 : Int64))), .second, .val (.long ((q1 &&& (4294967295 : Int64)) * (q2 &&& (4294967295 : Int64)))), .second, .val (.long (((q1 >>> ((32 : Int32) &&& 0x3f).toInt64) * (q2 &&& (4294967295 : Int64))) + ((((q1 &&& (4294967295 : Int64)) * (q2 &&& (4294967295 : Int64))).toUInt64 >>> ((32 : Int32) &&& 0x3f).toInt64.toUInt64).toInt64))), .second, .unset, .unset, .unset, .unset]) rfl k) ?_
  refine Go.of (T' := s₁) (f' := (mkF m 48 #[.val (.long q1), .second, .val (.long q2), .second, .val (.long (q1 >>> ((32 : Int32) &&& 0x3f).toInt64)), .second, .val (.long (q1 &&& (4294967295 : Int64))), .second, .val (.long (q2 >>> ((32 : Int32) &&& 0x3f).toInt64)), .second, .val (.long (q2 &&& (4294967295 : Int64))), .second, .val (.long ((q1 &&& (4294967295 : Int64)) * (q2 &&& (4294967295 : Int64)))), .second, .val (.long (((q1 >>> ((32 : Int32) &&& 0x3f).toInt64) * (q2 &&& (4294967295 : Int64))) + ((((q1 &&& (4294967295 : Int64)) * (q2 &&& (4294967295 : Int64))).toUInt64 >>> ((32 : Int32) &&& 0x3f).toInt64.toUInt64).toInt64))), .second, .unset, .unset, .unset, .unset] [(.long (((q1 >>> ((32 : Int32) &&& 0x3f).toInt64) * (q2 &&& (4294967295 : Int64))) + ((((q1 &&& (4294967295 : Int64)) * (q2 &&& (4294967295 : Int64))).toUInt64 >>> ((32 : Int32) &&& 0x3f).toInt64.toUInt64).toInt64)))])) (fun _ k => XS.lload X0.here hx rfl (hb hby d_jdk_29_method_45_code_46) rfl k) ?_
  refine Go.of (T' := s₁) (f' := (mkF m 51 #[.val (.long q1), .second, .val (.long q2), .second, .val (.long (q1 >>> ((32 : Int32) &&& 0x3f).toInt64)), .second, .val (.long (q1 &&& (4294967295 : Int64))), .second, .val (.long (q2 >>> ((32 : Int32) &&& 0x3f).toInt64)), .second, .val (.long (q2 &&& (4294967295 : Int64))), .second, .val (.long ((q1 &&& (4294967295 : Int64)) * (q2 &&& (4294967295 : Int64)))), .second, .val (.long (((q1 >>> ((32 : Int32) &&& 0x3f).toInt64) * (q2 &&& (4294967295 : Int64))) + ((((q1 &&& (4294967295 : Int64)) * (q2 &&& (4294967295 : Int64))).toUInt64 >>> ((32 : Int32) &&& 0x3f).toInt64.toUInt64).toInt64))), .second, .unset, .unset, .unset, .unset] [(.long (4294967295 : Int64)), (.long (((q1 >>> ((32 : Int32) &&& 0x3f).toInt64) * (q2 &&& (4294967295 : Int64))) + ((((q1 &&& (4294967295 : Int64)) * (q2 &&& (4294967295 : Int64))).toUInt64 >>> ((32 : Int32) &&& 0x3f).toInt64.toUInt64).toInt64)))])) (fun _ k => X0.ldc2Long hx hown (mvT hZ (hw _ (List.mem_of_getElem? (i := 40) rfl))) (g := (mkF m 48 #[.val (.long q1), .second, .val (.long q2), .second, .val (.long (q1 >>> ((32 : Int32) &&& 0x3f).toInt64)), .second, .val (.long (q1 &&& (4294967295 : Int64))), .second, .val (.long (q2 >>> ((32 : Int32) &&& 0x3f).toInt64)), .second, .val (.long (q2 &&& (4294967295 : Int64))), .second, .val (.long ((q1 &&& (4294967295 : Int64)) * (q2 &&& (4294967295 : Int64)))), .second, .val (.long (((q1 >>> ((32 : Int32) &&& 0x3f).toInt64) * (q2 &&& (4294967295 : Int64))) + ((((q1 &&& (4294967295 : Int64)) * (q2 &&& (4294967295 : Int64))).toUInt64 >>> ((32 : Int32) &&& 0x3f).toInt64.toUInt64).toInt64))), .second, .unset, .unset, .unset, .unset] [(.long (((q1 >>> ((32 : Int32) &&& 0x3f).toInt64) * (q2 &&& (4294967295 : Int64))) + ((((q1 &&& (4294967295 : Int64)) * (q2 &&& (4294967295 : Int64))).toUInt64 >>> ((32 : Int32) &&& 0x3f).toInt64.toUInt64).toInt64)))])) rfl (hb hby d_jdk_29_method_45_code_48) _ k) ?_
  refine Go.of (T' := s₁) (f' := (mkF m 52 #[.val (.long q1), .second, .val (.long q2), .second, .val (.long (q1 >>> ((32 : Int32) &&& 0x3f).toInt64)), .second, .val (.long (q1 &&& (4294967295 : Int64))), .second, .val (.long (q2 >>> ((32 : Int32) &&& 0x3f).toInt64)), .second, .val (.long (q2 &&& (4294967295 : Int64))), .second, .val (.long ((q1 &&& (4294967295 : Int64)) * (q2 &&& (4294967295 : Int64)))), .second, .val (.long (((q1 >>> ((32 : Int32) &&& 0x3f).toInt64) * (q2 &&& (4294967295 : Int64))) + ((((q1 &&& (4294967295 : Int64)) * (q2 &&& (4294967295 : Int64))).toUInt64 >>> ((32 : Int32) &&& 0x3f).toInt64.toUInt64).toInt64))), .second, .unset, .unset, .unset, .unset] [(.long ((((q1 >>> ((32 : Int32) &&& 0x3f).toInt64) * (q2 &&& (4294967295 : Int64))) + ((((q1 &&& (4294967295 : Int64)) * (q2 &&& (4294967295 : Int64))).toUInt64 >>> ((32 : Int32) &&& 0x3f).toInt64.toUInt64).toInt64)) &&& (4294967295 : Int64)))])) (fun _ k => XS.land X0.here hx rfl (hb hby d_jdk_29_method_45_code_51) rfl k) ?_
  refine Go.of (T' := s₁) (f' := (mkF m 54 #[.val (.long q1), .second, .val (.long q2), .second, .val (.long (q1 >>> ((32 : Int32) &&& 0x3f).toInt64)), .second, .val (.long (q1 &&& (4294967295 : Int64))), .second, .val (.long (q2 >>> ((32 : Int32) &&& 0x3f).toInt64)), .second, .val (.long (q2 &&& (4294967295 : Int64))), .second, .val (.long ((q1 &&& (4294967295 : Int64)) * (q2 &&& (4294967295 : Int64)))), .second, .val (.long (((q1 >>> ((32 : Int32) &&& 0x3f).toInt64) * (q2 &&& (4294967295 : Int64))) + ((((q1 &&& (4294967295 : Int64)) * (q2 &&& (4294967295 : Int64))).toUInt64 >>> ((32 : Int32) &&& 0x3f).toInt64.toUInt64).toInt64))), .second, .val (.long ((((q1 >>> ((32 : Int32) &&& 0x3f).toInt64) * (q2 &&& (4294967295 : Int64))) + ((((q1 &&& (4294967295 : Int64)) * (q2 &&& (4294967295 : Int64))).toUInt64 >>> ((32 : Int32) &&& 0x3f).toInt64.toUInt64).toInt64)) &&& (4294967295 : Int64))), .second, .unset, .unset] [])) (fun _ k => XS.lstore X0.here hx rfl (hb hby d_jdk_29_method_45_code_52) rfl (l' := #[.val (.long q1), .second, .val (.long q2), .second, .val (.long (q1 >>> ((32 : Int32) &&& 0x3f).toInt64)), .second, .val (.long (q1 &&& (4294967295 : Int64))), .second, .val (.long (q2 >>> ((32 : Int32) &&& 0x3f).toInt64)), .second, .val (.long (q2 &&& (4294967295 : Int64))), .second, .val (.long ((q1 &&& (4294967295 : Int64)) * (q2 &&& (4294967295 : Int64)))), .second, .val (.long (((q1 >>> ((32 : Int32) &&& 0x3f).toInt64) * (q2 &&& (4294967295 : Int64))) + ((((q1 &&& (4294967295 : Int64)) * (q2 &&& (4294967295 : Int64))).toUInt64 >>> ((32 : Int32) &&& 0x3f).toInt64.toUInt64).toInt64))), .second, .val (.long ((((q1 >>> ((32 : Int32) &&& 0x3f).toInt64) * (q2 &&& (4294967295 : Int64))) + ((((q1 &&& (4294967295 : Int64)) * (q2 &&& (4294967295 : Int64))).toUInt64 >>> ((32 : Int32) &&& 0x3f).toInt64.toUInt64).toInt64)) &&& (4294967295 : Int64))), .second, .unset, .unset]) rfl k) ?_
  refine Go.of (T' := s₁) (f' := (mkF m 56 #[.val (.long q1), .second, .val (.long q2), .second, .val (.long (q1 >>> ((32 : Int32) &&& 0x3f).toInt64)), .second, .val (.long (q1 &&& (4294967295 : Int64))), .second, .val (.long (q2 >>> ((32 : Int32) &&& 0x3f).toInt64)), .second, .val (.long (q2 &&& (4294967295 : Int64))), .second, .val (.long ((q1 &&& (4294967295 : Int64)) * (q2 &&& (4294967295 : Int64)))), .second, .val (.long (((q1 >>> ((32 : Int32) &&& 0x3f).toInt64) * (q2 &&& (4294967295 : Int64))) + ((((q1 &&& (4294967295 : Int64)) * (q2 &&& (4294967295 : Int64))).toUInt64 >>> ((32 : Int32) &&& 0x3f).toInt64.toUInt64).toInt64))), .second, .val (.long ((((q1 >>> ((32 : Int32) &&& 0x3f).toInt64) * (q2 &&& (4294967295 : Int64))) + ((((q1 &&& (4294967295 : Int64)) * (q2 &&& (4294967295 : Int64))).toUInt64 >>> ((32 : Int32) &&& 0x3f).toInt64.toUInt64).toInt64)) &&& (4294967295 : Int64))), .second, .unset, .unset] [(.long (((q1 >>> ((32 : Int32) &&& 0x3f).toInt64) * (q2 &&& (4294967295 : Int64))) + ((((q1 &&& (4294967295 : Int64)) * (q2 &&& (4294967295 : Int64))).toUInt64 >>> ((32 : Int32) &&& 0x3f).toInt64.toUInt64).toInt64)))])) (fun _ k => XS.lload X0.here hx rfl (hb hby d_jdk_29_method_45_code_54) rfl k) ?_
  refine Go.of (T' := s₁) (f' := (mkF m 58 #[.val (.long q1), .second, .val (.long q2), .second, .val (.long (q1 >>> ((32 : Int32) &&& 0x3f).toInt64)), .second, .val (.long (q1 &&& (4294967295 : Int64))), .second, .val (.long (q2 >>> ((32 : Int32) &&& 0x3f).toInt64)), .second, .val (.long (q2 &&& (4294967295 : Int64))), .second, .val (.long ((q1 &&& (4294967295 : Int64)) * (q2 &&& (4294967295 : Int64)))), .second, .val (.long (((q1 >>> ((32 : Int32) &&& 0x3f).toInt64) * (q2 &&& (4294967295 : Int64))) + ((((q1 &&& (4294967295 : Int64)) * (q2 &&& (4294967295 : Int64))).toUInt64 >>> ((32 : Int32) &&& 0x3f).toInt64.toUInt64).toInt64))), .second, .val (.long ((((q1 >>> ((32 : Int32) &&& 0x3f).toInt64) * (q2 &&& (4294967295 : Int64))) + ((((q1 &&& (4294967295 : Int64)) * (q2 &&& (4294967295 : Int64))).toUInt64 >>> ((32 : Int32) &&& 0x3f).toInt64.toUInt64).toInt64)) &&& (4294967295 : Int64))), .second, .unset, .unset] [(.int (32 : Int32)), (.long (((q1 >>> ((32 : Int32) &&& 0x3f).toInt64) * (q2 &&& (4294967295 : Int64))) + ((((q1 &&& (4294967295 : Int64)) * (q2 &&& (4294967295 : Int64))).toUInt64 >>> ((32 : Int32) &&& 0x3f).toInt64.toUInt64).toInt64)))])) (fun _ k => XS.bipush X0.here hx rfl (hb hby d_jdk_29_method_45_code_56) k) ?_
  refine Go.of (T' := s₁) (f' := (mkF m 59 #[.val (.long q1), .second, .val (.long q2), .second, .val (.long (q1 >>> ((32 : Int32) &&& 0x3f).toInt64)), .second, .val (.long (q1 &&& (4294967295 : Int64))), .second, .val (.long (q2 >>> ((32 : Int32) &&& 0x3f).toInt64)), .second, .val (.long (q2 &&& (4294967295 : Int64))), .second, .val (.long ((q1 &&& (4294967295 : Int64)) * (q2 &&& (4294967295 : Int64)))), .second, .val (.long (((q1 >>> ((32 : Int32) &&& 0x3f).toInt64) * (q2 &&& (4294967295 : Int64))) + ((((q1 &&& (4294967295 : Int64)) * (q2 &&& (4294967295 : Int64))).toUInt64 >>> ((32 : Int32) &&& 0x3f).toInt64.toUInt64).toInt64))), .second, .val (.long ((((q1 >>> ((32 : Int32) &&& 0x3f).toInt64) * (q2 &&& (4294967295 : Int64))) + ((((q1 &&& (4294967295 : Int64)) * (q2 &&& (4294967295 : Int64))).toUInt64 >>> ((32 : Int32) &&& 0x3f).toInt64.toUInt64).toInt64)) &&& (4294967295 : Int64))), .second, .unset, .unset] [(.long ((((q1 >>> ((32 : Int32) &&& 0x3f).toInt64) * (q2 &&& (4294967295 : Int64))) + ((((q1 &&& (4294967295 : Int64)) * (q2 &&& (4294967295 : Int64))).toUInt64 >>> ((32 : Int32) &&& 0x3f).toInt64.toUInt64).toInt64)) >>> ((32 : Int32) &&& 0x3f).toInt64))])) (fun _ k => XS.lshr X0.here hx rfl (hb hby d_jdk_29_method_45_code_58) rfl k) ?_
  refine Go.of (T' := s₁) (f' := (mkF m 61 #[.val (.long q1), .second, .val (.long q2), .second, .val (.long (q1 >>> ((32 : Int32) &&& 0x3f).toInt64)), .second, .val (.long (q1 &&& (4294967295 : Int64))), .second, .val (.long (q2 >>> ((32 : Int32) &&& 0x3f).toInt64)), .second, .val (.long (q2 &&& (4294967295 : Int64))), .second, .val (.long ((q1 &&& (4294967295 : Int64)) * (q2 &&& (4294967295 : Int64)))), .second, .val (.long (((q1 >>> ((32 : Int32) &&& 0x3f).toInt64) * (q2 &&& (4294967295 : Int64))) + ((((q1 &&& (4294967295 : Int64)) * (q2 &&& (4294967295 : Int64))).toUInt64 >>> ((32 : Int32) &&& 0x3f).toInt64.toUInt64).toInt64))), .second, .val (.long ((((q1 >>> ((32 : Int32) &&& 0x3f).toInt64) * (q2 &&& (4294967295 : Int64))) + ((((q1 &&& (4294967295 : Int64)) * (q2 &&& (4294967295 : Int64))).toUInt64 >>> ((32 : Int32) &&& 0x3f).toInt64.toUInt64).toInt64)) &&& (4294967295 : Int64))), .second, .val (.long ((((q1 >>> ((32 : Int32) &&& 0x3f).toInt64) * (q2 &&& (4294967295 : Int64))) + ((((q1 &&& (4294967295 : Int64)) * (q2 &&& (4294967295 : Int64))).toUInt64 >>> ((32 : Int32) &&& 0x3f).toInt64.toUInt64).toInt64)) >>> ((32 : Int32) &&& 0x3f).toInt64)), .second] [])) (fun _ k => XS.lstore X0.here hx rfl (hb hby d_jdk_29_method_45_code_59) rfl (l' := #[.val (.long q1), .second, .val (.long q2), .second, .val (.long (q1 >>> ((32 : Int32) &&& 0x3f).toInt64)), .second, .val (.long (q1 &&& (4294967295 : Int64))), .second, .val (.long (q2 >>> ((32 : Int32) &&& 0x3f).toInt64)), .second, .val (.long (q2 &&& (4294967295 : Int64))), .second, .val (.long ((q1 &&& (4294967295 : Int64)) * (q2 &&& (4294967295 : Int64)))), .second, .val (.long (((q1 >>> ((32 : Int32) &&& 0x3f).toInt64) * (q2 &&& (4294967295 : Int64))) + ((((q1 &&& (4294967295 : Int64)) * (q2 &&& (4294967295 : Int64))).toUInt64 >>> ((32 : Int32) &&& 0x3f).toInt64.toUInt64).toInt64))), .second, .val (.long ((((q1 >>> ((32 : Int32) &&& 0x3f).toInt64) * (q2 &&& (4294967295 : Int64))) + ((((q1 &&& (4294967295 : Int64)) * (q2 &&& (4294967295 : Int64))).toUInt64 >>> ((32 : Int32) &&& 0x3f).toInt64.toUInt64).toInt64)) &&& (4294967295 : Int64))), .second, .val (.long ((((q1 >>> ((32 : Int32) &&& 0x3f).toInt64) * (q2 &&& (4294967295 : Int64))) + ((((q1 &&& (4294967295 : Int64)) * (q2 &&& (4294967295 : Int64))).toUInt64 >>> ((32 : Int32) &&& 0x3f).toInt64.toUInt64).toInt64)) >>> ((32 : Int32) &&& 0x3f).toInt64)), .second]) rfl k) ?_
  refine Go.of (T' := s₁) (f' := (mkF m 63 #[.val (.long q1), .second, .val (.long q2), .second, .val (.long (q1 >>> ((32 : Int32) &&& 0x3f).toInt64)), .second, .val (.long (q1 &&& (4294967295 : Int64))), .second, .val (.long (q2 >>> ((32 : Int32) &&& 0x3f).toInt64)), .second, .val (.long (q2 &&& (4294967295 : Int64))), .second, .val (.long ((q1 &&& (4294967295 : Int64)) * (q2 &&& (4294967295 : Int64)))), .second, .val (.long (((q1 >>> ((32 : Int32) &&& 0x3f).toInt64) * (q2 &&& (4294967295 : Int64))) + ((((q1 &&& (4294967295 : Int64)) * (q2 &&& (4294967295 : Int64))).toUInt64 >>> ((32 : Int32) &&& 0x3f).toInt64.toUInt64).toInt64))), .second, .val (.long ((((q1 >>> ((32 : Int32) &&& 0x3f).toInt64) * (q2 &&& (4294967295 : Int64))) + ((((q1 &&& (4294967295 : Int64)) * (q2 &&& (4294967295 : Int64))).toUInt64 >>> ((32 : Int32) &&& 0x3f).toInt64.toUInt64).toInt64)) &&& (4294967295 : Int64))), .second, .val (.long ((((q1 >>> ((32 : Int32) &&& 0x3f).toInt64) * (q2 &&& (4294967295 : Int64))) + ((((q1 &&& (4294967295 : Int64)) * (q2 &&& (4294967295 : Int64))).toUInt64 >>> ((32 : Int32) &&& 0x3f).toInt64.toUInt64).toInt64)) >>> ((32 : Int32) &&& 0x3f).toInt64)), .second] [(.long ((((q1 >>> ((32 : Int32) &&& 0x3f).toInt64) * (q2 &&& (4294967295 : Int64))) + ((((q1 &&& (4294967295 : Int64)) * (q2 &&& (4294967295 : Int64))).toUInt64 >>> ((32 : Int32) &&& 0x3f).toInt64.toUInt64).toInt64)) &&& (4294967295 : Int64)))])) (fun _ k => XS.lload X0.here hx rfl (hb hby d_jdk_29_method_45_code_61) rfl k) ?_
  refine Go.of (T' := s₁) (f' := (mkF m 65 #[.val (.long q1), .second, .val (.long q2), .second, .val (.long (q1 >>> ((32 : Int32) &&& 0x3f).toInt64)), .second, .val (.long (q1 &&& (4294967295 : Int64))), .second, .val (.long (q2 >>> ((32 : Int32) &&& 0x3f).toInt64)), .second, .val (.long (q2 &&& (4294967295 : Int64))), .second, .val (.long ((q1 &&& (4294967295 : Int64)) * (q2 &&& (4294967295 : Int64)))), .second, .val (.long (((q1 >>> ((32 : Int32) &&& 0x3f).toInt64) * (q2 &&& (4294967295 : Int64))) + ((((q1 &&& (4294967295 : Int64)) * (q2 &&& (4294967295 : Int64))).toUInt64 >>> ((32 : Int32) &&& 0x3f).toInt64.toUInt64).toInt64))), .second, .val (.long ((((q1 >>> ((32 : Int32) &&& 0x3f).toInt64) * (q2 &&& (4294967295 : Int64))) + ((((q1 &&& (4294967295 : Int64)) * (q2 &&& (4294967295 : Int64))).toUInt64 >>> ((32 : Int32) &&& 0x3f).toInt64.toUInt64).toInt64)) &&& (4294967295 : Int64))), .second, .val (.long ((((q1 >>> ((32 : Int32) &&& 0x3f).toInt64) * (q2 &&& (4294967295 : Int64))) + ((((q1 &&& (4294967295 : Int64)) * (q2 &&& (4294967295 : Int64))).toUInt64 >>> ((32 : Int32) &&& 0x3f).toInt64.toUInt64).toInt64)) >>> ((32 : Int32) &&& 0x3f).toInt64)), .second] [(.long (q1 &&& (4294967295 : Int64))), (.long ((((q1 >>> ((32 : Int32) &&& 0x3f).toInt64) * (q2 &&& (4294967295 : Int64))) + ((((q1 &&& (4294967295 : Int64)) * (q2 &&& (4294967295 : Int64))).toUInt64 >>> ((32 : Int32) &&& 0x3f).toInt64.toUInt64).toInt64)) &&& (4294967295 : Int64)))])) (fun _ k => XS.lload X0.here hx rfl (hb hby d_jdk_29_method_45_code_63) rfl k) ?_
  refine Go.of (T' := s₁) (f' := (mkF m 67 #[.val (.long q1), .second, .val (.long q2), .second, .val (.long (q1 >>> ((32 : Int32) &&& 0x3f).toInt64)), .second, .val (.long (q1 &&& (4294967295 : Int64))), .second, .val (.long (q2 >>> ((32 : Int32) &&& 0x3f).toInt64)), .second, .val (.long (q2 &&& (4294967295 : Int64))), .second, .val (.long ((q1 &&& (4294967295 : Int64)) * (q2 &&& (4294967295 : Int64)))), .second, .val (.long (((q1 >>> ((32 : Int32) &&& 0x3f).toInt64) * (q2 &&& (4294967295 : Int64))) + ((((q1 &&& (4294967295 : Int64)) * (q2 &&& (4294967295 : Int64))).toUInt64 >>> ((32 : Int32) &&& 0x3f).toInt64.toUInt64).toInt64))), .second, .val (.long ((((q1 >>> ((32 : Int32) &&& 0x3f).toInt64) * (q2 &&& (4294967295 : Int64))) + ((((q1 &&& (4294967295 : Int64)) * (q2 &&& (4294967295 : Int64))).toUInt64 >>> ((32 : Int32) &&& 0x3f).toInt64.toUInt64).toInt64)) &&& (4294967295 : Int64))), .second, .val (.long ((((q1 >>> ((32 : Int32) &&& 0x3f).toInt64) * (q2 &&& (4294967295 : Int64))) + ((((q1 &&& (4294967295 : Int64)) * (q2 &&& (4294967295 : Int64))).toUInt64 >>> ((32 : Int32) &&& 0x3f).toInt64.toUInt64).toInt64)) >>> ((32 : Int32) &&& 0x3f).toInt64)), .second] [(.long (q2 >>> ((32 : Int32) &&& 0x3f).toInt64)), (.long (q1 &&& (4294967295 : Int64))), (.long ((((q1 >>> ((32 : Int32) &&& 0x3f).toInt64) * (q2 &&& (4294967295 : Int64))) + ((((q1 &&& (4294967295 : Int64)) * (q2 &&& (4294967295 : Int64))).toUInt64 >>> ((32 : Int32) &&& 0x3f).toInt64.toUInt64).toInt64)) &&& (4294967295 : Int64)))])) (fun _ k => XS.lload X0.here hx rfl (hb hby d_jdk_29_method_45_code_65) rfl k) ?_
  refine Go.of (T' := s₁) (f' := (mkF m 68 #[.val (.long q1), .second, .val (.long q2), .second, .val (.long (q1 >>> ((32 : Int32) &&& 0x3f).toInt64)), .second, .val (.long (q1 &&& (4294967295 : Int64))), .second, .val (.long (q2 >>> ((32 : Int32) &&& 0x3f).toInt64)), .second, .val (.long (q2 &&& (4294967295 : Int64))), .second, .val (.long ((q1 &&& (4294967295 : Int64)) * (q2 &&& (4294967295 : Int64)))), .second, .val (.long (((q1 >>> ((32 : Int32) &&& 0x3f).toInt64) * (q2 &&& (4294967295 : Int64))) + ((((q1 &&& (4294967295 : Int64)) * (q2 &&& (4294967295 : Int64))).toUInt64 >>> ((32 : Int32) &&& 0x3f).toInt64.toUInt64).toInt64))), .second, .val (.long ((((q1 >>> ((32 : Int32) &&& 0x3f).toInt64) * (q2 &&& (4294967295 : Int64))) + ((((q1 &&& (4294967295 : Int64)) * (q2 &&& (4294967295 : Int64))).toUInt64 >>> ((32 : Int32) &&& 0x3f).toInt64.toUInt64).toInt64)) &&& (4294967295 : Int64))), .second, .val (.long ((((q1 >>> ((32 : Int32) &&& 0x3f).toInt64) * (q2 &&& (4294967295 : Int64))) + ((((q1 &&& (4294967295 : Int64)) * (q2 &&& (4294967295 : Int64))).toUInt64 >>> ((32 : Int32) &&& 0x3f).toInt64.toUInt64).toInt64)) >>> ((32 : Int32) &&& 0x3f).toInt64)), .second] [(.long ((q1 &&& (4294967295 : Int64)) * (q2 >>> ((32 : Int32) &&& 0x3f).toInt64))), (.long ((((q1 >>> ((32 : Int32) &&& 0x3f).toInt64) * (q2 &&& (4294967295 : Int64))) + ((((q1 &&& (4294967295 : Int64)) * (q2 &&& (4294967295 : Int64))).toUInt64 >>> ((32 : Int32) &&& 0x3f).toInt64.toUInt64).toInt64)) &&& (4294967295 : Int64)))])) (fun _ k => XS.lmul X0.here hx rfl (hb hby d_jdk_29_method_45_code_67) rfl k) ?_
  refine Go.of (T' := s₁) (f' := (mkF m 69 #[.val (.long q1), .second, .val (.long q2), .second, .val (.long (q1 >>> ((32 : Int32) &&& 0x3f).toInt64)), .second, .val (.long (q1 &&& (4294967295 : Int64))), .second, .val (.long (q2 >>> ((32 : Int32) &&& 0x3f).toInt64)), .second, .val (.long (q2 &&& (4294967295 : Int64))), .second, .val (.long ((q1 &&& (4294967295 : Int64)) * (q2 &&& (4294967295 : Int64)))), .second, .val (.long (((q1 >>> ((32 : Int32) &&& 0x3f).toInt64) * (q2 &&& (4294967295 : Int64))) + ((((q1 &&& (4294967295 : Int64)) * (q2 &&& (4294967295 : Int64))).toUInt64 >>> ((32 : Int32) &&& 0x3f).toInt64.toUInt64).toInt64))), .second, .val (.long ((((q1 >>> ((32 : Int32) &&& 0x3f).toInt64) * (q2 &&& (4294967295 : Int64))) + ((((q1 &&& (4294967295 : Int64)) * (q2 &&& (4294967295 : Int64))).toUInt64 >>> ((32 : Int32) &&& 0x3f).toInt64.toUInt64).toInt64)) &&& (4294967295 : Int64))), .second, .val (.long ((((q1 >>> ((32 : Int32) &&& 0x3f).toInt64) * (q2 &&& (4294967295 : Int64))) + ((((q1 &&& (4294967295 : Int64)) * (q2 &&& (4294967295 : Int64))).toUInt64 >>> ((32 : Int32) &&& 0x3f).toInt64.toUInt64).toInt64)) >>> ((32 : Int32) &&& 0x3f).toInt64)), .second] [(.long (((((q1 >>> ((32 : Int32) &&& 0x3f).toInt64) * (q2 &&& (4294967295 : Int64))) + ((((q1 &&& (4294967295 : Int64)) * (q2 &&& (4294967295 : Int64))).toUInt64 >>> ((32 : Int32) &&& 0x3f).toInt64.toUInt64).toInt64)) &&& (4294967295 : Int64)) + ((q1 &&& (4294967295 : Int64)) * (q2 >>> ((32 : Int32) &&& 0x3f).toInt64))))])) (fun _ k => XS.ladd X0.here hx rfl (hb hby d_jdk_29_method_45_code_68) rfl k) ?_
  refine Go.of (T' := s₁) (f' := (mkF m 71 #[.val (.long q1), .second, .val (.long q2), .second, .val (.long (q1 >>> ((32 : Int32) &&& 0x3f).toInt64)), .second, .val (.long (q1 &&& (4294967295 : Int64))), .second, .val (.long (q2 >>> ((32 : Int32) &&& 0x3f).toInt64)), .second, .val (.long (q2 &&& (4294967295 : Int64))), .second, .val (.long ((q1 &&& (4294967295 : Int64)) * (q2 &&& (4294967295 : Int64)))), .second, .val (.long (((q1 >>> ((32 : Int32) &&& 0x3f).toInt64) * (q2 &&& (4294967295 : Int64))) + ((((q1 &&& (4294967295 : Int64)) * (q2 &&& (4294967295 : Int64))).toUInt64 >>> ((32 : Int32) &&& 0x3f).toInt64.toUInt64).toInt64))), .second, .val (.long (((((q1 >>> ((32 : Int32) &&& 0x3f).toInt64) * (q2 &&& (4294967295 : Int64))) + ((((q1 &&& (4294967295 : Int64)) * (q2 &&& (4294967295 : Int64))).toUInt64 >>> ((32 : Int32) &&& 0x3f).toInt64.toUInt64).toInt64)) &&& (4294967295 : Int64)) + ((q1 &&& (4294967295 : Int64)) * (q2 >>> ((32 : Int32) &&& 0x3f).toInt64)))), .second, .val (.long ((((q1 >>> ((32 : Int32) &&& 0x3f).toInt64) * (q2 &&& (4294967295 : Int64))) + ((((q1 &&& (4294967295 : Int64)) * (q2 &&& (4294967295 : Int64))).toUInt64 >>> ((32 : Int32) &&& 0x3f).toInt64.toUInt64).toInt64)) >>> ((32 : Int32) &&& 0x3f).toInt64)), .second] [])) (fun _ k => XS.lstore X0.here hx rfl (hb hby d_jdk_29_method_45_code_69) rfl (l' := #[.val (.long q1), .second, .val (.long q2), .second, .val (.long (q1 >>> ((32 : Int32) &&& 0x3f).toInt64)), .second, .val (.long (q1 &&& (4294967295 : Int64))), .second, .val (.long (q2 >>> ((32 : Int32) &&& 0x3f).toInt64)), .second, .val (.long (q2 &&& (4294967295 : Int64))), .second, .val (.long ((q1 &&& (4294967295 : Int64)) * (q2 &&& (4294967295 : Int64)))), .second, .val (.long (((q1 >>> ((32 : Int32) &&& 0x3f).toInt64) * (q2 &&& (4294967295 : Int64))) + ((((q1 &&& (4294967295 : Int64)) * (q2 &&& (4294967295 : Int64))).toUInt64 >>> ((32 : Int32) &&& 0x3f).toInt64.toUInt64).toInt64))), .second, .val (.long (((((q1 >>> ((32 : Int32) &&& 0x3f).toInt64) * (q2 &&& (4294967295 : Int64))) + ((((q1 &&& (4294967295 : Int64)) * (q2 &&& (4294967295 : Int64))).toUInt64 >>> ((32 : Int32) &&& 0x3f).toInt64.toUInt64).toInt64)) &&& (4294967295 : Int64)) + ((q1 &&& (4294967295 : Int64)) * (q2 >>> ((32 : Int32) &&& 0x3f).toInt64)))), .second, .val (.long ((((q1 >>> ((32 : Int32) &&& 0x3f).toInt64) * (q2 &&& (4294967295 : Int64))) + ((((q1 &&& (4294967295 : Int64)) * (q2 &&& (4294967295 : Int64))).toUInt64 >>> ((32 : Int32) &&& 0x3f).toInt64.toUInt64).toInt64)) >>> ((32 : Int32) &&& 0x3f).toInt64)), .second]) rfl k) ?_
  refine Go.of (T' := s₁) (f' := (mkF m 73 #[.val (.long q1), .second, .val (.long q2), .second, .val (.long (q1 >>> ((32 : Int32) &&& 0x3f).toInt64)), .second, .val (.long (q1 &&& (4294967295 : Int64))), .second, .val (.long (q2 >>> ((32 : Int32) &&& 0x3f).toInt64)), .second, .val (.long (q2 &&& (4294967295 : Int64))), .second, .val (.long ((q1 &&& (4294967295 : Int64)) * (q2 &&& (4294967295 : Int64)))), .second, .val (.long (((q1 >>> ((32 : Int32) &&& 0x3f).toInt64) * (q2 &&& (4294967295 : Int64))) + ((((q1 &&& (4294967295 : Int64)) * (q2 &&& (4294967295 : Int64))).toUInt64 >>> ((32 : Int32) &&& 0x3f).toInt64.toUInt64).toInt64))), .second, .val (.long (((((q1 >>> ((32 : Int32) &&& 0x3f).toInt64) * (q2 &&& (4294967295 : Int64))) + ((((q1 &&& (4294967295 : Int64)) * (q2 &&& (4294967295 : Int64))).toUInt64 >>> ((32 : Int32) &&& 0x3f).toInt64.toUInt64).toInt64)) &&& (4294967295 : Int64)) + ((q1 &&& (4294967295 : Int64)) * (q2 >>> ((32 : Int32) &&& 0x3f).toInt64)))), .second, .val (.long ((((q1 >>> ((32 : Int32) &&& 0x3f).toInt64) * (q2 &&& (4294967295 : Int64))) + ((((q1 &&& (4294967295 : Int64)) * (q2 &&& (4294967295 : Int64))).toUInt64 >>> ((32 : Int32) &&& 0x3f).toInt64.toUInt64).toInt64)) >>> ((32 : Int32) &&& 0x3f).toInt64)), .second] [(.long (q1 >>> ((32 : Int32) &&& 0x3f).toInt64))])) (fun _ k => XS.lload X0.here hx rfl (hb hby d_jdk_29_method_45_code_71) rfl k) ?_
  refine Go.of (T' := s₁) (f' := (mkF m 75 #[.val (.long q1), .second, .val (.long q2), .second, .val (.long (q1 >>> ((32 : Int32) &&& 0x3f).toInt64)), .second, .val (.long (q1 &&& (4294967295 : Int64))), .second, .val (.long (q2 >>> ((32 : Int32) &&& 0x3f).toInt64)), .second, .val (.long (q2 &&& (4294967295 : Int64))), .second, .val (.long ((q1 &&& (4294967295 : Int64)) * (q2 &&& (4294967295 : Int64)))), .second, .val (.long (((q1 >>> ((32 : Int32) &&& 0x3f).toInt64) * (q2 &&& (4294967295 : Int64))) + ((((q1 &&& (4294967295 : Int64)) * (q2 &&& (4294967295 : Int64))).toUInt64 >>> ((32 : Int32) &&& 0x3f).toInt64.toUInt64).toInt64))), .second, .val (.long (((((q1 >>> ((32 : Int32) &&& 0x3f).toInt64) * (q2 &&& (4294967295 : Int64))) + ((((q1 &&& (4294967295 : Int64)) * (q2 &&& (4294967295 : Int64))).toUInt64 >>> ((32 : Int32) &&& 0x3f).toInt64.toUInt64).toInt64)) &&& (4294967295 : Int64)) + ((q1 &&& (4294967295 : Int64)) * (q2 >>> ((32 : Int32) &&& 0x3f).toInt64)))), .second, .val (.long ((((q1 >>> ((32 : Int32) &&& 0x3f).toInt64) * (q2 &&& (4294967295 : Int64))) + ((((q1 &&& (4294967295 : Int64)) * (q2 &&& (4294967295 : Int64))).toUInt64 >>> ((32 : Int32) &&& 0x3f).toInt64.toUInt64).toInt64)) >>> ((32 : Int32) &&& 0x3f).toInt64)), .second] [(.long (q2 >>> ((32 : Int32) &&& 0x3f).toInt64)), (.long (q1 >>> ((32 : Int32) &&& 0x3f).toInt64))])) (fun _ k => XS.lload X0.here hx rfl (hb hby d_jdk_29_method_45_code_73) rfl k) ?_
  refine Go.of (T' := s₁) (f' := (mkF m 76 #[.val (.long q1), .second, .val (.long q2), .second, .val (.long (q1 >>> ((32 : Int32) &&& 0x3f).toInt64)), .second, .val (.long (q1 &&& (4294967295 : Int64))), .second, .val (.long (q2 >>> ((32 : Int32) &&& 0x3f).toInt64)), .second, .val (.long (q2 &&& (4294967295 : Int64))), .second, .val (.long ((q1 &&& (4294967295 : Int64)) * (q2 &&& (4294967295 : Int64)))), .second, .val (.long (((q1 >>> ((32 : Int32) &&& 0x3f).toInt64) * (q2 &&& (4294967295 : Int64))) + ((((q1 &&& (4294967295 : Int64)) * (q2 &&& (4294967295 : Int64))).toUInt64 >>> ((32 : Int32) &&& 0x3f).toInt64.toUInt64).toInt64))), .second, .val (.long (((((q1 >>> ((32 : Int32) &&& 0x3f).toInt64) * (q2 &&& (4294967295 : Int64))) + ((((q1 &&& (4294967295 : Int64)) * (q2 &&& (4294967295 : Int64))).toUInt64 >>> ((32 : Int32) &&& 0x3f).toInt64.toUInt64).toInt64)) &&& (4294967295 : Int64)) + ((q1 &&& (4294967295 : Int64)) * (q2 >>> ((32 : Int32) &&& 0x3f).toInt64)))), .second, .val (.long ((((q1 >>> ((32 : Int32) &&& 0x3f).toInt64) * (q2 &&& (4294967295 : Int64))) + ((((q1 &&& (4294967295 : Int64)) * (q2 &&& (4294967295 : Int64))).toUInt64 >>> ((32 : Int32) &&& 0x3f).toInt64.toUInt64).toInt64)) >>> ((32 : Int32) &&& 0x3f).toInt64)), .second] [(.long ((q1 >>> ((32 : Int32) &&& 0x3f).toInt64) * (q2 >>> ((32 : Int32) &&& 0x3f).toInt64)))])) (fun _ k => XS.lmul X0.here hx rfl (hb hby d_jdk_29_method_45_code_75) rfl k) ?_
  refine Go.of (T' := s₁) (f' := (mkF m 78 #[.val (.long q1), .second, .val (.long q2), .second, .val (.long (q1 >>> ((32 : Int32) &&& 0x3f).toInt64)), .second, .val (.long (q1 &&& (4294967295 : Int64))), .second, .val (.long (q2 >>> ((32 : Int32) &&& 0x3f).toInt64)), .second, .val (.long (q2 &&& (4294967295 : Int64))), .second, .val (.long ((q1 &&& (4294967295 : Int64)) * (q2 &&& (4294967295 : Int64)))), .second, .val (.long (((q1 >>> ((32 : Int32) &&& 0x3f).toInt64) * (q2 &&& (4294967295 : Int64))) + ((((q1 &&& (4294967295 : Int64)) * (q2 &&& (4294967295 : Int64))).toUInt64 >>> ((32 : Int32) &&& 0x3f).toInt64.toUInt64).toInt64))), .second, .val (.long (((((q1 >>> ((32 : Int32) &&& 0x3f).toInt64) * (q2 &&& (4294967295 : Int64))) + ((((q1 &&& (4294967295 : Int64)) * (q2 &&& (4294967295 : Int64))).toUInt64 >>> ((32 : Int32) &&& 0x3f).toInt64.toUInt64).toInt64)) &&& (4294967295 : Int64)) + ((q1 &&& (4294967295 : Int64)) * (q2 >>> ((32 : Int32) &&& 0x3f).toInt64)))), .second, .val (.long ((((q1 >>> ((32 : Int32) &&& 0x3f).toInt64) * (q2 &&& (4294967295 : Int64))) + ((((q1 &&& (4294967295 : Int64)) * (q2 &&& (4294967295 : Int64))).toUInt64 >>> ((32 : Int32) &&& 0x3f).toInt64.toUInt64).toInt64)) >>> ((32 : Int32) &&& 0x3f).toInt64)), .second] [(.long ((((q1 >>> ((32 : Int32) &&& 0x3f).toInt64) * (q2 &&& (4294967295 : Int64))) + ((((q1 &&& (4294967295 : Int64)) * (q2 &&& (4294967295 : Int64))).toUInt64 >>> ((32 : Int32) &&& 0x3f).toInt64.toUInt64).toInt64)) >>> ((32 : Int32) &&& 0x3f).toInt64)), (.long ((q1 >>> ((32 : Int32) &&& 0x3f).toInt64) * (q2 >>> ((32 : Int32) &&& 0x3f).toInt64)))])) (fun _ k => XS.lload X0.here hx rfl (hb hby d_jdk_29_method_45_code_76) rfl k) ?_
  refine Go.of (T' := s₁) (f' := (mkF m 79 #[.val (.long q1), .second, .val (.long q2), .second, .val (.long (q1 >>> ((32 : Int32) &&& 0x3f).toInt64)), .second, .val (.long (q1 &&& (4294967295 : Int64))), .second, .val (.long (q2 >>> ((32 : Int32) &&& 0x3f).toInt64)), .second, .val (.long (q2 &&& (4294967295 : Int64))), .second, .val (.long ((q1 &&& (4294967295 : Int64)) * (q2 &&& (4294967295 : Int64)))), .second, .val (.long (((q1 >>> ((32 : Int32) &&& 0x3f).toInt64) * (q2 &&& (4294967295 : Int64))) + ((((q1 &&& (4294967295 : Int64)) * (q2 &&& (4294967295 : Int64))).toUInt64 >>> ((32 : Int32) &&& 0x3f).toInt64.toUInt64).toInt64))), .second, .val (.long (((((q1 >>> ((32 : Int32) &&& 0x3f).toInt64) * (q2 &&& (4294967295 : Int64))) + ((((q1 &&& (4294967295 : Int64)) * (q2 &&& (4294967295 : Int64))).toUInt64 >>> ((32 : Int32) &&& 0x3f).toInt64.toUInt64).toInt64)) &&& (4294967295 : Int64)) + ((q1 &&& (4294967295 : Int64)) * (q2 >>> ((32 : Int32) &&& 0x3f).toInt64)))), .second, .val (.long ((((q1 >>> ((32 : Int32) &&& 0x3f).toInt64) * (q2 &&& (4294967295 : Int64))) + ((((q1 &&& (4294967295 : Int64)) * (q2 &&& (4294967295 : Int64))).toUInt64 >>> ((32 : Int32) &&& 0x3f).toInt64.toUInt64).toInt64)) >>> ((32 : Int32) &&& 0x3f).toInt64)), .second] [(.long (((q1 >>> ((32 : Int32) &&& 0x3f).toInt64) * (q2 >>> ((32 : Int32) &&& 0x3f).toInt64)) + ((((q1 >>> ((32 : Int32) &&& 0x3f).toInt64) * (q2 &&& (4294967295 : Int64))) + ((((q1 &&& (4294967295 : Int64)) * (q2 &&& (4294967295 : Int64))).toUInt64 >>> ((32 : Int32) &&& 0x3f).toInt64.toUInt64).toInt64)) >>> ((32 : Int32) &&& 0x3f).toInt64)))])) (fun _ k => XS.ladd X0.here hx rfl (hb hby d_jdk_29_method_45_code_78) rfl k) ?_
  refine Go.of (T' := s₁) (f' := (mkF m 81 #[.val (.long q1), .second, .val (.long q2), .second, .val (.long (q1 >>> ((32 : Int32) &&& 0x3f).toInt64)), .second, .val (.long (q1 &&& (4294967295 : Int64))), .second, .val (.long (q2 >>> ((32 : Int32) &&& 0x3f).toInt64)), .second, .val (.long (q2 &&& (4294967295 : Int64))), .second, .val (.long ((q1 &&& (4294967295 : Int64)) * (q2 &&& (4294967295 : Int64)))), .second, .val (.long (((q1 >>> ((32 : Int32) &&& 0x3f).toInt64) * (q2 &&& (4294967295 : Int64))) + ((((q1 &&& (4294967295 : Int64)) * (q2 &&& (4294967295 : Int64))).toUInt64 >>> ((32 : Int32) &&& 0x3f).toInt64.toUInt64).toInt64))), .second, .val (.long (((((q1 >>> ((32 : Int32) &&& 0x3f).toInt64) * (q2 &&& (4294967295 : Int64))) + ((((q1 &&& (4294967295 : Int64)) * (q2 &&& (4294967295 : Int64))).toUInt64 >>> ((32 : Int32) &&& 0x3f).toInt64.toUInt64).toInt64)) &&& (4294967295 : Int64)) + ((q1 &&& (4294967295 : Int64)) * (q2 >>> ((32 : Int32) &&& 0x3f).toInt64)))), .second, .val (.long ((((q1 >>> ((32 : Int32) &&& 0x3f).toInt64) * (q2 &&& (4294967295 : Int64))) + ((((q1 &&& (4294967295 : Int64)) * (q2 &&& (4294967295 : Int64))).toUInt64 >>> ((32 : Int32) &&& 0x3f).toInt64.toUInt64).toInt64)) >>> ((32 : Int32) &&& 0x3f).toInt64)), .second] [(.long (((((q1 >>> ((32 : Int32) &&& 0x3f).toInt64) * (q2 &&& (4294967295 : Int64))) + ((((q1 &&& (4294967295 : Int64)) * (q2 &&& (4294967295 : Int64))).toUInt64 >>> ((32 : Int32) &&& 0x3f).toInt64.toUInt64).toInt64)) &&& (4294967295 : Int64)) + ((q1 &&& (4294967295 : Int64)) * (q2 >>> ((32 : Int32) &&& 0x3f).toInt64)))), (.long (((q1 >>> ((32 : Int32) &&& 0x3f).toInt64) * (q2 >>> ((32 : Int32) &&& 0x3f).toInt64)) + ((((q1 >>> ((32 : Int32) &&& 0x3f).toInt64) * (q2 &&& (4294967295 : Int64))) + ((((q1 &&& (4294967295 : Int64)) * (q2 &&& (4294967295 : Int64))).toUInt64 >>> ((32 : Int32) &&& 0x3f).toInt64.toUInt64).toInt64)) >>> ((32 : Int32) &&& 0x3f).toInt64)))])) (fun _ k => XS.lload X0.here hx rfl (hb hby d_jdk_29_method_45_code_79) rfl k) ?_
  refine Go.of (T' := s₁) (f' := (mkF m 83 #[.val (.long q1), .second, .val (.long q2), .second, .val (.long (q1 >>> ((32 : Int32) &&& 0x3f).toInt64)), .second, .val (.long (q1 &&& (4294967295 : Int64))), .second, .val (.long (q2 >>> ((32 : Int32) &&& 0x3f).toInt64)), .second, .val (.long (q2 &&& (4294967295 : Int64))), .second, .val (.long ((q1 &&& (4294967295 : Int64)) * (q2 &&& (4294967295 : Int64)))), .second, .val (.long (((q1 >>> ((32 : Int32) &&& 0x3f).toInt64) * (q2 &&& (4294967295 : Int64))) + ((((q1 &&& (4294967295 : Int64)) * (q2 &&& (4294967295 : Int64))).toUInt64 >>> ((32 : Int32) &&& 0x3f).toInt64.toUInt64).toInt64))), .second, .val (.long (((((q1 >>> ((32 : Int32) &&& 0x3f).toInt64) * (q2 &&& (4294967295 : Int64))) + ((((q1 &&& (4294967295 : Int64)) * (q2 &&& (4294967295 : Int64))).toUInt64 >>> ((32 : Int32) &&& 0x3f).toInt64.toUInt64).toInt64)) &&& (4294967295 : Int64)) + ((q1 &&& (4294967295 : Int64)) * (q2 >>> ((32 : Int32) &&& 0x3f).toInt64)))), .second, .val (.long ((((q1 >>> ((32 : Int32) &&& 0x3f).toInt64) * (q2 &&& (4294967295 : Int64))) + ((((q1 &&& (4294967295 : Int64)) * (q2 &&& (4294967295 : Int64))).toUInt64 >>> ((32 : Int32) &&& 0x3f).toInt64.toUInt64).toInt64)) >>> ((32 : Int32) &&& 0x3f).toInt64)), .second] [(.int (32 : Int32)), (.long (((((q1 >>> ((32 : Int32) &&& 0x3f).toInt64) * (q2 &&& (4294967295 : Int64))) + ((((q1 &&& (4294967295 : Int64)) * (q2 &&& (4294967295 : Int64))).toUInt64 >>> ((32 : Int32) &&& 0x3f).toInt64.toUInt64).toInt64)) &&& (4294967295 : Int64)) + ((q1 &&& (4294967295 : Int64)) * (q2 >>> ((32 : Int32) &&& 0x3f).toInt64)))), (.long (((q1 >>> ((32 : Int32) &&& 0x3f).toInt64) * (q2 >>> ((32 : Int32) &&& 0x3f).toInt64)) + ((((q1 >>> ((32 : Int32) &&& 0x3f).toInt64) * (q2 &&& (4294967295 : Int64))) + ((((q1 &&& (4294967295 : Int64)) * (q2 &&& (4294967295 : Int64))).toUInt64 >>> ((32 : Int32) &&& 0x3f).toInt64.toUInt64).toInt64)) >>> ((32 : Int32) &&& 0x3f).toInt64)))])) (fun _ k => XS.bipush X0.here hx rfl (hb hby d_jdk_29_method_45_code_81) k) ?_
  refine Go.of (T' := s₁) (f' := (mkF m 84 #[.val (.long q1), .second, .val (.long q2), .second, .val (.long (q1 >>> ((32 : Int32) &&& 0x3f).toInt64)), .second, .val (.long (q1 &&& (4294967295 : Int64))), .second, .val (.long (q2 >>> ((32 : Int32) &&& 0x3f).toInt64)), .second, .val (.long (q2 &&& (4294967295 : Int64))), .second, .val (.long ((q1 &&& (4294967295 : Int64)) * (q2 &&& (4294967295 : Int64)))), .second, .val (.long (((q1 >>> ((32 : Int32) &&& 0x3f).toInt64) * (q2 &&& (4294967295 : Int64))) + ((((q1 &&& (4294967295 : Int64)) * (q2 &&& (4294967295 : Int64))).toUInt64 >>> ((32 : Int32) &&& 0x3f).toInt64.toUInt64).toInt64))), .second, .val (.long (((((q1 >>> ((32 : Int32) &&& 0x3f).toInt64) * (q2 &&& (4294967295 : Int64))) + ((((q1 &&& (4294967295 : Int64)) * (q2 &&& (4294967295 : Int64))).toUInt64 >>> ((32 : Int32) &&& 0x3f).toInt64.toUInt64).toInt64)) &&& (4294967295 : Int64)) + ((q1 &&& (4294967295 : Int64)) * (q2 >>> ((32 : Int32) &&& 0x3f).toInt64)))), .second, .val (.long ((((q1 >>> ((32 : Int32) &&& 0x3f).toInt64) * (q2 &&& (4294967295 : Int64))) + ((((q1 &&& (4294967295 : Int64)) * (q2 &&& (4294967295 : Int64))).toUInt64 >>> ((32 : Int32) &&& 0x3f).toInt64.toUInt64).toInt64)) >>> ((32 : Int32) &&& 0x3f).toInt64)), .second] [(.long ((((((q1 >>> ((32 : Int32) &&& 0x3f).toInt64) * (q2 &&& (4294967295 : Int64))) + ((((q1 &&& (4294967295 : Int64)) * (q2 &&& (4294967295 : Int64))).toUInt64 >>> ((32 : Int32) &&& 0x3f).toInt64.toUInt64).toInt64)) &&& (4294967295 : Int64)) + ((q1 &&& (4294967295 : Int64)) * (q2 >>> ((32 : Int32) &&& 0x3f).toInt64))) >>> ((32 : Int32) &&& 0x3f).toInt64)), (.long (((q1 >>> ((32 : Int32) &&& 0x3f).toInt64) * (q2 >>> ((32 : Int32) &&& 0x3f).toInt64)) + ((((q1 >>> ((32 : Int32) &&& 0x3f).toInt64) * (q2 &&& (4294967295 : Int64))) + ((((q1 &&& (4294967295 : Int64)) * (q2 &&& (4294967295 : Int64))).toUInt64 >>> ((32 : Int32) &&& 0x3f).toInt64.toUInt64).toInt64)) >>> ((32 : Int32) &&& 0x3f).toInt64)))])) (fun _ k => XS.lshr X0.here hx rfl (hb hby d_jdk_29_method_45_code_83) rfl k) ?_
  refine Go.of (T' := s₁) (f' := (mkF m 85 #[.val (.long q1), .second, .val (.long q2), .second, .val (.long (q1 >>> ((32 : Int32) &&& 0x3f).toInt64)), .second, .val (.long (q1 &&& (4294967295 : Int64))), .second, .val (.long (q2 >>> ((32 : Int32) &&& 0x3f).toInt64)), .second, .val (.long (q2 &&& (4294967295 : Int64))), .second, .val (.long ((q1 &&& (4294967295 : Int64)) * (q2 &&& (4294967295 : Int64)))), .second, .val (.long (((q1 >>> ((32 : Int32) &&& 0x3f).toInt64) * (q2 &&& (4294967295 : Int64))) + ((((q1 &&& (4294967295 : Int64)) * (q2 &&& (4294967295 : Int64))).toUInt64 >>> ((32 : Int32) &&& 0x3f).toInt64.toUInt64).toInt64))), .second, .val (.long (((((q1 >>> ((32 : Int32) &&& 0x3f).toInt64) * (q2 &&& (4294967295 : Int64))) + ((((q1 &&& (4294967295 : Int64)) * (q2 &&& (4294967295 : Int64))).toUInt64 >>> ((32 : Int32) &&& 0x3f).toInt64.toUInt64).toInt64)) &&& (4294967295 : Int64)) + ((q1 &&& (4294967295 : Int64)) * (q2 >>> ((32 : Int32) &&& 0x3f).toInt64)))), .second, .val (.long ((((q1 >>> ((32 : Int32) &&& 0x3f).toInt64) * (q2 &&& (4294967295 : Int64))) + ((((q1 &&& (4294967295 : Int64)) * (q2 &&& (4294967295 : Int64))).toUInt64 >>> ((32 : Int32) &&& 0x3f).toInt64.toUInt64).toInt64)) >>> ((32 : Int32) &&& 0x3f).toInt64)), .second] [(.long ((((q1 >>> ((32 : Int32) &&& 0x3f).toInt64) * (q2 >>> ((32 : Int32) &&& 0x3f).toInt64)) + ((((q1 >>> ((32 : Int32) &&& 0x3f).toInt64) * (q2 &&& (4294967295 : Int64))) + ((((q1 &&& (4294967295 : Int64)) * (q2 &&& (4294967295 : Int64))).toUInt64 >>> ((32 : Int32) &&& 0x3f).toInt64.toUInt64).toInt64)) >>> ((32 : Int32) &&& 0x3f).toInt64)) + ((((((q1 >>> ((32 : Int32) &&& 0x3f).toInt64) * (q2 &&& (4294967295 : Int64))) + ((((q1 &&& (4294967295 : Int64)) * (q2 &&& (4294967295 : Int64))).toUInt64 >>> ((32 : Int32) &&& 0x3f).toInt64.toUInt64).toInt64)) &&& (4294967295 : Int64)) + ((q1 &&& (4294967295 : Int64)) * (q2 >>> ((32 : Int32) &&& 0x3f).toInt64))) >>> ((32 : Int32) &&& 0x3f).toInt64)))])) (fun _ k => XS.ladd X0.here hx rfl (hb hby d_jdk_29_method_45_code_84) rfl k) ?_
  exact goRetJ (Q := Pu h0 (fun v => v = some (.long (mulHi q1 q2)))) X0 hx hret hlk (hb hby d_jdk_29_method_45_code_85) K (by decide) (by decide) e0 (⟨rfl, rfl, rfl⟩)
theorem ef_rm_cmpProd (m : MethodId) (x0 : Int64) (x1 : Int64) (x2 : Int64) (x3 : Int64)  : entryFrame m #[(.long x0), (.long x1), (.long x2), (.long x3)] 12 = mkF m 0 #[.val (.long x0), .second, .val (.long x1), .second, .val (.long x2), .second, .val (.long x3), .second, .unset, .unset, .unset, .unset] [] := by first | (simp [entryFrame, mkF, argsToLocals, Value.category]; done) | rfl
theorem d_prog_19_method_8_code_0 : decode prog_19_method_8_code 0 = .ok (.lload_n 0, 1) := by decide +kernel
theorem d_prog_19_method_8_code_1 : decode prog_19_method_8_code 1 = .ok (.lload_n 2, 1) := by decide +kernel
theorem d_prog_19_method_8_code_2 : decode prog_19_method_8_code 2 = .ok (.invokestatic 54, 3) := by decide +kernel
theorem pd__JJ_J : parseMethodDescriptor "(JJ)J" = some ⟨[.long, .long], some .long⟩ := by decide +kernel
theorem d_prog_19_method_8_code_5 : decode prog_19_method_8_code 5 = .ok (.lstore 8, 2) := by decide +kernel
theorem d_prog_19_method_8_code_7 : decode prog_19_method_8_code 7 = .ok (.lload 4, 2) := by decide +kernel
theorem d_prog_19_method_8_code_9 : decode prog_19_method_8_code 9 = .ok (.lload 6, 2) := by decide +kernel
theorem d_prog_19_method_8_code_11 : decode prog_19_method_8_code 11 = .ok (.invokestatic 54, 3) := by decide +kernel
theorem d_prog_19_method_8_code_14 : decode prog_19_method_8_code 14 = .ok (.lstore 10, 2) := by decide +kernel
theorem d_prog_19_method_8_code_16 : decode prog_19_method_8_code 16 = .ok (.lload 8, 2) := by decide +kernel
theorem d_prog_19_method_8_code_18 : decode prog_19_method_8_code 18 = .ok (.lload 10, 2) := by decide +kernel
theorem d_prog_19_method_8_code_20 : decode prog_19_method_8_code 20 = .ok (.lcmp, 1) := by decide +kernel
theorem d_prog_19_method_8_code_21 : decode prog_19_method_8_code 21 = .ok (.ifCond .eq 11, 3) := by decide +kernel
theorem d_prog_19_method_8_code_32 : decode prog_19_method_8_code 32 = .ok (.lload_n 0, 1) := by decide +kernel
theorem d_prog_19_method_8_code_33 : decode prog_19_method_8_code 33 = .ok (.lload_n 2, 1) := by decide +kernel
theorem d_prog_19_method_8_code_34 : decode prog_19_method_8_code 34 = .ok (.lmul, 1) := by decide +kernel
theorem d_prog_19_method_8_code_35 : decode prog_19_method_8_code 35 = .ok (.lload 4, 2) := by decide +kernel
theorem d_prog_19_method_8_code_37 : decode prog_19_method_8_code 37 = .ok (.lload 6, 2) := by decide +kernel
theorem d_prog_19_method_8_code_39 : decode prog_19_method_8_code 39 = .ok (.lmul, 1) := by decide +kernel
theorem d_prog_19_method_8_code_40 : decode prog_19_method_8_code 40 = .ok (.invokestatic 63, 3) := by decide +kernel
theorem d_prog_19_method_8_code_43 : decode prog_19_method_8_code 43 = .ok (.ireturn, 1) := by decide +kernel
theorem d_prog_19_method_8_code_24 : decode prog_19_method_8_code 24 = .ok (.lload 8, 2) := by decide +kernel
theorem d_prog_19_method_8_code_26 : decode prog_19_method_8_code 26 = .ok (.lload 10, 2) := by decide +kernel
theorem d_prog_19_method_8_code_28 : decode prog_19_method_8_code 28 = .ok (.invokestatic 57, 3) := by decide +kernel
theorem d_prog_19_method_8_code_31 : decode prog_19_method_8_code 31 = .ok (.ireturn, 1) := by decide +kernel
set_option maxRecDepth 65536 in
set_option maxHeartbeats 40000000 in
theorem rm_cmpProd (l : Launch) (Z : State) (a0 : Array Value) (hw : ∀ d ∈ tables_1, d.before a0 Z = true) (q1 q2 q3 q4 : Int64) (h0 : Heap)  :
    MeetsW l Z (⟨"com/example/sluiced/sluiced/limiter/SlidingWindowCounter", "compareProducts", "(JJJJ)I"⟩ : MethodName) prog_19_method_8_code 12 (some .int) ({ frames := 2, cells := 0, slots := 0, locals := 31 } : Room) #[(.long q1), (.long q2), (.long q3), (.long q4)] h0 (Pu h0 (fun v => v = some (.int (cmpProd q1 q2 q3 q4)))) := by
  refine MeetsW.of (plainFor_of_name pn_com_example_sluiced_sluiced_limiter_SlidingWindowCounter) ?_
  intro p e s m below meth c s₁ P hx hby hml hZ hown hnm hret hlk X0 e0 K
  have M0 : Mv h0 h0 [] [] := Mv.refl _ _
  refine Go.cast (ef_rm_cmpProd m q1 q2 q3 q4 ) ?_
  refine Go.of (T' := s₁) (f' := (mkF m 1 #[.val (.long q1), .second, .val (.long q2), .second, .val (.long q3), .second, .val (.long q4), .second, .unset, .unset, .unset, .unset] [(.long q1)])) (fun _ k => XS.lloadN X0.here hx rfl (hb hby d_prog_19_method_8_code_0) rfl k) ?_
  refine Go.of (T' := s₁) (f' := (mkF m 2 #[.val (.long q1), .second, .val (.long q2), .second, .val (.long q3), .second, .val (.long q4), .second, .unset, .unset, .unset, .unset] [(.long q2), (.long q1)])) (fun _ k => XS.lloadN X0.here hx rfl (hb hby d_prog_19_method_8_code_1) rfl k) ?_
  refine goS X0 hx hZ hown (hw _ (List.mem_of_getElem? (i := 36) rfl)) (hw _ (List.mem_of_getElem? (i := 37) rfl)) (hw _ (List.mem_of_getElem? (i := 38) rfl)) (hw _ (List.mem_of_getElem? (i := 39) rfl)) (by decide) (C := 0) (S := 0) ((rm_mulHi l Z a0 hw q1 q2 h0 ).bk (W := 0) hZ (hw _ (List.mem_of_getElem? (i := 39) rfl)) (hw _ (List.mem_of_getElem? (i := 38) rfl)) (by decide) (by decide)) e0 (argsL := [(.long q1), (.long q2)]) (rest := []) (by rw [hml]; rfl) (lenOf pd__JJ_J rfl) rfl rfl (hb hby d_prog_19_method_8_code_2) (Nat.le_of_eq rfl) (by decide) (by decide) ?_
  intro v1 T1 L1 X1 hQ1
  obtain ⟨nq1, e1, rfl⟩ := hQ1
  replace X1 := standNil X1 nq1
  show Go p e below P T1 (mkF m 5 #[.val (.long q1), .second, .val (.long q2), .second, .val (.long q3), .second, .val (.long q4), .second, .unset, .unset, .unset, .unset] [(.long (mulHi q1 q2))])
  refine Go.of (T' := T1) (f' := (mkF m 7 #[.val (.long q1), .second, .val (.long q2), .second, .val (.long q3), .second, .val (.long q4), .second, .val (.long (mulHi q1 q2)), .second, .unset, .unset] [])) (fun _ k => XS.lstore X1.here hx rfl (hb hby d_prog_19_method_8_code_5) rfl (l' := #[.val (.long q1), .second, .val (.long q2), .second, .val (.long q3), .second, .val (.long q4), .second, .val (.long (mulHi q1 q2)), .second, .unset, .unset]) rfl k) ?_
  refine Go.of (T' := T1) (f' := (mkF m 9 #[.val (.long q1), .second, .val (.long q2), .second, .val (.long q3), .second, .val (.long q4), .second, .val (.long (mulHi q1 q2)), .second, .unset, .unset] [(.long q3)])) (fun _ k => XS.lload X1.here hx rfl (hb hby d_prog_19_method_8_code_7) rfl k) ?_
  refine Go.of (T' := T1) (f' := (mkF m 11 #[.val (.long q1), .second, .val (.long q2), .second, .val (.long q3), .second, .val (.long q4), .second, .val (.long (mulHi q1 q2)), .second, .unset, .unset] [(.long q4), (.long q3)])) (fun _ k => XS.lload X1.here hx rfl (hb hby d_prog_19_method_8_code_9) rfl k) ?_
  refine goS X1 hx hZ hown (hw _ (List.mem_of_getElem? (i := 36) rfl)) (hw _ (List.mem_of_getElem? (i := 37) rfl)) (hw _ (List.mem_of_getElem? (i := 38) rfl)) (hw _ (List.mem_of_getElem? (i := 39) rfl)) (by decide) (C := 0) (S := 0) ((rm_mulHi l Z a0 hw q3 q4 h0 ).bk (W := 0) hZ (hw _ (List.mem_of_getElem? (i := 39) rfl)) (hw _ (List.mem_of_getElem? (i := 38) rfl)) (by decide) (by decide)) e1 (argsL := [(.long q3), (.long q4)]) (rest := []) (by rw [hml]; rfl) (lenOf pd__JJ_J rfl) rfl rfl (hb hby d_prog_19_method_8_code_11) (Nat.le_of_eq rfl) (by decide) (by decide) ?_
  intro v2 T2 L2 X2 hQ2
  obtain ⟨nq2, e2, rfl⟩ := hQ2
  replace X2 := standNil X2 nq2
  show Go p e below P T2 (mkF m 14 #[.val (.long q1), .second, .val (.long q2), .second, .val (.long q3), .second, .val (.long q4), .second, .val (.long (mulHi q1 q2)), .second, .unset, .unset] [(.long (mulHi q3 q4))])
  refine Go.of (T' := T2) (f' := (mkF m 16 #[.val (.long q1), .second, .val (.long q2), .second, .val (.long q3), .second, .val (.long q4), .second, .val (.long (mulHi q1 q2)), .second, .val (.long (mulHi q3 q4)), .second] [])) (fun _ k => XS.lstore X2.here hx rfl (hb hby d_prog_19_method_8_code_14) rfl (l' := #[.val (.long q1), .second, .val (.long q2), .second, .val (.long q3), .second, .val (.long q4), .second, .val (.long (mulHi q1 q2)), .second, .val (.long (mulHi q3 q4)), .second]) rfl k) ?_
  refine Go.of (T' := T2) (f' := (mkF m 18 #[.val (.long q1), .second, .val (.long q2), .second, .val (.long q3), .second, .val (.long q4), .second, .val (.long (mulHi q1 q2)), .second, .val (.long (mulHi q3 q4)), .second] [(.long (mulHi q1 q2))])) (fun _ k => XS.lload X2.here hx rfl (hb hby d_prog_19_method_8_code_16) rfl k) ?_
  refine Go.of (T' := T2) (f' := (mkF m 20 #[.val (.long q1), .second, .val (.long q2), .second, .val (.long q3), .second, .val (.long q4), .second, .val (.long (mulHi q1 q2)), .second, .val (.long (mulHi q3 q4)), .second] [(.long (mulHi q3 q4)), (.long (mulHi q1 q2))])) (fun _ k => XS.lload X2.here hx rfl (hb hby d_prog_19_method_8_code_18) rfl k) ?_
  refine Go.of (T' := T2) (f' := (mkF m 21 #[.val (.long q1), .second, .val (.long q2), .second, .val (.long q3), .second, .val (.long q4), .second, .val (.long (mulHi q1 q2)), .second, .val (.long (mulHi q3 q4)), .second] [(.int (lcmpW (mulHi q1 q2) (mulHi q3 q4)))])) (fun _ k => XS.lcmp X2.here hx rfl (hb hby d_prog_19_method_8_code_20) rfl k) ?_
  by_cases hc21 : (mulHi q1 q2) = (mulHi q3 q4)
  ·
    refine Go.of (T' := T2) (f' := (mkF m 32 #[.val (.long q1), .second, .val (.long q2), .second, .val (.long q3), .second, .val (.long q4), .second, .val (.long (mulHi q1 q2)), .second, .val (.long (mulHi q3 q4)), .second] [])) (fun _ k => XS.ifYes X2.here hx rfl (pc0 := 21) (pc' := 32) rfl (hb hby d_prog_19_method_8_code_21) rfl ((if0 _ _).trans (teq ((lw_eq _ _).mpr hc21)).1) (by decide) (by decide) k) ?_
    refine Go.of (T' := T2) (f' := (mkF m 33 #[.val (.long q1), .second, .val (.long q2), .second, .val (.long q3), .second, .val (.long q4), .second, .val (.long (mulHi q1 q2)), .second, .val (.long (mulHi q3 q4)), .second] [(.long q1)])) (fun _ k => XS.lloadN X2.here hx rfl (hb hby d_prog_19_method_8_code_32) rfl k) ?_
    refine Go.of (T' := T2) (f' := (mkF m 34 #[.val (.long q1), .second, .val (.long q2), .second, .val (.long q3), .second, .val (.long q4), .second, .val (.long (mulHi q1 q2)), .second, .val (.long (mulHi q3 q4)), .second] [(.long q2), (.long q1)])) (fun _ k => XS.lloadN X2.here hx rfl (hb hby d_prog_19_method_8_code_33) rfl k) ?_
    refine Go.of (T' := T2) (f' := (mkF m 35 #[.val (.long q1), .second, .val (.long q2), .second, .val (.long q3), .second, .val (.long q4), .second, .val (.long (mulHi q1 q2)), .second, .val (.long (mulHi q3 q4)), .second] [(.long (q1 * q2))])) (fun _ k => XS.lmul X2.here hx rfl (hb hby d_prog_19_method_8_code_34) rfl k) ?_
    refine Go.of (T' := T2) (f' := (mkF m 37 #[.val (.long q1), .second, .val (.long q2), .second, .val (.long q3), .second, .val (.long q4), .second, .val (.long (mulHi q1 q2)), .second, .val (.long (mulHi q3 q4)), .second] [(.long q3), (.long (q1 * q2))])) (fun _ k => XS.lload X2.here hx rfl (hb hby d_prog_19_method_8_code_35) rfl k) ?_
    refine Go.of (T' := T2) (f' := (mkF m 39 #[.val (.long q1), .second, .val (.long q2), .second, .val (.long q3), .second, .val (.long q4), .second, .val (.long (mulHi q1 q2)), .second, .val (.long (mulHi q3 q4)), .second] [(.long q4), (.long q3), (.long (q1 * q2))])) (fun _ k => XS.lload X2.here hx rfl (hb hby d_prog_19_method_8_code_37) rfl k) ?_
    refine Go.of (T' := T2) (f' := (mkF m 40 #[.val (.long q1), .second, .val (.long q2), .second, .val (.long q3), .second, .val (.long q4), .second, .val (.long (mulHi q1 q2)), .second, .val (.long (mulHi q3 q4)), .second] [(.long (q3 * q4)), (.long (q1 * q2))])) (fun _ k => XS.lmul X2.here hx rfl (hb hby d_prog_19_method_8_code_39) rfl k) ?_
    refine goS X2 hx hZ hown (hw _ (List.mem_of_getElem? (i := 41) rfl)) (hw _ (List.mem_of_getElem? (i := 42) rfl)) (hw _ (List.mem_of_getElem? (i := 43) rfl)) (hw _ (List.mem_of_getElem? (i := 44) rfl)) (by decide) (C := 0) (S := 0) ((rm_compareU l Z a0 hw (q1 * q2) (q3 * q4) h0 ).bk (W := 0) hZ (hw _ (List.mem_of_getElem? (i := 44) rfl)) (hw _ (List.mem_of_getElem? (i := 43) rfl)) (by decide) (by decide)) e2 (argsL := [(.long (q1 * q2)), (.long (q3 * q4))]) (rest := []) (by rw [hml]; rfl) (lenOf pd__JJ_I rfl) rfl rfl (hb hby d_prog_19_method_8_code_40) (Nat.le_of_eq rfl) (by decide) (by decide) ?_
    intro v3 T3 L3 X3 hQ3
    obtain ⟨nq3, e3, rfl⟩ := hQ3
    replace X3 := standNil X3 nq3
    show Go p e below P T3 (mkF m 43 #[.val (.long q1), .second, .val (.long q2), .second, .val (.long q3), .second, .val (.long q4), .second, .val (.long (mulHi q1 q2)), .second, .val (.long (mulHi q3 q4)), .second] [(.int (cmpJ ((q1 * q2) + (-9223372036854775808 : Int64)) ((q3 * q4) + (-9223372036854775808 : Int64))))])
    exact goRetI (Q := Pu h0 (fun v => v = some (.int (cmpProd q1 q2 q3 q4)))) X3 hx (t := .int) hret hlk rfl (by simp) (hb hby d_prog_19_method_8_code_43) K (by decide) (by decide) e3 (⟨rfl, rfl, by simp only [cmpProd]; first | rw [if_pos hc21] | rw [if_neg hc21]⟩)
  ·
    refine Go.of (T' := T2) (f' := (mkF m 24 #[.val (.long q1), .second, .val (.long q2), .second, .val (.long q3), .second, .val (.long q4), .second, .val (.long (mulHi q1 q2)), .second, .val (.long (mulHi q3 q4)), .second] [])) (fun _ k => XS.ifNo X2.here hx rfl (hb hby d_prog_19_method_8_code_21) rfl ((if0 _ _).trans (feq (mt (lw_eq _ _).mp hc21)).1) k) ?_
    refine Go.of (T' := T2) (f' := (mkF m 26 #[.val (.long q1), .second, .val (.long q2), .second, .val (.long q3), .second, .val (.long q4), .second, .val (.long (mulHi q1 q2)), .second, .val (.long (mulHi q3 q4)), .second] [(.long (mulHi q1 q2))])) (fun _ k => XS.lload X2.here hx rfl (hb hby d_prog_19_method_8_code_24) rfl k) ?_
    refine Go.of (T' := T2) (f' := (mkF m 28 #[.val (.long q1), .second, .val (.long q2), .second, .val (.long q3), .second, .val (.long q4), .second, .val (.long (mulHi q1 q2)), .second, .val (.long (mulHi q3 q4)), .second] [(.long (mulHi q3 q4)), (.long (mulHi q1 q2))])) (fun _ k => XS.lload X2.here hx rfl (hb hby d_prog_19_method_8_code_26) rfl k) ?_
    refine goS X2 hx hZ hown (hw _ (List.mem_of_getElem? (i := 61) rfl)) (hw _ (List.mem_of_getElem? (i := 47) rfl)) (hw _ (List.mem_of_getElem? (i := 43) rfl)) (hw _ (List.mem_of_getElem? (i := 48) rfl)) (by decide) (C := 0) (S := 0) ((rm_compare l Z a0 hw (mulHi q1 q2) (mulHi q3 q4) h0 ).bk (W := 0) hZ (hw _ (List.mem_of_getElem? (i := 48) rfl)) (hw _ (List.mem_of_getElem? (i := 43) rfl)) (by decide) (by decide)) e2 (argsL := [(.long (mulHi q1 q2)), (.long (mulHi q3 q4))]) (rest := []) (by rw [hml]; rfl) (lenOf pd__JJ_I rfl) rfl rfl (hb hby d_prog_19_method_8_code_28) (Nat.le_of_eq rfl) (by decide) (by decide) ?_
    intro v4 T4 L4 X4 hQ4
    obtain ⟨nq4, e4, rfl⟩ := hQ4
    replace X4 := standNil X4 nq4
    show Go p e below P T4 (mkF m 31 #[.val (.long q1), .second, .val (.long q2), .second, .val (.long q3), .second, .val (.long q4), .second, .val (.long (mulHi q1 q2)), .second, .val (.long (mulHi q3 q4)), .second] [(.int (cmpJ (mulHi q1 q2) (mulHi q3 q4)))])
    exact goRetI (Q := Pu h0 (fun v => v = some (.int (cmpProd q1 q2 q3 q4)))) X4 hx (t := .int) hret hlk rfl (by simp) (hb hby d_prog_19_method_8_code_31) K (by decide) (by decide) e4 (⟨rfl, rfl, by simp only [cmpProd]; first | rw [if_pos hc21] | rw [if_neg hc21]⟩)
theorem ef_rm_weighs (m : MethodId) (x0 : Addr) (x1 : Int64) (x2 : Int64) (x3 : Int64)  : entryFrame m #[(.ref x0), (.long x1), (.long x2), (.long x3)] 9 = mkF m 0 #[.val (.ref x0), .val (.long x1), .second, .val (.long x2), .second, .val (.long x3), .second, .unset, .unset] [] := by first | (simp [entryFrame, mkF, argsToLocals, Value.category]; done) | rfl
theorem d_prog_19_method_6_code_0 : decode prog_19_method_6_code 0 = .ok (.aload_n 0, 1) := by decide +kernel
theorem d_prog_19_method_6_code_1 : decode prog_19_method_6_code 1 = .ok (.getfield 17, 3) := by decide +kernel
theorem d_prog_19_method_6_code_4 : decode prog_19_method_6_code 4 = .ok (.lload_n 3, 1) := by decide +kernel
theorem d_prog_19_method_6_code_5 : decode prog_19_method_6_code 5 = .ok (.lsub, 1) := by decide +kernel
theorem d_prog_19_method_6_code_6 : decode prog_19_method_6_code 6 = .ok (.lconst 1, 1) := by decide +kernel
theorem d_prog_19_method_6_code_7 : decode prog_19_method_6_code 7 = .ok (.lsub, 1) := by decide +kernel
theorem d_prog_19_method_6_code_8 : decode prog_19_method_6_code 8 = .ok (.lstore 7, 2) := by decide +kernel
theorem d_prog_19_method_6_code_10 : decode prog_19_method_6_code 10 = .ok (.lload_n 1, 1) := by decide +kernel
theorem d_prog_19_method_6_code_11 : decode prog_19_method_6_code 11 = .ok (.aload_n 0, 1) := by decide +kernel
theorem d_prog_19_method_6_code_12 : decode prog_19_method_6_code 12 = .ok (.getfield 23, 3) := by decide +kernel
theorem d_prog_19_method_6_code_15 : decode prog_19_method_6_code 15 = .ok (.lload 5, 2) := by decide +kernel
theorem d_prog_19_method_6_code_17 : decode prog_19_method_6_code 17 = .ok (.lsub, 1) := by decide +kernel
theorem d_prog_19_method_6_code_18 : decode prog_19_method_6_code 18 = .ok (.lload 7, 2) := by decide +kernel
theorem d_prog_19_method_6_code_20 : decode prog_19_method_6_code 20 = .ok (.aload_n 0, 1) := by decide +kernel
theorem d_prog_19_method_6_code_21 : decode prog_19_method_6_code 21 = .ok (.getfield 23, 3) := by decide +kernel
theorem d_prog_19_method_6_code_24 : decode prog_19_method_6_code 24 = .ok (.invokestatic 50, 3) := by decide +kernel
theorem pd__JJJJ_I : parseMethodDescriptor "(JJJJ)I" = some ⟨[.long, .long, .long, .long], some .int⟩ := by decide +kernel
theorem d_prog_19_method_6_code_27 : decode prog_19_method_6_code 27 = .ok (.ifCond .gt 7, 3) := by decide +kernel
theorem d_prog_19_method_6_code_34 : decode prog_19_method_6_code 34 = .ok (.iconst 0, 1) := by decide +kernel
theorem d_prog_19_method_6_code_35 : decode prog_19_method_6_code 35 = .ok (.ireturn, 1) := by decide +kernel
theorem d_prog_19_method_6_code_30 : decode prog_19_method_6_code 30 = .ok (.iconst 1, 1) := by decide +kernel
theorem d_prog_19_method_6_code_31 : decode prog_19_method_6_code 31 = .ok (.goto 4, 3) := by decide +kernel
set_option maxRecDepth 65536 in
set_option maxHeartbeats 40000000 in
theorem rm_weighs (l : Launch) (Z : State) (a0 : Array Value) (hw : ∀ d ∈ tables_1, d.before a0 Z = true) (a1 : Addr) (q1 q2 q3 li wn : Int64) (h0 : Heap) (F_limit : Fld Z h0 a1 "com/example/sluiced/sluiced/limiter/SlidingWindowCounter" "limit" "J" (.long li)) (F_window : Fld Z h0 a1 "com/example/sluiced/sluiced/limiter/SlidingWindowCounter" "window" "J" (.long wn)) :
    MeetsW l Z (⟨"com/example/sluiced/sluiced/limiter/SlidingWindowCounter", "weighsWithinLimit", "(JJJ)Z"⟩ : MethodName) prog_19_method_6_code 9 (some .boolean) ({ frames := 3, cells := 0, slots := 0, locals := 54 } : Room) #[(.ref a1), (.long q1), (.long q2), (.long q3)] h0 (Pu h0 (fun v => v = some (.int (bi (wwl li wn q1 q2 q3))))) := by
  refine MeetsW.of (plainFor_of_name pn_com_example_sluiced_sluiced_limiter_SlidingWindowCounter) ?_
  intro p e s m below meth c s₁ P hx hby hml hZ hown hnm hret hlk X0 e0 K
  have M0 : Mv h0 h0 [] [] := Mv.refl _ _
  refine Go.cast (ef_rm_weighs m a1 q1 q2 q3 ) ?_
  refine Go.of (T' := s₁) (f' := (mkF m 1 #[.val (.ref a1), .val (.long q1), .second, .val (.long q2), .second, .val (.long q3), .second, .unset, .unset] [(.ref a1)])) (fun _ k => XS.aloadN X0.here hx rfl (hb hby d_prog_19_method_6_code_0) rfl rfl k) ?_
  obtain ⟨T1, X1, e1, st1⟩ := getF X0 hx hZ hown (host := "") (Or.inl (hw _ (List.mem_of_getElem? (i := 16) rfl))) Via.refl e0 F_limit (g := (mkF m 1 #[.val (.ref a1), .val (.long q1), .second, .val (.long q2), .second, .val (.long q3), .second, .unset, .unset] [(.ref a1)])) rfl rfl (hb hby d_prog_19_method_6_code_1)
  refine Go.of (T' := T1) (f' := (mkF m 4 #[.val (.ref a1), .val (.long q1), .second, .val (.long q2), .second, .val (.long q3), .second, .unset, .unset] [(.long li)])) st1 ?_
  refine Go.of (T' := T1) (f' := (mkF m 5 #[.val (.ref a1), .val (.long q1), .second, .val (.long q2), .second, .val (.long q3), .second, .unset, .unset] [(.long q2), (.long li)])) (fun _ k => XS.lloadN X1.here hx rfl (hb hby d_prog_19_method_6_code_4) rfl k) ?_
  refine Go.of (T' := T1) (f' := (mkF m 6 #[.val (.ref a1), .val (.long q1), .second, .val (.long q2), .second, .val (.long q3), .second, .unset, .unset] [(.long (li - q2))])) (fun _ k => XS.lsub X1.here hx rfl (hb hby d_prog_19_method_6_code_5) rfl k) ?_
  refine Go.of (T' := T1) (f' := (mkF m 7 #[.val (.ref a1), .val (.long q1), .second, .val (.long q2), .second, .val (.long q3), .second, .unset, .unset] [(.long (1 : Int64)), (.long (li - q2))])) (fun _ k => XS.lconst X1.here hx rfl (hb hby d_prog_19_method_6_code_6) k) ?_
  refine Go.of (T' := T1) (f' := (mkF m 8 #[.val (.ref a1), .val (.long q1), .second, .val (.long q2), .second, .val (.long q3), .second, .unset, .unset] [(.long ((li - q2) - (1 : Int64)))])) (fun _ k => XS.lsub X1.here hx rfl (hb hby d_prog_19_method_6_code_7) rfl k) ?_
  refine Go.of (T' := T1) (f' := (mkF m 10 #[.val (.ref a1), .val (.long q1), .second, .val (.long q2), .second, .val (.long q3), .second, .val (.long ((li - q2) - (1 : Int64))), .second] [])) (fun _ k => XS.lstore X1.here hx rfl (hb hby d_prog_19_method_6_code_8) rfl (l' := #[.val (.ref a1), .val (.long q1), .second, .val (.long q2), .second, .val (.long q3), .second, .val (.long ((li - q2) - (1 : Int64))), .second]) rfl k) ?_
  refine Go.of (T' := T1) (f' := (mkF m 11 #[.val (.ref a1), .val (.long q1), .second, .val (.long q2), .second, .val (.long q3), .second, .val (.long ((li - q2) - (1 : Int64))), .second] [(.long q1)])) (fun _ k => XS.lloadN X1.here hx rfl (hb hby d_prog_19_method_6_code_10) rfl k) ?_
  refine Go.of (T' := T1) (f' := (mkF m 12 #[.val (.ref a1), .val (.long q1), .second, .val (.long q2), .second, .val (.long q3), .second, .val (.long ((li - q2) - (1 : Int64))), .second] [(.ref a1), (.long q1)])) (fun _ k => XS.aloadN X1.here hx rfl (hb hby d_prog_19_method_6_code_11) rfl rfl k) ?_
  obtain ⟨T2, X2, e2, st2⟩ := getF X1 hx hZ hown (host := "") (Or.inl (hw _ (List.mem_of_getElem? (i := 18) rfl))) Via.refl e1 F_window (g := (mkF m 12 #[.val (.ref a1), .val (.long q1), .second, .val (.long q2), .second, .val (.long q3), .second, .val (.long ((li - q2) - (1 : Int64))), .second] [(.ref a1), (.long q1)])) rfl rfl (hb hby d_prog_19_method_6_code_12)
  refine Go.of (T' := T2) (f' := (mkF m 15 #[.val (.ref a1), .val (.long q1), .second, .val (.long q2), .second, .val (.long q3), .second, .val (.long ((li - q2) - (1 : Int64))), .second] [(.long wn), (.long q1)])) st2 ?_
  refine Go.of (T' := T2) (f' := (mkF m 17 #[.val (.ref a1), .val (.long q1), .second, .val (.long q2), .second, .val (.long q3), .second, .val (.long ((li - q2) - (1 : Int64))), .second] [(.long q3), (.long wn), (.long q1)])) (fun _ k => XS.lload X2.here hx rfl (hb hby d_prog_19_method_6_code_15) rfl k) ?_
  refine Go.of (T' := T2) (f' := (mkF m 18 #[.val (.ref a1), .val (.long q1), .second, .val (.long q2), .second, .val (.long q3), .second, .val (.long ((li - q2) - (1 : Int64))), .second] [(.long (wn - q3)), (.long q1)])) (fun _ k => XS.lsub X2.here hx rfl (hb hby d_prog_19_method_6_code_17) rfl k) ?_
  refine Go.of (T' := T2) (f' := (mkF m 20 #[.val (.ref a1), .val (.long q1), .second, .val (.long q2), .second, .val (.long q3), .second, .val (.long ((li - q2) - (1 : Int64))), .second] [(.long ((li - q2) - (1 : Int64))), (.long (wn - q3)), (.long q1)])) (fun _ k => XS.lload X2.here hx rfl (hb hby d_prog_19_method_6_code_18) rfl k) ?_
  refine Go.of (T' := T2) (f' := (mkF m 21 #[.val (.ref a1), .val (.long q1), .second, .val (.long q2), .second, .val (.long q3), .second, .val (.long ((li - q2) - (1 : Int64))), .second] [(.ref a1), (.long ((li - q2) - (1 : Int64))), (.long (wn - q3)), (.long q1)])) (fun _ k => XS.aloadN X2.here hx rfl (hb hby d_prog_19_method_6_code_20) rfl rfl k) ?_
  obtain ⟨T3, X3, e3, st3⟩ := getF X2 hx hZ hown (host := "") (Or.inl (hw _ (List.mem_of_getElem? (i := 18) rfl))) Via.refl e2 F_window (g := (mkF m 21 #[.val (.ref a1), .val (.long q1), .second, .val (.long q2), .second, .val (.long q3), .second, .val (.long ((li - q2) - (1 : Int64))), .second] [(.ref a1), (.long ((li - q2) - (1 : Int64))), (.long (wn - q3)), (.long q1)])) rfl rfl (hb hby d_prog_19_method_6_code_21)
  refine Go.of (T' := T3) (f' := (mkF m 24 #[.val (.ref a1), .val (.long q1), .second, .val (.long q2), .second, .val (.long q3), .second, .val (.long ((li - q2) - (1 : Int64))), .second] [(.long wn), (.long ((li - q2) - (1 : Int64))), (.long (wn - q3)), (.long q1)])) st3 ?_
  refine goS X3 hx hZ hown (hw _ (List.mem_of_getElem? (i := 33) rfl)) (hw _ (List.mem_of_getElem? (i := 34) rfl)) (hw _ (List.mem_of_getElem? (i := 4) rfl)) (hw _ (List.mem_of_getElem? (i := 35) rfl)) (by decide) (C := 0) (S := 0) ((rm_cmpProd l Z a0 hw q1 (wn - q3) ((li - q2) - (1 : Int64)) wn h0 ).bk (W := 0) hZ (hw _ (List.mem_of_getElem? (i := 35) rfl)) (hw _ (List.mem_of_getElem? (i := 4) rfl)) (by decide) (by decide)) e3 (argsL := [(.long q1), (.long (wn - q3)), (.long ((li - q2) - (1 : Int64))), (.long wn)]) (rest := []) (by rw [hml]; rfl) (lenOf pd__JJJJ_I rfl) rfl rfl (hb hby d_prog_19_method_6_code_24) (Nat.le_of_eq rfl) (by decide) (by decide) ?_
  intro v4 T4 L4 X4 hQ4
  obtain ⟨nq4, e4, rfl⟩ := hQ4
  replace X4 := standNil X4 nq4
  show Go p e below P T4 (mkF m 27 #[.val (.ref a1), .val (.long q1), .second, .val (.long q2), .second, .val (.long q3), .second, .val (.long ((li - q2) - (1 : Int64))), .second] [(.int (cmpProd q1 (wn - q3) ((li - q2) - (1 : Int64)) wn))])
  by_cases hc27 : (0 : Int32) < (cmpProd q1 (wn - q3) ((li - q2) - (1 : Int64)) wn)
  ·
    refine Go.of (T' := T4) (f' := (mkF m 34 #[.val (.ref a1), .val (.long q1), .second, .val (.long q2), .second, .val (.long q3), .second, .val (.long ((li - q2) - (1 : Int64))), .second] [])) (fun _ k => XS.ifYes X4.here hx rfl (pc0 := 27) (pc' := 34) rfl (hb hby d_prog_19_method_6_code_27) rfl ((if0 _ _).trans (tlt hc27).2.2.1) (by decide) (by decide) k) ?_
    refine Go.of (T' := T4) (f' := (mkF m 35 #[.val (.ref a1), .val (.long q1), .second, .val (.long q2), .second, .val (.long q3), .second, .val (.long ((li - q2) - (1 : Int64))), .second] [(.int (0 : Int32))])) (fun _ k => XS.iconst X4.here hx rfl (hb hby d_prog_19_method_6_code_34) k) ?_
    exact goRetI (Q := Pu h0 (fun v => v = some (.int (bi (wwl li wn q1 q2 q3))))) X4 hx (t := .boolean) hret hlk rfl (by simp) (hb hby d_prog_19_method_6_code_35) K (by decide) (by decide) e4 (⟨rfl, rfl, by rw [bi_f (fun q => wwl_iff.mp q hc27)]⟩)
  ·
    refine Go.of (T' := T4) (f' := (mkF m 30 #[.val (.ref a1), .val (.long q1), .second, .val (.long q2), .second, .val (.long q3), .second, .val (.long ((li - q2) - (1 : Int64))), .second] [])) (fun _ k => XS.ifNo X4.here hx rfl (hb hby d_prog_19_method_6_code_27) rfl ((if0 _ _).trans (flt hc27).2.2.1) k) ?_
    refine Go.of (T' := T4) (f' := (mkF m 31 #[.val (.ref a1), .val (.long q1), .second, .val (.long q2), .second, .val (.long q3), .second, .val (.long ((li - q2) - (1 : Int64))), .second] [(.int (1 : Int32))])) (fun _ k => XS.iconst X4.here hx rfl (hb hby d_prog_19_method_6_code_30) k) ?_
    refine Go.of (T' := T4) (f' := (mkF m 35 #[.val (.ref a1), .val (.long q1), .second, .val (.long q2), .second, .val (.long q3), .second, .val (.long ((li - q2) - (1 : Int64))), .second] [(.int (1 : Int32))])) (fun _ k => XS.goto X4.here hx rfl (pc0 := 31) (pc' := 35) rfl (hb hby d_prog_19_method_6_code_31) (by decide) (by decide) k) ?_
    exact goRetI (Q := Pu h0 (fun v => v = some (.int (bi (wwl li wn q1 q2 q3))))) X4 hx (t := .boolean) hret hlk rfl (by simp) (hb hby d_prog_19_method_6_code_35) K (by decide) (by decide) e4 (⟨rfl, rfl, by rw [bi_t (wwl_iff.mpr hc27)]⟩)
def okT (li wn p cu : Int64) (t : Int) : Prop := p.toInt * (wn.toInt - t) ≤ (li.toInt - cu.toInt - 1) * wn.toInt
theorem wwl_at {li wn p cu el : Int64} (G : Good li wn p cu el) : wwl li wn p cu el ↔ okT li wn p cu el.toInt := by
  have g := G.num
  have r1 := rng64 li
  have r2 := rng64 wn
  have r3 := rng64 cu
  have e1 : (wn - el).toInt = wn.toInt - el.toInt := jsub (by omega) (by omega)
  have e2 : (li - cu).toInt = li.toInt - cu.toInt := jsub (by omega) (by omega)
  have e3 : (li - cu - 1).toInt = li.toInt - cu.toInt - 1 := by rw [jsub (by rw [o64]; omega) (by rw [o64]; omega), e2, o64]
  unfold wwl okT; rw [e1, e3]
theorem okT.up {li wn p cu : Int64} (hp : 0 ≤ p.toInt) {t t' : Int} (h : t ≤ t') (k : okT li wn p cu t) : okT li wn p cu t' := by
  unfold okT at *
  have : p.toInt * (wn.toInt - t') ≤ p.toInt * (wn.toInt - t) := Int.mul_le_mul_of_nonneg_left (by omega) hp
  omega
theorem Good.at {li wn p cu el t : Int64} (G : Good li wn p cu el) (h1 : el.toInt ≤ t.toInt) (h2 : t.toInt < wn.toInt) : Good li wn p cu t := by
  have g := G.num
  obtain ⟨a, b, c, d, e, f⟩ := G
  exact ⟨a, b, c, d, by rw [jlt, z64]; omega, by rw [jlt]; omega⟩
theorem last_num {li wn p cu el : Int64} (G : Good li wn p cu el) : (wn - (1 : Int64)).toInt = wn.toInt - 1 := by
  have g := G.num
  have := rng64 wn
  rw [jsub (by rw [o64]; omega) (by rw [o64]; omega), o64]
def FInv (li wn p cu fr lo hi : Int64) : Prop := fr.toInt ≤ lo.toInt ∧ lo.toInt ≤ hi.toInt ∧ hi.toInt ≤ wn.toInt - 1 ∧ okT li wn p cu hi.toInt ∧ (lo.toInt = fr.toInt ∨ ¬ okT li wn p cu (lo.toInt - 1))
def FQ (li wn p cu fr : Int64) (r : Int) : Prop := fr.toInt ≤ r ∧ r ≤ wn.toInt - 1 ∧ okT li wn p cu r ∧ (r = fr.toInt ∨ ¬ okT li wn p cu (r - 1))
theorem FInv.init {li wn p cu el : Int64} (G : Good li wn p cu el) (h : okT li wn p cu (wn.toInt - 1)) : FInv li wn p cu el el (wn - (1 : Int64)) := by
  have g := G.num
  have e := last_num G
  exact ⟨Int.le_refl _, by omega, by omega, by rw [e]; exact h, Or.inl rfl⟩
theorem fmid {li wn p cu el lo hi mid : Int64} (G : Good li wn p cu el) (I : FInv li wn p cu el lo hi) (h : lo < hi) (hm : (lo + ((hi - lo) / (2 : Int64))) = mid) : mid.toInt = lo.toInt + (hi.toInt - lo.toInt) / 2 := by
  have g := G.num
  rw [jlt] at h
  have i1 := I.1
  have r1 := rng64 hi
  have e1 : (hi - lo).toInt = hi.toInt - lo.toInt := jsub (by omega) (by omega)
  have e2 := (c_ldiv (hi - lo) 2 2 (by decide) (by decide)).1 (by omega)
  have e3 : (lo + ((hi - lo) / (2 : Int64))).toInt = lo.toInt + ((hi - lo) / (2 : Int64)).toInt := jadd (by omega) (by omega)
  rw [hm] at e3
  omega
theorem FInv.dn {li wn p cu el lo hi mid : Int64} (G : Good li wn p cu el) (I : FInv li wn p cu el lo hi) (h : lo < hi) (hm : (lo + ((hi - lo) / (2 : Int64))) = mid) (k : wwl li wn p cu mid) : FInv li wn p cu el lo mid ∧ (mid.toInt - lo.toInt).toNat < (hi.toInt - lo.toInt).toNat := by
  have e := fmid G I h hm
  obtain ⟨i1, i2, i3, i4, i5⟩ := I
  rw [jlt] at h
  have k' := (wwl_at (G.at (t := mid) (by omega) (by omega))).mp k
  exact ⟨⟨i1, by omega, by omega, k', i5⟩, by omega⟩
theorem FInv.up {li wn p cu el lo hi mid : Int64} (G : Good li wn p cu el) (I : FInv li wn p cu el lo hi) (h : lo < hi) (hm : (lo + ((hi - lo) / (2 : Int64))) = mid) (k : ¬ wwl li wn p cu mid) : FInv li wn p cu el (mid + (1 : Int64)) hi ∧ (hi.toInt - (mid + (1 : Int64)).toInt).toNat < (hi.toInt - lo.toInt).toNat := by
  have e := fmid G I h hm
  obtain ⟨i1, i2, i3, i4, i5⟩ := I
  rw [jlt] at h
  have rw_ := rng64 wn
  have k' : ¬ okT li wn p cu mid.toInt := fun q => k ((wwl_at (G.at (t := mid) (by omega) (by omega))).mpr q)
  have g := G.num
  have e2 : (mid + (1 : Int64)).toInt = mid.toInt + 1 := by rw [jadd (by rw [o64]; omega) (by rw [o64]; omega), o64]
  exact ⟨⟨by omega, by omega, i3, i4, Or.inr (by rw [e2]; simpa using k')⟩, by omega⟩
theorem FInv.out {li wn p cu el lo hi : Int64} (I : FInv li wn p cu el lo hi) (h : ¬ lo < hi) : FQ li wn p cu el lo.toInt := by
  obtain ⟨i1, i2, i3, i4, i5⟩ := I
  rw [jlt] at h
  have e : lo.toInt = hi.toInt := by omega
  exact ⟨i1, by omega, by rw [e]; exact i4, i5⟩
theorem addEx {x y : Int64} (h1 : -9223372036854775808 ≤ x.toInt + y.toInt) (h2 : x.toInt + y.toInt < 9223372036854775808) : ¬ (((x ^^^ (x + y)) &&& (y ^^^ (x + y))) < (0 : Int64)) := by
  have e := jadd h1 h2
  rw [jlt, z64]
  have a := c_andSL (x ^^^ (x + y)) (y ^^^ (x + y))
  have b := c_xorSL x (x + y)
  have c := c_xorSL y (x + y)
  rw [e] at b c
  omega
def TQ (li wn p c e : Int64) (r : Int) : Prop :=
  (∃ t, r = t - e.toInt ∧ e.toInt ≤ t ∧ t ≤ wn.toInt - 1 ∧ okT li wn p c t ∧ (t = e.toInt ∨ ¬ okT li wn p c (t - 1)))
  ∨ (¬ okT li wn p c (wn.toInt - 1) ∧ ∃ t, r = wn.toInt - e.toInt + t ∧ 0 ≤ t ∧ t ≤ wn.toInt - 1 ∧ okT li wn c 0 t ∧ (t = 0 ∨ ¬ okT li wn c 0 (t - 1)))
  ∨ (¬ okT li wn p c (wn.toInt - 1) ∧ ¬ okT li wn c 0 (wn.toInt - 1) ∧ r = wn.toInt - e.toInt + wn.toInt)
theorem Good.last {li wn p c e : Int64} (G : Good li wn p c e) : Good li wn p c (wn - (1 : Int64)) := by
  have g := G.num
  have k := last_num G
  exact G.at (by omega) (by omega)
theorem Good.zero {li wn p c e : Int64} (G : Good li wn p c e) : Good li wn c (0 : Int64) (0 : Int64) := by
  obtain ⟨a, b, c1, d, e1, f⟩ := G
  exact ⟨a, b, d, by decide, by decide, b⟩
theorem okLast {li wn p c e : Int64} (G : Good li wn p c e) : wwl li wn p c (wn - (1 : Int64)) ↔ okT li wn p c (wn.toInt - 1) := by
  rw [wwl_at G.last, last_num G]
theorem TQ1 {li wn p c e r : Int64} (G : Good li wn p c e) (h : FQ li wn p c e r.toInt) : TQ li wn p c e (r - e).toInt := by
  have g := G.num
  have := rng64 wn
  obtain ⟨a, b, c1, d⟩ := h
  exact Or.inl ⟨r.toInt, jsub (by omega) (by omega), a, b, c1, d⟩
theorem restn {li wn p c e : Int64} (G : Good li wn p c e) : (wn - e).toInt = wn.toInt - e.toInt := by
  have g := G.num
  have := rng64 wn
  exact jsub (by omega) (by omega)
theorem TQ2 {li wn p c e r : Int64} (G : Good li wn p c e) (hbw : wn.toInt ≤ 1073741824) (k : ¬ wwl li wn p c (wn - (1 : Int64))) (h : FQ li wn c 0 0 r.toInt) : (-9223372036854775808 ≤ (wn - e).toInt + r.toInt ∧ (wn - e).toInt + r.toInt < 9223372036854775808) ∧ TQ li wn p c e ((wn - e) + r).toInt := by
  have g := G.num
  rw [okLast G] at k
  obtain ⟨a, b, c1, d⟩ := h
  rw [z64] at a d
  have e1 := restn G
  have h1 : -9223372036854775808 ≤ (wn - e).toInt + r.toInt ∧ (wn - e).toInt + r.toInt < 9223372036854775808 := by omega
  exact ⟨h1, Or.inr (Or.inl ⟨k, r.toInt, by rw [jadd h1.1 h1.2, e1], a, b, c1, d⟩)⟩
theorem TQ3 {li wn p c e : Int64} (G : Good li wn p c e) (hbw : wn.toInt ≤ 1073741824) (k : ¬ wwl li wn p c (wn - (1 : Int64))) (k2 : ¬ wwl li wn c 0 (wn - (1 : Int64))) : (-9223372036854775808 ≤ (wn - e).toInt + wn.toInt ∧ (wn - e).toInt + wn.toInt < 9223372036854775808) ∧ TQ li wn p c e ((wn - e) + wn).toInt := by
  have g := G.num
  rw [okLast G] at k
  rw [okLast G.zero] at k2
  have e1 := restn G
  have h1 : -9223372036854775808 ≤ (wn - e).toInt + wn.toInt ∧ (wn - e).toInt + wn.toInt < 9223372036854775808 := by omega
  exact ⟨h1, Or.inr (Or.inr ⟨k, k2, by rw [jadd h1.1 h1.2, e1]⟩)⟩
abbrev okE (li wn p c e : Int64) : Prop := ¬ ((li * wn) < ((p * (wn - e)) + ((c + (1 : Int64)) * wn)))
def Sm (x : Int64) : Prop := 0 ≤ x.toInt ∧ x.toInt ≤ 1073741824
theorem okE_iff {li wn p c t : Int64} (s1 : Sm li) (s2 : Sm wn) (s3 : Sm p) (s4 : Sm c) (h0 : 0 ≤ t.toInt) (h1 : t.toInt ≤ wn.toInt) : okE li wn p c t ↔ okT li wn p c t.toInt := by
  unfold Sm at *
  have e1 : (wn - t).toInt = wn.toInt - t.toInt := jsub (by omega) (by omega)
  have e2 : (c + (1 : Int64)).toInt = c.toInt + 1 := by rw [jadd (by rw [o64]; omega) (by rw [o64]; omega), o64]
  have m1 := mc (a := p.toInt) (b := (wn - t).toInt) (l1 := 0) (h1 := 1073741824) (l2 := 0) (h2 := 1073741824) (by omega) (by omega) (by omega) (by omega)
  have m2 := mc (a := (c + (1 : Int64)).toInt) (b := wn.toInt) (l1 := 0) (h1 := 1073741825) (l2 := 0) (h2 := 1073741824) (by omega) (by omega) (by omega) (by omega)
  have m3 := mc (a := li.toInt) (b := wn.toInt) (l1 := 0) (h1 := 1073741824) (l2 := 0) (h2 := 1073741824) (by omega) (by omega) (by omega) (by omega)
  have k1 : (p * (wn - t)).toInt = p.toInt * (wn - t).toInt := jmul (by omega) (by omega)
  have k2 : ((c + (1 : Int64)) * wn).toInt = (c + (1 : Int64)).toInt * wn.toInt := jmul (by omega) (by omega)
  have k3 : (li * wn).toInt = li.toInt * wn.toInt := jmul (by omega) (by omega)
  have k4 : ((p * (wn - t)) + ((c + (1 : Int64)) * wn)).toInt = p.toInt * (wn - t).toInt + (c + (1 : Int64)).toInt * wn.toInt := by rw [jadd (by omega) (by omega), k1, k2]
  unfold okE okT
  rw [jlt, k3, k4, e1, e2]
  have u : (li.toInt - c.toInt - 1) * wn.toInt = li.toInt * wn.toInt - (c.toInt + 1) * wn.toInt := by
    rw [← Int.sub_mul]; congr 1; omega
  rw [u]; omega
theorem sm30 (x : Int64) : Sm (x &&& (1073741823 : Int64)) := by
  have := c_maskL x 1073741823 30 (by decide) (by decide); unfold Sm; omega
theorem sm31 (x : Int64) : Sm ((x &&& (1073741823 : Int64)) + (1 : Int64)) ∧ (0 : Int64) < ((x &&& (1073741823 : Int64)) + (1 : Int64)) := by
  have := c_maskL x 1073741823 30 (by decide) (by decide)
  have e : ((x &&& (1073741823 : Int64)) + (1 : Int64)).toInt = (x &&& (1073741823 : Int64)).toInt + 1 := by rw [jadd (by rw [o64]; omega) (by rw [o64]; omega), o64]
  unfold Sm; rw [jlt, z64, e]; omega
theorem sm0 : Sm (0 : Int64) := by unfold Sm; decide

theorem ef_rm_first (m : MethodId) (x0 : Addr) (x1 : Int64) (x2 : Int64) (x3 : Int64)  : entryFrame m #[(.ref x0), (.long x1), (.long x2), (.long x3)] 13 = mkF m 0 #[.val (.ref x0), .val (.long x1), .second, .val (.long x2), .second, .val (.long x3), .second, .unset, .unset, .unset, .unset, .unset, .unset] [] := by first | (simp [entryFrame, mkF, argsToLocals, Value.category]; done) | rfl
theorem d_prog_19_method_7_code_0 : decode prog_19_method_7_code 0 = .ok (.lload 5, 2) := by decide +kernel
theorem d_prog_19_method_7_code_2 : decode prog_19_method_7_code 2 = .ok (.lstore 7, 2) := by decide +kernel
theorem d_prog_19_method_7_code_4 : decode prog_19_method_7_code 4 = .ok (.aload_n 0, 1) := by decide +kernel
theorem d_prog_19_method_7_code_5 : decode prog_19_method_7_code 5 = .ok (.getfield 23, 3) := by decide +kernel
theorem d_prog_19_method_7_code_8 : decode prog_19_method_7_code 8 = .ok (.lconst 1, 1) := by decide +kernel
theorem d_prog_19_method_7_code_9 : decode prog_19_method_7_code 9 = .ok (.lsub, 1) := by decide +kernel
theorem d_prog_19_method_7_code_10 : decode prog_19_method_7_code 10 = .ok (.lstore 9, 2) := by decide +kernel
theorem d_prog_19_method_7_code_12 : decode prog_19_method_7_code 12 = .ok (.lload 7, 2) := by decide +kernel
theorem d_prog_19_method_7_code_14 : decode prog_19_method_7_code 14 = .ok (.lload 9, 2) := by decide +kernel
theorem d_prog_19_method_7_code_16 : decode prog_19_method_7_code 16 = .ok (.lcmp, 1) := by decide +kernel
theorem d_prog_19_method_7_code_17 : decode prog_19_method_7_code 17 = .ok (.ifCond .ge 44, 3) := by decide +kernel
theorem d_prog_19_method_7_code_20 : decode prog_19_method_7_code 20 = .ok (.lload 7, 2) := by decide +kernel
theorem d_prog_19_method_7_code_22 : decode prog_19_method_7_code 22 = .ok (.lload 9, 2) := by decide +kernel
theorem d_prog_19_method_7_code_24 : decode prog_19_method_7_code 24 = .ok (.lload 7, 2) := by decide +kernel
theorem d_prog_19_method_7_code_26 : decode prog_19_method_7_code 26 = .ok (.lsub, 1) := by decide +kernel
theorem d_prog_19_method_7_code_27 : decode prog_19_method_7_code 27 = .ok (.ldc2_w 44, 3) := by decide +kernel
theorem d_prog_19_method_7_code_30 : decode prog_19_method_7_code 30 = .ok (.ldiv, 1) := by decide +kernel
theorem d_prog_19_method_7_code_31 : decode prog_19_method_7_code 31 = .ok (.ladd, 1) := by decide +kernel
theorem d_prog_19_method_7_code_32 : decode prog_19_method_7_code 32 = .ok (.lstore 11, 2) := by decide +kernel
theorem d_prog_19_method_7_code_34 : decode prog_19_method_7_code 34 = .ok (.aload_n 0, 1) := by decide +kernel
theorem d_prog_19_method_7_code_35 : decode prog_19_method_7_code 35 = .ok (.lload_n 1, 1) := by decide +kernel
theorem d_prog_19_method_7_code_36 : decode prog_19_method_7_code 36 = .ok (.lload_n 3, 1) := by decide +kernel
theorem d_prog_19_method_7_code_37 : decode prog_19_method_7_code 37 = .ok (.lload 11, 2) := by decide +kernel
theorem d_prog_19_method_7_code_39 : decode prog_19_method_7_code 39 = .ok (.invokevirtual 30, 3) := by decide +kernel
theorem pd__JJJ_Z : parseMethodDescriptor "(JJJ)Z" = some ⟨[.long, .long, .long], some .boolean⟩ := by decide +kernel
theorem d_prog_19_method_7_code_42 : decode prog_19_method_7_code 42 = .ok (.ifCond .eq 10, 3) := by decide +kernel
theorem d_prog_19_method_7_code_45 : decode prog_19_method_7_code 45 = .ok (.lload 11, 2) := by decide +kernel
theorem d_prog_19_method_7_code_47 : decode prog_19_method_7_code 47 = .ok (.lstore 9, 2) := by decide +kernel
theorem d_prog_19_method_7_code_49 : decode prog_19_method_7_code 49 = .ok (.goto 9, 3) := by decide +kernel
theorem d_prog_19_method_7_code_58 : decode prog_19_method_7_code 58 = .ok (.goto (-46), 3) := by decide +kernel
theorem d_prog_19_method_7_code_52 : decode prog_19_method_7_code 52 = .ok (.lload 11, 2) := by decide +kernel
theorem d_prog_19_method_7_code_54 : decode prog_19_method_7_code 54 = .ok (.lconst 1, 1) := by decide +kernel
theorem d_prog_19_method_7_code_55 : decode prog_19_method_7_code 55 = .ok (.ladd, 1) := by decide +kernel
theorem d_prog_19_method_7_code_56 : decode prog_19_method_7_code 56 = .ok (.lstore 7, 2) := by decide +kernel
theorem d_prog_19_method_7_code_61 : decode prog_19_method_7_code 61 = .ok (.lload 7, 2) := by decide +kernel
theorem d_prog_19_method_7_code_63 : decode prog_19_method_7_code 63 = .ok (.lreturn, 1) := by decide +kernel
set_option maxRecDepth 65536 in
set_option maxHeartbeats 40000000 in
theorem rm_first (l : Launch) (Z : State) (a0 : Array Value) (hw : ∀ d ∈ tables_1, d.before a0 Z = true) (a1 : Addr) (q1 q2 q3 li wn : Int64) (h0 : Heap) (F_limit : Fld Z h0 a1 "com/example/sluiced/sluiced/limiter/SlidingWindowCounter" "limit" "J" (.long li)) (F_window : Fld Z h0 a1 "com/example/sluiced/sluiced/limiter/SlidingWindowCounter" "window" "J" (.long wn)) (E_a1 : Exa Z h0 a1 "com/example/sluiced/sluiced/limiter/SlidingWindowCounter") (hG : Good li wn q1 q2 q3) (hlast : okT li wn q1 q2 (wn.toInt - 1)) :
    MeetsW l Z (⟨"com/example/sluiced/sluiced/limiter/SlidingWindowCounter", "firstAdmitting", "(JJJ)J"⟩ : MethodName) prog_19_method_7_code 13 (some .long) ({ frames := 4, cells := 0, slots := 0, locals := 74 } : Room) #[(.ref a1), (.long q1), (.long q2), (.long q3)] h0 (Pu h0 (fun v => ∃ r : Int64, v = some (.long r) ∧ FQ li wn q1 q2 q3 r.toInt)) := by
  refine MeetsW.of (plainFor_of_name pn_com_example_sluiced_sluiced_limiter_SlidingWindowCounter) ?_
  intro p e s m below meth c s₁ P hx hby hml hZ hown hnm hret hlk X0 e0 K
  have M0 : Mv h0 h0 [] [] := Mv.refl _ _
  refine Go.cast (ef_rm_first m a1 q1 q2 q3 ) ?_
  refine Go.of (T' := s₁) (f' := (mkF m 2 #[.val (.ref a1), .val (.long q1), .second, .val (.long q2), .second, .val (.long q3), .second, .unset, .unset, .unset, .unset, .unset, .unset] [(.long q3)])) (fun _ k => XS.lload X0.here hx rfl (hb hby d_prog_19_method_7_code_0) rfl k) ?_
  refine Go.of (T' := s₁) (f' := (mkF m 4 #[.val (.ref a1), .val (.long q1), .second, .val (.long q2), .second, .val (.long q3), .second, .val (.long q3), .second, .unset, .unset, .unset, .unset] [])) (fun _ k => XS.lstore X0.here hx rfl (hb hby d_prog_19_method_7_code_2) rfl (l' := #[.val (.ref a1), .val (.long q1), .second, .val (.long q2), .second, .val (.long q3), .second, .val (.long q3), .second, .unset, .unset, .unset, .unset]) rfl k) ?_
  refine Go.of (T' := s₁) (f' := (mkF m 5 #[.val (.ref a1), .val (.long q1), .second, .val (.long q2), .second, .val (.long q3), .second, .val (.long q3), .second, .unset, .unset, .unset, .unset] [(.ref a1)])) (fun _ k => XS.aloadN X0.here hx rfl (hb hby d_prog_19_method_7_code_4) rfl rfl k) ?_
  obtain ⟨T1, X1, e1, st1⟩ := getF X0 hx hZ hown (host := "") (Or.inl (hw _ (List.mem_of_getElem? (i := 18) rfl))) Via.refl e0 F_window (g := (mkF m 5 #[.val (.ref a1), .val (.long q1), .second, .val (.long q2), .second, .val (.long q3), .second, .val (.long q3), .second, .unset, .unset, .unset, .unset] [(.ref a1)])) rfl rfl (hb hby d_prog_19_method_7_code_5)
  refine Go.of (T' := T1) (f' := (mkF m 8 #[.val (.ref a1), .val (.long q1), .second, .val (.long q2), .second, .val (.long q3), .second, .val (.long q3), .second, .unset, .unset, .unset, .unset] [(.long wn)])) st1 ?_
  refine Go.of (T' := T1) (f' := (mkF m 9 #[.val (.ref a1), .val (.long q1), .second, .val (.long q2), .second, .val (.long q3), .second, .val (.long q3), .second, .unset, .unset, .unset, .unset] [(.long (1 : Int64)), (.long wn)])) (fun _ k => XS.lconst X1.here hx rfl (hb hby d_prog_19_method_7_code_8) k) ?_
  refine Go.of (T' := T1) (f' := (mkF m 10 #[.val (.ref a1), .val (.long q1), .second, .val (.long q2), .second, .val (.long q3), .second, .val (.long q3), .second, .unset, .unset, .unset, .unset] [(.long (wn - (1 : Int64)))])) (fun _ k => XS.lsub X1.here hx rfl (hb hby d_prog_19_method_7_code_9) rfl k) ?_
  refine Go.of (T' := T1) (f' := (mkF m 12 #[.val (.ref a1), .val (.long q1), .second, .val (.long q2), .second, .val (.long q3), .second, .val (.long q3), .second, .val (.long (wn - (1 : Int64))), .second, .unset, .unset] [])) (fun _ k => XS.lstore X1.here hx rfl (hb hby d_prog_19_method_7_code_10) rfl (l' := #[.val (.ref a1), .val (.long q1), .second, .val (.long q2), .second, .val (.long q3), .second, .val (.long q3), .second, .val (.long (wn - (1 : Int64))), .second, .unset, .unset]) rfl k) ?_
  have hI0 := FInv.init hG hlast
  have loop : ∀ (n : Nat) (lo hi md : Int64) (Tl : State), Stand p l e ({ frames := 4, cells := 0, slots := 0, locals := 74 } : Room) s m #[(.ref a1), (.long q1), (.long q2), (.long q3)] below meth c Tl [] 0 0 → Tl.heap = h0 → FInv li wn q1 q2 q3 lo hi → (hi.toInt - lo.toInt).toNat = n → Go p e below P Tl (mkF m 12 #[.val (.ref a1), .val (.long q1), .second, .val (.long q2), .second, .val (.long q3), .second, .val (.long lo), .second, .val (.long hi), .second, .val (.long md), .second] []) := by
    intro n
    induction n using Nat.strongRecOn with
    | ind n ih =>
    intro lo hi md Tl Xl el hI hn
    refine Go.of (T' := Tl) (f' := (mkF m 14 #[.val (.ref a1), .val (.long q1), .second, .val (.long q2), .second, .val (.long q3), .second, .val (.long lo), .second, .val (.long hi), .second, .val (.long md), .second] [(.long lo)])) (fun _ k => XS.lload Xl.here hx rfl (hb hby d_prog_19_method_7_code_12) rfl k) ?_
    refine Go.of (T' := Tl) (f' := (mkF m 16 #[.val (.ref a1), .val (.long q1), .second, .val (.long q2), .second, .val (.long q3), .second, .val (.long lo), .second, .val (.long hi), .second, .val (.long md), .second] [(.long hi), (.long lo)])) (fun _ k => XS.lload Xl.here hx rfl (hb hby d_prog_19_method_7_code_14) rfl k) ?_
    refine Go.of (T' := Tl) (f' := (mkF m 17 #[.val (.ref a1), .val (.long q1), .second, .val (.long q2), .second, .val (.long q3), .second, .val (.long lo), .second, .val (.long hi), .second, .val (.long md), .second] [(.int (lcmpW lo hi))])) (fun _ k => XS.lcmp Xl.here hx rfl (hb hby d_prog_19_method_7_code_16) rfl k) ?_
    by_cases hc17 : lo < hi
    ·
      refine Go.of (T' := Tl) (f' := (mkF m 20 #[.val (.ref a1), .val (.long q1), .second, .val (.long q2), .second, .val (.long q3), .second, .val (.long lo), .second, .val (.long hi), .second, .val (.long md), .second] [])) (fun _ k => XS.ifNo Xl.here hx rfl (hb hby d_prog_19_method_7_code_17) rfl ((if0 _ _).trans (tlt ((lw_lt _ _).mpr hc17)).2.1) k) ?_
      refine Go.of (T' := Tl) (f' := (mkF m 22 #[.val (.ref a1), .val (.long q1), .second, .val (.long q2), .second, .val (.long q3), .second, .val (.long lo), .second, .val (.long hi), .second, .val (.long md), .second] [(.long lo)])) (fun _ k => XS.lload Xl.here hx rfl (hb hby d_prog_19_method_7_code_20) rfl k) ?_
      refine Go.of (T' := Tl) (f' := (mkF m 24 #[.val (.ref a1), .val (.long q1), .second, .val (.long q2), .second, .val (.long q3), .second, .val (.long lo), .second, .val (.long hi), .second, .val (.long md), .second] [(.long hi), (.long lo)])) (fun _ k => XS.lload Xl.here hx rfl (hb hby d_prog_19_method_7_code_22) rfl k) ?_
      refine Go.of (T' := Tl) (f' := (mkF m 26 #[.val (.ref a1), .val (.long q1), .second, .val (.long q2), .second, .val (.long q3), .second, .val (.long lo), .second, .val (.long hi), .second, .val (.long md), .second] [(.long lo), (.long hi), (.long lo)])) (fun _ k => XS.lload Xl.here hx rfl (hb hby d_prog_19_method_7_code_24) rfl k) ?_
      refine Go.of (T' := Tl) (f' := (mkF m 27 #[.val (.ref a1), .val (.long q1), .second, .val (.long q2), .second, .val (.long q3), .second, .val (.long lo), .second, .val (.long hi), .second, .val (.long md), .second] [(.long (hi - lo)), (.long lo)])) (fun _ k => XS.lsub Xl.here hx rfl (hb hby d_prog_19_method_7_code_26) rfl k) ?_
      refine Go.of (T' := Tl) (f' := (mkF m 30 #[.val (.ref a1), .val (.long q1), .second, .val (.long q2), .second, .val (.long q3), .second, .val (.long lo), .second, .val (.long hi), .second, .val (.long md), .second] [(.long (2 : Int64)), (.long (hi - lo)), (.long lo)])) (fun _ k => Xl.ldc2Long hx hown (mvT hZ (hw _ (List.mem_of_getElem? (i := 53) rfl))) (g := (mkF m 27 #[.val (.ref a1), .val (.long q1), .second, .val (.long q2), .second, .val (.long q3), .second, .val (.long lo), .second, .val (.long hi), .second, .val (.long md), .second] [(.long (hi - lo)), (.long lo)])) rfl (hb hby d_prog_19_method_7_code_27) _ k) ?_
      refine Go.of (T' := Tl) (f' := (mkF m 31 #[.val (.ref a1), .val (.long q1), .second, .val (.long q2), .second, .val (.long q3), .second, .val (.long lo), .second, .val (.long hi), .second, .val (.long md), .second] [(.long ((hi - lo) / (2 : Int64))), (.long lo)])) (fun _ k => XS.ldiv Xl.here hx rfl (hb hby d_prog_19_method_7_code_30) rfl (by decide) k) ?_
      refine Go.of (T' := Tl) (f' := (mkF m 32 #[.val (.ref a1), .val (.long q1), .second, .val (.long q2), .second, .val (.long q3), .second, .val (.long lo), .second, .val (.long hi), .second, .val (.long md), .second] [(.long (lo + ((hi - lo) / (2 : Int64))))])) (fun _ k => XS.ladd Xl.here hx rfl (hb hby d_prog_19_method_7_code_31) rfl k) ?_
      refine Go.of (T' := Tl) (f' := (mkF m 34 #[.val (.ref a1), .val (.long q1), .second, .val (.long q2), .second, .val (.long q3), .second, .val (.long lo), .second, .val (.long hi), .second, .val (.long (lo + ((hi - lo) / (2 : Int64)))), .second] [])) (fun _ k => XS.lstore Xl.here hx rfl (hb hby d_prog_19_method_7_code_32) rfl (l' := #[.val (.ref a1), .val (.long q1), .second, .val (.long q2), .second, .val (.long q3), .second, .val (.long lo), .second, .val (.long hi), .second, .val (.long (lo + ((hi - lo) / (2 : Int64)))), .second]) rfl k) ?_
      generalize hmd : (lo + ((hi - lo) / (2 : Int64))) = mid
      refine Go.of (T' := Tl) (f' := (mkF m 35 #[.val (.ref a1), .val (.long q1), .second, .val (.long q2), .second, .val (.long q3), .second, .val (.long lo), .second, .val (.long hi), .second, .val (.long mid), .second] [(.ref a1)])) (fun _ k => XS.aloadN Xl.here hx rfl (hb hby d_prog_19_method_7_code_34) rfl rfl k) ?_
      refine Go.of (T' := Tl) (f' := (mkF m 36 #[.val (.ref a1), .val (.long q1), .second, .val (.long q2), .second, .val (.long q3), .second, .val (.long lo), .second, .val (.long hi), .second, .val (.long mid), .second] [(.long q1), (.ref a1)])) (fun _ k => XS.lloadN Xl.here hx rfl (hb hby d_prog_19_method_7_code_35) rfl k) ?_
      refine Go.of (T' := Tl) (f' := (mkF m 37 #[.val (.ref a1), .val (.long q1), .second, .val (.long q2), .second, .val (.long q3), .second, .val (.long lo), .second, .val (.long hi), .second, .val (.long mid), .second] [(.long q2), (.long q1), (.ref a1)])) (fun _ k => XS.lloadN Xl.here hx rfl (hb hby d_prog_19_method_7_code_36) rfl k) ?_
      refine Go.of (T' := Tl) (f' := (mkF m 39 #[.val (.ref a1), .val (.long q1), .second, .val (.long q2), .second, .val (.long q3), .second, .val (.long lo), .second, .val (.long hi), .second, .val (.long mid), .second] [(.long mid), (.long q2), (.long q1), (.ref a1)])) (fun _ k => XS.lload Xl.here hx rfl (hb hby d_prog_19_method_7_code_37) rfl k) ?_
      refine goP Xl hx hZ hown (hw _ (List.mem_of_getElem? (i := 29) rfl)) (hw _ (List.mem_of_getElem? (i := 30) rfl)) (hw _ (List.mem_of_getElem? (i := 31) rfl)) (hw _ (List.mem_of_getElem? (i := 32) rfl)) (hw _ (List.mem_of_getElem? (i := 3) rfl)) (by decide) (C := 0) (S := 0) ((rm_weighs l Z a0 hw a1 q1 q2 mid li wn h0 F_limit F_window).bk (W := 0) hZ (hw _ (List.mem_of_getElem? (i := 32) rfl)) (hw _ (List.mem_of_getElem? (i := 4) rfl)) (by decide) (by decide)) el E_a1 (argsL := [(.long q1), (.long q2), (.long mid)]) (rest := []) (by rw [hml]; rfl) (lenOf pd__JJJ_Z rfl) rfl rfl (hb hby d_prog_19_method_7_code_39) (Nat.le_of_eq rfl) (by decide) (by decide) ?_
      intro v2 T2 L2 X2 hQ2
      obtain ⟨nq2, e2, rfl⟩ := hQ2
      replace X2 := standNil X2 nq2
      show Go p e below P T2 (mkF m 42 #[.val (.ref a1), .val (.long q1), .second, .val (.long q2), .second, .val (.long q3), .second, .val (.long lo), .second, .val (.long hi), .second, .val (.long mid), .second] [(.int (bi (wwl li wn q1 q2 mid)))])
      by_cases hc42 : wwl li wn q1 q2 mid
      ·
        refine Go.of (T' := T2) (f' := (mkF m 45 #[.val (.ref a1), .val (.long q1), .second, .val (.long q2), .second, .val (.long q3), .second, .val (.long lo), .second, .val (.long hi), .second, .val (.long mid), .second] [])) (fun _ k => XS.ifNo X2.here hx rfl (hb hby d_prog_19_method_7_code_42) rfl ((if0 _ _).trans (feq (bi_ne hc42)).1) k) ?_
        refine Go.of (T' := T2) (f' := (mkF m 47 #[.val (.ref a1), .val (.long q1), .second, .val (.long q2), .second, .val (.long q3), .second, .val (.long lo), .second, .val (.long hi), .second, .val (.long mid), .second] [(.long mid)])) (fun _ k => XS.lload X2.here hx rfl (hb hby d_prog_19_method_7_code_45) rfl k) ?_
        refine Go.of (T' := T2) (f' := (mkF m 49 #[.val (.ref a1), .val (.long q1), .second, .val (.long q2), .second, .val (.long q3), .second, .val (.long lo), .second, .val (.long mid), .second, .val (.long mid), .second] [])) (fun _ k => XS.lstore X2.here hx rfl (hb hby d_prog_19_method_7_code_47) rfl (l' := #[.val (.ref a1), .val (.long q1), .second, .val (.long q2), .second, .val (.long q3), .second, .val (.long lo), .second, .val (.long mid), .second, .val (.long mid), .second]) rfl k) ?_
        refine Go.of (T' := T2) (f' := (mkF m 58 #[.val (.ref a1), .val (.long q1), .second, .val (.long q2), .second, .val (.long q3), .second, .val (.long lo), .second, .val (.long mid), .second, .val (.long mid), .second] [])) (fun _ k => XS.goto X2.here hx rfl (pc0 := 49) (pc' := 58) rfl (hb hby d_prog_19_method_7_code_49) (by decide) (by decide) k) ?_
        refine Go.of (T' := T2) (f' := (mkF m 12 #[.val (.ref a1), .val (.long q1), .second, .val (.long q2), .second, .val (.long q3), .second, .val (.long lo), .second, .val (.long mid), .second, .val (.long mid), .second] [])) (fun _ k => XS.goto X2.here hx rfl (pc0 := 58) (pc' := 12) rfl (hb hby d_prog_19_method_7_code_58) (by decide) (by decide) k) ?_
        have hs := FInv.dn hG hI hc17 hmd hc42
        exact ih _ (by rw [← hn]; exact hs.2) _ _ _ _ X2 e2 hs.1 rfl
      ·
        refine Go.of (T' := T2) (f' := (mkF m 52 #[.val (.ref a1), .val (.long q1), .second, .val (.long q2), .second, .val (.long q3), .second, .val (.long lo), .second, .val (.long hi), .second, .val (.long mid), .second] [])) (fun _ k => XS.ifYes X2.here hx rfl (pc0 := 42) (pc' := 52) rfl (hb hby d_prog_19_method_7_code_42) rfl ((if0 _ _).trans (teq (bi_f hc42)).1) (by decide) (by decide) k) ?_
        refine Go.of (T' := T2) (f' := (mkF m 54 #[.val (.ref a1), .val (.long q1), .second, .val (.long q2), .second, .val (.long q3), .second, .val (.long lo), .second, .val (.long hi), .second, .val (.long mid), .second] [(.long mid)])) (fun _ k => XS.lload X2.here hx rfl (hb hby d_prog_19_method_7_code_52) rfl k) ?_
        refine Go.of (T' := T2) (f' := (mkF m 55 #[.val (.ref a1), .val (.long q1), .second, .val (.long q2), .second, .val (.long q3), .second, .val (.long lo), .second, .val (.long hi), .second, .val (.long mid), .second] [(.long (1 : Int64)), (.long mid)])) (fun _ k => XS.lconst X2.here hx rfl (hb hby d_prog_19_method_7_code_54) k) ?_
        refine Go.of (T' := T2) (f' := (mkF m 56 #[.val (.ref a1), .val (.long q1), .second, .val (.long q2), .second, .val (.long q3), .second, .val (.long lo), .second, .val (.long hi), .second, .val (.long mid), .second] [(.long (mid + (1 : Int64)))])) (fun _ k => XS.ladd X2.here hx rfl (hb hby d_prog_19_method_7_code_55) rfl k) ?_
        refine Go.of (T' := T2) (f' := (mkF m 58 #[.val (.ref a1), .val (.long q1), .second, .val (.long q2), .second, .val (.long q3), .second, .val (.long (mid + (1 : Int64))), .second, .val (.long hi), .second, .val (.long mid), .second] [])) (fun _ k => XS.lstore X2.here hx rfl (hb hby d_prog_19_method_7_code_56) rfl (l' := #[.val (.ref a1), .val (.long q1), .second, .val (.long q2), .second, .val (.long q3), .second, .val (.long (mid + (1 : Int64))), .second, .val (.long hi), .second, .val (.long mid), .second]) rfl k) ?_
        refine Go.of (T' := T2) (f' := (mkF m 12 #[.val (.ref a1), .val (.long q1), .second, .val (.long q2), .second, .val (.long q3), .second, .val (.long (mid + (1 : Int64))), .second, .val (.long hi), .second, .val (.long mid), .second] [])) (fun _ k => XS.goto X2.here hx rfl (pc0 := 58) (pc' := 12) rfl (hb hby d_prog_19_method_7_code_58) (by decide) (by decide) k) ?_
        have hs := FInv.up hG hI hc17 hmd hc42
        exact ih _ (by rw [← hn]; exact hs.2) _ _ _ _ X2 e2 hs.1 rfl
    ·
      refine Go.of (T' := Tl) (f' := (mkF m 61 #[.val (.ref a1), .val (.long q1), .second, .val (.long q2), .second, .val (.long q3), .second, .val (.long lo), .second, .val (.long hi), .second, .val (.long md), .second] [])) (fun _ k => XS.ifYes Xl.here hx rfl (pc0 := 17) (pc' := 61) rfl (hb hby d_prog_19_method_7_code_17) rfl ((if0 _ _).trans (flt (mt (lw_lt _ _).mp hc17)).2.1) (by decide) (by decide) k) ?_
      refine Go.of (T' := Tl) (f' := (mkF m 63 #[.val (.ref a1), .val (.long q1), .second, .val (.long q2), .second, .val (.long q3), .second, .val (.long lo), .second, .val (.long hi), .second, .val (.long md), .second] [(.long lo)])) (fun _ k => XS.lload Xl.here hx rfl (hb hby d_prog_19_method_7_code_61) rfl k) ?_
      exact goRetJ (Q := Pu h0 (fun v => ∃ r : Int64, v = some (.long r) ∧ FQ li wn q1 q2 q3 r.toInt)) Xl hx hret hlk (hb hby d_prog_19_method_7_code_63) K (by decide) (by decide) el (⟨rfl, rfl, _, rfl, FInv.out hI hc17⟩)
  refine Go.of (T' := T1) (f' := (mkF m 14 #[.val (.ref a1), .val (.long q1), .second, .val (.long q2), .second, .val (.long q3), .second, .val (.long q3), .second, .val (.long (wn - (1 : Int64))), .second, .unset, .unset] [(.long q3)])) (fun _ k => XS.lload X1.here hx rfl (hb hby d_prog_19_method_7_code_12) rfl k) ?_
  refine Go.of (T' := T1) (f' := (mkF m 16 #[.val (.ref a1), .val (.long q1), .second, .val (.long q2), .second, .val (.long q3), .second, .val (.long q3), .second, .val (.long (wn - (1 : Int64))), .second, .unset, .unset] [(.long (wn - (1 : Int64))), (.long q3)])) (fun _ k => XS.lload X1.here hx rfl (hb hby d_prog_19_method_7_code_14) rfl k) ?_
  refine Go.of (T' := T1) (f' := (mkF m 17 #[.val (.ref a1), .val (.long q1), .second, .val (.long q2), .second, .val (.long q3), .second, .val (.long q3), .second, .val (.long (wn - (1 : Int64))), .second, .unset, .unset] [(.int (lcmpW q3 (wn - (1 : Int64))))])) (fun _ k => XS.lcmp X1.here hx rfl (hb hby d_prog_19_method_7_code_16) rfl k) ?_
  by_cases hc17 : q3 < (wn - (1 : Int64))
  ·
    refine Go.of (T' := T1) (f' := (mkF m 20 #[.val (.ref a1), .val (.long q1), .second, .val (.long q2), .second, .val (.long q3), .second, .val (.long q3), .second, .val (.long (wn - (1 : Int64))), .second, .unset, .unset] [])) (fun _ k => XS.ifNo X1.here hx rfl (hb hby d_prog_19_method_7_code_17) rfl ((if0 _ _).trans (tlt ((lw_lt _ _).mpr hc17)).2.1) k) ?_
    refine Go.of (T' := T1) (f' := (mkF m 22 #[.val (.ref a1), .val (.long q1), .second, .val (.long q2), .second, .val (.long q3), .second, .val (.long q3), .second, .val (.long (wn - (1 : Int64))), .second, .unset, .unset] [(.long q3)])) (fun _ k => XS.lload X1.here hx rfl (hb hby d_prog_19_method_7_code_20) rfl k) ?_
    refine Go.of (T' := T1) (f' := (mkF m 24 #[.val (.ref a1), .val (.long q1), .second, .val (.long q2), .second, .val (.long q3), .second, .val (.long q3), .second, .val (.long (wn - (1 : Int64))), .second, .unset, .unset] [(.long (wn - (1 : Int64))), (.long q3)])) (fun _ k => XS.lload X1.here hx rfl (hb hby d_prog_19_method_7_code_22) rfl k) ?_
    refine Go.of (T' := T1) (f' := (mkF m 26 #[.val (.ref a1), .val (.long q1), .second, .val (.long q2), .second, .val (.long q3), .second, .val (.long q3), .second, .val (.long (wn - (1 : Int64))), .second, .unset, .unset] [(.long q3), (.long (wn - (1 : Int64))), (.long q3)])) (fun _ k => XS.lload X1.here hx rfl (hb hby d_prog_19_method_7_code_24) rfl k) ?_
    refine Go.of (T' := T1) (f' := (mkF m 27 #[.val (.ref a1), .val (.long q1), .second, .val (.long q2), .second, .val (.long q3), .second, .val (.long q3), .second, .val (.long (wn - (1 : Int64))), .second, .unset, .unset] [(.long ((wn - (1 : Int64)) - q3)), (.long q3)])) (fun _ k => XS.lsub X1.here hx rfl (hb hby d_prog_19_method_7_code_26) rfl k) ?_
    refine Go.of (T' := T1) (f' := (mkF m 30 #[.val (.ref a1), .val (.long q1), .second, .val (.long q2), .second, .val (.long q3), .second, .val (.long q3), .second, .val (.long (wn - (1 : Int64))), .second, .unset, .unset] [(.long (2 : Int64)), (.long ((wn - (1 : Int64)) - q3)), (.long q3)])) (fun _ k => X1.ldc2Long hx hown (mvT hZ (hw _ (List.mem_of_getElem? (i := 53) rfl))) (g := (mkF m 27 #[.val (.ref a1), .val (.long q1), .second, .val (.long q2), .second, .val (.long q3), .second, .val (.long q3), .second, .val (.long (wn - (1 : Int64))), .second, .unset, .unset] [(.long ((wn - (1 : Int64)) - q3)), (.long q3)])) rfl (hb hby d_prog_19_method_7_code_27) _ k) ?_
    refine Go.of (T' := T1) (f' := (mkF m 31 #[.val (.ref a1), .val (.long q1), .second, .val (.long q2), .second, .val (.long q3), .second, .val (.long q3), .second, .val (.long (wn - (1 : Int64))), .second, .unset, .unset] [(.long (((wn - (1 : Int64)) - q3) / (2 : Int64))), (.long q3)])) (fun _ k => XS.ldiv X1.here hx rfl (hb hby d_prog_19_method_7_code_30) rfl (by decide) k) ?_
    refine Go.of (T' := T1) (f' := (mkF m 32 #[.val (.ref a1), .val (.long q1), .second, .val (.long q2), .second, .val (.long q3), .second, .val (.long q3), .second, .val (.long (wn - (1 : Int64))), .second, .unset, .unset] [(.long (q3 + (((wn - (1 : Int64)) - q3) / (2 : Int64))))])) (fun _ k => XS.ladd X1.here hx rfl (hb hby d_prog_19_method_7_code_31) rfl k) ?_
    refine Go.of (T' := T1) (f' := (mkF m 34 #[.val (.ref a1), .val (.long q1), .second, .val (.long q2), .second, .val (.long q3), .second, .val (.long q3), .second, .val (.long (wn - (1 : Int64))), .second, .val (.long (q3 + (((wn - (1 : Int64)) - q3) / (2 : Int64)))), .second] [])) (fun _ k => XS.lstore X1.here hx rfl (hb hby d_prog_19_method_7_code_32) rfl (l' := #[.val (.ref a1), .val (.long q1), .second, .val (.long q2), .second, .val (.long q3), .second, .val (.long q3), .second, .val (.long (wn - (1 : Int64))), .second, .val (.long (q3 + (((wn - (1 : Int64)) - q3) / (2 : Int64)))), .second]) rfl k) ?_
    generalize hmd : (q3 + (((wn - (1 : Int64)) - q3) / (2 : Int64))) = mid
    refine Go.of (T' := T1) (f' := (mkF m 35 #[.val (.ref a1), .val (.long q1), .second, .val (.long q2), .second, .val (.long q3), .second, .val (.long q3), .second, .val (.long (wn - (1 : Int64))), .second, .val (.long mid), .second] [(.ref a1)])) (fun _ k => XS.aloadN X1.here hx rfl (hb hby d_prog_19_method_7_code_34) rfl rfl k) ?_
    refine Go.of (T' := T1) (f' := (mkF m 36 #[.val (.ref a1), .val (.long q1), .second, .val (.long q2), .second, .val (.long q3), .second, .val (.long q3), .second, .val (.long (wn - (1 : Int64))), .second, .val (.long mid), .second] [(.long q1), (.ref a1)])) (fun _ k => XS.lloadN X1.here hx rfl (hb hby d_prog_19_method_7_code_35) rfl k) ?_
    refine Go.of (T' := T1) (f' := (mkF m 37 #[.val (.ref a1), .val (.long q1), .second, .val (.long q2), .second, .val (.long q3), .second, .val (.long q3), .second, .val (.long (wn - (1 : Int64))), .second, .val (.long mid), .second] [(.long q2), (.long q1), (.ref a1)])) (fun _ k => XS.lloadN X1.here hx rfl (hb hby d_prog_19_method_7_code_36) rfl k) ?_
    refine Go.of (T' := T1) (f' := (mkF m 39 #[.val (.ref a1), .val (.long q1), .second, .val (.long q2), .second, .val (.long q3), .second, .val (.long q3), .second, .val (.long (wn - (1 : Int64))), .second, .val (.long mid), .second] [(.long mid), (.long q2), (.long q1), (.ref a1)])) (fun _ k => XS.lload X1.here hx rfl (hb hby d_prog_19_method_7_code_37) rfl k) ?_
    refine goP X1 hx hZ hown (hw _ (List.mem_of_getElem? (i := 29) rfl)) (hw _ (List.mem_of_getElem? (i := 30) rfl)) (hw _ (List.mem_of_getElem? (i := 31) rfl)) (hw _ (List.mem_of_getElem? (i := 32) rfl)) (hw _ (List.mem_of_getElem? (i := 3) rfl)) (by decide) (C := 0) (S := 0) ((rm_weighs l Z a0 hw a1 q1 q2 mid li wn h0 F_limit F_window).bk (W := 0) hZ (hw _ (List.mem_of_getElem? (i := 32) rfl)) (hw _ (List.mem_of_getElem? (i := 4) rfl)) (by decide) (by decide)) e1 E_a1 (argsL := [(.long q1), (.long q2), (.long mid)]) (rest := []) (by rw [hml]; rfl) (lenOf pd__JJJ_Z rfl) rfl rfl (hb hby d_prog_19_method_7_code_39) (Nat.le_of_eq rfl) (by decide) (by decide) ?_
    intro v3 T3 L3 X3 hQ3
    obtain ⟨nq3, e3, rfl⟩ := hQ3
    replace X3 := standNil X3 nq3
    show Go p e below P T3 (mkF m 42 #[.val (.ref a1), .val (.long q1), .second, .val (.long q2), .second, .val (.long q3), .second, .val (.long q3), .second, .val (.long (wn - (1 : Int64))), .second, .val (.long mid), .second] [(.int (bi (wwl li wn q1 q2 mid)))])
    by_cases hc42 : wwl li wn q1 q2 mid
    ·
      refine Go.of (T' := T3) (f' := (mkF m 45 #[.val (.ref a1), .val (.long q1), .second, .val (.long q2), .second, .val (.long q3), .second, .val (.long q3), .second, .val (.long (wn - (1 : Int64))), .second, .val (.long mid), .second] [])) (fun _ k => XS.ifNo X3.here hx rfl (hb hby d_prog_19_method_7_code_42) rfl ((if0 _ _).trans (feq (bi_ne hc42)).1) k) ?_
      refine Go.of (T' := T3) (f' := (mkF m 47 #[.val (.ref a1), .val (.long q1), .second, .val (.long q2), .second, .val (.long q3), .second, .val (.long q3), .second, .val (.long (wn - (1 : Int64))), .second, .val (.long mid), .second] [(.long mid)])) (fun _ k => XS.lload X3.here hx rfl (hb hby d_prog_19_method_7_code_45) rfl k) ?_
      refine Go.of (T' := T3) (f' := (mkF m 49 #[.val (.ref a1), .val (.long q1), .second, .val (.long q2), .second, .val (.long q3), .second, .val (.long q3), .second, .val (.long mid), .second, .val (.long mid), .second] [])) (fun _ k => XS.lstore X3.here hx rfl (hb hby d_prog_19_method_7_code_47) rfl (l' := #[.val (.ref a1), .val (.long q1), .second, .val (.long q2), .second, .val (.long q3), .second, .val (.long q3), .second, .val (.long mid), .second, .val (.long mid), .second]) rfl k) ?_
      refine Go.of (T' := T3) (f' := (mkF m 58 #[.val (.ref a1), .val (.long q1), .second, .val (.long q2), .second, .val (.long q3), .second, .val (.long q3), .second, .val (.long mid), .second, .val (.long mid), .second] [])) (fun _ k => XS.goto X3.here hx rfl (pc0 := 49) (pc' := 58) rfl (hb hby d_prog_19_method_7_code_49) (by decide) (by decide) k) ?_
      refine Go.of (T' := T3) (f' := (mkF m 12 #[.val (.ref a1), .val (.long q1), .second, .val (.long q2), .second, .val (.long q3), .second, .val (.long q3), .second, .val (.long mid), .second, .val (.long mid), .second] [])) (fun _ k => XS.goto X3.here hx rfl (pc0 := 58) (pc' := 12) rfl (hb hby d_prog_19_method_7_code_58) (by decide) (by decide) k) ?_
      have hs := FInv.dn hG hI0 hc17 hmd hc42
      exact loop _ _ _ _ _ X3 e3 hs.1 rfl
    ·
      refine Go.of (T' := T3) (f' := (mkF m 52 #[.val (.ref a1), .val (.long q1), .second, .val (.long q2), .second, .val (.long q3), .second, .val (.long q3), .second, .val (.long (wn - (1 : Int64))), .second, .val (.long mid), .second] [])) (fun _ k => XS.ifYes X3.here hx rfl (pc0 := 42) (pc' := 52) rfl (hb hby d_prog_19_method_7_code_42) rfl ((if0 _ _).trans (teq (bi_f hc42)).1) (by decide) (by decide) k) ?_
      refine Go.of (T' := T3) (f' := (mkF m 54 #[.val (.ref a1), .val (.long q1), .second, .val (.long q2), .second, .val (.long q3), .second, .val (.long q3), .second, .val (.long (wn - (1 : Int64))), .second, .val (.long mid), .second] [(.long mid)])) (fun _ k => XS.lload X3.here hx rfl (hb hby d_prog_19_method_7_code_52) rfl k) ?_
      refine Go.of (T' := T3) (f' := (mkF m 55 #[.val (.ref a1), .val (.long q1), .second, .val (.long q2), .second, .val (.long q3), .second, .val (.long q3), .second, .val (.long (wn - (1 : Int64))), .second, .val (.long mid), .second] [(.long (1 : Int64)), (.long mid)])) (fun _ k => XS.lconst X3.here hx rfl (hb hby d_prog_19_method_7_code_54) k) ?_
      refine Go.of (T' := T3) (f' := (mkF m 56 #[.val (.ref a1), .val (.long q1), .second, .val (.long q2), .second, .val (.long q3), .second, .val (.long q3), .second, .val (.long (wn - (1 : Int64))), .second, .val (.long mid), .second] [(.long (mid + (1 : Int64)))])) (fun _ k => XS.ladd X3.here hx rfl (hb hby d_prog_19_method_7_code_55) rfl k) ?_
      refine Go.of (T' := T3) (f' := (mkF m 58 #[.val (.ref a1), .val (.long q1), .second, .val (.long q2), .second, .val (.long q3), .second, .val (.long (mid + (1 : Int64))), .second, .val (.long (wn - (1 : Int64))), .second, .val (.long mid), .second] [])) (fun _ k => XS.lstore X3.here hx rfl (hb hby d_prog_19_method_7_code_56) rfl (l' := #[.val (.ref a1), .val (.long q1), .second, .val (.long q2), .second, .val (.long q3), .second, .val (.long (mid + (1 : Int64))), .second, .val (.long (wn - (1 : Int64))), .second, .val (.long mid), .second]) rfl k) ?_
      refine Go.of (T' := T3) (f' := (mkF m 12 #[.val (.ref a1), .val (.long q1), .second, .val (.long q2), .second, .val (.long q3), .second, .val (.long (mid + (1 : Int64))), .second, .val (.long (wn - (1 : Int64))), .second, .val (.long mid), .second] [])) (fun _ k => XS.goto X3.here hx rfl (pc0 := 58) (pc' := 12) rfl (hb hby d_prog_19_method_7_code_58) (by decide) (by decide) k) ?_
      have hs := FInv.up hG hI0 hc17 hmd hc42
      exact loop _ _ _ _ _ X3 e3 hs.1 rfl
  ·
    refine Go.of (T' := T1) (f' := (mkF m 61 #[.val (.ref a1), .val (.long q1), .second, .val (.long q2), .second, .val (.long q3), .second, .val (.long q3), .second, .val (.long (wn - (1 : Int64))), .second, .unset, .unset] [])) (fun _ k => XS.ifYes X1.here hx rfl (pc0 := 17) (pc' := 61) rfl (hb hby d_prog_19_method_7_code_17) rfl ((if0 _ _).trans (flt (mt (lw_lt _ _).mp hc17)).2.1) (by decide) (by decide) k) ?_
    refine Go.of (T' := T1) (f' := (mkF m 63 #[.val (.ref a1), .val (.long q1), .second, .val (.long q2), .second, .val (.long q3), .second, .val (.long q3), .second, .val (.long (wn - (1 : Int64))), .second, .unset, .unset] [(.long q3)])) (fun _ k => XS.lload X1.here hx rfl (hb hby d_prog_19_method_7_code_61) rfl k) ?_
    exact goRetJ (Q := Pu h0 (fun v => ∃ r : Int64, v = some (.long r) ∧ FQ li wn q1 q2 q3 r.toInt)) X1 hx hret hlk (hb hby d_prog_19_method_7_code_63) K (by decide) (by decide) e1 (⟨rfl, rfl, _, rfl, FInv.out hI0 hc17⟩)
theorem ef_rm_addExact (m : MethodId) (x0 : Int64) (x1 : Int64)  : entryFrame m #[(.long x0), (.long x1)] 6 = mkF m 0 #[.val (.long x0), .second, .val (.long x1), .second, .unset, .unset] [] := by first | (simp [entryFrame, mkF, argsToLocals, Value.category]; done) | rfl
theorem d_jdk_29_method_25_code_0 : decode jdk_29_method_25_code 0 = .ok (.lload_n 0, 1) := by decide +kernel
theorem d_jdk_29_method_25_code_1 : decode jdk_29_method_25_code 1 = .ok (.lload_n 2, 1) := by decide +kernel
theorem d_jdk_29_method_25_code_2 : decode jdk_29_method_25_code 2 = .ok (.ladd, 1) := by decide +kernel
theorem d_jdk_29_method_25_code_3 : decode jdk_29_method_25_code 3 = .ok (.lstore 4, 2) := by decide +kernel
theorem d_jdk_29_method_25_code_5 : decode jdk_29_method_25_code 5 = .ok (.lload_n 0, 1) := by decide +kernel
theorem d_jdk_29_method_25_code_6 : decode jdk_29_method_25_code 6 = .ok (.lload 4, 2) := by decide +kernel
theorem d_jdk_29_method_25_code_8 : decode jdk_29_method_25_code 8 = .ok (.lxor, 1) := by decide +kernel
theorem d_jdk_29_method_25_code_9 : decode jdk_29_method_25_code 9 = .ok (.lload_n 2, 1) := by decide +kernel
theorem d_jdk_29_method_25_code_10 : decode jdk_29_method_25_code 10 = .ok (.lload 4, 2) := by decide +kernel
theorem d_jdk_29_method_25_code_12 : decode jdk_29_method_25_code 12 = .ok (.lxor, 1) := by decide +kernel
theorem d_jdk_29_method_25_code_13 : decode jdk_29_method_25_code 13 = .ok (.land, 1) := by decide +kernel
theorem d_jdk_29_method_25_code_14 : decode jdk_29_method_25_code 14 = .ok (.lconst 0, 1) := by decide +kernel
theorem d_jdk_29_method_25_code_15 : decode jdk_29_method_25_code 15 = .ok (.lcmp, 1) := by decide +kernel
theorem d_jdk_29_method_25_code_16 : decode jdk_29_method_25_code 16 = .ok (.ifCond .ge 13, 3) := by decide +kernel
theorem d_jdk_29_method_25_code_29 : decode jdk_29_method_25_code 29 = .ok (.lload 4, 2) := by decide +kernel
theorem d_jdk_29_method_25_code_31 : decode jdk_29_method_25_code 31 = .ok (.lreturn, 1) := by decide +kernel
set_option maxRecDepth 65536 in
set_option maxHeartbeats 40000000 in
theorem rm_addExact (l : Launch) (Z : State) (a0 : Array Value) (hw : ∀ d ∈ tables_1, d.before a0 Z = true) (q1 q2 : Int64) (h0 : Heap) (ho : -9223372036854775808 ≤ q1.toInt + q2.toInt ∧ q1.toInt + q2.toInt < 9223372036854775808) :
    MeetsW l Z (⟨"java/lang/Math", "addExact", "(JJ)J"⟩ : MethodName) jdk_29_method_25_code 6 (some .long) ({ frames := 0, cells := 0, slots := 0, locals := 0 } : Room) #[(.long q1), (.long q2)] h0 (Pu h0 (fun v => v = some (.long (q1 + q2)))) := by
  refine MeetsW.of (Jvm.Free.JP.mathPlain rfl (by decide +kernel)) ?_
  intro p e s m below meth c s₁ P hx hby hml hZ hown hnm hret hlk X0 e0 K
  have M0 : Mv h0 h0 [] [] := Mv.refl _ _
  refine Go.cast (ef_rm_addExact m q1 q2 ) ?_
  refine Go.of (T' := s₁) (f' := (mkF m 1 #[.val (.long q1), .second, .val (.long q2), .second, .unset, .unset] [(.long q1)])) (fun _ k => XS.lloadN X0.here hx rfl (hb hby d_jdk_29_method_25_code_0) rfl k) ?_
  refine Go.of (T' := s₁) (f' := (mkF m 2 #[.val (.long q1), .second, .val (.long q2), .second, .unset, .unset] [(.long q2), (.long q1)])) (fun _ k => XS.lloadN X0.here hx rfl (hb hby d_jdk_29_method_25_code_1) rfl k) ?_
  refine Go.of (T' := s₁) (f' := (mkF m 3 #[.val (.long q1), .second, .val (.long q2), .second, .unset, .unset] [(.long (q1 + q2))])) (fun _ k => XS.ladd X0.here hx rfl (hb hby d_jdk_29_method_25_code_2) rfl k) ?_
  refine Go.of (T' := s₁) (f' := (mkF m 5 #[.val (.long q1), .second, .val (.long q2), .second, .val (.long (q1 + q2)), .second] [])) (fun _ k => XS.lstore X0.here hx rfl (hb hby d_jdk_29_method_25_code_3) rfl (l' := #[.val (.long q1), .second, .val (.long q2), .second, .val (.long (q1 + q2)), .second]) rfl k) ?_
  refine Go.of (T' := s₁) (f' := (mkF m 6 #[.val (.long q1), .second, .val (.long q2), .second, .val (.long (q1 + q2)), .second] [(.long q1)])) (fun _ k => XS.lloadN X0.here hx rfl (hb hby d_jdk_29_method_25_code_5) rfl k) ?_
  refine Go.of (T' := s₁) (f' := (mkF m 8 #[.val (.long q1), .second, .val (.long q2), .second, .val (.long (q1 + q2)), .second] [(.long (q1 + q2)), (.long q1)])) (fun _ k => XS.lload X0.here hx rfl (hb hby d_jdk_29_method_25_code_6) rfl k) ?_
  refine Go.of (T' := s₁) (f' := (mkF m 9 #[.val (.long q1), .second, .val (.long q2), .second, .val (.long (q1 + q2)), .second] [(.long (q1 ^^^ (q1 + q2)))])) (fun _ k => XS.lxor X0.here hx rfl (hb hby d_jdk_29_method_25_code_8) rfl k) ?_
  refine Go.of (T' := s₁) (f' := (mkF m 10 #[.val (.long q1), .second, .val (.long q2), .second, .val (.long (q1 + q2)), .second] [(.long q2), (.long (q1 ^^^ (q1 + q2)))])) (fun _ k => XS.lloadN X0.here hx rfl (hb hby d_jdk_29_method_25_code_9) rfl k) ?_
  refine Go.of (T' := s₁) (f' := (mkF m 12 #[.val (.long q1), .second, .val (.long q2), .second, .val (.long (q1 + q2)), .second] [(.long (q1 + q2)), (.long q2), (.long (q1 ^^^ (q1 + q2)))])) (fun _ k => XS.lload X0.here hx rfl (hb hby d_jdk_29_method_25_code_10) rfl k) ?_
  refine Go.of (T' := s₁) (f' := (mkF m 13 #[.val (.long q1), .second, .val (.long q2), .second, .val (.long (q1 + q2)), .second] [(.long (q2 ^^^ (q1 + q2))), (.long (q1 ^^^ (q1 + q2)))])) (fun _ k => XS.lxor X0.here hx rfl (hb hby d_jdk_29_method_25_code_12) rfl k) ?_
  refine Go.of (T' := s₁) (f' := (mkF m 14 #[.val (.long q1), .second, .val (.long q2), .second, .val (.long (q1 + q2)), .second] [(.long ((q1 ^^^ (q1 + q2)) &&& (q2 ^^^ (q1 + q2))))])) (fun _ k => XS.land X0.here hx rfl (hb hby d_jdk_29_method_25_code_13) rfl k) ?_
  refine Go.of (T' := s₁) (f' := (mkF m 15 #[.val (.long q1), .second, .val (.long q2), .second, .val (.long (q1 + q2)), .second] [(.long (0 : Int64)), (.long ((q1 ^^^ (q1 + q2)) &&& (q2 ^^^ (q1 + q2))))])) (fun _ k => XS.lconst X0.here hx rfl (hb hby d_jdk_29_method_25_code_14) k) ?_
  refine Go.of (T' := s₁) (f' := (mkF m 16 #[.val (.long q1), .second, .val (.long q2), .second, .val (.long (q1 + q2)), .second] [(.int (lcmpW ((q1 ^^^ (q1 + q2)) &&& (q2 ^^^ (q1 + q2))) (0 : Int64)))])) (fun _ k => XS.lcmp X0.here hx rfl (hb hby d_jdk_29_method_25_code_15) rfl k) ?_
  have hc16 : ¬ (((q1 ^^^ (q1 + q2)) &&& (q2 ^^^ (q1 + q2))) < (0 : Int64)) := addEx ho.1 ho.2
  refine Go.of (T' := s₁) (f' := (mkF m 29 #[.val (.long q1), .second, .val (.long q2), .second, .val (.long (q1 + q2)), .second] [])) (fun _ k => XS.ifYes X0.here hx rfl (pc0 := 16) (pc' := 29) rfl (hb hby d_jdk_29_method_25_code_16) rfl ((if0 _ _).trans (flt (mt (lw_lt _ _).mp hc16)).2.1) (by decide) (by decide) k) ?_
  refine Go.of (T' := s₁) (f' := (mkF m 31 #[.val (.long q1), .second, .val (.long q2), .second, .val (.long (q1 + q2)), .second] [(.long (q1 + q2))])) (fun _ k => XS.lload X0.here hx rfl (hb hby d_jdk_29_method_25_code_29) rfl k) ?_
  exact goRetJ (Q := Pu h0 (fun v => v = some (.long (q1 + q2)))) X0 hx hret hlk (hb hby d_jdk_29_method_25_code_31) K (by decide) (by decide) e0 (⟨rfl, rfl, rfl⟩)
theorem ef_rm_time (m : MethodId) (x0 : Addr) (x1 : Int64) (x2 : Int64) (x3 : Int64)  : entryFrame m #[(.ref x0), (.long x1), (.long x2), (.long x3)] 11 = mkF m 0 #[.val (.ref x0), .val (.long x1), .second, .val (.long x2), .second, .val (.long x3), .second, .unset, .unset, .unset, .unset] [] := by first | (simp [entryFrame, mkF, argsToLocals, Value.category]; done) | rfl
theorem d_prog_19_method_3_code_0 : decode prog_19_method_3_code 0 = .ok (.aload_n 0, 1) := by decide +kernel
theorem d_prog_19_method_3_code_1 : decode prog_19_method_3_code 1 = .ok (.lload_n 1, 1) := by decide +kernel
theorem d_prog_19_method_3_code_2 : decode prog_19_method_3_code 2 = .ok (.lload_n 3, 1) := by decide +kernel
theorem d_prog_19_method_3_code_3 : decode prog_19_method_3_code 3 = .ok (.lload 5, 2) := by decide +kernel
theorem d_prog_19_method_3_code_5 : decode prog_19_method_3_code 5 = .ok (.invokevirtual 26, 3) := by decide +kernel
theorem pd__JJJ_V : parseMethodDescriptor "(JJJ)V" = some ⟨[.long, .long, .long], none⟩ := by decide +kernel
theorem d_prog_19_method_3_code_8 : decode prog_19_method_3_code 8 = .ok (.aload_n 0, 1) := by decide +kernel
theorem d_prog_19_method_3_code_9 : decode prog_19_method_3_code 9 = .ok (.getfield 23, 3) := by decide +kernel
theorem d_prog_19_method_3_code_12 : decode prog_19_method_3_code 12 = .ok (.lconst 1, 1) := by decide +kernel
theorem d_prog_19_method_3_code_13 : decode prog_19_method_3_code 13 = .ok (.lsub, 1) := by decide +kernel
theorem d_prog_19_method_3_code_14 : decode prog_19_method_3_code 14 = .ok (.lstore 7, 2) := by decide +kernel
theorem d_prog_19_method_3_code_16 : decode prog_19_method_3_code 16 = .ok (.aload_n 0, 1) := by decide +kernel
theorem d_prog_19_method_3_code_17 : decode prog_19_method_3_code 17 = .ok (.lload_n 1, 1) := by decide +kernel
theorem d_prog_19_method_3_code_18 : decode prog_19_method_3_code 18 = .ok (.lload_n 3, 1) := by decide +kernel
theorem d_prog_19_method_3_code_19 : decode prog_19_method_3_code 19 = .ok (.lload 7, 2) := by decide +kernel
theorem d_prog_19_method_3_code_21 : decode prog_19_method_3_code 21 = .ok (.invokevirtual 30, 3) := by decide +kernel
theorem d_prog_19_method_3_code_24 : decode prog_19_method_3_code 24 = .ok (.ifCond .eq 15, 3) := by decide +kernel
theorem d_prog_19_method_3_code_27 : decode prog_19_method_3_code 27 = .ok (.aload_n 0, 1) := by decide +kernel
theorem d_prog_19_method_3_code_28 : decode prog_19_method_3_code 28 = .ok (.lload_n 1, 1) := by decide +kernel
theorem d_prog_19_method_3_code_29 : decode prog_19_method_3_code 29 = .ok (.lload_n 3, 1) := by decide +kernel
theorem d_prog_19_method_3_code_30 : decode prog_19_method_3_code 30 = .ok (.lload 5, 2) := by decide +kernel
theorem d_prog_19_method_3_code_32 : decode prog_19_method_3_code 32 = .ok (.invokevirtual 34, 3) := by decide +kernel
theorem pd__JJJ_J : parseMethodDescriptor "(JJJ)J" = some ⟨[.long, .long, .long], some .long⟩ := by decide +kernel
theorem d_prog_19_method_3_code_35 : decode prog_19_method_3_code 35 = .ok (.lload 5, 2) := by decide +kernel
theorem d_prog_19_method_3_code_37 : decode prog_19_method_3_code 37 = .ok (.lsub, 1) := by decide +kernel
theorem d_prog_19_method_3_code_38 : decode prog_19_method_3_code 38 = .ok (.lreturn, 1) := by decide +kernel
theorem d_prog_19_method_3_code_39 : decode prog_19_method_3_code 39 = .ok (.aload_n 0, 1) := by decide +kernel
theorem d_prog_19_method_3_code_40 : decode prog_19_method_3_code 40 = .ok (.getfield 23, 3) := by decide +kernel
theorem d_prog_19_method_3_code_43 : decode prog_19_method_3_code 43 = .ok (.lload 5, 2) := by decide +kernel
theorem d_prog_19_method_3_code_45 : decode prog_19_method_3_code 45 = .ok (.lsub, 1) := by decide +kernel
theorem d_prog_19_method_3_code_46 : decode prog_19_method_3_code 46 = .ok (.lstore 9, 2) := by decide +kernel
theorem d_prog_19_method_3_code_48 : decode prog_19_method_3_code 48 = .ok (.aload_n 0, 1) := by decide +kernel
theorem d_prog_19_method_3_code_49 : decode prog_19_method_3_code 49 = .ok (.lload_n 3, 1) := by decide +kernel
theorem d_prog_19_method_3_code_50 : decode prog_19_method_3_code 50 = .ok (.lconst 0, 1) := by decide +kernel
theorem d_prog_19_method_3_code_51 : decode prog_19_method_3_code 51 = .ok (.lload 7, 2) := by decide +kernel
theorem d_prog_19_method_3_code_53 : decode prog_19_method_3_code 53 = .ok (.invokevirtual 30, 3) := by decide +kernel
theorem d_prog_19_method_3_code_56 : decode prog_19_method_3_code 56 = .ok (.ifCond .eq 16, 3) := by decide +kernel
theorem d_prog_19_method_3_code_59 : decode prog_19_method_3_code 59 = .ok (.lload 9, 2) := by decide +kernel
theorem d_prog_19_method_3_code_61 : decode prog_19_method_3_code 61 = .ok (.aload_n 0, 1) := by decide +kernel
theorem d_prog_19_method_3_code_62 : decode prog_19_method_3_code 62 = .ok (.lload_n 3, 1) := by decide +kernel
theorem d_prog_19_method_3_code_63 : decode prog_19_method_3_code 63 = .ok (.lconst 0, 1) := by decide +kernel
theorem d_prog_19_method_3_code_64 : decode prog_19_method_3_code 64 = .ok (.lconst 0, 1) := by decide +kernel
theorem d_prog_19_method_3_code_65 : decode prog_19_method_3_code 65 = .ok (.invokevirtual 34, 3) := by decide +kernel
theorem d_prog_19_method_3_code_68 : decode prog_19_method_3_code 68 = .ok (.invokestatic 38, 3) := by decide +kernel
theorem d_prog_19_method_3_code_71 : decode prog_19_method_3_code 71 = .ok (.lreturn, 1) := by decide +kernel
theorem d_prog_19_method_3_code_72 : decode prog_19_method_3_code 72 = .ok (.lload 9, 2) := by decide +kernel
theorem d_prog_19_method_3_code_74 : decode prog_19_method_3_code 74 = .ok (.aload_n 0, 1) := by decide +kernel
theorem d_prog_19_method_3_code_75 : decode prog_19_method_3_code 75 = .ok (.getfield 23, 3) := by decide +kernel
theorem d_prog_19_method_3_code_78 : decode prog_19_method_3_code 78 = .ok (.invokestatic 38, 3) := by decide +kernel
theorem d_prog_19_method_3_code_81 : decode prog_19_method_3_code 81 = .ok (.lreturn, 1) := by decide +kernel
set_option maxRecDepth 65536 in
set_option maxHeartbeats 40000000 in
theorem rm_time (l : Launch) (Z : State) (a0 : Array Value) (hw : ∀ d ∈ tables_1, d.before a0 Z = true) (a1 : Addr) (q1 q2 q3 li wn : Int64) (h0 : Heap) (F_limit : Fld Z h0 a1 "com/example/sluiced/sluiced/limiter/SlidingWindowCounter" "limit" "J" (.long li)) (F_window : Fld Z h0 a1 "com/example/sluiced/sluiced/limiter/SlidingWindowCounter" "window" "J" (.long wn)) (E_a1 : Exa Z h0 a1 "com/example/sluiced/sluiced/limiter/SlidingWindowCounter") (hG : Good li wn q1 q2 q3) (hbw : wn.toInt ≤ 1073741824) :
    MeetsW l Z (⟨"com/example/sluiced/sluiced/limiter/SlidingWindowCounter", "timeUntilAdmitted", "(JJJ)J"⟩ : MethodName) prog_19_method_3_code 11 (some .long) ({ frames := 5, cells := 0, slots := 0, locals := 100 } : Room) #[(.ref a1), (.long q1), (.long q2), (.long q3)] h0 (Pu h0 (fun v => ∃ r : Int64, v = some (.long r) ∧ TQ li wn q1 q2 q3 r.toInt)) := by
  refine MeetsW.of (plainFor_of_name pn_com_example_sluiced_sluiced_limiter_SlidingWindowCounter) ?_
  intro p e s m below meth c s₁ P hx hby hml hZ hown hnm hret hlk X0 e0 K
  have M0 : Mv h0 h0 [] [] := Mv.refl _ _
  refine Go.cast (ef_rm_time m a1 q1 q2 q3 ) ?_
  refine Go.of (T' := s₁) (f' := (mkF m 1 #[.val (.ref a1), .val (.long q1), .second, .val (.long q2), .second, .val (.long q3), .second, .unset, .unset, .unset, .unset] [(.ref a1)])) (fun _ k => XS.aloadN X0.here hx rfl (hb hby d_prog_19_method_3_code_0) rfl rfl k) ?_
  refine Go.of (T' := s₁) (f' := (mkF m 2 #[.val (.ref a1), .val (.long q1), .second, .val (.long q2), .second, .val (.long q3), .second, .unset, .unset, .unset, .unset] [(.long q1), (.ref a1)])) (fun _ k => XS.lloadN X0.here hx rfl (hb hby d_prog_19_method_3_code_1) rfl k) ?_
  refine Go.of (T' := s₁) (f' := (mkF m 3 #[.val (.ref a1), .val (.long q1), .second, .val (.long q2), .second, .val (.long q3), .second, .unset, .unset, .unset, .unset] [(.long q2), (.long q1), (.ref a1)])) (fun _ k => XS.lloadN X0.here hx rfl (hb hby d_prog_19_method_3_code_2) rfl k) ?_
  refine Go.of (T' := s₁) (f' := (mkF m 5 #[.val (.ref a1), .val (.long q1), .second, .val (.long q2), .second, .val (.long q3), .second, .unset, .unset, .unset, .unset] [(.long q3), (.long q2), (.long q1), (.ref a1)])) (fun _ k => XS.lload X0.here hx rfl (hb hby d_prog_19_method_3_code_3) rfl k) ?_
  refine goP X0 hx hZ hown (hw _ (List.mem_of_getElem? (i := 25) rfl)) (hw _ (List.mem_of_getElem? (i := 26) rfl)) (hw _ (List.mem_of_getElem? (i := 27) rfl)) (hw _ (List.mem_of_getElem? (i := 28) rfl)) (hw _ (List.mem_of_getElem? (i := 3) rfl)) (by decide) (C := 0) (S := 0) ((rm_check l Z a0 hw a1 q1 q2 q3 wn h0 F_window hG.2.2.1 hG.2.2.2.1 hG.2.2.2.2.1 hG.2.2.2.2.2).bk (W := 0) hZ (hw _ (List.mem_of_getElem? (i := 28) rfl)) (hw _ (List.mem_of_getElem? (i := 4) rfl)) (by decide) (by decide)) e0 E_a1 (argsL := [(.long q1), (.long q2), (.long q3)]) (rest := []) (by rw [hml]; rfl) (lenOf pd__JJJ_V rfl) rfl rfl (hb hby d_prog_19_method_3_code_5) (Nat.le_of_eq rfl) (by decide) (by decide) ?_
  intro v1 T1 L1 X1 hQ1
  obtain ⟨nq1, e1, rfl⟩ := hQ1
  replace X1 := standNil X1 nq1
  show Go p e below P T1 (mkF m 8 #[.val (.ref a1), .val (.long q1), .second, .val (.long q2), .second, .val (.long q3), .second, .unset, .unset, .unset, .unset] [])
  refine Go.of (T' := T1) (f' := (mkF m 9 #[.val (.ref a1), .val (.long q1), .second, .val (.long q2), .second, .val (.long q3), .second, .unset, .unset, .unset, .unset] [(.ref a1)])) (fun _ k => XS.aloadN X1.here hx rfl (hb hby d_prog_19_method_3_code_8) rfl rfl k) ?_
  obtain ⟨T2, X2, e2, st2⟩ := getF X1 hx hZ hown (host := "") (Or.inl (hw _ (List.mem_of_getElem? (i := 18) rfl))) Via.refl e1 F_window (g := (mkF m 9 #[.val (.ref a1), .val (.long q1), .second, .val (.long q2), .second, .val (.long q3), .second, .unset, .unset, .unset, .unset] [(.ref a1)])) rfl rfl (hb hby d_prog_19_method_3_code_9)
  refine Go.of (T' := T2) (f' := (mkF m 12 #[.val (.ref a1), .val (.long q1), .second, .val (.long q2), .second, .val (.long q3), .second, .unset, .unset, .unset, .unset] [(.long wn)])) st2 ?_
  refine Go.of (T' := T2) (f' := (mkF m 13 #[.val (.ref a1), .val (.long q1), .second, .val (.long q2), .second, .val (.long q3), .second, .unset, .unset, .unset, .unset] [(.long (1 : Int64)), (.long wn)])) (fun _ k => XS.lconst X2.here hx rfl (hb hby d_prog_19_method_3_code_12) k) ?_
  refine Go.of (T' := T2) (f' := (mkF m 14 #[.val (.ref a1), .val (.long q1), .second, .val (.long q2), .second, .val (.long q3), .second, .unset, .unset, .unset, .unset] [(.long (wn - (1 : Int64)))])) (fun _ k => XS.lsub X2.here hx rfl (hb hby d_prog_19_method_3_code_13) rfl k) ?_
  refine Go.of (T' := T2) (f' := (mkF m 16 #[.val (.ref a1), .val (.long q1), .second, .val (.long q2), .second, .val (.long q3), .second, .val (.long (wn - (1 : Int64))), .second, .unset, .unset] [])) (fun _ k => XS.lstore X2.here hx rfl (hb hby d_prog_19_method_3_code_14) rfl (l' := #[.val (.ref a1), .val (.long q1), .second, .val (.long q2), .second, .val (.long q3), .second, .val (.long (wn - (1 : Int64))), .second, .unset, .unset]) rfl k) ?_
  refine Go.of (T' := T2) (f' := (mkF m 17 #[.val (.ref a1), .val (.long q1), .second, .val (.long q2), .second, .val (.long q3), .second, .val (.long (wn - (1 : Int64))), .second, .unset, .unset] [(.ref a1)])) (fun _ k => XS.aloadN X2.here hx rfl (hb hby d_prog_19_method_3_code_16) rfl rfl k) ?_
  refine Go.of (T' := T2) (f' := (mkF m 18 #[.val (.ref a1), .val (.long q1), .second, .val (.long q2), .second, .val (.long q3), .second, .val (.long (wn - (1 : Int64))), .second, .unset, .unset] [(.long q1), (.ref a1)])) (fun _ k => XS.lloadN X2.here hx rfl (hb hby d_prog_19_method_3_code_17) rfl k) ?_
  refine Go.of (T' := T2) (f' := (mkF m 19 #[.val (.ref a1), .val (.long q1), .second, .val (.long q2), .second, .val (.long q3), .second, .val (.long (wn - (1 : Int64))), .second, .unset, .unset] [(.long q2), (.long q1), (.ref a1)])) (fun _ k => XS.lloadN X2.here hx rfl (hb hby d_prog_19_method_3_code_18) rfl k) ?_
  refine Go.of (T' := T2) (f' := (mkF m 21 #[.val (.ref a1), .val (.long q1), .second, .val (.long q2), .second, .val (.long q3), .second, .val (.long (wn - (1 : Int64))), .second, .unset, .unset] [(.long (wn - (1 : Int64))), (.long q2), (.long q1), (.ref a1)])) (fun _ k => XS.lload X2.here hx rfl (hb hby d_prog_19_method_3_code_19) rfl k) ?_
  refine goP X2 hx hZ hown (hw _ (List.mem_of_getElem? (i := 29) rfl)) (hw _ (List.mem_of_getElem? (i := 30) rfl)) (hw _ (List.mem_of_getElem? (i := 31) rfl)) (hw _ (List.mem_of_getElem? (i := 32) rfl)) (hw _ (List.mem_of_getElem? (i := 3) rfl)) (by decide) (C := 0) (S := 0) ((rm_weighs l Z a0 hw a1 q1 q2 (wn - (1 : Int64)) li wn h0 F_limit F_window).bk (W := 0) hZ (hw _ (List.mem_of_getElem? (i := 32) rfl)) (hw _ (List.mem_of_getElem? (i := 4) rfl)) (by decide) (by decide)) e2 E_a1 (argsL := [(.long q1), (.long q2), (.long (wn - (1 : Int64)))]) (rest := []) (by rw [hml]; rfl) (lenOf pd__JJJ_Z rfl) rfl rfl (hb hby d_prog_19_method_3_code_21) (Nat.le_of_eq rfl) (by decide) (by decide) ?_
  intro v3 T3 L3 X3 hQ3
  obtain ⟨nq3, e3, rfl⟩ := hQ3
  replace X3 := standNil X3 nq3
  show Go p e below P T3 (mkF m 24 #[.val (.ref a1), .val (.long q1), .second, .val (.long q2), .second, .val (.long q3), .second, .val (.long (wn - (1 : Int64))), .second, .unset, .unset] [(.int (bi (wwl li wn q1 q2 (wn - (1 : Int64)))))])
  by_cases hc24 : wwl li wn q1 q2 (wn - (1 : Int64))
  ·
    refine Go.of (T' := T3) (f' := (mkF m 27 #[.val (.ref a1), .val (.long q1), .second, .val (.long q2), .second, .val (.long q3), .second, .val (.long (wn - (1 : Int64))), .second, .unset, .unset] [])) (fun _ k => XS.ifNo X3.here hx rfl (hb hby d_prog_19_method_3_code_24) rfl ((if0 _ _).trans (feq (bi_ne hc24)).1) k) ?_
    refine Go.of (T' := T3) (f' := (mkF m 28 #[.val (.ref a1), .val (.long q1), .second, .val (.long q2), .second, .val (.long q3), .second, .val (.long (wn - (1 : Int64))), .second, .unset, .unset] [(.ref a1)])) (fun _ k => XS.aloadN X3.here hx rfl (hb hby d_prog_19_method_3_code_27) rfl rfl k) ?_
    refine Go.of (T' := T3) (f' := (mkF m 29 #[.val (.ref a1), .val (.long q1), .second, .val (.long q2), .second, .val (.long q3), .second, .val (.long (wn - (1 : Int64))), .second, .unset, .unset] [(.long q1), (.ref a1)])) (fun _ k => XS.lloadN X3.here hx rfl (hb hby d_prog_19_method_3_code_28) rfl k) ?_
    refine Go.of (T' := T3) (f' := (mkF m 30 #[.val (.ref a1), .val (.long q1), .second, .val (.long q2), .second, .val (.long q3), .second, .val (.long (wn - (1 : Int64))), .second, .unset, .unset] [(.long q2), (.long q1), (.ref a1)])) (fun _ k => XS.lloadN X3.here hx rfl (hb hby d_prog_19_method_3_code_29) rfl k) ?_
    refine Go.of (T' := T3) (f' := (mkF m 32 #[.val (.ref a1), .val (.long q1), .second, .val (.long q2), .second, .val (.long q3), .second, .val (.long (wn - (1 : Int64))), .second, .unset, .unset] [(.long q3), (.long q2), (.long q1), (.ref a1)])) (fun _ k => XS.lload X3.here hx rfl (hb hby d_prog_19_method_3_code_30) rfl k) ?_
    refine goP X3 hx hZ hown (hw _ (List.mem_of_getElem? (i := 49) rfl)) (hw _ (List.mem_of_getElem? (i := 50) rfl)) (hw _ (List.mem_of_getElem? (i := 51) rfl)) (hw _ (List.mem_of_getElem? (i := 52) rfl)) (hw _ (List.mem_of_getElem? (i := 3) rfl)) (by decide) (C := 0) (S := 0) ((rm_first l Z a0 hw a1 q1 q2 q3 li wn h0 F_limit F_window E_a1 hG ((okLast hG).mp hc24)).bk (W := 0) hZ (hw _ (List.mem_of_getElem? (i := 52) rfl)) (hw _ (List.mem_of_getElem? (i := 4) rfl)) (by decide) (by decide)) e3 E_a1 (argsL := [(.long q1), (.long q2), (.long q3)]) (rest := []) (by rw [hml]; rfl) (lenOf pd__JJJ_J rfl) rfl rfl (hb hby d_prog_19_method_3_code_32) (Nat.le_of_eq rfl) (by decide) (by decide) ?_
    intro v4 T4 L4 X4 hQ4
    obtain ⟨nq4, e4, rr4, rfl, hr4⟩ := hQ4
    replace X4 := standNil X4 nq4
    show Go p e below P T4 (mkF m 35 #[.val (.ref a1), .val (.long q1), .second, .val (.long q2), .second, .val (.long q3), .second, .val (.long (wn - (1 : Int64))), .second, .unset, .unset] [(.long rr4)])
    refine Go.of (T' := T4) (f' := (mkF m 37 #[.val (.ref a1), .val (.long q1), .second, .val (.long q2), .second, .val (.long q3), .second, .val (.long (wn - (1 : Int64))), .second, .unset, .unset] [(.long q3), (.long rr4)])) (fun _ k => XS.lload X4.here hx rfl (hb hby d_prog_19_method_3_code_35) rfl k) ?_
    refine Go.of (T' := T4) (f' := (mkF m 38 #[.val (.ref a1), .val (.long q1), .second, .val (.long q2), .second, .val (.long q3), .second, .val (.long (wn - (1 : Int64))), .second, .unset, .unset] [(.long (rr4 - q3))])) (fun _ k => XS.lsub X4.here hx rfl (hb hby d_prog_19_method_3_code_37) rfl k) ?_
    exact goRetJ (Q := Pu h0 (fun v => ∃ r : Int64, v = some (.long r) ∧ TQ li wn q1 q2 q3 r.toInt)) X4 hx hret hlk (hb hby d_prog_19_method_3_code_38) K (by decide) (by decide) e4 (⟨rfl, rfl, _, rfl, TQ1 hG hr4⟩)
  ·
    refine Go.of (T' := T3) (f' := (mkF m 39 #[.val (.ref a1), .val (.long q1), .second, .val (.long q2), .second, .val (.long q3), .second, .val (.long (wn - (1 : Int64))), .second, .unset, .unset] [])) (fun _ k => XS.ifYes X3.here hx rfl (pc0 := 24) (pc' := 39) rfl (hb hby d_prog_19_method_3_code_24) rfl ((if0 _ _).trans (teq (bi_f hc24)).1) (by decide) (by decide) k) ?_
    refine Go.of (T' := T3) (f' := (mkF m 40 #[.val (.ref a1), .val (.long q1), .second, .val (.long q2), .second, .val (.long q3), .second, .val (.long (wn - (1 : Int64))), .second, .unset, .unset] [(.ref a1)])) (fun _ k => XS.aloadN X3.here hx rfl (hb hby d_prog_19_method_3_code_39) rfl rfl k) ?_
    obtain ⟨T5, X5, e5, st5⟩ := getF X3 hx hZ hown (host := "") (Or.inl (hw _ (List.mem_of_getElem? (i := 18) rfl))) Via.refl e3 F_window (g := (mkF m 40 #[.val (.ref a1), .val (.long q1), .second, .val (.long q2), .second, .val (.long q3), .second, .val (.long (wn - (1 : Int64))), .second, .unset, .unset] [(.ref a1)])) rfl rfl (hb hby d_prog_19_method_3_code_40)
    refine Go.of (T' := T5) (f' := (mkF m 43 #[.val (.ref a1), .val (.long q1), .second, .val (.long q2), .second, .val (.long q3), .second, .val (.long (wn - (1 : Int64))), .second, .unset, .unset] [(.long wn)])) st5 ?_
    refine Go.of (T' := T5) (f' := (mkF m 45 #[.val (.ref a1), .val (.long q1), .second, .val (.long q2), .second, .val (.long q3), .second, .val (.long (wn - (1 : Int64))), .second, .unset, .unset] [(.long q3), (.long wn)])) (fun _ k => XS.lload X5.here hx rfl (hb hby d_prog_19_method_3_code_43) rfl k) ?_
    refine Go.of (T' := T5) (f' := (mkF m 46 #[.val (.ref a1), .val (.long q1), .second, .val (.long q2), .second, .val (.long q3), .second, .val (.long (wn - (1 : Int64))), .second, .unset, .unset] [(.long (wn - q3))])) (fun _ k => XS.lsub X5.here hx rfl (hb hby d_prog_19_method_3_code_45) rfl k) ?_
    refine Go.of (T' := T5) (f' := (mkF m 48 #[.val (.ref a1), .val (.long q1), .second, .val (.long q2), .second, .val (.long q3), .second, .val (.long (wn - (1 : Int64))), .second, .val (.long (wn - q3)), .second] [])) (fun _ k => XS.lstore X5.here hx rfl (hb hby d_prog_19_method_3_code_46) rfl (l' := #[.val (.ref a1), .val (.long q1), .second, .val (.long q2), .second, .val (.long q3), .second, .val (.long (wn - (1 : Int64))), .second, .val (.long (wn - q3)), .second]) rfl k) ?_
    refine Go.of (T' := T5) (f' := (mkF m 49 #[.val (.ref a1), .val (.long q1), .second, .val (.long q2), .second, .val (.long q3), .second, .val (.long (wn - (1 : Int64))), .second, .val (.long (wn - q3)), .second] [(.ref a1)])) (fun _ k => XS.aloadN X5.here hx rfl (hb hby d_prog_19_method_3_code_48) rfl rfl k) ?_
    refine Go.of (T' := T5) (f' := (mkF m 50 #[.val (.ref a1), .val (.long q1), .second, .val (.long q2), .second, .val (.long q3), .second, .val (.long (wn - (1 : Int64))), .second, .val (.long (wn - q3)), .second] [(.long q2), (.ref a1)])) (fun _ k => XS.lloadN X5.here hx rfl (hb hby d_prog_19_method_3_code_49) rfl k) ?_
    refine Go.of (T' := T5) (f' := (mkF m 51 #[.val (.ref a1), .val (.long q1), .second, .val (.long q2), .second, .val (.long q3), .second, .val (.long (wn - (1 : Int64))), .second, .val (.long (wn - q3)), .second] [(.long (0 : Int64)), (.long q2), (.ref a1)])) (fun _ k => XS.lconst X5.here hx rfl (hb hby d_prog_19_method_3_code_50) k) ?_
    refine Go.of (T' := T5) (f' := (mkF m 53 #[.val (.ref a1), .val (.long q1), .second, .val (.long q2), .second, .val (.long q3), .second, .val (.long (wn - (1 : Int64))), .second, .val (.long (wn - q3)), .second] [(.long (wn - (1 : Int64))), (.long (0 : Int64)), (.long q2), (.ref a1)])) (fun _ k => XS.lload X5.here hx rfl (hb hby d_prog_19_method_3_code_51) rfl k) ?_
    refine goP X5 hx hZ hown (hw _ (List.mem_of_getElem? (i := 29) rfl)) (hw _ (List.mem_of_getElem? (i := 30) rfl)) (hw _ (List.mem_of_getElem? (i := 31) rfl)) (hw _ (List.mem_of_getElem? (i := 32) rfl)) (hw _ (List.mem_of_getElem? (i := 3) rfl)) (by decide) (C := 0) (S := 0) ((rm_weighs l Z a0 hw a1 q2 (0 : Int64) (wn - (1 : Int64)) li wn h0 F_limit F_window).bk (W := 0) hZ (hw _ (List.mem_of_getElem? (i := 32) rfl)) (hw _ (List.mem_of_getElem? (i := 4) rfl)) (by decide) (by decide)) e5 E_a1 (argsL := [(.long q2), (.long (0 : Int64)), (.long (wn - (1 : Int64)))]) (rest := []) (by rw [hml]; rfl) (lenOf pd__JJJ_Z rfl) rfl rfl (hb hby d_prog_19_method_3_code_53) (Nat.le_of_eq rfl) (by decide) (by decide) ?_
    intro v6 T6 L6 X6 hQ6
    obtain ⟨nq6, e6, rfl⟩ := hQ6
    replace X6 := standNil X6 nq6
    show Go p e below P T6 (mkF m 56 #[.val (.ref a1), .val (.long q1), .second, .val (.long q2), .second, .val (.long q3), .second, .val (.long (wn - (1 : Int64))), .second, .val (.long (wn - q3)), .second] [(.int (bi (wwl li wn q2 (0 : Int64) (wn - (1 : Int64)))))])
    by_cases hc56 : wwl li wn q2 (0 : Int64) (wn - (1 : Int64))
    ·
      refine Go.of (T' := T6) (f' := (mkF m 59 #[.val (.ref a1), .val (.long q1), .second, .val (.long q2), .second, .val (.long q3), .second, .val (.long (wn - (1 : Int64))), .second, .val (.long (wn - q3)), .second] [])) (fun _ k => XS.ifNo X6.here hx rfl (hb hby d_prog_19_method_3_code_56) rfl ((if0 _ _).trans (feq (bi_ne hc56)).1) k) ?_
      refine Go.of (T' := T6) (f' := (mkF m 61 #[.val (.ref a1), .val (.long q1), .second, .val (.long q2), .second, .val (.long q3), .second, .val (.long (wn - (1 : Int64))), .second, .val (.long (wn - q3)), .second] [(.long (wn - q3))])) (fun _ k => XS.lload X6.here hx rfl (hb hby d_prog_19_method_3_code_59) rfl k) ?_
      refine Go.of (T' := T6) (f' := (mkF m 62 #[.val (.ref a1), .val (.long q1), .second, .val (.long q2), .second, .val (.long q3), .second, .val (.long (wn - (1 : Int64))), .second, .val (.long (wn - q3)), .second] [(.ref a1), (.long (wn - q3))])) (fun _ k => XS.aloadN X6.here hx rfl (hb hby d_prog_19_method_3_code_61) rfl rfl k) ?_
      refine Go.of (T' := T6) (f' := (mkF m 63 #[.val (.ref a1), .val (.long q1), .second, .val (.long q2), .second, .val (.long q3), .second, .val (.long (wn - (1 : Int64))), .second, .val (.long (wn - q3)), .second] [(.long q2), (.ref a1), (.long (wn - q3))])) (fun _ k => XS.lloadN X6.here hx rfl (hb hby d_prog_19_method_3_code_62) rfl k) ?_
      refine Go.of (T' := T6) (f' := (mkF m 64 #[.val (.ref a1), .val (.long q1), .second, .val (.long q2), .second, .val (.long q3), .second, .val (.long (wn - (1 : Int64))), .second, .val (.long (wn - q3)), .second] [(.long (0 : Int64)), (.long q2), (.ref a1), (.long (wn - q3))])) (fun _ k => XS.lconst X6.here hx rfl (hb hby d_prog_19_method_3_code_63) k) ?_
      refine Go.of (T' := T6) (f' := (mkF m 65 #[.val (.ref a1), .val (.long q1), .second, .val (.long q2), .second, .val (.long q3), .second, .val (.long (wn - (1 : Int64))), .second, .val (.long (wn - q3)), .second] [(.long (0 : Int64)), (.long (0 : Int64)), (.long q2), (.ref a1), (.long (wn - q3))])) (fun _ k => XS.lconst X6.here hx rfl (hb hby d_prog_19_method_3_code_64) k) ?_
      refine goP X6 hx hZ hown (hw _ (List.mem_of_getElem? (i := 49) rfl)) (hw _ (List.mem_of_getElem? (i := 50) rfl)) (hw _ (List.mem_of_getElem? (i := 51) rfl)) (hw _ (List.mem_of_getElem? (i := 52) rfl)) (hw _ (List.mem_of_getElem? (i := 3) rfl)) (by decide) (C := 0) (S := 0) ((rm_first l Z a0 hw a1 q2 (0 : Int64) (0 : Int64) li wn h0 F_limit F_window E_a1 hG.zero ((okLast hG.zero).mp hc56)).bk (W := 2) hZ (hw _ (List.mem_of_getElem? (i := 52) rfl)) (hw _ (List.mem_of_getElem? (i := 4) rfl)) (by decide) (by decide)) e6 E_a1 (argsL := [(.long q2), (.long (0 : Int64)), (.long (0 : Int64))]) (rest := [(.long (wn - q3))]) (by rw [hml]; rfl) (lenOf pd__JJJ_J rfl) rfl rfl (hb hby d_prog_19_method_3_code_65) (Nat.le_of_eq rfl) (by decide) (by decide) ?_
      intro v7 T7 L7 X7 hQ7
      obtain ⟨nq7, e7, rr7, rfl, hr7⟩ := hQ7
      replace X7 := standNil X7 nq7
      show Go p e below P T7 (mkF m 68 #[.val (.ref a1), .val (.long q1), .second, .val (.long q2), .second, .val (.long q3), .second, .val (.long (wn - (1 : Int64))), .second, .val (.long (wn - q3)), .second] [(.long rr7), (.long (wn - q3))])
      refine goS X7 hx hZ hown (hw _ (List.mem_of_getElem? (i := 54) rfl)) (hw _ (List.mem_of_getElem? (i := 55) rfl)) (hw _ (List.mem_of_getElem? (i := 38) rfl)) (hw _ (List.mem_of_getElem? (i := 56) rfl)) (by decide) (C := 0) (S := 0) ((rm_addExact l Z a0 hw (wn - q3) rr7 h0 (TQ2 hG hbw hc24 hr7).1).bk (W := 0) hZ (hw _ (List.mem_of_getElem? (i := 56) rfl)) (hw _ (List.mem_of_getElem? (i := 38) rfl)) (by decide) (by decide)) e7 (argsL := [(.long (wn - q3)), (.long rr7)]) (rest := []) (by rw [hml]; rfl) (lenOf pd__JJ_J rfl) rfl rfl (hb hby d_prog_19_method_3_code_68) (Nat.le_of_eq rfl) (by decide) (by decide) ?_
      intro v8 T8 L8 X8 hQ8
      obtain ⟨nq8, e8, rfl⟩ := hQ8
      replace X8 := standNil X8 nq8
      show Go p e below P T8 (mkF m 71 #[.val (.ref a1), .val (.long q1), .second, .val (.long q2), .second, .val (.long q3), .second, .val (.long (wn - (1 : Int64))), .second, .val (.long (wn - q3)), .second] [(.long ((wn - q3) + rr7))])
      exact goRetJ (Q := Pu h0 (fun v => ∃ r : Int64, v = some (.long r) ∧ TQ li wn q1 q2 q3 r.toInt)) X8 hx hret hlk (hb hby d_prog_19_method_3_code_71) K (by decide) (by decide) e8 (⟨rfl, rfl, _, rfl, (TQ2 hG hbw hc24 hr7).2⟩)
    ·
      refine Go.of (T' := T6) (f' := (mkF m 72 #[.val (.ref a1), .val (.long q1), .second, .val (.long q2), .second, .val (.long q3), .second, .val (.long (wn - (1 : Int64))), .second, .val (.long (wn - q3)), .second] [])) (fun _ k => XS.ifYes X6.here hx rfl (pc0 := 56) (pc' := 72) rfl (hb hby d_prog_19_method_3_code_56) rfl ((if0 _ _).trans (teq (bi_f hc56)).1) (by decide) (by decide) k) ?_
      refine Go.of (T' := T6) (f' := (mkF m 74 #[.val (.ref a1), .val (.long q1), .second, .val (.long q2), .second, .val (.long q3), .second, .val (.long (wn - (1 : Int64))), .second, .val (.long (wn - q3)), .second] [(.long (wn - q3))])) (fun _ k => XS.lload X6.here hx rfl (hb hby d_prog_19_method_3_code_72) rfl k) ?_
      refine Go.of (T' := T6) (f' := (mkF m 75 #[.val (.ref a1), .val (.long q1), .second, .val (.long q2), .second, .val (.long q3), .second, .val (.long (wn - (1 : Int64))), .second, .val (.long (wn - q3)), .second] [(.ref a1), (.long (wn - q3))])) (fun _ k => XS.aloadN X6.here hx rfl (hb hby d_prog_19_method_3_code_74) rfl rfl k) ?_
      obtain ⟨T9, X9, e9, st9⟩ := getF X6 hx hZ hown (host := "") (Or.inl (hw _ (List.mem_of_getElem? (i := 18) rfl))) Via.refl e6 F_window (g := (mkF m 75 #[.val (.ref a1), .val (.long q1), .second, .val (.long q2), .second, .val (.long q3), .second, .val (.long (wn - (1 : Int64))), .second, .val (.long (wn - q3)), .second] [(.ref a1), (.long (wn - q3))])) rfl rfl (hb hby d_prog_19_method_3_code_75)
      refine Go.of (T' := T9) (f' := (mkF m 78 #[.val (.ref a1), .val (.long q1), .second, .val (.long q2), .second, .val (.long q3), .second, .val (.long (wn - (1 : Int64))), .second, .val (.long (wn - q3)), .second] [(.long wn), (.long (wn - q3))])) st9 ?_
      refine goS X9 hx hZ hown (hw _ (List.mem_of_getElem? (i := 54) rfl)) (hw _ (List.mem_of_getElem? (i := 55) rfl)) (hw _ (List.mem_of_getElem? (i := 38) rfl)) (hw _ (List.mem_of_getElem? (i := 56) rfl)) (by decide) (C := 0) (S := 0) ((rm_addExact l Z a0 hw (wn - q3) wn h0 (TQ3 hG hbw hc24 hc56).1).bk (W := 0) hZ (hw _ (List.mem_of_getElem? (i := 56) rfl)) (hw _ (List.mem_of_getElem? (i := 38) rfl)) (by decide) (by decide)) e9 (argsL := [(.long (wn - q3)), (.long wn)]) (rest := []) (by rw [hml]; rfl) (lenOf pd__JJ_J rfl) rfl rfl (hb hby d_prog_19_method_3_code_78) (Nat.le_of_eq rfl) (by decide) (by decide) ?_
      intro v10 T10 L10 X10 hQ10
      obtain ⟨nq10, e10, rfl⟩ := hQ10
      replace X10 := standNil X10 nq10
      show Go p e below P T10 (mkF m 81 #[.val (.ref a1), .val (.long q1), .second, .val (.long q2), .second, .val (.long q3), .second, .val (.long (wn - (1 : Int64))), .second, .val (.long (wn - q3)), .second] [(.long ((wn - q3) + wn))])
      exact goRetJ (Q := Pu h0 (fun v => ∃ r : Int64, v = some (.long r) ∧ TQ li wn q1 q2 q3 r.toInt)) X10 hx hret hlk (hb hby d_prog_19_method_3_code_81) K (by decide) (by decide) e10 (⟨rfl, rfl, _, rfl, (TQ3 hG hbw hc24 hc56).2⟩)
theorem pn_com_example_sluiced_sluiced_limiter_SlidingWindowCounterTimeUntilAdmittedPinLaw : plainName "com/example/sluiced/sluiced/limiter/SlidingWindowCounterTimeUntilAdmittedPinLaw" = true := by first | (simp [plainName, overriddenIn]; done) | decide +kernel
theorem ef_rm_ok (m : MethodId) (x0 : Int64) (x1 : Int64) (x2 : Int64) (x3 : Int64) (x4 : Int64)  : entryFrame m #[(.long x0), (.long x1), (.long x2), (.long x3), (.long x4)] 10 = mkF m 0 #[.val (.long x0), .second, .val (.long x1), .second, .val (.long x2), .second, .val (.long x3), .second, .val (.long x4), .second] [] := by first | (simp [entryFrame, mkF, argsToLocals, Value.category]; done) | rfl
theorem d_method_2_code_0 : decode method_2_code 0 = .ok (.lload 4, 2) := by decide +kernel
theorem d_method_2_code_2 : decode method_2_code 2 = .ok (.lload_n 2, 1) := by decide +kernel
theorem d_method_2_code_3 : decode method_2_code 3 = .ok (.lload 8, 2) := by decide +kernel
theorem d_method_2_code_5 : decode method_2_code 5 = .ok (.lsub, 1) := by decide +kernel
theorem d_method_2_code_6 : decode method_2_code 6 = .ok (.lmul, 1) := by decide +kernel
theorem d_method_2_code_7 : decode method_2_code 7 = .ok (.lload 6, 2) := by decide +kernel
theorem d_method_2_code_9 : decode method_2_code 9 = .ok (.lconst 1, 1) := by decide +kernel
theorem d_method_2_code_10 : decode method_2_code 10 = .ok (.ladd, 1) := by decide +kernel
theorem d_method_2_code_11 : decode method_2_code 11 = .ok (.lload_n 2, 1) := by decide +kernel
theorem d_method_2_code_12 : decode method_2_code 12 = .ok (.lmul, 1) := by decide +kernel
theorem d_method_2_code_13 : decode method_2_code 13 = .ok (.ladd, 1) := by decide +kernel
theorem d_method_2_code_14 : decode method_2_code 14 = .ok (.lload_n 0, 1) := by decide +kernel
theorem d_method_2_code_15 : decode method_2_code 15 = .ok (.lload_n 2, 1) := by decide +kernel
theorem d_method_2_code_16 : decode method_2_code 16 = .ok (.lmul, 1) := by decide +kernel
theorem d_method_2_code_17 : decode method_2_code 17 = .ok (.lcmp, 1) := by decide +kernel
theorem d_method_2_code_18 : decode method_2_code 18 = .ok (.ifCond .gt 7, 3) := by decide +kernel
theorem d_method_2_code_25 : decode method_2_code 25 = .ok (.iconst 0, 1) := by decide +kernel
theorem d_method_2_code_26 : decode method_2_code 26 = .ok (.ireturn, 1) := by decide +kernel
theorem d_method_2_code_21 : decode method_2_code 21 = .ok (.iconst 1, 1) := by decide +kernel
theorem d_method_2_code_22 : decode method_2_code 22 = .ok (.goto 4, 3) := by decide +kernel
set_option maxRecDepth 65536 in
set_option maxHeartbeats 40000000 in
theorem rm_ok (l : Launch) (Z : State) (a0 : Array Value) (hw : ∀ d ∈ tables_1, d.before a0 Z = true) (q1 q2 q3 q4 q5 : Int64) (h0 : Heap)  :
    MeetsW l Z (⟨"com/example/sluiced/sluiced/limiter/SlidingWindowCounterTimeUntilAdmittedPinLaw", "ok", "(JJJJJ)Z"⟩ : MethodName) method_2_code 10 (some .boolean) ({ frames := 0, cells := 0, slots := 0, locals := 0 } : Room) #[(.long q1), (.long q2), (.long q3), (.long q4), (.long q5)] h0 (Pu h0 (fun v => v = some (.int (bi (okE q1 q2 q3 q4 q5))))) := by
  refine MeetsW.of (plainFor_of_name pn_com_example_sluiced_sluiced_limiter_SlidingWindowCounterTimeUntilAdmittedPinLaw) ?_
  intro p e s m below meth c s₁ P hx hby hml hZ hown hnm hret hlk X0 e0 K
  have M0 : Mv h0 h0 [] [] := Mv.refl _ _
  refine Go.cast (ef_rm_ok m q1 q2 q3 q4 q5 ) ?_
  refine Go.of (T' := s₁) (f' := (mkF m 2 #[.val (.long q1), .second, .val (.long q2), .second, .val (.long q3), .second, .val (.long q4), .second, .val (.long q5), .second] [(.long q3)])) (fun _ k => XS.lload X0.here hx rfl (hb hby d_method_2_code_0) rfl k) ?_
  refine Go.of (T' := s₁) (f' := (mkF m 3 #[.val (.long q1), .second, .val (.long q2), .second, .val (.long q3), .second, .val (.long q4), .second, .val (.long q5), .second] [(.long q2), (.long q3)])) (fun _ k => XS.lloadN X0.here hx rfl (hb hby d_method_2_code_2) rfl k) ?_
  refine Go.of (T' := s₁) (f' := (mkF m 5 #[.val (.long q1), .second, .val (.long q2), .second, .val (.long q3), .second, .val (.long q4), .second, .val (.long q5), .second] [(.long q5), (.long q2), (.long q3)])) (fun _ k => XS.lload X0.here hx rfl (hb hby d_method_2_code_3) rfl k) ?_
  refine Go.of (T' := s₁) (f' := (mkF m 6 #[.val (.long q1), .second, .val (.long q2), .second, .val (.long q3), .second, .val (.long q4), .second, .val (.long q5), .second] [(.long (q2 - q5)), (.long q3)])) (fun _ k => XS.lsub X0.here hx rfl (hb hby d_method_2_code_5) rfl k) ?_
  refine Go.of (T' := s₁) (f' := (mkF m 7 #[.val (.long q1), .second, .val (.long q2), .second, .val (.long q3), .second, .val (.long q4), .second, .val (.long q5), .second] [(.long (q3 * (q2 - q5)))])) (fun _ k => XS.lmul X0.here hx rfl (hb hby d_method_2_code_6) rfl k) ?_
  refine Go.of (T' := s₁) (f' := (mkF m 9 #[.val (.long q1), .second, .val (.long q2), .second, .val (.long q3), .second, .val (.long q4), .second, .val (.long q5), .second] [(.long q4), (.long (q3 * (q2 - q5)))])) (fun _ k => XS.lload X0.here hx rfl (hb hby d_method_2_code_7) rfl k) ?_
  refine Go.of (T' := s₁) (f' := (mkF m 10 #[.val (.long q1), .second, .val (.long q2), .second, .val (.long q3), .second, .val (.long q4), .second, .val (.long q5), .second] [(.long (1 : Int64)), (.long q4), (.long (q3 * (q2 - q5)))])) (fun _ k => XS.lconst X0.here hx rfl (hb hby d_method_2_code_9) k) ?_
  refine Go.of (T' := s₁) (f' := (mkF m 11 #[.val (.long q1), .second, .val (.long q2), .second, .val (.long q3), .second, .val (.long q4), .second, .val (.long q5), .second] [(.long (q4 + (1 : Int64))), (.long (q3 * (q2 - q5)))])) (fun _ k => XS.ladd X0.here hx rfl (hb hby d_method_2_code_10) rfl k) ?_
  refine Go.of (T' := s₁) (f' := (mkF m 12 #[.val (.long q1), .second, .val (.long q2), .second, .val (.long q3), .second, .val (.long q4), .second, .val (.long q5), .second] [(.long q2), (.long (q4 + (1 : Int64))), (.long (q3 * (q2 - q5)))])) (fun _ k => XS.lloadN X0.here hx rfl (hb hby d_method_2_code_11) rfl k) ?_
  refine Go.of (T' := s₁) (f' := (mkF m 13 #[.val (.long q1), .second, .val (.long q2), .second, .val (.long q3), .second, .val (.long q4), .second, .val (.long q5), .second] [(.long ((q4 + (1 : Int64)) * q2)), (.long (q3 * (q2 - q5)))])) (fun _ k => XS.lmul X0.here hx rfl (hb hby d_method_2_code_12) rfl k) ?_
  refine Go.of (T' := s₁) (f' := (mkF m 14 #[.val (.long q1), .second, .val (.long q2), .second, .val (.long q3), .second, .val (.long q4), .second, .val (.long q5), .second] [(.long ((q3 * (q2 - q5)) + ((q4 + (1 : Int64)) * q2)))])) (fun _ k => XS.ladd X0.here hx rfl (hb hby d_method_2_code_13) rfl k) ?_
  refine Go.of (T' := s₁) (f' := (mkF m 15 #[.val (.long q1), .second, .val (.long q2), .second, .val (.long q3), .second, .val (.long q4), .second, .val (.long q5), .second] [(.long q1), (.long ((q3 * (q2 - q5)) + ((q4 + (1 : Int64)) * q2)))])) (fun _ k => XS.lloadN X0.here hx rfl (hb hby d_method_2_code_14) rfl k) ?_
  refine Go.of (T' := s₁) (f' := (mkF m 16 #[.val (.long q1), .second, .val (.long q2), .second, .val (.long q3), .second, .val (.long q4), .second, .val (.long q5), .second] [(.long q2), (.long q1), (.long ((q3 * (q2 - q5)) + ((q4 + (1 : Int64)) * q2)))])) (fun _ k => XS.lloadN X0.here hx rfl (hb hby d_method_2_code_15) rfl k) ?_
  refine Go.of (T' := s₁) (f' := (mkF m 17 #[.val (.long q1), .second, .val (.long q2), .second, .val (.long q3), .second, .val (.long q4), .second, .val (.long q5), .second] [(.long (q1 * q2)), (.long ((q3 * (q2 - q5)) + ((q4 + (1 : Int64)) * q2)))])) (fun _ k => XS.lmul X0.here hx rfl (hb hby d_method_2_code_16) rfl k) ?_
  refine Go.of (T' := s₁) (f' := (mkF m 18 #[.val (.long q1), .second, .val (.long q2), .second, .val (.long q3), .second, .val (.long q4), .second, .val (.long q5), .second] [(.int (lcmpW ((q3 * (q2 - q5)) + ((q4 + (1 : Int64)) * q2)) (q1 * q2)))])) (fun _ k => XS.lcmp X0.here hx rfl (hb hby d_method_2_code_17) rfl k) ?_
  by_cases hc18 : (q1 * q2) < ((q3 * (q2 - q5)) + ((q4 + (1 : Int64)) * q2))
  ·
    refine Go.of (T' := s₁) (f' := (mkF m 25 #[.val (.long q1), .second, .val (.long q2), .second, .val (.long q3), .second, .val (.long q4), .second, .val (.long q5), .second] [])) (fun _ k => XS.ifYes X0.here hx rfl (pc0 := 18) (pc' := 25) rfl (hb hby d_method_2_code_18) rfl ((if0 _ _).trans (tlt ((lw_gt _ _).mpr hc18)).2.2.1) (by decide) (by decide) k) ?_
    refine Go.of (T' := s₁) (f' := (mkF m 26 #[.val (.long q1), .second, .val (.long q2), .second, .val (.long q3), .second, .val (.long q4), .second, .val (.long q5), .second] [(.int (0 : Int32))])) (fun _ k => XS.iconst X0.here hx rfl (hb hby d_method_2_code_25) k) ?_
    exact goRetI (Q := Pu h0 (fun v => v = some (.int (bi (okE q1 q2 q3 q4 q5))))) X0 hx (t := .boolean) hret hlk rfl (by simp) (hb hby d_method_2_code_26) K (by decide) (by decide) e0 (⟨rfl, rfl, by rw [bi_f (fun q => q hc18)]⟩)
  ·
    refine Go.of (T' := s₁) (f' := (mkF m 21 #[.val (.long q1), .second, .val (.long q2), .second, .val (.long q3), .second, .val (.long q4), .second, .val (.long q5), .second] [])) (fun _ k => XS.ifNo X0.here hx rfl (hb hby d_method_2_code_18) rfl ((if0 _ _).trans (flt (mt (lw_gt _ _).mp hc18)).2.2.1) k) ?_
    refine Go.of (T' := s₁) (f' := (mkF m 22 #[.val (.long q1), .second, .val (.long q2), .second, .val (.long q3), .second, .val (.long q4), .second, .val (.long q5), .second] [(.int (1 : Int32))])) (fun _ k => XS.iconst X0.here hx rfl (hb hby d_method_2_code_21) k) ?_
    refine Go.of (T' := s₁) (f' := (mkF m 26 #[.val (.long q1), .second, .val (.long q2), .second, .val (.long q3), .second, .val (.long q4), .second, .val (.long q5), .second] [(.int (1 : Int32))])) (fun _ k => XS.goto X0.here hx rfl (pc0 := 22) (pc' := 26) rfl (hb hby d_method_2_code_22) (by decide) (by decide) k) ?_
    exact goRetI (Q := Pu h0 (fun v => v = some (.int (bi (okE q1 q2 q3 q4 q5))))) X0 hx (t := .boolean) hret hlk rfl (by simp) (hb hby d_method_2_code_26) K (by decide) (by decide) e0 (⟨rfl, rfl, by rw [bi_t hc18]⟩)
theorem ef_rm_law (m : MethodId) (x0 : Int64) (x1 : Int64) (x2 : Int64) (x3 : Int64) (x4 : Int64)  : entryFrame m #[(.long x0), (.long x1), (.long x2), (.long x3), (.long x4)] maxLocals = mkF m 0 #[.val (.long x0), .second, .val (.long x1), .second, .val (.long x2), .second, .val (.long x3), .second, .val (.long x4), .second, .unset, .unset, .unset, .unset, .unset, .unset, .unset, .unset, .unset, .unset, .unset, .unset, .unset, .unset, .unset, .unset, .unset] [] := by first | (simp [entryFrame, mkF, argsToLocals, Value.category, maxLocals]; done) | rfl
theorem pd__JJ_V : parseMethodDescriptor "(JJ)V" = some ⟨[.long, .long], none⟩ := by decide +kernel
theorem pd__JJJJJ_Z : parseMethodDescriptor "(JJJJJ)Z" = some ⟨[.long, .long, .long, .long, .long], some .boolean⟩ := by decide +kernel
set_option maxRecDepth 65536 in
set_option maxHeartbeats 40000000 in
theorem rm_law (l : Launch) (Z : State) (a0 : Array Value) (hw : ∀ d ∈ tables_1, d.before a0 Z = true) (p1 p2 p3 p4 p5 : Int64) (h0 : Heap)  :
    MeetsW l Z x code maxLocals ret room_1 #[(.long p1), (.long p2), (.long p3), (.long p4), (.long p5)] h0 (fun v h L => v = some (.int 1) ∧ Mv h0 h [] L) := by
  refine MeetsW.of (plainFor_of_name pn_com_example_sluiced_sluiced_limiter_SlidingWindowCounterTimeUntilAdmittedPinLaw) ?_
  intro p e s m below meth c s₁ P hx hby hml hZ hown hnm hret hlk X0 e0 K
  replace hown : s.vm.findClass "com/example/sluiced/sluiced/limiter/SlidingWindowCounterTimeUntilAdmittedPinLaw" = some m.cls := hown
  have M0 : Mv h0 h0 [] [] := Mv.refl _ _
  refine Go.cast (ef_rm_law m p1 p2 p3 p4 p5 ) ?_
  refine Go.of (T' := s₁) (f' := (mkF m 1 #[.val (.long p1), .second, .val (.long p2), .second, .val (.long p3), .second, .val (.long p4), .second, .val (.long p5), .second, .unset, .unset, .unset, .unset, .unset, .unset, .unset, .unset, .unset, .unset, .unset, .unset, .unset, .unset, .unset, .unset, .unset] [(.long p1)])) (fun _ k => XS.lloadN X0.here hx rfl (hb hby at_0) rfl k) ?_
  refine Go.of (T' := s₁) (f' := (mkF m 4 #[.val (.long p1), .second, .val (.long p2), .second, .val (.long p3), .second, .val (.long p4), .second, .val (.long p5), .second, .unset, .unset, .unset, .unset, .unset, .unset, .unset, .unset, .unset, .unset, .unset, .unset, .unset, .unset, .unset, .unset, .unset] [(.long (1073741823 : Int64)), (.long p1)])) (fun _ k => X0.ldc2Long hx hown (mvT hZ (hw _ (List.mem_of_getElem? (i := 0) rfl))) (g := (mkF m 1 #[.val (.long p1), .second, .val (.long p2), .second, .val (.long p3), .second, .val (.long p4), .second, .val (.long p5), .second, .unset, .unset, .unset, .unset, .unset, .unset, .unset, .unset, .unset, .unset, .unset, .unset, .unset, .unset, .unset, .unset, .unset] [(.long p1)])) rfl (hb hby at_1) _ k) ?_
  refine Go.of (T' := s₁) (f' := (mkF m 5 #[.val (.long p1), .second, .val (.long p2), .second, .val (.long p3), .second, .val (.long p4), .second, .val (.long p5), .second, .unset, .unset, .unset, .unset, .unset, .unset, .unset, .unset, .unset, .unset, .unset, .unset, .unset, .unset, .unset, .unset, .unset] [(.long (p1 &&& (1073741823 : Int64)))])) (fun _ k => XS.land X0.here hx rfl (hb hby at_4) rfl k) ?_
  refine Go.of (T' := s₁) (f' := (mkF m 6 #[.val (.long p1), .second, .val (.long p2), .second, .val (.long p3), .second, .val (.long p4), .second, .val (.long p5), .second, .unset, .unset, .unset, .unset, .unset, .unset, .unset, .unset, .unset, .unset, .unset, .unset, .unset, .unset, .unset, .unset, .unset] [(.long (1 : Int64)), (.long (p1 &&& (1073741823 : Int64)))])) (fun _ k => XS.lconst X0.here hx rfl (hb hby at_5) k) ?_
  refine Go.of (T' := s₁) (f' := (mkF m 7 #[.val (.long p1), .second, .val (.long p2), .second, .val (.long p3), .second, .val (.long p4), .second, .val (.long p5), .second, .unset, .unset, .unset, .unset, .unset, .unset, .unset, .unset, .unset, .unset, .unset, .unset, .unset, .unset, .unset, .unset, .unset] [(.long ((p1 &&& (1073741823 : Int64)) + (1 : Int64)))])) (fun _ k => XS.ladd X0.here hx rfl (hb hby at_6) rfl k) ?_
  refine Go.of (T' := s₁) (f' := (mkF m 9 #[.val (.long p1), .second, .val (.long p2), .second, .val (.long p3), .second, .val (.long p4), .second, .val (.long p5), .second, .val (.long ((p1 &&& (1073741823 : Int64)) + (1 : Int64))), .second, .unset, .unset, .unset, .unset, .unset, .unset, .unset, .unset, .unset, .unset, .unset, .unset, .unset, .unset, .unset] [])) (fun _ k => XS.lstore X0.here hx rfl (hb hby at_7) rfl (l' := #[.val (.long p1), .second, .val (.long p2), .second, .val (.long p3), .second, .val (.long p4), .second, .val (.long p5), .second, .val (.long ((p1 &&& (1073741823 : Int64)) + (1 : Int64))), .second, .unset, .unset, .unset, .unset, .unset, .unset, .unset, .unset, .unset, .unset, .unset, .unset, .unset, .unset, .unset]) rfl k) ?_
  refine Go.of (T' := s₁) (f' := (mkF m 10 #[.val (.long p1), .second, .val (.long p2), .second, .val (.long p3), .second, .val (.long p4), .second, .val (.long p5), .second, .val (.long ((p1 &&& (1073741823 : Int64)) + (1 : Int64))), .second, .unset, .unset, .unset, .unset, .unset, .unset, .unset, .unset, .unset, .unset, .unset, .unset, .unset, .unset, .unset] [(.long p2)])) (fun _ k => XS.lloadN X0.here hx rfl (hb hby at_9) rfl k) ?_
  refine Go.of (T' := s₁) (f' := (mkF m 13 #[.val (.long p1), .second, .val (.long p2), .second, .val (.long p3), .second, .val (.long p4), .second, .val (.long p5), .second, .val (.long ((p1 &&& (1073741823 : Int64)) + (1 : Int64))), .second, .unset, .unset, .unset, .unset, .unset, .unset, .unset, .unset, .unset, .unset, .unset, .unset, .unset, .unset, .unset] [(.long (1073741823 : Int64)), (.long p2)])) (fun _ k => X0.ldc2Long hx hown (mvT hZ (hw _ (List.mem_of_getElem? (i := 0) rfl))) (g := (mkF m 10 #[.val (.long p1), .second, .val (.long p2), .second, .val (.long p3), .second, .val (.long p4), .second, .val (.long p5), .second, .val (.long ((p1 &&& (1073741823 : Int64)) + (1 : Int64))), .second, .unset, .unset, .unset, .unset, .unset, .unset, .unset, .unset, .unset, .unset, .unset, .unset, .unset, .unset, .unset] [(.long p2)])) rfl (hb hby at_10) _ k) ?_
  refine Go.of (T' := s₁) (f' := (mkF m 14 #[.val (.long p1), .second, .val (.long p2), .second, .val (.long p3), .second, .val (.long p4), .second, .val (.long p5), .second, .val (.long ((p1 &&& (1073741823 : Int64)) + (1 : Int64))), .second, .unset, .unset, .unset, .unset, .unset, .unset, .unset, .unset, .unset, .unset, .unset, .unset, .unset, .unset, .unset] [(.long (p2 &&& (1073741823 : Int64)))])) (fun _ k => XS.land X0.here hx rfl (hb hby at_13) rfl k) ?_
  refine Go.of (T' := s₁) (f' := (mkF m 15 #[.val (.long p1), .second, .val (.long p2), .second, .val (.long p3), .second, .val (.long p4), .second, .val (.long p5), .second, .val (.long ((p1 &&& (1073741823 : Int64)) + (1 : Int64))), .second, .unset, .unset, .unset, .unset, .unset, .unset, .unset, .unset, .unset, .unset, .unset, .unset, .unset, .unset, .unset] [(.long (1 : Int64)), (.long (p2 &&& (1073741823 : Int64)))])) (fun _ k => XS.lconst X0.here hx rfl (hb hby at_14) k) ?_
  refine Go.of (T' := s₁) (f' := (mkF m 16 #[.val (.long p1), .second, .val (.long p2), .second, .val (.long p3), .second, .val (.long p4), .second, .val (.long p5), .second, .val (.long ((p1 &&& (1073741823 : Int64)) + (1 : Int64))), .second, .unset, .unset, .unset, .unset, .unset, .unset, .unset, .unset, .unset, .unset, .unset, .unset, .unset, .unset, .unset] [(.long ((p2 &&& (1073741823 : Int64)) + (1 : Int64)))])) (fun _ k => XS.ladd X0.here hx rfl (hb hby at_15) rfl k) ?_
  refine Go.of (T' := s₁) (f' := (mkF m 18 #[.val (.long p1), .second, .val (.long p2), .second, .val (.long p3), .second, .val (.long p4), .second, .val (.long p5), .second, .val (.long ((p1 &&& (1073741823 : Int64)) + (1 : Int64))), .second, .val (.long ((p2 &&& (1073741823 : Int64)) + (1 : Int64))), .second, .unset, .unset, .unset, .unset, .unset, .unset, .unset, .unset, .unset, .unset, .unset, .unset, .unset] [])) (fun _ k => XS.lstore X0.here hx rfl (hb hby at_16) rfl (l' := #[.val (.long p1), .second, .val (.long p2), .second, .val (.long p3), .second, .val (.long p4), .second, .val (.long p5), .second, .val (.long ((p1 &&& (1073741823 : Int64)) + (1 : Int64))), .second, .val (.long ((p2 &&& (1073741823 : Int64)) + (1 : Int64))), .second, .unset, .unset, .unset, .unset, .unset, .unset, .unset, .unset, .unset, .unset, .unset, .unset, .unset]) rfl k) ?_
  refine Go.of (T' := s₁) (f' := (mkF m 20 #[.val (.long p1), .second, .val (.long p2), .second, .val (.long p3), .second, .val (.long p4), .second, .val (.long p5), .second, .val (.long ((p1 &&& (1073741823 : Int64)) + (1 : Int64))), .second, .val (.long ((p2 &&& (1073741823 : Int64)) + (1 : Int64))), .second, .unset, .unset, .unset, .unset, .unset, .unset, .unset, .unset, .unset, .unset, .unset, .unset, .unset] [(.long p3)])) (fun _ k => XS.lload X0.here hx rfl (hb hby at_18) rfl k) ?_
  refine Go.of (T' := s₁) (f' := (mkF m 23 #[.val (.long p1), .second, .val (.long p2), .second, .val (.long p3), .second, .val (.long p4), .second, .val (.long p5), .second, .val (.long ((p1 &&& (1073741823 : Int64)) + (1 : Int64))), .second, .val (.long ((p2 &&& (1073741823 : Int64)) + (1 : Int64))), .second, .unset, .unset, .unset, .unset, .unset, .unset, .unset, .unset, .unset, .unset, .unset, .unset, .unset] [(.long (1073741823 : Int64)), (.long p3)])) (fun _ k => X0.ldc2Long hx hown (mvT hZ (hw _ (List.mem_of_getElem? (i := 0) rfl))) (g := (mkF m 20 #[.val (.long p1), .second, .val (.long p2), .second, .val (.long p3), .second, .val (.long p4), .second, .val (.long p5), .second, .val (.long ((p1 &&& (1073741823 : Int64)) + (1 : Int64))), .second, .val (.long ((p2 &&& (1073741823 : Int64)) + (1 : Int64))), .second, .unset, .unset, .unset, .unset, .unset, .unset, .unset, .unset, .unset, .unset, .unset, .unset, .unset] [(.long p3)])) rfl (hb hby at_20) _ k) ?_
  refine Go.of (T' := s₁) (f' := (mkF m 24 #[.val (.long p1), .second, .val (.long p2), .second, .val (.long p3), .second, .val (.long p4), .second, .val (.long p5), .second, .val (.long ((p1 &&& (1073741823 : Int64)) + (1 : Int64))), .second, .val (.long ((p2 &&& (1073741823 : Int64)) + (1 : Int64))), .second, .unset, .unset, .unset, .unset, .unset, .unset, .unset, .unset, .unset, .unset, .unset, .unset, .unset] [(.long (p3 &&& (1073741823 : Int64)))])) (fun _ k => XS.land X0.here hx rfl (hb hby at_23) rfl k) ?_
  refine Go.of (T' := s₁) (f' := (mkF m 26 #[.val (.long p1), .second, .val (.long p2), .second, .val (.long p3), .second, .val (.long p4), .second, .val (.long p5), .second, .val (.long ((p1 &&& (1073741823 : Int64)) + (1 : Int64))), .second, .val (.long ((p2 &&& (1073741823 : Int64)) + (1 : Int64))), .second, .val (.long (p3 &&& (1073741823 : Int64))), .second, .unset, .unset, .unset, .unset, .unset, .unset, .unset, .unset, .unset, .unset, .unset] [])) (fun _ k => XS.lstore X0.here hx rfl (hb hby at_24) rfl (l' := #[.val (.long p1), .second, .val (.long p2), .second, .val (.long p3), .second, .val (.long p4), .second, .val (.long p5), .second, .val (.long ((p1 &&& (1073741823 : Int64)) + (1 : Int64))), .second, .val (.long ((p2 &&& (1073741823 : Int64)) + (1 : Int64))), .second, .val (.long (p3 &&& (1073741823 : Int64))), .second, .unset, .unset, .unset, .unset, .unset, .unset, .unset, .unset, .unset, .unset, .unset]) rfl k) ?_
  refine Go.of (T' := s₁) (f' := (mkF m 28 #[.val (.long p1), .second, .val (.long p2), .second, .val (.long p3), .second, .val (.long p4), .second, .val (.long p5), .second, .val (.long ((p1 &&& (1073741823 : Int64)) + (1 : Int64))), .second, .val (.long ((p2 &&& (1073741823 : Int64)) + (1 : Int64))), .second, .val (.long (p3 &&& (1073741823 : Int64))), .second, .unset, .unset, .unset, .unset, .unset, .unset, .unset, .unset, .unset, .unset, .unset] [(.long p4)])) (fun _ k => XS.lload X0.here hx rfl (hb hby at_26) rfl k) ?_
  refine Go.of (T' := s₁) (f' := (mkF m 31 #[.val (.long p1), .second, .val (.long p2), .second, .val (.long p3), .second, .val (.long p4), .second, .val (.long p5), .second, .val (.long ((p1 &&& (1073741823 : Int64)) + (1 : Int64))), .second, .val (.long ((p2 &&& (1073741823 : Int64)) + (1 : Int64))), .second, .val (.long (p3 &&& (1073741823 : Int64))), .second, .unset, .unset, .unset, .unset, .unset, .unset, .unset, .unset, .unset, .unset, .unset] [(.long (1073741823 : Int64)), (.long p4)])) (fun _ k => X0.ldc2Long hx hown (mvT hZ (hw _ (List.mem_of_getElem? (i := 0) rfl))) (g := (mkF m 28 #[.val (.long p1), .second, .val (.long p2), .second, .val (.long p3), .second, .val (.long p4), .second, .val (.long p5), .second, .val (.long ((p1 &&& (1073741823 : Int64)) + (1 : Int64))), .second, .val (.long ((p2 &&& (1073741823 : Int64)) + (1 : Int64))), .second, .val (.long (p3 &&& (1073741823 : Int64))), .second, .unset, .unset, .unset, .unset, .unset, .unset, .unset, .unset, .unset, .unset, .unset] [(.long p4)])) rfl (hb hby at_28) _ k) ?_
  refine Go.of (T' := s₁) (f' := (mkF m 32 #[.val (.long p1), .second, .val (.long p2), .second, .val (.long p3), .second, .val (.long p4), .second, .val (.long p5), .second, .val (.long ((p1 &&& (1073741823 : Int64)) + (1 : Int64))), .second, .val (.long ((p2 &&& (1073741823 : Int64)) + (1 : Int64))), .second, .val (.long (p3 &&& (1073741823 : Int64))), .second, .unset, .unset, .unset, .unset, .unset, .unset, .unset, .unset, .unset, .unset, .unset] [(.long (p4 &&& (1073741823 : Int64)))])) (fun _ k => XS.land X0.here hx rfl (hb hby at_31) rfl k) ?_
  refine Go.of (T' := s₁) (f' := (mkF m 34 #[.val (.long p1), .second, .val (.long p2), .second, .val (.long p3), .second, .val (.long p4), .second, .val (.long p5), .second, .val (.long ((p1 &&& (1073741823 : Int64)) + (1 : Int64))), .second, .val (.long ((p2 &&& (1073741823 : Int64)) + (1 : Int64))), .second, .val (.long (p3 &&& (1073741823 : Int64))), .second, .val (.long (p4 &&& (1073741823 : Int64))), .second, .unset, .unset, .unset, .unset, .unset, .unset, .unset, .unset, .unset] [])) (fun _ k => XS.lstore X0.here hx rfl (hb hby at_32) rfl (l' := #[.val (.long p1), .second, .val (.long p2), .second, .val (.long p3), .second, .val (.long p4), .second, .val (.long p5), .second, .val (.long ((p1 &&& (1073741823 : Int64)) + (1 : Int64))), .second, .val (.long ((p2 &&& (1073741823 : Int64)) + (1 : Int64))), .second, .val (.long (p3 &&& (1073741823 : Int64))), .second, .val (.long (p4 &&& (1073741823 : Int64))), .second, .unset, .unset, .unset, .unset, .unset, .unset, .unset, .unset, .unset]) rfl k) ?_
  refine Go.of (T' := s₁) (f' := (mkF m 36 #[.val (.long p1), .second, .val (.long p2), .second, .val (.long p3), .second, .val (.long p4), .second, .val (.long p5), .second, .val (.long ((p1 &&& (1073741823 : Int64)) + (1 : Int64))), .second, .val (.long ((p2 &&& (1073741823 : Int64)) + (1 : Int64))), .second, .val (.long (p3 &&& (1073741823 : Int64))), .second, .val (.long (p4 &&& (1073741823 : Int64))), .second, .unset, .unset, .unset, .unset, .unset, .unset, .unset, .unset, .unset] [(.long p5)])) (fun _ k => XS.lload X0.here hx rfl (hb hby at_34) rfl k) ?_
  refine Go.of (T' := s₁) (f' := (mkF m 39 #[.val (.long p1), .second, .val (.long p2), .second, .val (.long p3), .second, .val (.long p4), .second, .val (.long p5), .second, .val (.long ((p1 &&& (1073741823 : Int64)) + (1 : Int64))), .second, .val (.long ((p2 &&& (1073741823 : Int64)) + (1 : Int64))), .second, .val (.long (p3 &&& (1073741823 : Int64))), .second, .val (.long (p4 &&& (1073741823 : Int64))), .second, .unset, .unset, .unset, .unset, .unset, .unset, .unset, .unset, .unset] [(.long (9223372036854775807 : Int64)), (.long p5)])) (fun _ k => X0.ldc2Long hx hown (mvT hZ (hw _ (List.mem_of_getElem? (i := 1) rfl))) (g := (mkF m 36 #[.val (.long p1), .second, .val (.long p2), .second, .val (.long p3), .second, .val (.long p4), .second, .val (.long p5), .second, .val (.long ((p1 &&& (1073741823 : Int64)) + (1 : Int64))), .second, .val (.long ((p2 &&& (1073741823 : Int64)) + (1 : Int64))), .second, .val (.long (p3 &&& (1073741823 : Int64))), .second, .val (.long (p4 &&& (1073741823 : Int64))), .second, .unset, .unset, .unset, .unset, .unset, .unset, .unset, .unset, .unset] [(.long p5)])) rfl (hb hby at_36) _ k) ?_
  refine Go.of (T' := s₁) (f' := (mkF m 40 #[.val (.long p1), .second, .val (.long p2), .second, .val (.long p3), .second, .val (.long p4), .second, .val (.long p5), .second, .val (.long ((p1 &&& (1073741823 : Int64)) + (1 : Int64))), .second, .val (.long ((p2 &&& (1073741823 : Int64)) + (1 : Int64))), .second, .val (.long (p3 &&& (1073741823 : Int64))), .second, .val (.long (p4 &&& (1073741823 : Int64))), .second, .unset, .unset, .unset, .unset, .unset, .unset, .unset, .unset, .unset] [(.long (p5 &&& (9223372036854775807 : Int64)))])) (fun _ k => XS.land X0.here hx rfl (hb hby at_39) rfl k) ?_
  refine Go.of (T' := s₁) (f' := (mkF m 42 #[.val (.long p1), .second, .val (.long p2), .second, .val (.long p3), .second, .val (.long p4), .second, .val (.long p5), .second, .val (.long ((p1 &&& (1073741823 : Int64)) + (1 : Int64))), .second, .val (.long ((p2 &&& (1073741823 : Int64)) + (1 : Int64))), .second, .val (.long (p3 &&& (1073741823 : Int64))), .second, .val (.long (p4 &&& (1073741823 : Int64))), .second, .unset, .unset, .unset, .unset, .unset, .unset, .unset, .unset, .unset] [(.long ((p2 &&& (1073741823 : Int64)) + (1 : Int64))), (.long (p5 &&& (9223372036854775807 : Int64)))])) (fun _ k => XS.lload X0.here hx rfl (hb hby at_40) rfl k) ?_
  refine Go.of (T' := s₁) (f' := (mkF m 43 #[.val (.long p1), .second, .val (.long p2), .second, .val (.long p3), .second, .val (.long p4), .second, .val (.long p5), .second, .val (.long ((p1 &&& (1073741823 : Int64)) + (1 : Int64))), .second, .val (.long ((p2 &&& (1073741823 : Int64)) + (1 : Int64))), .second, .val (.long (p3 &&& (1073741823 : Int64))), .second, .val (.long (p4 &&& (1073741823 : Int64))), .second, .unset, .unset, .unset, .unset, .unset, .unset, .unset, .unset, .unset] [(.long ((p5 &&& (9223372036854775807 : Int64)) % ((p2 &&& (1073741823 : Int64)) + (1 : Int64))))])) (fun _ k => lremM X0 hx rfl (hb hby at_42) rfl (pos_ne (sm31 p2).2) k) ?_
  refine Go.of (T' := s₁) (f' := (mkF m 45 #[.val (.long p1), .second, .val (.long p2), .second, .val (.long p3), .second, .val (.long p4), .second, .val (.long p5), .second, .val (.long ((p1 &&& (1073741823 : Int64)) + (1 : Int64))), .second, .val (.long ((p2 &&& (1073741823 : Int64)) + (1 : Int64))), .second, .val (.long (p3 &&& (1073741823 : Int64))), .second, .val (.long (p4 &&& (1073741823 : Int64))), .second, .val (.long ((p5 &&& (9223372036854775807 : Int64)) % ((p2 &&& (1073741823 : Int64)) + (1 : Int64)))), .second, .unset, .unset, .unset, .unset, .unset, .unset, .unset] [])) (fun _ k => XS.lstore X0.here hx rfl (hb hby at_43) rfl (l' := #[.val (.long p1), .second, .val (.long p2), .second, .val (.long p3), .second, .val (.long p4), .second, .val (.long p5), .second, .val (.long ((p1 &&& (1073741823 : Int64)) + (1 : Int64))), .second, .val (.long ((p2 &&& (1073741823 : Int64)) + (1 : Int64))), .second, .val (.long (p3 &&& (1073741823 : Int64))), .second, .val (.long (p4 &&& (1073741823 : Int64))), .second, .val (.long ((p5 &&& (9223372036854775807 : Int64)) % ((p2 &&& (1073741823 : Int64)) + (1 : Int64)))), .second, .unset, .unset, .unset, .unset, .unset, .unset, .unset]) rfl k) ?_
  have hl := sm31 p1
  have hb0 := sm31 p2
  have hel := rem_ok p5 _ hb0.2
  have hpv := sm30 p3
  have hcu := sm30 p4
  generalize ((p5 &&& (9223372036854775807 : Int64)) % ((p2 &&& (1073741823 : Int64)) + (1 : Int64))) = elp at *
  generalize ((p1 &&& (1073741823 : Int64)) + (1 : Int64)) = lim at *
  generalize ((p2 &&& (1073741823 : Int64)) + (1 : Int64)) = win at *
  generalize (p3 &&& (1073741823 : Int64)) = pv at *
  generalize (p4 &&& (1073741823 : Int64)) = cu at *
  have hbw := hb0.1
  have hG : Good lim win pv cu elp := ⟨hl.2, hb0.2, by rw [jlt, z64]; unfold Sm at hpv; omega, by rw [jlt, z64]; unfold Sm at hcu; omega, hel.1, hel.2⟩
  obtain ⟨T1, h1, X1, e1, E1, A1, D1, -, st1⟩ := newO X0 hx hZ hown (hw _ (List.mem_of_getElem? (i := 2) rfl)) (hw _ (List.mem_of_getElem? (i := 3) rfl)) (hw _ (List.mem_of_getElem? (i := 4) rfl)) e0 (g := (mkF m 45 #[.val (.long p1), .second, .val (.long p2), .second, .val (.long p3), .second, .val (.long p4), .second, .val (.long p5), .second, .val (.long lim), .second, .val (.long win), .second, .val (.long pv), .second, .val (.long cu), .second, .val (.long elp), .second, .unset, .unset, .unset, .unset, .unset, .unset, .unset] [])) rfl (hb hby at_45) (by decide) (by decide)
  obtain ⟨b1, g1⟩ : ∃ z, z = h0.size := ⟨_, rfl⟩
  rw [← g1] at A1 D1 st1
  have fr_b1 : h0.size ≤ b1 := Nat.le_trans M0.le (Nat.le_of_eq g1.symm)
  have K1 := keepE E1
  have M1 := M0.ext E1
  have E_b1 := A1
  have F_limit_b1 : Fld Z h1 b1 "com/example/sluiced/sluiced/limiter/SlidingWindowCounter" "limit" "J" (.long (0 : Int64)) := D1 (Or.inr (hw _ (List.mem_of_getElem? (i := 17) rfl))) (ty := .long) (by decide)
  have F_window_b1 : Fld Z h1 b1 "com/example/sluiced/sluiced/limiter/SlidingWindowCounter" "window" "J" (.long (0 : Int64)) := D1 (Or.inr (hw _ (List.mem_of_getElem? (i := 19) rfl))) (ty := .long) (by decide)
  refine Go.of (T' := T1) (f' := (mkF m 48 #[.val (.long p1), .second, .val (.long p2), .second, .val (.long p3), .second, .val (.long p4), .second, .val (.long p5), .second, .val (.long lim), .second, .val (.long win), .second, .val (.long pv), .second, .val (.long cu), .second, .val (.long elp), .second, .unset, .unset, .unset, .unset, .unset, .unset, .unset] [(.ref b1)])) st1 ?_
  refine Go.of (T' := T1) (f' := (mkF m 49 #[.val (.long p1), .second, .val (.long p2), .second, .val (.long p3), .second, .val (.long p4), .second, .val (.long p5), .second, .val (.long lim), .second, .val (.long win), .second, .val (.long pv), .second, .val (.long cu), .second, .val (.long elp), .second, .unset, .unset, .unset, .unset, .unset, .unset, .unset] [(.ref b1), (.ref b1)])) (fun _ k => XS.dup X1.here hx rfl (hb hby at_48) rfl rfl k) ?_
  refine Go.of (T' := T1) (f' := (mkF m 51 #[.val (.long p1), .second, .val (.long p2), .second, .val (.long p3), .second, .val (.long p4), .second, .val (.long p5), .second, .val (.long lim), .second, .val (.long win), .second, .val (.long pv), .second, .val (.long cu), .second, .val (.long elp), .second, .unset, .unset, .unset, .unset, .unset, .unset, .unset] [(.long lim), (.ref b1), (.ref b1)])) (fun _ k => XS.lload X1.here hx rfl (hb hby at_49) rfl k) ?_
  refine Go.of (T' := T1) (f' := (mkF m 53 #[.val (.long p1), .second, .val (.long p2), .second, .val (.long p3), .second, .val (.long p4), .second, .val (.long p5), .second, .val (.long lim), .second, .val (.long win), .second, .val (.long pv), .second, .val (.long cu), .second, .val (.long elp), .second, .unset, .unset, .unset, .unset, .unset, .unset, .unset] [(.long win), (.long lim), (.ref b1), (.ref b1)])) (fun _ k => XS.lload X1.here hx rfl (hb hby at_51) rfl k) ?_
  refine goI X1 hx hZ rfl hown (hw _ (List.mem_of_getElem? (i := 5) rfl)) (hw _ (List.mem_of_getElem? (i := 6) rfl)) (hw _ (List.mem_of_getElem? (i := 7) rfl)) (by decide) (C := 0) (S := 0) ((rm_new l Z a0 hw b1 lim win h1 E_b1 F_limit_b1 F_window_b1 hl.2 hb0.2).bk (W := 1) hZ (hw _ (List.mem_of_getElem? (i := 7) rfl)) (hw _ (List.mem_of_getElem? (i := 4) rfl)) (by decide) (by decide)) e1 (argsL := [(.long lim), (.long win)]) (rest := [(.ref b1)]) (by rw [hml]; rfl) (lenOf pd__JJ_V rfl) rfl rfl (hb hby at_53) (Nat.le_of_eq rfl) (by decide) (by decide) ?_
  intro v2 T2 L2 X2 hQ2
  obtain ⟨h2, e2⟩ : ∃ z, T2.heap = z := ⟨_, rfl⟩
  rw [e2] at hQ2
  obtain ⟨rfl, Mc2, Ec2, Fc2, Gc2⟩ := hQ2
  have M2 := M1.app Mc2 (allS (Or.inr fr_b1) all0)
  replace E_b1 := Ec2
  replace F_limit_b1 := Fc2
  replace F_window_b1 := Gc2
  show Go p e below P T2 (mkF m 56 #[.val (.long p1), .second, .val (.long p2), .second, .val (.long p3), .second, .val (.long p4), .second, .val (.long p5), .second, .val (.long lim), .second, .val (.long win), .second, .val (.long pv), .second, .val (.long cu), .second, .val (.long elp), .second, .unset, .unset, .unset, .unset, .unset, .unset, .unset] [(.ref b1)])
  refine Go.of (T' := T2) (f' := (mkF m 58 #[.val (.long p1), .second, .val (.long p2), .second, .val (.long p3), .second, .val (.long p4), .second, .val (.long p5), .second, .val (.long lim), .second, .val (.long win), .second, .val (.long pv), .second, .val (.long cu), .second, .val (.long elp), .second, .val (.ref b1), .unset, .unset, .unset, .unset, .unset, .unset] [])) (fun _ k => XS.astore X2.here hx rfl (hb hby at_56) rfl rfl (l' := #[.val (.long p1), .second, .val (.long p2), .second, .val (.long p3), .second, .val (.long p4), .second, .val (.long p5), .second, .val (.long lim), .second, .val (.long win), .second, .val (.long pv), .second, .val (.long cu), .second, .val (.long elp), .second, .val (.ref b1), .unset, .unset, .unset, .unset, .unset, .unset]) rfl k) ?_
  refine Go.of (T' := T2) (f' := (mkF m 60 #[.val (.long p1), .second, .val (.long p2), .second, .val (.long p3), .second, .val (.long p4), .second, .val (.long p5), .second, .val (.long lim), .second, .val (.long win), .second, .val (.long pv), .second, .val (.long cu), .second, .val (.long elp), .second, .val (.ref b1), .unset, .unset, .unset, .unset, .unset, .unset] [(.ref b1)])) (fun _ k => XS.aload X2.here hx rfl (hb hby at_58) rfl rfl k) ?_
  refine Go.of (T' := T2) (f' := (mkF m 62 #[.val (.long p1), .second, .val (.long p2), .second, .val (.long p3), .second, .val (.long p4), .second, .val (.long p5), .second, .val (.long lim), .second, .val (.long win), .second, .val (.long pv), .second, .val (.long cu), .second, .val (.long elp), .second, .val (.ref b1), .unset, .unset, .unset, .unset, .unset, .unset] [(.long pv), (.ref b1)])) (fun _ k => XS.lload X2.here hx rfl (hb hby at_60) rfl k) ?_
  refine Go.of (T' := T2) (f' := (mkF m 64 #[.val (.long p1), .second, .val (.long p2), .second, .val (.long p3), .second, .val (.long p4), .second, .val (.long p5), .second, .val (.long lim), .second, .val (.long win), .second, .val (.long pv), .second, .val (.long cu), .second, .val (.long elp), .second, .val (.ref b1), .unset, .unset, .unset, .unset, .unset, .unset] [(.long cu), (.long pv), (.ref b1)])) (fun _ k => XS.lload X2.here hx rfl (hb hby at_62) rfl k) ?_
  refine Go.of (T' := T2) (f' := (mkF m 66 #[.val (.long p1), .second, .val (.long p2), .second, .val (.long p3), .second, .val (.long p4), .second, .val (.long p5), .second, .val (.long lim), .second, .val (.long win), .second, .val (.long pv), .second, .val (.long cu), .second, .val (.long elp), .second, .val (.ref b1), .unset, .unset, .unset, .unset, .unset, .unset] [(.long elp), (.long cu), (.long pv), (.ref b1)])) (fun _ k => XS.lload X2.here hx rfl (hb hby at_64) rfl k) ?_
  refine goV X2 hx hZ (y := (⟨"com/example/sluiced/sluiced/limiter/SlidingWindowCounter", "timeUntilAdmitted", "(JJJ)J"⟩ : MethodName)) (z := (⟨"com/example/sluiced/sluiced/limiter/SlidingWindowCounter", "timeUntilAdmitted", "(JJJ)J"⟩ : MethodName)) hown (hw _ (List.mem_of_getElem? (i := 20) rfl)) (hw _ (List.mem_of_getElem? (i := 21) rfl)) (notFace_of_selects (args := #[]) (mvT hZ (hw _ (List.mem_of_getElem? (i := 23) rfl)))) (hw _ (List.mem_of_getElem? (i := 23) rfl)) (hw _ (List.mem_of_getElem? (i := 22) rfl)) (by decide) (C := 0) (S := 0) ((rm_time l Z a0 hw b1 pv cu elp lim win h2 F_limit_b1 F_window_b1 E_b1 hG hbw.2).bk (W := 0) hZ (hw _ (List.mem_of_getElem? (i := 24) rfl)) (hw _ (List.mem_of_getElem? (i := 4) rfl)) (by decide) (by decide)) e2 E_b1 (argsL := [(.long pv), (.long cu), (.long elp)]) (rest := []) (by rw [hml]; rfl) (lenOf pd__JJJ_J rfl) rfl rfl (hb hby at_66) (Nat.le_of_eq rfl) (by decide) (by decide) ?_
  intro v3 T3 L3 X3 hQ3
  obtain ⟨nq3, e3, rr3, rfl, hr3⟩ := hQ3
  replace X3 := standNil X3 nq3
  show Go p e below P T3 (mkF m 69 #[.val (.long p1), .second, .val (.long p2), .second, .val (.long p3), .second, .val (.long p4), .second, .val (.long p5), .second, .val (.long lim), .second, .val (.long win), .second, .val (.long pv), .second, .val (.long cu), .second, .val (.long elp), .second, .val (.ref b1), .unset, .unset, .unset, .unset, .unset, .unset] [(.long rr3)])
  have g := hG.num
  have eR := restn hG
  have rw_ := rng64 rr3
  have hb1 := hbw.2
  have eL := last_num hG
  have s1 := hl.1
  have s2 := hbw
  have eB : ((win - elp) + win).toInt = win.toInt - elp.toInt + win.toInt := by rw [jadd (by omega) (by omega), eR]
  rcases hr3 with ⟨t, hr1, hr2, hr3, hr4, hr5⟩ | ⟨hr0, t, hr1, hr2, hr3, hr4, hr5⟩ | ⟨hr0, hr4, hr1⟩
  ·
    have eT : (elp + rr3).toInt = t := by rw [jadd (by omega) (by omega)]; omega
    refine Go.of (T' := T3) (f' := (mkF m 71 #[.val (.long p1), .second, .val (.long p2), .second, .val (.long p3), .second, .val (.long p4), .second, .val (.long p5), .second, .val (.long lim), .second, .val (.long win), .second, .val (.long pv), .second, .val (.long cu), .second, .val (.long elp), .second, .val (.ref b1), .val (.long rr3), .second, .unset, .unset, .unset, .unset] [])) (fun _ k => XS.lstore X3.here hx rfl (hb hby at_69) rfl (l' := #[.val (.long p1), .second, .val (.long p2), .second, .val (.long p3), .second, .val (.long p4), .second, .val (.long p5), .second, .val (.long lim), .second, .val (.long win), .second, .val (.long pv), .second, .val (.long cu), .second, .val (.long elp), .second, .val (.ref b1), .val (.long rr3), .second, .unset, .unset, .unset, .unset]) rfl k) ?_
    refine Go.of (T' := T3) (f' := (mkF m 73 #[.val (.long p1), .second, .val (.long p2), .second, .val (.long p3), .second, .val (.long p4), .second, .val (.long p5), .second, .val (.long lim), .second, .val (.long win), .second, .val (.long pv), .second, .val (.long cu), .second, .val (.long elp), .second, .val (.ref b1), .val (.long rr3), .second, .unset, .unset, .unset, .unset] [(.long win)])) (fun _ k => XS.lload X3.here hx rfl (hb hby at_71) rfl k) ?_
    refine Go.of (T' := T3) (f' := (mkF m 75 #[.val (.long p1), .second, .val (.long p2), .second, .val (.long p3), .second, .val (.long p4), .second, .val (.long p5), .second, .val (.long lim), .second, .val (.long win), .second, .val (.long pv), .second, .val (.long cu), .second, .val (.long elp), .second, .val (.ref b1), .val (.long rr3), .second, .unset, .unset, .unset, .unset] [(.long elp), (.long win)])) (fun _ k => XS.lload X3.here hx rfl (hb hby at_73) rfl k) ?_
    refine Go.of (T' := T3) (f' := (mkF m 76 #[.val (.long p1), .second, .val (.long p2), .second, .val (.long p3), .second, .val (.long p4), .second, .val (.long p5), .second, .val (.long lim), .second, .val (.long win), .second, .val (.long pv), .second, .val (.long cu), .second, .val (.long elp), .second, .val (.ref b1), .val (.long rr3), .second, .unset, .unset, .unset, .unset] [(.long (win - elp))])) (fun _ k => XS.lsub X3.here hx rfl (hb hby at_75) rfl k) ?_
    refine Go.of (T' := T3) (f' := (mkF m 78 #[.val (.long p1), .second, .val (.long p2), .second, .val (.long p3), .second, .val (.long p4), .second, .val (.long p5), .second, .val (.long lim), .second, .val (.long win), .second, .val (.long pv), .second, .val (.long cu), .second, .val (.long elp), .second, .val (.ref b1), .val (.long rr3), .second, .val (.long (win - elp)), .second, .unset, .unset] [])) (fun _ k => XS.lstore X3.here hx rfl (hb hby at_76) rfl (l' := #[.val (.long p1), .second, .val (.long p2), .second, .val (.long p3), .second, .val (.long p4), .second, .val (.long p5), .second, .val (.long lim), .second, .val (.long win), .second, .val (.long pv), .second, .val (.long cu), .second, .val (.long elp), .second, .val (.ref b1), .val (.long rr3), .second, .val (.long (win - elp)), .second, .unset, .unset]) rfl k) ?_
    refine Go.of (T' := T3) (f' := (mkF m 80 #[.val (.long p1), .second, .val (.long p2), .second, .val (.long p3), .second, .val (.long p4), .second, .val (.long p5), .second, .val (.long lim), .second, .val (.long win), .second, .val (.long pv), .second, .val (.long cu), .second, .val (.long elp), .second, .val (.ref b1), .val (.long rr3), .second, .val (.long (win - elp)), .second, .unset, .unset] [(.long rr3)])) (fun _ k => XS.lload X3.here hx rfl (hb hby at_78) rfl k) ?_
    refine Go.of (T' := T3) (f' := (mkF m 81 #[.val (.long p1), .second, .val (.long p2), .second, .val (.long p3), .second, .val (.long p4), .second, .val (.long p5), .second, .val (.long lim), .second, .val (.long win), .second, .val (.long pv), .second, .val (.long cu), .second, .val (.long elp), .second, .val (.ref b1), .val (.long rr3), .second, .val (.long (win - elp)), .second, .unset, .unset] [(.long (0 : Int64)), (.long rr3)])) (fun _ k => XS.lconst X3.here hx rfl (hb hby at_80) k) ?_
    refine Go.of (T' := T3) (f' := (mkF m 82 #[.val (.long p1), .second, .val (.long p2), .second, .val (.long p3), .second, .val (.long p4), .second, .val (.long p5), .second, .val (.long lim), .second, .val (.long win), .second, .val (.long pv), .second, .val (.long cu), .second, .val (.long elp), .second, .val (.ref b1), .val (.long rr3), .second, .val (.long (win - elp)), .second, .unset, .unset] [(.int (lcmpW rr3 (0 : Int64)))])) (fun _ k => XS.lcmp X3.here hx rfl (hb hby at_81) rfl k) ?_
    have hc82 : ¬ (rr3 < (0 : Int64)) := (by rw [jlt]; first | omega | (rw [z64]; omega))
    refine Go.of (T' := T3) (f' := (mkF m 87 #[.val (.long p1), .second, .val (.long p2), .second, .val (.long p3), .second, .val (.long p4), .second, .val (.long p5), .second, .val (.long lim), .second, .val (.long win), .second, .val (.long pv), .second, .val (.long cu), .second, .val (.long elp), .second, .val (.ref b1), .val (.long rr3), .second, .val (.long (win - elp)), .second, .unset, .unset] [])) (fun _ k => XS.ifYes X3.here hx rfl (pc0 := 82) (pc' := 87) rfl (hb hby at_82) rfl ((if0 _ _).trans (flt (mt (lw_lt _ _).mp hc82)).2.1) (by decide) (by decide) k) ?_
    refine Go.of (T' := T3) (f' := (mkF m 89 #[.val (.long p1), .second, .val (.long p2), .second, .val (.long p3), .second, .val (.long p4), .second, .val (.long p5), .second, .val (.long lim), .second, .val (.long win), .second, .val (.long pv), .second, .val (.long cu), .second, .val (.long elp), .second, .val (.ref b1), .val (.long rr3), .second, .val (.long (win - elp)), .second, .unset, .unset] [(.long rr3)])) (fun _ k => XS.lload X3.here hx rfl (hb hby at_87) rfl k) ?_
    refine Go.of (T' := T3) (f' := (mkF m 91 #[.val (.long p1), .second, .val (.long p2), .second, .val (.long p3), .second, .val (.long p4), .second, .val (.long p5), .second, .val (.long lim), .second, .val (.long win), .second, .val (.long pv), .second, .val (.long cu), .second, .val (.long elp), .second, .val (.ref b1), .val (.long rr3), .second, .val (.long (win - elp)), .second, .unset, .unset] [(.long (win - elp)), (.long rr3)])) (fun _ k => XS.lload X3.here hx rfl (hb hby at_89) rfl k) ?_
    refine Go.of (T' := T3) (f' := (mkF m 92 #[.val (.long p1), .second, .val (.long p2), .second, .val (.long p3), .second, .val (.long p4), .second, .val (.long p5), .second, .val (.long lim), .second, .val (.long win), .second, .val (.long pv), .second, .val (.long cu), .second, .val (.long elp), .second, .val (.ref b1), .val (.long rr3), .second, .val (.long (win - elp)), .second, .unset, .unset] [(.int (lcmpW rr3 (win - elp)))])) (fun _ k => XS.lcmp X3.here hx rfl (hb hby at_91) rfl k) ?_
    have hc92 : rr3 < (win - elp) := (by rw [jlt]; first | omega | (rw [z64]; omega))
    refine Go.of (T' := T3) (f' := (mkF m 95 #[.val (.long p1), .second, .val (.long p2), .second, .val (.long p3), .second, .val (.long p4), .second, .val (.long p5), .second, .val (.long lim), .second, .val (.long win), .second, .val (.long pv), .second, .val (.long cu), .second, .val (.long elp), .second, .val (.ref b1), .val (.long rr3), .second, .val (.long (win - elp)), .second, .unset, .unset] [])) (fun _ k => XS.ifNo X3.here hx rfl (hb hby at_92) rfl ((if0 _ _).trans (tlt ((lw_lt _ _).mpr hc92)).2.1) k) ?_
    refine Go.of (T' := T3) (f' := (mkF m 97 #[.val (.long p1), .second, .val (.long p2), .second, .val (.long p3), .second, .val (.long p4), .second, .val (.long p5), .second, .val (.long lim), .second, .val (.long win), .second, .val (.long pv), .second, .val (.long cu), .second, .val (.long elp), .second, .val (.ref b1), .val (.long rr3), .second, .val (.long (win - elp)), .second, .unset, .unset] [(.long elp)])) (fun _ k => XS.lload X3.here hx rfl (hb hby at_95) rfl k) ?_
    refine Go.of (T' := T3) (f' := (mkF m 99 #[.val (.long p1), .second, .val (.long p2), .second, .val (.long p3), .second, .val (.long p4), .second, .val (.long p5), .second, .val (.long lim), .second, .val (.long win), .second, .val (.long pv), .second, .val (.long cu), .second, .val (.long elp), .second, .val (.ref b1), .val (.long rr3), .second, .val (.long (win - elp)), .second, .unset, .unset] [(.long rr3), (.long elp)])) (fun _ k => XS.lload X3.here hx rfl (hb hby at_97) rfl k) ?_
    refine Go.of (T' := T3) (f' := (mkF m 100 #[.val (.long p1), .second, .val (.long p2), .second, .val (.long p3), .second, .val (.long p4), .second, .val (.long p5), .second, .val (.long lim), .second, .val (.long win), .second, .val (.long pv), .second, .val (.long cu), .second, .val (.long elp), .second, .val (.ref b1), .val (.long rr3), .second, .val (.long (win - elp)), .second, .unset, .unset] [(.long (elp + rr3))])) (fun _ k => XS.ladd X3.here hx rfl (hb hby at_99) rfl k) ?_
    refine Go.of (T' := T3) (f' := (mkF m 102 #[.val (.long p1), .second, .val (.long p2), .second, .val (.long p3), .second, .val (.long p4), .second, .val (.long p5), .second, .val (.long lim), .second, .val (.long win), .second, .val (.long pv), .second, .val (.long cu), .second, .val (.long elp), .second, .val (.ref b1), .val (.long rr3), .second, .val (.long (win - elp)), .second, .val (.long (elp + rr3)), .second] [])) (fun _ k => XS.lstore X3.here hx rfl (hb hby at_100) rfl (l' := #[.val (.long p1), .second, .val (.long p2), .second, .val (.long p3), .second, .val (.long p4), .second, .val (.long p5), .second, .val (.long lim), .second, .val (.long win), .second, .val (.long pv), .second, .val (.long cu), .second, .val (.long elp), .second, .val (.ref b1), .val (.long rr3), .second, .val (.long (win - elp)), .second, .val (.long (elp + rr3)), .second]) rfl k) ?_
    refine Go.of (T' := T3) (f' := (mkF m 104 #[.val (.long p1), .second, .val (.long p2), .second, .val (.long p3), .second, .val (.long p4), .second, .val (.long p5), .second, .val (.long lim), .second, .val (.long win), .second, .val (.long pv), .second, .val (.long cu), .second, .val (.long elp), .second, .val (.ref b1), .val (.long rr3), .second, .val (.long (win - elp)), .second, .val (.long (elp + rr3)), .second] [(.long lim)])) (fun _ k => XS.lload X3.here hx rfl (hb hby at_102) rfl k) ?_
    refine Go.of (T' := T3) (f' := (mkF m 106 #[.val (.long p1), .second, .val (.long p2), .second, .val (.long p3), .second, .val (.long p4), .second, .val (.long p5), .second, .val (.long lim), .second, .val (.long win), .second, .val (.long pv), .second, .val (.long cu), .second, .val (.long elp), .second, .val (.ref b1), .val (.long rr3), .second, .val (.long (win - elp)), .second, .val (.long (elp + rr3)), .second] [(.long win), (.long lim)])) (fun _ k => XS.lload X3.here hx rfl (hb hby at_104) rfl k) ?_
    refine Go.of (T' := T3) (f' := (mkF m 108 #[.val (.long p1), .second, .val (.long p2), .second, .val (.long p3), .second, .val (.long p4), .second, .val (.long p5), .second, .val (.long lim), .second, .val (.long win), .second, .val (.long pv), .second, .val (.long cu), .second, .val (.long elp), .second, .val (.ref b1), .val (.long rr3), .second, .val (.long (win - elp)), .second, .val (.long (elp + rr3)), .second] [(.long pv), (.long win), (.long lim)])) (fun _ k => XS.lload X3.here hx rfl (hb hby at_106) rfl k) ?_
    refine Go.of (T' := T3) (f' := (mkF m 110 #[.val (.long p1), .second, .val (.long p2), .second, .val (.long p3), .second, .val (.long p4), .second, .val (.long p5), .second, .val (.long lim), .second, .val (.long win), .second, .val (.long pv), .second, .val (.long cu), .second, .val (.long elp), .second, .val (.ref b1), .val (.long rr3), .second, .val (.long (win - elp)), .second, .val (.long (elp + rr3)), .second] [(.long cu), (.long pv), (.long win), (.long lim)])) (fun _ k => XS.lload X3.here hx rfl (hb hby at_108) rfl k) ?_
    refine Go.of (T' := T3) (f' := (mkF m 112 #[.val (.long p1), .second, .val (.long p2), .second, .val (.long p3), .second, .val (.long p4), .second, .val (.long p5), .second, .val (.long lim), .second, .val (.long win), .second, .val (.long pv), .second, .val (.long cu), .second, .val (.long elp), .second, .val (.ref b1), .val (.long rr3), .second, .val (.long (win - elp)), .second, .val (.long (elp + rr3)), .second] [(.long (elp + rr3)), (.long cu), (.long pv), (.long win), (.long lim)])) (fun _ k => XS.lload X3.here hx rfl (hb hby at_110) rfl k) ?_
    refine goS X3 hx hZ hown (hw _ (List.mem_of_getElem? (i := 57) rfl)) (hw _ (List.mem_of_getElem? (i := 58) rfl)) (hw _ (List.mem_of_getElem? (i := 59) rfl)) (hw _ (List.mem_of_getElem? (i := 60) rfl)) (by decide) (C := 0) (S := 0) ((rm_ok l Z a0 hw lim win pv cu (elp + rr3) h2 ).bk (W := 0) hZ (hw _ (List.mem_of_getElem? (i := 60) rfl)) (hw _ (List.mem_of_getElem? (i := 59) rfl)) (by decide) (by decide)) e3 (argsL := [(.long lim), (.long win), (.long pv), (.long cu), (.long (elp + rr3))]) (rest := []) (by rw [hml]; rfl) (lenOf pd__JJJJJ_Z rfl) rfl rfl (hb hby at_112) (Nat.le_of_eq rfl) (by decide) (by decide) ?_
    intro v4 T4 L4 X4 hQ4
    obtain ⟨nq4, e4, rfl⟩ := hQ4
    replace X4 := standNil X4 nq4
    show Go p e below P T4 (mkF m 115 #[.val (.long p1), .second, .val (.long p2), .second, .val (.long p3), .second, .val (.long p4), .second, .val (.long p5), .second, .val (.long lim), .second, .val (.long win), .second, .val (.long pv), .second, .val (.long cu), .second, .val (.long elp), .second, .val (.ref b1), .val (.long rr3), .second, .val (.long (win - elp)), .second, .val (.long (elp + rr3)), .second] [(.int (bi (okE lim win pv cu (elp + rr3))))])
    have hc115 : okE lim win pv cu (elp + rr3) := (okE_iff s1 s2 hpv hcu (by omega) (by omega)).mpr (by rw [eT]; exact hr4)
    refine Go.of (T' := T4) (f' := (mkF m 118 #[.val (.long p1), .second, .val (.long p2), .second, .val (.long p3), .second, .val (.long p4), .second, .val (.long p5), .second, .val (.long lim), .second, .val (.long win), .second, .val (.long pv), .second, .val (.long cu), .second, .val (.long elp), .second, .val (.ref b1), .val (.long rr3), .second, .val (.long (win - elp)), .second, .val (.long (elp + rr3)), .second] [])) (fun _ k => XS.ifNo X4.here hx rfl (hb hby at_115) rfl ((if0 _ _).trans (feq (bi_ne hc115)).1) k) ?_
    refine Go.of (T' := T4) (f' := (mkF m 120 #[.val (.long p1), .second, .val (.long p2), .second, .val (.long p3), .second, .val (.long p4), .second, .val (.long p5), .second, .val (.long lim), .second, .val (.long win), .second, .val (.long pv), .second, .val (.long cu), .second, .val (.long elp), .second, .val (.ref b1), .val (.long rr3), .second, .val (.long (win - elp)), .second, .val (.long (elp + rr3)), .second] [(.long rr3)])) (fun _ k => XS.lload X4.here hx rfl (hb hby at_118) rfl k) ?_
    refine Go.of (T' := T4) (f' := (mkF m 121 #[.val (.long p1), .second, .val (.long p2), .second, .val (.long p3), .second, .val (.long p4), .second, .val (.long p5), .second, .val (.long lim), .second, .val (.long win), .second, .val (.long pv), .second, .val (.long cu), .second, .val (.long elp), .second, .val (.ref b1), .val (.long rr3), .second, .val (.long (win - elp)), .second, .val (.long (elp + rr3)), .second] [(.long (0 : Int64)), (.long rr3)])) (fun _ k => XS.lconst X4.here hx rfl (hb hby at_120) k) ?_
    refine Go.of (T' := T4) (f' := (mkF m 122 #[.val (.long p1), .second, .val (.long p2), .second, .val (.long p3), .second, .val (.long p4), .second, .val (.long p5), .second, .val (.long lim), .second, .val (.long win), .second, .val (.long pv), .second, .val (.long cu), .second, .val (.long elp), .second, .val (.ref b1), .val (.long rr3), .second, .val (.long (win - elp)), .second, .val (.long (elp + rr3)), .second] [(.int (lcmpW rr3 (0 : Int64)))])) (fun _ k => XS.lcmp X4.here hx rfl (hb hby at_121) rfl k) ?_
    by_cases hc122 : rr3 = (0 : Int64)
    ·
      refine Go.of (T' := T4) (f' := (mkF m 143 #[.val (.long p1), .second, .val (.long p2), .second, .val (.long p3), .second, .val (.long p4), .second, .val (.long p5), .second, .val (.long lim), .second, .val (.long win), .second, .val (.long pv), .second, .val (.long cu), .second, .val (.long elp), .second, .val (.ref b1), .val (.long rr3), .second, .val (.long (win - elp)), .second, .val (.long (elp + rr3)), .second] [])) (fun _ k => XS.ifYes X4.here hx rfl (pc0 := 122) (pc' := 143) rfl (hb hby at_122) rfl ((if0 _ _).trans (teq ((lw_eq _ _).mpr hc122)).1) (by decide) (by decide) k) ?_
      refine Go.of (T' := T4) (f' := (mkF m 144 #[.val (.long p1), .second, .val (.long p2), .second, .val (.long p3), .second, .val (.long p4), .second, .val (.long p5), .second, .val (.long lim), .second, .val (.long win), .second, .val (.long pv), .second, .val (.long cu), .second, .val (.long elp), .second, .val (.ref b1), .val (.long rr3), .second, .val (.long (win - elp)), .second, .val (.long (elp + rr3)), .second] [(.int (1 : Int32))])) (fun _ k => XS.iconst X4.here hx rfl (hb hby at_143) k) ?_
      refine Go.of (T' := T4) (f' := (mkF m 148 #[.val (.long p1), .second, .val (.long p2), .second, .val (.long p3), .second, .val (.long p4), .second, .val (.long p5), .second, .val (.long lim), .second, .val (.long win), .second, .val (.long pv), .second, .val (.long cu), .second, .val (.long elp), .second, .val (.ref b1), .val (.long rr3), .second, .val (.long (win - elp)), .second, .val (.long (elp + rr3)), .second] [(.int (1 : Int32))])) (fun _ k => XS.goto X4.here hx rfl (pc0 := 144) (pc' := 148) rfl (hb hby at_144) (by decide) (by decide) k) ?_
      exact goRetI (Q := fun v h L => v = some (.int 1) ∧ Mv h0 h [] L) X4 hx (t := .boolean) hret hlk rfl (by simp) (hb hby at_148) K (by decide) (by decide) e4 (⟨rfl, M2⟩)
    ·
      refine Go.of (T' := T4) (f' := (mkF m 125 #[.val (.long p1), .second, .val (.long p2), .second, .val (.long p3), .second, .val (.long p4), .second, .val (.long p5), .second, .val (.long lim), .second, .val (.long win), .second, .val (.long pv), .second, .val (.long cu), .second, .val (.long elp), .second, .val (.ref b1), .val (.long rr3), .second, .val (.long (win - elp)), .second, .val (.long (elp + rr3)), .second] [])) (fun _ k => XS.ifNo X4.here hx rfl (hb hby at_122) rfl ((if0 _ _).trans (feq (mt (lw_eq _ _).mp hc122)).1) k) ?_
      refine Go.of (T' := T4) (f' := (mkF m 127 #[.val (.long p1), .second, .val (.long p2), .second, .val (.long p3), .second, .val (.long p4), .second, .val (.long p5), .second, .val (.long lim), .second, .val (.long win), .second, .val (.long pv), .second, .val (.long cu), .second, .val (.long elp), .second, .val (.ref b1), .val (.long rr3), .second, .val (.long (win - elp)), .second, .val (.long (elp + rr3)), .second] [(.long lim)])) (fun _ k => XS.lload X4.here hx rfl (hb hby at_125) rfl k) ?_
      refine Go.of (T' := T4) (f' := (mkF m 129 #[.val (.long p1), .second, .val (.long p2), .second, .val (.long p3), .second, .val (.long p4), .second, .val (.long p5), .second, .val (.long lim), .second, .val (.long win), .second, .val (.long pv), .second, .val (.long cu), .second, .val (.long elp), .second, .val (.ref b1), .val (.long rr3), .second, .val (.long (win - elp)), .second, .val (.long (elp + rr3)), .second] [(.long win), (.long lim)])) (fun _ k => XS.lload X4.here hx rfl (hb hby at_127) rfl k) ?_
      refine Go.of (T' := T4) (f' := (mkF m 131 #[.val (.long p1), .second, .val (.long p2), .second, .val (.long p3), .second, .val (.long p4), .second, .val (.long p5), .second, .val (.long lim), .second, .val (.long win), .second, .val (.long pv), .second, .val (.long cu), .second, .val (.long elp), .second, .val (.ref b1), .val (.long rr3), .second, .val (.long (win - elp)), .second, .val (.long (elp + rr3)), .second] [(.long pv), (.long win), (.long lim)])) (fun _ k => XS.lload X4.here hx rfl (hb hby at_129) rfl k) ?_
      refine Go.of (T' := T4) (f' := (mkF m 133 #[.val (.long p1), .second, .val (.long p2), .second, .val (.long p3), .second, .val (.long p4), .second, .val (.long p5), .second, .val (.long lim), .second, .val (.long win), .second, .val (.long pv), .second, .val (.long cu), .second, .val (.long elp), .second, .val (.ref b1), .val (.long rr3), .second, .val (.long (win - elp)), .second, .val (.long (elp + rr3)), .second] [(.long cu), (.long pv), (.long win), (.long lim)])) (fun _ k => XS.lload X4.here hx rfl (hb hby at_131) rfl k) ?_
      refine Go.of (T' := T4) (f' := (mkF m 135 #[.val (.long p1), .second, .val (.long p2), .second, .val (.long p3), .second, .val (.long p4), .second, .val (.long p5), .second, .val (.long lim), .second, .val (.long win), .second, .val (.long pv), .second, .val (.long cu), .second, .val (.long elp), .second, .val (.ref b1), .val (.long rr3), .second, .val (.long (win - elp)), .second, .val (.long (elp + rr3)), .second] [(.long (elp + rr3)), (.long cu), (.long pv), (.long win), (.long lim)])) (fun _ k => XS.lload X4.here hx rfl (hb hby at_133) rfl k) ?_
      refine Go.of (T' := T4) (f' := (mkF m 136 #[.val (.long p1), .second, .val (.long p2), .second, .val (.long p3), .second, .val (.long p4), .second, .val (.long p5), .second, .val (.long lim), .second, .val (.long win), .second, .val (.long pv), .second, .val (.long cu), .second, .val (.long elp), .second, .val (.ref b1), .val (.long rr3), .second, .val (.long (win - elp)), .second, .val (.long (elp + rr3)), .second] [(.long (1 : Int64)), (.long (elp + rr3)), (.long cu), (.long pv), (.long win), (.long lim)])) (fun _ k => XS.lconst X4.here hx rfl (hb hby at_135) k) ?_
      refine Go.of (T' := T4) (f' := (mkF m 137 #[.val (.long p1), .second, .val (.long p2), .second, .val (.long p3), .second, .val (.long p4), .second, .val (.long p5), .second, .val (.long lim), .second, .val (.long win), .second, .val (.long pv), .second, .val (.long cu), .second, .val (.long elp), .second, .val (.ref b1), .val (.long rr3), .second, .val (.long (win - elp)), .second, .val (.long (elp + rr3)), .second] [(.long ((elp + rr3) - (1 : Int64))), (.long cu), (.long pv), (.long win), (.long lim)])) (fun _ k => XS.lsub X4.here hx rfl (hb hby at_136) rfl k) ?_
      refine goS X4 hx hZ hown (hw _ (List.mem_of_getElem? (i := 57) rfl)) (hw _ (List.mem_of_getElem? (i := 58) rfl)) (hw _ (List.mem_of_getElem? (i := 59) rfl)) (hw _ (List.mem_of_getElem? (i := 60) rfl)) (by decide) (C := 0) (S := 0) ((rm_ok l Z a0 hw lim win pv cu ((elp + rr3) - (1 : Int64)) h2 ).bk (W := 0) hZ (hw _ (List.mem_of_getElem? (i := 60) rfl)) (hw _ (List.mem_of_getElem? (i := 59) rfl)) (by decide) (by decide)) e4 (argsL := [(.long lim), (.long win), (.long pv), (.long cu), (.long ((elp + rr3) - (1 : Int64)))]) (rest := []) (by rw [hml]; rfl) (lenOf pd__JJJJJ_Z rfl) rfl rfl (hb hby at_137) (Nat.le_of_eq rfl) (by decide) (by decide) ?_
      intro v5 T5 L5 X5 hQ5
      obtain ⟨nq5, e5, rfl⟩ := hQ5
      replace X5 := standNil X5 nq5
      show Go p e below P T5 (mkF m 140 #[.val (.long p1), .second, .val (.long p2), .second, .val (.long p3), .second, .val (.long p4), .second, .val (.long p5), .second, .val (.long lim), .second, .val (.long win), .second, .val (.long pv), .second, .val (.long cu), .second, .val (.long elp), .second, .val (.ref b1), .val (.long rr3), .second, .val (.long (win - elp)), .second, .val (.long (elp + rr3)), .second] [(.int (bi (okE lim win pv cu ((elp + rr3) - (1 : Int64)))))])
      have hc140 : ¬ (okE lim win pv cu ((elp + rr3) - (1 : Int64))) := (by
    have n0 : ¬ rr3.toInt = 0 := fun q => hc122 (by rw [jeq, z64]; exact q)
    have eU : ((elp + rr3) - (1 : Int64)).toInt = t - 1 := by rw [jsub (by rw [o64]; omega) (by rw [o64]; omega), eT, o64]
    exact fun q => (hr5.resolve_left (by omega)) (by have := (okE_iff s1 s2 hpv hcu (by omega) (by omega)).mp q; rw [eU] at this; exact this))
      refine Go.of (T' := T5) (f' := (mkF m 143 #[.val (.long p1), .second, .val (.long p2), .second, .val (.long p3), .second, .val (.long p4), .second, .val (.long p5), .second, .val (.long lim), .second, .val (.long win), .second, .val (.long pv), .second, .val (.long cu), .second, .val (.long elp), .second, .val (.ref b1), .val (.long rr3), .second, .val (.long (win - elp)), .second, .val (.long (elp + rr3)), .second] [])) (fun _ k => XS.ifNo X5.here hx rfl (hb hby at_140) rfl ((if0 _ _).trans (teq (bi_f hc140)).2) k) ?_
      refine Go.of (T' := T5) (f' := (mkF m 144 #[.val (.long p1), .second, .val (.long p2), .second, .val (.long p3), .second, .val (.long p4), .second, .val (.long p5), .second, .val (.long lim), .second, .val (.long win), .second, .val (.long pv), .second, .val (.long cu), .second, .val (.long elp), .second, .val (.ref b1), .val (.long rr3), .second, .val (.long (win - elp)), .second, .val (.long (elp + rr3)), .second] [(.int (1 : Int32))])) (fun _ k => XS.iconst X5.here hx rfl (hb hby at_143) k) ?_
      refine Go.of (T' := T5) (f' := (mkF m 148 #[.val (.long p1), .second, .val (.long p2), .second, .val (.long p3), .second, .val (.long p4), .second, .val (.long p5), .second, .val (.long lim), .second, .val (.long win), .second, .val (.long pv), .second, .val (.long cu), .second, .val (.long elp), .second, .val (.ref b1), .val (.long rr3), .second, .val (.long (win - elp)), .second, .val (.long (elp + rr3)), .second] [(.int (1 : Int32))])) (fun _ k => XS.goto X5.here hx rfl (pc0 := 144) (pc' := 148) rfl (hb hby at_144) (by decide) (by decide) k) ?_
      exact goRetI (Q := fun v h L => v = some (.int 1) ∧ Mv h0 h [] L) X5 hx (t := .boolean) hret hlk rfl (by simp) (hb hby at_148) K (by decide) (by decide) e5 (⟨rfl, M2⟩)
  ·
    have eT : (rr3 - (win - elp)).toInt = t := by rw [jsub (by omega) (by omega)]; omega
    refine Go.of (T' := T3) (f' := (mkF m 71 #[.val (.long p1), .second, .val (.long p2), .second, .val (.long p3), .second, .val (.long p4), .second, .val (.long p5), .second, .val (.long lim), .second, .val (.long win), .second, .val (.long pv), .second, .val (.long cu), .second, .val (.long elp), .second, .val (.ref b1), .val (.long rr3), .second, .unset, .unset, .unset, .unset] [])) (fun _ k => XS.lstore X3.here hx rfl (hb hby at_69) rfl (l' := #[.val (.long p1), .second, .val (.long p2), .second, .val (.long p3), .second, .val (.long p4), .second, .val (.long p5), .second, .val (.long lim), .second, .val (.long win), .second, .val (.long pv), .second, .val (.long cu), .second, .val (.long elp), .second, .val (.ref b1), .val (.long rr3), .second, .unset, .unset, .unset, .unset]) rfl k) ?_
    refine Go.of (T' := T3) (f' := (mkF m 73 #[.val (.long p1), .second, .val (.long p2), .second, .val (.long p3), .second, .val (.long p4), .second, .val (.long p5), .second, .val (.long lim), .second, .val (.long win), .second, .val (.long pv), .second, .val (.long cu), .second, .val (.long elp), .second, .val (.ref b1), .val (.long rr3), .second, .unset, .unset, .unset, .unset] [(.long win)])) (fun _ k => XS.lload X3.here hx rfl (hb hby at_71) rfl k) ?_
    refine Go.of (T' := T3) (f' := (mkF m 75 #[.val (.long p1), .second, .val (.long p2), .second, .val (.long p3), .second, .val (.long p4), .second, .val (.long p5), .second, .val (.long lim), .second, .val (.long win), .second, .val (.long pv), .second, .val (.long cu), .second, .val (.long elp), .second, .val (.ref b1), .val (.long rr3), .second, .unset, .unset, .unset, .unset] [(.long elp), (.long win)])) (fun _ k => XS.lload X3.here hx rfl (hb hby at_73) rfl k) ?_
    refine Go.of (T' := T3) (f' := (mkF m 76 #[.val (.long p1), .second, .val (.long p2), .second, .val (.long p3), .second, .val (.long p4), .second, .val (.long p5), .second, .val (.long lim), .second, .val (.long win), .second, .val (.long pv), .second, .val (.long cu), .second, .val (.long elp), .second, .val (.ref b1), .val (.long rr3), .second, .unset, .unset, .unset, .unset] [(.long (win - elp))])) (fun _ k => XS.lsub X3.here hx rfl (hb hby at_75) rfl k) ?_
    refine Go.of (T' := T3) (f' := (mkF m 78 #[.val (.long p1), .second, .val (.long p2), .second, .val (.long p3), .second, .val (.long p4), .second, .val (.long p5), .second, .val (.long lim), .second, .val (.long win), .second, .val (.long pv), .second, .val (.long cu), .second, .val (.long elp), .second, .val (.ref b1), .val (.long rr3), .second, .val (.long (win - elp)), .second, .unset, .unset] [])) (fun _ k => XS.lstore X3.here hx rfl (hb hby at_76) rfl (l' := #[.val (.long p1), .second, .val (.long p2), .second, .val (.long p3), .second, .val (.long p4), .second, .val (.long p5), .second, .val (.long lim), .second, .val (.long win), .second, .val (.long pv), .second, .val (.long cu), .second, .val (.long elp), .second, .val (.ref b1), .val (.long rr3), .second, .val (.long (win - elp)), .second, .unset, .unset]) rfl k) ?_
    refine Go.of (T' := T3) (f' := (mkF m 80 #[.val (.long p1), .second, .val (.long p2), .second, .val (.long p3), .second, .val (.long p4), .second, .val (.long p5), .second, .val (.long lim), .second, .val (.long win), .second, .val (.long pv), .second, .val (.long cu), .second, .val (.long elp), .second, .val (.ref b1), .val (.long rr3), .second, .val (.long (win - elp)), .second, .unset, .unset] [(.long rr3)])) (fun _ k => XS.lload X3.here hx rfl (hb hby at_78) rfl k) ?_
    refine Go.of (T' := T3) (f' := (mkF m 81 #[.val (.long p1), .second, .val (.long p2), .second, .val (.long p3), .second, .val (.long p4), .second, .val (.long p5), .second, .val (.long lim), .second, .val (.long win), .second, .val (.long pv), .second, .val (.long cu), .second, .val (.long elp), .second, .val (.ref b1), .val (.long rr3), .second, .val (.long (win - elp)), .second, .unset, .unset] [(.long (0 : Int64)), (.long rr3)])) (fun _ k => XS.lconst X3.here hx rfl (hb hby at_80) k) ?_
    refine Go.of (T' := T3) (f' := (mkF m 82 #[.val (.long p1), .second, .val (.long p2), .second, .val (.long p3), .second, .val (.long p4), .second, .val (.long p5), .second, .val (.long lim), .second, .val (.long win), .second, .val (.long pv), .second, .val (.long cu), .second, .val (.long elp), .second, .val (.ref b1), .val (.long rr3), .second, .val (.long (win - elp)), .second, .unset, .unset] [(.int (lcmpW rr3 (0 : Int64)))])) (fun _ k => XS.lcmp X3.here hx rfl (hb hby at_81) rfl k) ?_
    have hc82 : ¬ (rr3 < (0 : Int64)) := (by rw [jlt]; first | omega | (rw [z64]; omega))
    refine Go.of (T' := T3) (f' := (mkF m 87 #[.val (.long p1), .second, .val (.long p2), .second, .val (.long p3), .second, .val (.long p4), .second, .val (.long p5), .second, .val (.long lim), .second, .val (.long win), .second, .val (.long pv), .second, .val (.long cu), .second, .val (.long elp), .second, .val (.ref b1), .val (.long rr3), .second, .val (.long (win - elp)), .second, .unset, .unset] [])) (fun _ k => XS.ifYes X3.here hx rfl (pc0 := 82) (pc' := 87) rfl (hb hby at_82) rfl ((if0 _ _).trans (flt (mt (lw_lt _ _).mp hc82)).2.1) (by decide) (by decide) k) ?_
    refine Go.of (T' := T3) (f' := (mkF m 89 #[.val (.long p1), .second, .val (.long p2), .second, .val (.long p3), .second, .val (.long p4), .second, .val (.long p5), .second, .val (.long lim), .second, .val (.long win), .second, .val (.long pv), .second, .val (.long cu), .second, .val (.long elp), .second, .val (.ref b1), .val (.long rr3), .second, .val (.long (win - elp)), .second, .unset, .unset] [(.long rr3)])) (fun _ k => XS.lload X3.here hx rfl (hb hby at_87) rfl k) ?_
    refine Go.of (T' := T3) (f' := (mkF m 91 #[.val (.long p1), .second, .val (.long p2), .second, .val (.long p3), .second, .val (.long p4), .second, .val (.long p5), .second, .val (.long lim), .second, .val (.long win), .second, .val (.long pv), .second, .val (.long cu), .second, .val (.long elp), .second, .val (.ref b1), .val (.long rr3), .second, .val (.long (win - elp)), .second, .unset, .unset] [(.long (win - elp)), (.long rr3)])) (fun _ k => XS.lload X3.here hx rfl (hb hby at_89) rfl k) ?_
    refine Go.of (T' := T3) (f' := (mkF m 92 #[.val (.long p1), .second, .val (.long p2), .second, .val (.long p3), .second, .val (.long p4), .second, .val (.long p5), .second, .val (.long lim), .second, .val (.long win), .second, .val (.long pv), .second, .val (.long cu), .second, .val (.long elp), .second, .val (.ref b1), .val (.long rr3), .second, .val (.long (win - elp)), .second, .unset, .unset] [(.int (lcmpW rr3 (win - elp)))])) (fun _ k => XS.lcmp X3.here hx rfl (hb hby at_91) rfl k) ?_
    have hc92 : ¬ (rr3 < (win - elp)) := (by rw [jlt]; first | omega | (rw [z64]; omega))
    refine Go.of (T' := T3) (f' := (mkF m 149 #[.val (.long p1), .second, .val (.long p2), .second, .val (.long p3), .second, .val (.long p4), .second, .val (.long p5), .second, .val (.long lim), .second, .val (.long win), .second, .val (.long pv), .second, .val (.long cu), .second, .val (.long elp), .second, .val (.ref b1), .val (.long rr3), .second, .val (.long (win - elp)), .second, .unset, .unset] [])) (fun _ k => XS.ifYes X3.here hx rfl (pc0 := 92) (pc' := 149) rfl (hb hby at_92) rfl ((if0 _ _).trans (flt (mt (lw_lt _ _).mp hc92)).2.1) (by decide) (by decide) k) ?_
    refine Go.of (T' := T3) (f' := (mkF m 151 #[.val (.long p1), .second, .val (.long p2), .second, .val (.long p3), .second, .val (.long p4), .second, .val (.long p5), .second, .val (.long lim), .second, .val (.long win), .second, .val (.long pv), .second, .val (.long cu), .second, .val (.long elp), .second, .val (.ref b1), .val (.long rr3), .second, .val (.long (win - elp)), .second, .unset, .unset] [(.long rr3)])) (fun _ k => XS.lload X3.here hx rfl (hb hby at_149) rfl k) ?_
    refine Go.of (T' := T3) (f' := (mkF m 153 #[.val (.long p1), .second, .val (.long p2), .second, .val (.long p3), .second, .val (.long p4), .second, .val (.long p5), .second, .val (.long lim), .second, .val (.long win), .second, .val (.long pv), .second, .val (.long cu), .second, .val (.long elp), .second, .val (.ref b1), .val (.long rr3), .second, .val (.long (win - elp)), .second, .unset, .unset] [(.long (win - elp)), (.long rr3)])) (fun _ k => XS.lload X3.here hx rfl (hb hby at_151) rfl k) ?_
    refine Go.of (T' := T3) (f' := (mkF m 155 #[.val (.long p1), .second, .val (.long p2), .second, .val (.long p3), .second, .val (.long p4), .second, .val (.long p5), .second, .val (.long lim), .second, .val (.long win), .second, .val (.long pv), .second, .val (.long cu), .second, .val (.long elp), .second, .val (.ref b1), .val (.long rr3), .second, .val (.long (win - elp)), .second, .unset, .unset] [(.long win), (.long (win - elp)), (.long rr3)])) (fun _ k => XS.lload X3.here hx rfl (hb hby at_153) rfl k) ?_
    refine Go.of (T' := T3) (f' := (mkF m 156 #[.val (.long p1), .second, .val (.long p2), .second, .val (.long p3), .second, .val (.long p4), .second, .val (.long p5), .second, .val (.long lim), .second, .val (.long win), .second, .val (.long pv), .second, .val (.long cu), .second, .val (.long elp), .second, .val (.ref b1), .val (.long rr3), .second, .val (.long (win - elp)), .second, .unset, .unset] [(.long ((win - elp) + win)), (.long rr3)])) (fun _ k => XS.ladd X3.here hx rfl (hb hby at_155) rfl k) ?_
    refine Go.of (T' := T3) (f' := (mkF m 157 #[.val (.long p1), .second, .val (.long p2), .second, .val (.long p3), .second, .val (.long p4), .second, .val (.long p5), .second, .val (.long lim), .second, .val (.long win), .second, .val (.long pv), .second, .val (.long cu), .second, .val (.long elp), .second, .val (.ref b1), .val (.long rr3), .second, .val (.long (win - elp)), .second, .unset, .unset] [(.int (lcmpW rr3 ((win - elp) + win)))])) (fun _ k => XS.lcmp X3.here hx rfl (hb hby at_156) rfl k) ?_
    have hc157 : rr3 < ((win - elp) + win) := (by rw [jlt]; first | omega | (rw [z64]; omega))
    refine Go.of (T' := T3) (f' := (mkF m 160 #[.val (.long p1), .second, .val (.long p2), .second, .val (.long p3), .second, .val (.long p4), .second, .val (.long p5), .second, .val (.long lim), .second, .val (.long win), .second, .val (.long pv), .second, .val (.long cu), .second, .val (.long elp), .second, .val (.ref b1), .val (.long rr3), .second, .val (.long (win - elp)), .second, .unset, .unset] [])) (fun _ k => XS.ifNo X3.here hx rfl (hb hby at_157) rfl ((if0 _ _).trans (tlt ((lw_lt _ _).mpr hc157)).2.1) k) ?_
    refine Go.of (T' := T3) (f' := (mkF m 162 #[.val (.long p1), .second, .val (.long p2), .second, .val (.long p3), .second, .val (.long p4), .second, .val (.long p5), .second, .val (.long lim), .second, .val (.long win), .second, .val (.long pv), .second, .val (.long cu), .second, .val (.long elp), .second, .val (.ref b1), .val (.long rr3), .second, .val (.long (win - elp)), .second, .unset, .unset] [(.long rr3)])) (fun _ k => XS.lload X3.here hx rfl (hb hby at_160) rfl k) ?_
    refine Go.of (T' := T3) (f' := (mkF m 164 #[.val (.long p1), .second, .val (.long p2), .second, .val (.long p3), .second, .val (.long p4), .second, .val (.long p5), .second, .val (.long lim), .second, .val (.long win), .second, .val (.long pv), .second, .val (.long cu), .second, .val (.long elp), .second, .val (.ref b1), .val (.long rr3), .second, .val (.long (win - elp)), .second, .unset, .unset] [(.long (win - elp)), (.long rr3)])) (fun _ k => XS.lload X3.here hx rfl (hb hby at_162) rfl k) ?_
    refine Go.of (T' := T3) (f' := (mkF m 165 #[.val (.long p1), .second, .val (.long p2), .second, .val (.long p3), .second, .val (.long p4), .second, .val (.long p5), .second, .val (.long lim), .second, .val (.long win), .second, .val (.long pv), .second, .val (.long cu), .second, .val (.long elp), .second, .val (.ref b1), .val (.long rr3), .second, .val (.long (win - elp)), .second, .unset, .unset] [(.long (rr3 - (win - elp)))])) (fun _ k => XS.lsub X3.here hx rfl (hb hby at_164) rfl k) ?_
    refine Go.of (T' := T3) (f' := (mkF m 167 #[.val (.long p1), .second, .val (.long p2), .second, .val (.long p3), .second, .val (.long p4), .second, .val (.long p5), .second, .val (.long lim), .second, .val (.long win), .second, .val (.long pv), .second, .val (.long cu), .second, .val (.long elp), .second, .val (.ref b1), .val (.long rr3), .second, .val (.long (win - elp)), .second, .val (.long (rr3 - (win - elp))), .second] [])) (fun _ k => XS.lstore X3.here hx rfl (hb hby at_165) rfl (l' := #[.val (.long p1), .second, .val (.long p2), .second, .val (.long p3), .second, .val (.long p4), .second, .val (.long p5), .second, .val (.long lim), .second, .val (.long win), .second, .val (.long pv), .second, .val (.long cu), .second, .val (.long elp), .second, .val (.ref b1), .val (.long rr3), .second, .val (.long (win - elp)), .second, .val (.long (rr3 - (win - elp))), .second]) rfl k) ?_
    refine Go.of (T' := T3) (f' := (mkF m 169 #[.val (.long p1), .second, .val (.long p2), .second, .val (.long p3), .second, .val (.long p4), .second, .val (.long p5), .second, .val (.long lim), .second, .val (.long win), .second, .val (.long pv), .second, .val (.long cu), .second, .val (.long elp), .second, .val (.ref b1), .val (.long rr3), .second, .val (.long (win - elp)), .second, .val (.long (rr3 - (win - elp))), .second] [(.long lim)])) (fun _ k => XS.lload X3.here hx rfl (hb hby at_167) rfl k) ?_
    refine Go.of (T' := T3) (f' := (mkF m 171 #[.val (.long p1), .second, .val (.long p2), .second, .val (.long p3), .second, .val (.long p4), .second, .val (.long p5), .second, .val (.long lim), .second, .val (.long win), .second, .val (.long pv), .second, .val (.long cu), .second, .val (.long elp), .second, .val (.ref b1), .val (.long rr3), .second, .val (.long (win - elp)), .second, .val (.long (rr3 - (win - elp))), .second] [(.long win), (.long lim)])) (fun _ k => XS.lload X3.here hx rfl (hb hby at_169) rfl k) ?_
    refine Go.of (T' := T3) (f' := (mkF m 173 #[.val (.long p1), .second, .val (.long p2), .second, .val (.long p3), .second, .val (.long p4), .second, .val (.long p5), .second, .val (.long lim), .second, .val (.long win), .second, .val (.long pv), .second, .val (.long cu), .second, .val (.long elp), .second, .val (.ref b1), .val (.long rr3), .second, .val (.long (win - elp)), .second, .val (.long (rr3 - (win - elp))), .second] [(.long pv), (.long win), (.long lim)])) (fun _ k => XS.lload X3.here hx rfl (hb hby at_171) rfl k) ?_
    refine Go.of (T' := T3) (f' := (mkF m 175 #[.val (.long p1), .second, .val (.long p2), .second, .val (.long p3), .second, .val (.long p4), .second, .val (.long p5), .second, .val (.long lim), .second, .val (.long win), .second, .val (.long pv), .second, .val (.long cu), .second, .val (.long elp), .second, .val (.ref b1), .val (.long rr3), .second, .val (.long (win - elp)), .second, .val (.long (rr3 - (win - elp))), .second] [(.long cu), (.long pv), (.long win), (.long lim)])) (fun _ k => XS.lload X3.here hx rfl (hb hby at_173) rfl k) ?_
    refine Go.of (T' := T3) (f' := (mkF m 177 #[.val (.long p1), .second, .val (.long p2), .second, .val (.long p3), .second, .val (.long p4), .second, .val (.long p5), .second, .val (.long lim), .second, .val (.long win), .second, .val (.long pv), .second, .val (.long cu), .second, .val (.long elp), .second, .val (.ref b1), .val (.long rr3), .second, .val (.long (win - elp)), .second, .val (.long (rr3 - (win - elp))), .second] [(.long win), (.long cu), (.long pv), (.long win), (.long lim)])) (fun _ k => XS.lload X3.here hx rfl (hb hby at_175) rfl k) ?_
    refine Go.of (T' := T3) (f' := (mkF m 178 #[.val (.long p1), .second, .val (.long p2), .second, .val (.long p3), .second, .val (.long p4), .second, .val (.long p5), .second, .val (.long lim), .second, .val (.long win), .second, .val (.long pv), .second, .val (.long cu), .second, .val (.long elp), .second, .val (.ref b1), .val (.long rr3), .second, .val (.long (win - elp)), .second, .val (.long (rr3 - (win - elp))), .second] [(.long (1 : Int64)), (.long win), (.long cu), (.long pv), (.long win), (.long lim)])) (fun _ k => XS.lconst X3.here hx rfl (hb hby at_177) k) ?_
    refine Go.of (T' := T3) (f' := (mkF m 179 #[.val (.long p1), .second, .val (.long p2), .second, .val (.long p3), .second, .val (.long p4), .second, .val (.long p5), .second, .val (.long lim), .second, .val (.long win), .second, .val (.long pv), .second, .val (.long cu), .second, .val (.long elp), .second, .val (.ref b1), .val (.long rr3), .second, .val (.long (win - elp)), .second, .val (.long (rr3 - (win - elp))), .second] [(.long (win - (1 : Int64))), (.long cu), (.long pv), (.long win), (.long lim)])) (fun _ k => XS.lsub X3.here hx rfl (hb hby at_178) rfl k) ?_
    refine goS X3 hx hZ hown (hw _ (List.mem_of_getElem? (i := 57) rfl)) (hw _ (List.mem_of_getElem? (i := 58) rfl)) (hw _ (List.mem_of_getElem? (i := 59) rfl)) (hw _ (List.mem_of_getElem? (i := 60) rfl)) (by decide) (C := 0) (S := 0) ((rm_ok l Z a0 hw lim win pv cu (win - (1 : Int64)) h2 ).bk (W := 0) hZ (hw _ (List.mem_of_getElem? (i := 60) rfl)) (hw _ (List.mem_of_getElem? (i := 59) rfl)) (by decide) (by decide)) e3 (argsL := [(.long lim), (.long win), (.long pv), (.long cu), (.long (win - (1 : Int64)))]) (rest := []) (by rw [hml]; rfl) (lenOf pd__JJJJJ_Z rfl) rfl rfl (hb hby at_179) (Nat.le_of_eq rfl) (by decide) (by decide) ?_
    intro v6 T6 L6 X6 hQ6
    obtain ⟨nq6, e6, rfl⟩ := hQ6
    replace X6 := standNil X6 nq6
    show Go p e below P T6 (mkF m 182 #[.val (.long p1), .second, .val (.long p2), .second, .val (.long p3), .second, .val (.long p4), .second, .val (.long p5), .second, .val (.long lim), .second, .val (.long win), .second, .val (.long pv), .second, .val (.long cu), .second, .val (.long elp), .second, .val (.ref b1), .val (.long rr3), .second, .val (.long (win - elp)), .second, .val (.long (rr3 - (win - elp))), .second] [(.int (bi (okE lim win pv cu (win - (1 : Int64)))))])
    have hc182 : ¬ (okE lim win pv cu (win - (1 : Int64))) := fun q => hr0 (by have := (okE_iff s1 s2 hpv hcu (by omega) (by omega)).mp q; rw [eL] at this; exact this)
    refine Go.of (T' := T6) (f' := (mkF m 185 #[.val (.long p1), .second, .val (.long p2), .second, .val (.long p3), .second, .val (.long p4), .second, .val (.long p5), .second, .val (.long lim), .second, .val (.long win), .second, .val (.long pv), .second, .val (.long cu), .second, .val (.long elp), .second, .val (.ref b1), .val (.long rr3), .second, .val (.long (win - elp)), .second, .val (.long (rr3 - (win - elp))), .second] [])) (fun _ k => XS.ifNo X6.here hx rfl (hb hby at_182) rfl ((if0 _ _).trans (teq (bi_f hc182)).2) k) ?_
    refine Go.of (T' := T6) (f' := (mkF m 187 #[.val (.long p1), .second, .val (.long p2), .second, .val (.long p3), .second, .val (.long p4), .second, .val (.long p5), .second, .val (.long lim), .second, .val (.long win), .second, .val (.long pv), .second, .val (.long cu), .second, .val (.long elp), .second, .val (.ref b1), .val (.long rr3), .second, .val (.long (win - elp)), .second, .val (.long (rr3 - (win - elp))), .second] [(.long lim)])) (fun _ k => XS.lload X6.here hx rfl (hb hby at_185) rfl k) ?_
    refine Go.of (T' := T6) (f' := (mkF m 189 #[.val (.long p1), .second, .val (.long p2), .second, .val (.long p3), .second, .val (.long p4), .second, .val (.long p5), .second, .val (.long lim), .second, .val (.long win), .second, .val (.long pv), .second, .val (.long cu), .second, .val (.long elp), .second, .val (.ref b1), .val (.long rr3), .second, .val (.long (win - elp)), .second, .val (.long (rr3 - (win - elp))), .second] [(.long win), (.long lim)])) (fun _ k => XS.lload X6.here hx rfl (hb hby at_187) rfl k) ?_
    refine Go.of (T' := T6) (f' := (mkF m 191 #[.val (.long p1), .second, .val (.long p2), .second, .val (.long p3), .second, .val (.long p4), .second, .val (.long p5), .second, .val (.long lim), .second, .val (.long win), .second, .val (.long pv), .second, .val (.long cu), .second, .val (.long elp), .second, .val (.ref b1), .val (.long rr3), .second, .val (.long (win - elp)), .second, .val (.long (rr3 - (win - elp))), .second] [(.long cu), (.long win), (.long lim)])) (fun _ k => XS.lload X6.here hx rfl (hb hby at_189) rfl k) ?_
    refine Go.of (T' := T6) (f' := (mkF m 192 #[.val (.long p1), .second, .val (.long p2), .second, .val (.long p3), .second, .val (.long p4), .second, .val (.long p5), .second, .val (.long lim), .second, .val (.long win), .second, .val (.long pv), .second, .val (.long cu), .second, .val (.long elp), .second, .val (.ref b1), .val (.long rr3), .second, .val (.long (win - elp)), .second, .val (.long (rr3 - (win - elp))), .second] [(.long (0 : Int64)), (.long cu), (.long win), (.long lim)])) (fun _ k => XS.lconst X6.here hx rfl (hb hby at_191) k) ?_
    refine Go.of (T' := T6) (f' := (mkF m 194 #[.val (.long p1), .second, .val (.long p2), .second, .val (.long p3), .second, .val (.long p4), .second, .val (.long p5), .second, .val (.long lim), .second, .val (.long win), .second, .val (.long pv), .second, .val (.long cu), .second, .val (.long elp), .second, .val (.ref b1), .val (.long rr3), .second, .val (.long (win - elp)), .second, .val (.long (rr3 - (win - elp))), .second] [(.long (rr3 - (win - elp))), (.long (0 : Int64)), (.long cu), (.long win), (.long lim)])) (fun _ k => XS.lload X6.here hx rfl (hb hby at_192) rfl k) ?_
    refine goS X6 hx hZ hown (hw _ (List.mem_of_getElem? (i := 57) rfl)) (hw _ (List.mem_of_getElem? (i := 58) rfl)) (hw _ (List.mem_of_getElem? (i := 59) rfl)) (hw _ (List.mem_of_getElem? (i := 60) rfl)) (by decide) (C := 0) (S := 0) ((rm_ok l Z a0 hw lim win cu (0 : Int64) (rr3 - (win - elp)) h2 ).bk (W := 0) hZ (hw _ (List.mem_of_getElem? (i := 60) rfl)) (hw _ (List.mem_of_getElem? (i := 59) rfl)) (by decide) (by decide)) e6 (argsL := [(.long lim), (.long win), (.long cu), (.long (0 : Int64)), (.long (rr3 - (win - elp)))]) (rest := []) (by rw [hml]; rfl) (lenOf pd__JJJJJ_Z rfl) rfl rfl (hb hby at_194) (Nat.le_of_eq rfl) (by decide) (by decide) ?_
    intro v7 T7 L7 X7 hQ7
    obtain ⟨nq7, e7, rfl⟩ := hQ7
    replace X7 := standNil X7 nq7
    show Go p e below P T7 (mkF m 197 #[.val (.long p1), .second, .val (.long p2), .second, .val (.long p3), .second, .val (.long p4), .second, .val (.long p5), .second, .val (.long lim), .second, .val (.long win), .second, .val (.long pv), .second, .val (.long cu), .second, .val (.long elp), .second, .val (.ref b1), .val (.long rr3), .second, .val (.long (win - elp)), .second, .val (.long (rr3 - (win - elp))), .second] [(.int (bi (okE lim win cu (0 : Int64) (rr3 - (win - elp)))))])
    have hc197 : okE lim win cu (0 : Int64) (rr3 - (win - elp)) := (okE_iff s1 s2 hcu sm0 (by omega) (by omega)).mpr (by rw [eT]; exact hr4)
    refine Go.of (T' := T7) (f' := (mkF m 200 #[.val (.long p1), .second, .val (.long p2), .second, .val (.long p3), .second, .val (.long p4), .second, .val (.long p5), .second, .val (.long lim), .second, .val (.long win), .second, .val (.long pv), .second, .val (.long cu), .second, .val (.long elp), .second, .val (.ref b1), .val (.long rr3), .second, .val (.long (win - elp)), .second, .val (.long (rr3 - (win - elp))), .second] [])) (fun _ k => XS.ifNo X7.here hx rfl (hb hby at_197) rfl ((if0 _ _).trans (feq (bi_ne hc197)).1) k) ?_
    refine Go.of (T' := T7) (f' := (mkF m 202 #[.val (.long p1), .second, .val (.long p2), .second, .val (.long p3), .second, .val (.long p4), .second, .val (.long p5), .second, .val (.long lim), .second, .val (.long win), .second, .val (.long pv), .second, .val (.long cu), .second, .val (.long elp), .second, .val (.ref b1), .val (.long rr3), .second, .val (.long (win - elp)), .second, .val (.long (rr3 - (win - elp))), .second] [(.long (rr3 - (win - elp)))])) (fun _ k => XS.lload X7.here hx rfl (hb hby at_200) rfl k) ?_
    refine Go.of (T' := T7) (f' := (mkF m 203 #[.val (.long p1), .second, .val (.long p2), .second, .val (.long p3), .second, .val (.long p4), .second, .val (.long p5), .second, .val (.long lim), .second, .val (.long win), .second, .val (.long pv), .second, .val (.long cu), .second, .val (.long elp), .second, .val (.ref b1), .val (.long rr3), .second, .val (.long (win - elp)), .second, .val (.long (rr3 - (win - elp))), .second] [(.long (0 : Int64)), (.long (rr3 - (win - elp)))])) (fun _ k => XS.lconst X7.here hx rfl (hb hby at_202) k) ?_
    refine Go.of (T' := T7) (f' := (mkF m 204 #[.val (.long p1), .second, .val (.long p2), .second, .val (.long p3), .second, .val (.long p4), .second, .val (.long p5), .second, .val (.long lim), .second, .val (.long win), .second, .val (.long pv), .second, .val (.long cu), .second, .val (.long elp), .second, .val (.ref b1), .val (.long rr3), .second, .val (.long (win - elp)), .second, .val (.long (rr3 - (win - elp))), .second] [(.int (lcmpW (rr3 - (win - elp)) (0 : Int64)))])) (fun _ k => XS.lcmp X7.here hx rfl (hb hby at_203) rfl k) ?_
    by_cases hc204 : (rr3 - (win - elp)) = (0 : Int64)
    ·
      refine Go.of (T' := T7) (f' := (mkF m 224 #[.val (.long p1), .second, .val (.long p2), .second, .val (.long p3), .second, .val (.long p4), .second, .val (.long p5), .second, .val (.long lim), .second, .val (.long win), .second, .val (.long pv), .second, .val (.long cu), .second, .val (.long elp), .second, .val (.ref b1), .val (.long rr3), .second, .val (.long (win - elp)), .second, .val (.long (rr3 - (win - elp))), .second] [])) (fun _ k => XS.ifYes X7.here hx rfl (pc0 := 204) (pc' := 224) rfl (hb hby at_204) rfl ((if0 _ _).trans (teq ((lw_eq _ _).mpr hc204)).1) (by decide) (by decide) k) ?_
      refine Go.of (T' := T7) (f' := (mkF m 225 #[.val (.long p1), .second, .val (.long p2), .second, .val (.long p3), .second, .val (.long p4), .second, .val (.long p5), .second, .val (.long lim), .second, .val (.long win), .second, .val (.long pv), .second, .val (.long cu), .second, .val (.long elp), .second, .val (.ref b1), .val (.long rr3), .second, .val (.long (win - elp)), .second, .val (.long (rr3 - (win - elp))), .second] [(.int (1 : Int32))])) (fun _ k => XS.iconst X7.here hx rfl (hb hby at_224) k) ?_
      refine Go.of (T' := T7) (f' := (mkF m 229 #[.val (.long p1), .second, .val (.long p2), .second, .val (.long p3), .second, .val (.long p4), .second, .val (.long p5), .second, .val (.long lim), .second, .val (.long win), .second, .val (.long pv), .second, .val (.long cu), .second, .val (.long elp), .second, .val (.ref b1), .val (.long rr3), .second, .val (.long (win - elp)), .second, .val (.long (rr3 - (win - elp))), .second] [(.int (1 : Int32))])) (fun _ k => XS.goto X7.here hx rfl (pc0 := 225) (pc' := 229) rfl (hb hby at_225) (by decide) (by decide) k) ?_
      exact goRetI (Q := fun v h L => v = some (.int 1) ∧ Mv h0 h [] L) X7 hx (t := .boolean) hret hlk rfl (by simp) (hb hby at_229) K (by decide) (by decide) e7 (⟨rfl, M2⟩)
    ·
      refine Go.of (T' := T7) (f' := (mkF m 207 #[.val (.long p1), .second, .val (.long p2), .second, .val (.long p3), .second, .val (.long p4), .second, .val (.long p5), .second, .val (.long lim), .second, .val (.long win), .second, .val (.long pv), .second, .val (.long cu), .second, .val (.long elp), .second, .val (.ref b1), .val (.long rr3), .second, .val (.long (win - elp)), .second, .val (.long (rr3 - (win - elp))), .second] [])) (fun _ k => XS.ifNo X7.here hx rfl (hb hby at_204) rfl ((if0 _ _).trans (feq (mt (lw_eq _ _).mp hc204)).1) k) ?_
      refine Go.of (T' := T7) (f' := (mkF m 209 #[.val (.long p1), .second, .val (.long p2), .second, .val (.long p3), .second, .val (.long p4), .second, .val (.long p5), .second, .val (.long lim), .second, .val (.long win), .second, .val (.long pv), .second, .val (.long cu), .second, .val (.long elp), .second, .val (.ref b1), .val (.long rr3), .second, .val (.long (win - elp)), .second, .val (.long (rr3 - (win - elp))), .second] [(.long lim)])) (fun _ k => XS.lload X7.here hx rfl (hb hby at_207) rfl k) ?_
      refine Go.of (T' := T7) (f' := (mkF m 211 #[.val (.long p1), .second, .val (.long p2), .second, .val (.long p3), .second, .val (.long p4), .second, .val (.long p5), .second, .val (.long lim), .second, .val (.long win), .second, .val (.long pv), .second, .val (.long cu), .second, .val (.long elp), .second, .val (.ref b1), .val (.long rr3), .second, .val (.long (win - elp)), .second, .val (.long (rr3 - (win - elp))), .second] [(.long win), (.long lim)])) (fun _ k => XS.lload X7.here hx rfl (hb hby at_209) rfl k) ?_
      refine Go.of (T' := T7) (f' := (mkF m 213 #[.val (.long p1), .second, .val (.long p2), .second, .val (.long p3), .second, .val (.long p4), .second, .val (.long p5), .second, .val (.long lim), .second, .val (.long win), .second, .val (.long pv), .second, .val (.long cu), .second, .val (.long elp), .second, .val (.ref b1), .val (.long rr3), .second, .val (.long (win - elp)), .second, .val (.long (rr3 - (win - elp))), .second] [(.long cu), (.long win), (.long lim)])) (fun _ k => XS.lload X7.here hx rfl (hb hby at_211) rfl k) ?_
      refine Go.of (T' := T7) (f' := (mkF m 214 #[.val (.long p1), .second, .val (.long p2), .second, .val (.long p3), .second, .val (.long p4), .second, .val (.long p5), .second, .val (.long lim), .second, .val (.long win), .second, .val (.long pv), .second, .val (.long cu), .second, .val (.long elp), .second, .val (.ref b1), .val (.long rr3), .second, .val (.long (win - elp)), .second, .val (.long (rr3 - (win - elp))), .second] [(.long (0 : Int64)), (.long cu), (.long win), (.long lim)])) (fun _ k => XS.lconst X7.here hx rfl (hb hby at_213) k) ?_
      refine Go.of (T' := T7) (f' := (mkF m 216 #[.val (.long p1), .second, .val (.long p2), .second, .val (.long p3), .second, .val (.long p4), .second, .val (.long p5), .second, .val (.long lim), .second, .val (.long win), .second, .val (.long pv), .second, .val (.long cu), .second, .val (.long elp), .second, .val (.ref b1), .val (.long rr3), .second, .val (.long (win - elp)), .second, .val (.long (rr3 - (win - elp))), .second] [(.long (rr3 - (win - elp))), (.long (0 : Int64)), (.long cu), (.long win), (.long lim)])) (fun _ k => XS.lload X7.here hx rfl (hb hby at_214) rfl k) ?_
      refine Go.of (T' := T7) (f' := (mkF m 217 #[.val (.long p1), .second, .val (.long p2), .second, .val (.long p3), .second, .val (.long p4), .second, .val (.long p5), .second, .val (.long lim), .second, .val (.long win), .second, .val (.long pv), .second, .val (.long cu), .second, .val (.long elp), .second, .val (.ref b1), .val (.long rr3), .second, .val (.long (win - elp)), .second, .val (.long (rr3 - (win - elp))), .second] [(.long (1 : Int64)), (.long (rr3 - (win - elp))), (.long (0 : Int64)), (.long cu), (.long win), (.long lim)])) (fun _ k => XS.lconst X7.here hx rfl (hb hby at_216) k) ?_
      refine Go.of (T' := T7) (f' := (mkF m 218 #[.val (.long p1), .second, .val (.long p2), .second, .val (.long p3), .second, .val (.long p4), .second, .val (.long p5), .second, .val (.long lim), .second, .val (.long win), .second, .val (.long pv), .second, .val (.long cu), .second, .val (.long elp), .second, .val (.ref b1), .val (.long rr3), .second, .val (.long (win - elp)), .second, .val (.long (rr3 - (win - elp))), .second] [(.long ((rr3 - (win - elp)) - (1 : Int64))), (.long (0 : Int64)), (.long cu), (.long win), (.long lim)])) (fun _ k => XS.lsub X7.here hx rfl (hb hby at_217) rfl k) ?_
      refine goS X7 hx hZ hown (hw _ (List.mem_of_getElem? (i := 57) rfl)) (hw _ (List.mem_of_getElem? (i := 58) rfl)) (hw _ (List.mem_of_getElem? (i := 59) rfl)) (hw _ (List.mem_of_getElem? (i := 60) rfl)) (by decide) (C := 0) (S := 0) ((rm_ok l Z a0 hw lim win cu (0 : Int64) ((rr3 - (win - elp)) - (1 : Int64)) h2 ).bk (W := 0) hZ (hw _ (List.mem_of_getElem? (i := 60) rfl)) (hw _ (List.mem_of_getElem? (i := 59) rfl)) (by decide) (by decide)) e7 (argsL := [(.long lim), (.long win), (.long cu), (.long (0 : Int64)), (.long ((rr3 - (win - elp)) - (1 : Int64)))]) (rest := []) (by rw [hml]; rfl) (lenOf pd__JJJJJ_Z rfl) rfl rfl (hb hby at_218) (Nat.le_of_eq rfl) (by decide) (by decide) ?_
      intro v8 T8 L8 X8 hQ8
      obtain ⟨nq8, e8, rfl⟩ := hQ8
      replace X8 := standNil X8 nq8
      show Go p e below P T8 (mkF m 221 #[.val (.long p1), .second, .val (.long p2), .second, .val (.long p3), .second, .val (.long p4), .second, .val (.long p5), .second, .val (.long lim), .second, .val (.long win), .second, .val (.long pv), .second, .val (.long cu), .second, .val (.long elp), .second, .val (.ref b1), .val (.long rr3), .second, .val (.long (win - elp)), .second, .val (.long (rr3 - (win - elp))), .second] [(.int (bi (okE lim win cu (0 : Int64) ((rr3 - (win - elp)) - (1 : Int64)))))])
      have hc221 : ¬ (okE lim win cu (0 : Int64) ((rr3 - (win - elp)) - (1 : Int64))) := (by
    have n0 : ¬ t = 0 := fun q => hc204 (by rw [jeq, z64, eT]; exact q)
    have eU : ((rr3 - (win - elp)) - (1 : Int64)).toInt = t - 1 := by rw [jsub (by rw [o64]; omega) (by rw [o64]; omega), eT, o64]
    exact fun q => (hr5.resolve_left (by omega)) (by have := (okE_iff s1 s2 hcu sm0 (by omega) (by omega)).mp q; rw [eU] at this; exact this))
      refine Go.of (T' := T8) (f' := (mkF m 224 #[.val (.long p1), .second, .val (.long p2), .second, .val (.long p3), .second, .val (.long p4), .second, .val (.long p5), .second, .val (.long lim), .second, .val (.long win), .second, .val (.long pv), .second, .val (.long cu), .second, .val (.long elp), .second, .val (.ref b1), .val (.long rr3), .second, .val (.long (win - elp)), .second, .val (.long (rr3 - (win - elp))), .second] [])) (fun _ k => XS.ifNo X8.here hx rfl (hb hby at_221) rfl ((if0 _ _).trans (teq (bi_f hc221)).2) k) ?_
      refine Go.of (T' := T8) (f' := (mkF m 225 #[.val (.long p1), .second, .val (.long p2), .second, .val (.long p3), .second, .val (.long p4), .second, .val (.long p5), .second, .val (.long lim), .second, .val (.long win), .second, .val (.long pv), .second, .val (.long cu), .second, .val (.long elp), .second, .val (.ref b1), .val (.long rr3), .second, .val (.long (win - elp)), .second, .val (.long (rr3 - (win - elp))), .second] [(.int (1 : Int32))])) (fun _ k => XS.iconst X8.here hx rfl (hb hby at_224) k) ?_
      refine Go.of (T' := T8) (f' := (mkF m 229 #[.val (.long p1), .second, .val (.long p2), .second, .val (.long p3), .second, .val (.long p4), .second, .val (.long p5), .second, .val (.long lim), .second, .val (.long win), .second, .val (.long pv), .second, .val (.long cu), .second, .val (.long elp), .second, .val (.ref b1), .val (.long rr3), .second, .val (.long (win - elp)), .second, .val (.long (rr3 - (win - elp))), .second] [(.int (1 : Int32))])) (fun _ k => XS.goto X8.here hx rfl (pc0 := 225) (pc' := 229) rfl (hb hby at_225) (by decide) (by decide) k) ?_
      exact goRetI (Q := fun v h L => v = some (.int 1) ∧ Mv h0 h [] L) X8 hx (t := .boolean) hret hlk rfl (by simp) (hb hby at_229) K (by decide) (by decide) e8 (⟨rfl, M2⟩)
  ·
    refine Go.of (T' := T3) (f' := (mkF m 71 #[.val (.long p1), .second, .val (.long p2), .second, .val (.long p3), .second, .val (.long p4), .second, .val (.long p5), .second, .val (.long lim), .second, .val (.long win), .second, .val (.long pv), .second, .val (.long cu), .second, .val (.long elp), .second, .val (.ref b1), .val (.long rr3), .second, .unset, .unset, .unset, .unset] [])) (fun _ k => XS.lstore X3.here hx rfl (hb hby at_69) rfl (l' := #[.val (.long p1), .second, .val (.long p2), .second, .val (.long p3), .second, .val (.long p4), .second, .val (.long p5), .second, .val (.long lim), .second, .val (.long win), .second, .val (.long pv), .second, .val (.long cu), .second, .val (.long elp), .second, .val (.ref b1), .val (.long rr3), .second, .unset, .unset, .unset, .unset]) rfl k) ?_
    refine Go.of (T' := T3) (f' := (mkF m 73 #[.val (.long p1), .second, .val (.long p2), .second, .val (.long p3), .second, .val (.long p4), .second, .val (.long p5), .second, .val (.long lim), .second, .val (.long win), .second, .val (.long pv), .second, .val (.long cu), .second, .val (.long elp), .second, .val (.ref b1), .val (.long rr3), .second, .unset, .unset, .unset, .unset] [(.long win)])) (fun _ k => XS.lload X3.here hx rfl (hb hby at_71) rfl k) ?_
    refine Go.of (T' := T3) (f' := (mkF m 75 #[.val (.long p1), .second, .val (.long p2), .second, .val (.long p3), .second, .val (.long p4), .second, .val (.long p5), .second, .val (.long lim), .second, .val (.long win), .second, .val (.long pv), .second, .val (.long cu), .second, .val (.long elp), .second, .val (.ref b1), .val (.long rr3), .second, .unset, .unset, .unset, .unset] [(.long elp), (.long win)])) (fun _ k => XS.lload X3.here hx rfl (hb hby at_73) rfl k) ?_
    refine Go.of (T' := T3) (f' := (mkF m 76 #[.val (.long p1), .second, .val (.long p2), .second, .val (.long p3), .second, .val (.long p4), .second, .val (.long p5), .second, .val (.long lim), .second, .val (.long win), .second, .val (.long pv), .second, .val (.long cu), .second, .val (.long elp), .second, .val (.ref b1), .val (.long rr3), .second, .unset, .unset, .unset, .unset] [(.long (win - elp))])) (fun _ k => XS.lsub X3.here hx rfl (hb hby at_75) rfl k) ?_
    refine Go.of (T' := T3) (f' := (mkF m 78 #[.val (.long p1), .second, .val (.long p2), .second, .val (.long p3), .second, .val (.long p4), .second, .val (.long p5), .second, .val (.long lim), .second, .val (.long win), .second, .val (.long pv), .second, .val (.long cu), .second, .val (.long elp), .second, .val (.ref b1), .val (.long rr3), .second, .val (.long (win - elp)), .second, .unset, .unset] [])) (fun _ k => XS.lstore X3.here hx rfl (hb hby at_76) rfl (l' := #[.val (.long p1), .second, .val (.long p2), .second, .val (.long p3), .second, .val (.long p4), .second, .val (.long p5), .second, .val (.long lim), .second, .val (.long win), .second, .val (.long pv), .second, .val (.long cu), .second, .val (.long elp), .second, .val (.ref b1), .val (.long rr3), .second, .val (.long (win - elp)), .second, .unset, .unset]) rfl k) ?_
    refine Go.of (T' := T3) (f' := (mkF m 80 #[.val (.long p1), .second, .val (.long p2), .second, .val (.long p3), .second, .val (.long p4), .second, .val (.long p5), .second, .val (.long lim), .second, .val (.long win), .second, .val (.long pv), .second, .val (.long cu), .second, .val (.long elp), .second, .val (.ref b1), .val (.long rr3), .second, .val (.long (win - elp)), .second, .unset, .unset] [(.long rr3)])) (fun _ k => XS.lload X3.here hx rfl (hb hby at_78) rfl k) ?_
    refine Go.of (T' := T3) (f' := (mkF m 81 #[.val (.long p1), .second, .val (.long p2), .second, .val (.long p3), .second, .val (.long p4), .second, .val (.long p5), .second, .val (.long lim), .second, .val (.long win), .second, .val (.long pv), .second, .val (.long cu), .second, .val (.long elp), .second, .val (.ref b1), .val (.long rr3), .second, .val (.long (win - elp)), .second, .unset, .unset] [(.long (0 : Int64)), (.long rr3)])) (fun _ k => XS.lconst X3.here hx rfl (hb hby at_80) k) ?_
    refine Go.of (T' := T3) (f' := (mkF m 82 #[.val (.long p1), .second, .val (.long p2), .second, .val (.long p3), .second, .val (.long p4), .second, .val (.long p5), .second, .val (.long lim), .second, .val (.long win), .second, .val (.long pv), .second, .val (.long cu), .second, .val (.long elp), .second, .val (.ref b1), .val (.long rr3), .second, .val (.long (win - elp)), .second, .unset, .unset] [(.int (lcmpW rr3 (0 : Int64)))])) (fun _ k => XS.lcmp X3.here hx rfl (hb hby at_81) rfl k) ?_
    have hc82 : ¬ (rr3 < (0 : Int64)) := (by rw [jlt]; first | omega | (rw [z64]; omega))
    refine Go.of (T' := T3) (f' := (mkF m 87 #[.val (.long p1), .second, .val (.long p2), .second, .val (.long p3), .second, .val (.long p4), .second, .val (.long p5), .second, .val (.long lim), .second, .val (.long win), .second, .val (.long pv), .second, .val (.long cu), .second, .val (.long elp), .second, .val (.ref b1), .val (.long rr3), .second, .val (.long (win - elp)), .second, .unset, .unset] [])) (fun _ k => XS.ifYes X3.here hx rfl (pc0 := 82) (pc' := 87) rfl (hb hby at_82) rfl ((if0 _ _).trans (flt (mt (lw_lt _ _).mp hc82)).2.1) (by decide) (by decide) k) ?_
    refine Go.of (T' := T3) (f' := (mkF m 89 #[.val (.long p1), .second, .val (.long p2), .second, .val (.long p3), .second, .val (.long p4), .second, .val (.long p5), .second, .val (.long lim), .second, .val (.long win), .second, .val (.long pv), .second, .val (.long cu), .second, .val (.long elp), .second, .val (.ref b1), .val (.long rr3), .second, .val (.long (win - elp)), .second, .unset, .unset] [(.long rr3)])) (fun _ k => XS.lload X3.here hx rfl (hb hby at_87) rfl k) ?_
    refine Go.of (T' := T3) (f' := (mkF m 91 #[.val (.long p1), .second, .val (.long p2), .second, .val (.long p3), .second, .val (.long p4), .second, .val (.long p5), .second, .val (.long lim), .second, .val (.long win), .second, .val (.long pv), .second, .val (.long cu), .second, .val (.long elp), .second, .val (.ref b1), .val (.long rr3), .second, .val (.long (win - elp)), .second, .unset, .unset] [(.long (win - elp)), (.long rr3)])) (fun _ k => XS.lload X3.here hx rfl (hb hby at_89) rfl k) ?_
    refine Go.of (T' := T3) (f' := (mkF m 92 #[.val (.long p1), .second, .val (.long p2), .second, .val (.long p3), .second, .val (.long p4), .second, .val (.long p5), .second, .val (.long lim), .second, .val (.long win), .second, .val (.long pv), .second, .val (.long cu), .second, .val (.long elp), .second, .val (.ref b1), .val (.long rr3), .second, .val (.long (win - elp)), .second, .unset, .unset] [(.int (lcmpW rr3 (win - elp)))])) (fun _ k => XS.lcmp X3.here hx rfl (hb hby at_91) rfl k) ?_
    have hc92 : ¬ (rr3 < (win - elp)) := (by rw [jlt]; first | omega | (rw [z64]; omega))
    refine Go.of (T' := T3) (f' := (mkF m 149 #[.val (.long p1), .second, .val (.long p2), .second, .val (.long p3), .second, .val (.long p4), .second, .val (.long p5), .second, .val (.long lim), .second, .val (.long win), .second, .val (.long pv), .second, .val (.long cu), .second, .val (.long elp), .second, .val (.ref b1), .val (.long rr3), .second, .val (.long (win - elp)), .second, .unset, .unset] [])) (fun _ k => XS.ifYes X3.here hx rfl (pc0 := 92) (pc' := 149) rfl (hb hby at_92) rfl ((if0 _ _).trans (flt (mt (lw_lt _ _).mp hc92)).2.1) (by decide) (by decide) k) ?_
    refine Go.of (T' := T3) (f' := (mkF m 151 #[.val (.long p1), .second, .val (.long p2), .second, .val (.long p3), .second, .val (.long p4), .second, .val (.long p5), .second, .val (.long lim), .second, .val (.long win), .second, .val (.long pv), .second, .val (.long cu), .second, .val (.long elp), .second, .val (.ref b1), .val (.long rr3), .second, .val (.long (win - elp)), .second, .unset, .unset] [(.long rr3)])) (fun _ k => XS.lload X3.here hx rfl (hb hby at_149) rfl k) ?_
    refine Go.of (T' := T3) (f' := (mkF m 153 #[.val (.long p1), .second, .val (.long p2), .second, .val (.long p3), .second, .val (.long p4), .second, .val (.long p5), .second, .val (.long lim), .second, .val (.long win), .second, .val (.long pv), .second, .val (.long cu), .second, .val (.long elp), .second, .val (.ref b1), .val (.long rr3), .second, .val (.long (win - elp)), .second, .unset, .unset] [(.long (win - elp)), (.long rr3)])) (fun _ k => XS.lload X3.here hx rfl (hb hby at_151) rfl k) ?_
    refine Go.of (T' := T3) (f' := (mkF m 155 #[.val (.long p1), .second, .val (.long p2), .second, .val (.long p3), .second, .val (.long p4), .second, .val (.long p5), .second, .val (.long lim), .second, .val (.long win), .second, .val (.long pv), .second, .val (.long cu), .second, .val (.long elp), .second, .val (.ref b1), .val (.long rr3), .second, .val (.long (win - elp)), .second, .unset, .unset] [(.long win), (.long (win - elp)), (.long rr3)])) (fun _ k => XS.lload X3.here hx rfl (hb hby at_153) rfl k) ?_
    refine Go.of (T' := T3) (f' := (mkF m 156 #[.val (.long p1), .second, .val (.long p2), .second, .val (.long p3), .second, .val (.long p4), .second, .val (.long p5), .second, .val (.long lim), .second, .val (.long win), .second, .val (.long pv), .second, .val (.long cu), .second, .val (.long elp), .second, .val (.ref b1), .val (.long rr3), .second, .val (.long (win - elp)), .second, .unset, .unset] [(.long ((win - elp) + win)), (.long rr3)])) (fun _ k => XS.ladd X3.here hx rfl (hb hby at_155) rfl k) ?_
    refine Go.of (T' := T3) (f' := (mkF m 157 #[.val (.long p1), .second, .val (.long p2), .second, .val (.long p3), .second, .val (.long p4), .second, .val (.long p5), .second, .val (.long lim), .second, .val (.long win), .second, .val (.long pv), .second, .val (.long cu), .second, .val (.long elp), .second, .val (.ref b1), .val (.long rr3), .second, .val (.long (win - elp)), .second, .unset, .unset] [(.int (lcmpW rr3 ((win - elp) + win)))])) (fun _ k => XS.lcmp X3.here hx rfl (hb hby at_156) rfl k) ?_
    have hc157 : ¬ (rr3 < ((win - elp) + win)) := (by rw [jlt]; first | omega | (rw [z64]; omega))
    refine Go.of (T' := T3) (f' := (mkF m 230 #[.val (.long p1), .second, .val (.long p2), .second, .val (.long p3), .second, .val (.long p4), .second, .val (.long p5), .second, .val (.long lim), .second, .val (.long win), .second, .val (.long pv), .second, .val (.long cu), .second, .val (.long elp), .second, .val (.ref b1), .val (.long rr3), .second, .val (.long (win - elp)), .second, .unset, .unset] [])) (fun _ k => XS.ifYes X3.here hx rfl (pc0 := 157) (pc' := 230) rfl (hb hby at_157) rfl ((if0 _ _).trans (flt (mt (lw_lt _ _).mp hc157)).2.1) (by decide) (by decide) k) ?_
    refine Go.of (T' := T3) (f' := (mkF m 232 #[.val (.long p1), .second, .val (.long p2), .second, .val (.long p3), .second, .val (.long p4), .second, .val (.long p5), .second, .val (.long lim), .second, .val (.long win), .second, .val (.long pv), .second, .val (.long cu), .second, .val (.long elp), .second, .val (.ref b1), .val (.long rr3), .second, .val (.long (win - elp)), .second, .unset, .unset] [(.long rr3)])) (fun _ k => XS.lload X3.here hx rfl (hb hby at_230) rfl k) ?_
    refine Go.of (T' := T3) (f' := (mkF m 234 #[.val (.long p1), .second, .val (.long p2), .second, .val (.long p3), .second, .val (.long p4), .second, .val (.long p5), .second, .val (.long lim), .second, .val (.long win), .second, .val (.long pv), .second, .val (.long cu), .second, .val (.long elp), .second, .val (.ref b1), .val (.long rr3), .second, .val (.long (win - elp)), .second, .unset, .unset] [(.long (win - elp)), (.long rr3)])) (fun _ k => XS.lload X3.here hx rfl (hb hby at_232) rfl k) ?_
    refine Go.of (T' := T3) (f' := (mkF m 236 #[.val (.long p1), .second, .val (.long p2), .second, .val (.long p3), .second, .val (.long p4), .second, .val (.long p5), .second, .val (.long lim), .second, .val (.long win), .second, .val (.long pv), .second, .val (.long cu), .second, .val (.long elp), .second, .val (.ref b1), .val (.long rr3), .second, .val (.long (win - elp)), .second, .unset, .unset] [(.long win), (.long (win - elp)), (.long rr3)])) (fun _ k => XS.lload X3.here hx rfl (hb hby at_234) rfl k) ?_
    refine Go.of (T' := T3) (f' := (mkF m 237 #[.val (.long p1), .second, .val (.long p2), .second, .val (.long p3), .second, .val (.long p4), .second, .val (.long p5), .second, .val (.long lim), .second, .val (.long win), .second, .val (.long pv), .second, .val (.long cu), .second, .val (.long elp), .second, .val (.ref b1), .val (.long rr3), .second, .val (.long (win - elp)), .second, .unset, .unset] [(.long ((win - elp) + win)), (.long rr3)])) (fun _ k => XS.ladd X3.here hx rfl (hb hby at_236) rfl k) ?_
    refine Go.of (T' := T3) (f' := (mkF m 238 #[.val (.long p1), .second, .val (.long p2), .second, .val (.long p3), .second, .val (.long p4), .second, .val (.long p5), .second, .val (.long lim), .second, .val (.long win), .second, .val (.long pv), .second, .val (.long cu), .second, .val (.long elp), .second, .val (.ref b1), .val (.long rr3), .second, .val (.long (win - elp)), .second, .unset, .unset] [(.int (lcmpW rr3 ((win - elp) + win)))])) (fun _ k => XS.lcmp X3.here hx rfl (hb hby at_237) rfl k) ?_
    have hc238 : rr3 = ((win - elp) + win) := (by rw [jeq, eB]; omega)
    refine Go.of (T' := T3) (f' := (mkF m 241 #[.val (.long p1), .second, .val (.long p2), .second, .val (.long p3), .second, .val (.long p4), .second, .val (.long p5), .second, .val (.long lim), .second, .val (.long win), .second, .val (.long pv), .second, .val (.long cu), .second, .val (.long elp), .second, .val (.ref b1), .val (.long rr3), .second, .val (.long (win - elp)), .second, .unset, .unset] [])) (fun _ k => XS.ifNo X3.here hx rfl (hb hby at_238) rfl ((if0 _ _).trans (teq ((lw_eq _ _).mpr hc238)).2) k) ?_
    refine Go.of (T' := T3) (f' := (mkF m 243 #[.val (.long p1), .second, .val (.long p2), .second, .val (.long p3), .second, .val (.long p4), .second, .val (.long p5), .second, .val (.long lim), .second, .val (.long win), .second, .val (.long pv), .second, .val (.long cu), .second, .val (.long elp), .second, .val (.ref b1), .val (.long rr3), .second, .val (.long (win - elp)), .second, .unset, .unset] [(.long lim)])) (fun _ k => XS.lload X3.here hx rfl (hb hby at_241) rfl k) ?_
    refine Go.of (T' := T3) (f' := (mkF m 245 #[.val (.long p1), .second, .val (.long p2), .second, .val (.long p3), .second, .val (.long p4), .second, .val (.long p5), .second, .val (.long lim), .second, .val (.long win), .second, .val (.long pv), .second, .val (.long cu), .second, .val (.long elp), .second, .val (.ref b1), .val (.long rr3), .second, .val (.long (win - elp)), .second, .unset, .unset] [(.long win), (.long lim)])) (fun _ k => XS.lload X3.here hx rfl (hb hby at_243) rfl k) ?_
    refine Go.of (T' := T3) (f' := (mkF m 247 #[.val (.long p1), .second, .val (.long p2), .second, .val (.long p3), .second, .val (.long p4), .second, .val (.long p5), .second, .val (.long lim), .second, .val (.long win), .second, .val (.long pv), .second, .val (.long cu), .second, .val (.long elp), .second, .val (.ref b1), .val (.long rr3), .second, .val (.long (win - elp)), .second, .unset, .unset] [(.long pv), (.long win), (.long lim)])) (fun _ k => XS.lload X3.here hx rfl (hb hby at_245) rfl k) ?_
    refine Go.of (T' := T3) (f' := (mkF m 249 #[.val (.long p1), .second, .val (.long p2), .second, .val (.long p3), .second, .val (.long p4), .second, .val (.long p5), .second, .val (.long lim), .second, .val (.long win), .second, .val (.long pv), .second, .val (.long cu), .second, .val (.long elp), .second, .val (.ref b1), .val (.long rr3), .second, .val (.long (win - elp)), .second, .unset, .unset] [(.long cu), (.long pv), (.long win), (.long lim)])) (fun _ k => XS.lload X3.here hx rfl (hb hby at_247) rfl k) ?_
    refine Go.of (T' := T3) (f' := (mkF m 251 #[.val (.long p1), .second, .val (.long p2), .second, .val (.long p3), .second, .val (.long p4), .second, .val (.long p5), .second, .val (.long lim), .second, .val (.long win), .second, .val (.long pv), .second, .val (.long cu), .second, .val (.long elp), .second, .val (.ref b1), .val (.long rr3), .second, .val (.long (win - elp)), .second, .unset, .unset] [(.long win), (.long cu), (.long pv), (.long win), (.long lim)])) (fun _ k => XS.lload X3.here hx rfl (hb hby at_249) rfl k) ?_
    refine Go.of (T' := T3) (f' := (mkF m 252 #[.val (.long p1), .second, .val (.long p2), .second, .val (.long p3), .second, .val (.long p4), .second, .val (.long p5), .second, .val (.long lim), .second, .val (.long win), .second, .val (.long pv), .second, .val (.long cu), .second, .val (.long elp), .second, .val (.ref b1), .val (.long rr3), .second, .val (.long (win - elp)), .second, .unset, .unset] [(.long (1 : Int64)), (.long win), (.long cu), (.long pv), (.long win), (.long lim)])) (fun _ k => XS.lconst X3.here hx rfl (hb hby at_251) k) ?_
    refine Go.of (T' := T3) (f' := (mkF m 253 #[.val (.long p1), .second, .val (.long p2), .second, .val (.long p3), .second, .val (.long p4), .second, .val (.long p5), .second, .val (.long lim), .second, .val (.long win), .second, .val (.long pv), .second, .val (.long cu), .second, .val (.long elp), .second, .val (.ref b1), .val (.long rr3), .second, .val (.long (win - elp)), .second, .unset, .unset] [(.long (win - (1 : Int64))), (.long cu), (.long pv), (.long win), (.long lim)])) (fun _ k => XS.lsub X3.here hx rfl (hb hby at_252) rfl k) ?_
    refine goS X3 hx hZ hown (hw _ (List.mem_of_getElem? (i := 57) rfl)) (hw _ (List.mem_of_getElem? (i := 58) rfl)) (hw _ (List.mem_of_getElem? (i := 59) rfl)) (hw _ (List.mem_of_getElem? (i := 60) rfl)) (by decide) (C := 0) (S := 0) ((rm_ok l Z a0 hw lim win pv cu (win - (1 : Int64)) h2 ).bk (W := 0) hZ (hw _ (List.mem_of_getElem? (i := 60) rfl)) (hw _ (List.mem_of_getElem? (i := 59) rfl)) (by decide) (by decide)) e3 (argsL := [(.long lim), (.long win), (.long pv), (.long cu), (.long (win - (1 : Int64)))]) (rest := []) (by rw [hml]; rfl) (lenOf pd__JJJJJ_Z rfl) rfl rfl (hb hby at_253) (Nat.le_of_eq rfl) (by decide) (by decide) ?_
    intro v9 T9 L9 X9 hQ9
    obtain ⟨nq9, e9, rfl⟩ := hQ9
    replace X9 := standNil X9 nq9
    show Go p e below P T9 (mkF m 256 #[.val (.long p1), .second, .val (.long p2), .second, .val (.long p3), .second, .val (.long p4), .second, .val (.long p5), .second, .val (.long lim), .second, .val (.long win), .second, .val (.long pv), .second, .val (.long cu), .second, .val (.long elp), .second, .val (.ref b1), .val (.long rr3), .second, .val (.long (win - elp)), .second, .unset, .unset] [(.int (bi (okE lim win pv cu (win - (1 : Int64)))))])
    have hc256 : ¬ (okE lim win pv cu (win - (1 : Int64))) := fun q => hr0 (by have := (okE_iff s1 s2 hpv hcu (by omega) (by omega)).mp q; rw [eL] at this; exact this)
    refine Go.of (T' := T9) (f' := (mkF m 259 #[.val (.long p1), .second, .val (.long p2), .second, .val (.long p3), .second, .val (.long p4), .second, .val (.long p5), .second, .val (.long lim), .second, .val (.long win), .second, .val (.long pv), .second, .val (.long cu), .second, .val (.long elp), .second, .val (.ref b1), .val (.long rr3), .second, .val (.long (win - elp)), .second, .unset, .unset] [])) (fun _ k => XS.ifNo X9.here hx rfl (hb hby at_256) rfl ((if0 _ _).trans (teq (bi_f hc256)).2) k) ?_
    refine Go.of (T' := T9) (f' := (mkF m 261 #[.val (.long p1), .second, .val (.long p2), .second, .val (.long p3), .second, .val (.long p4), .second, .val (.long p5), .second, .val (.long lim), .second, .val (.long win), .second, .val (.long pv), .second, .val (.long cu), .second, .val (.long elp), .second, .val (.ref b1), .val (.long rr3), .second, .val (.long (win - elp)), .second, .unset, .unset] [(.long lim)])) (fun _ k => XS.lload X9.here hx rfl (hb hby at_259) rfl k) ?_
    refine Go.of (T' := T9) (f' := (mkF m 263 #[.val (.long p1), .second, .val (.long p2), .second, .val (.long p3), .second, .val (.long p4), .second, .val (.long p5), .second, .val (.long lim), .second, .val (.long win), .second, .val (.long pv), .second, .val (.long cu), .second, .val (.long elp), .second, .val (.ref b1), .val (.long rr3), .second, .val (.long (win - elp)), .second, .unset, .unset] [(.long win), (.long lim)])) (fun _ k => XS.lload X9.here hx rfl (hb hby at_261) rfl k) ?_
    refine Go.of (T' := T9) (f' := (mkF m 265 #[.val (.long p1), .second, .val (.long p2), .second, .val (.long p3), .second, .val (.long p4), .second, .val (.long p5), .second, .val (.long lim), .second, .val (.long win), .second, .val (.long pv), .second, .val (.long cu), .second, .val (.long elp), .second, .val (.ref b1), .val (.long rr3), .second, .val (.long (win - elp)), .second, .unset, .unset] [(.long cu), (.long win), (.long lim)])) (fun _ k => XS.lload X9.here hx rfl (hb hby at_263) rfl k) ?_
    refine Go.of (T' := T9) (f' := (mkF m 266 #[.val (.long p1), .second, .val (.long p2), .second, .val (.long p3), .second, .val (.long p4), .second, .val (.long p5), .second, .val (.long lim), .second, .val (.long win), .second, .val (.long pv), .second, .val (.long cu), .second, .val (.long elp), .second, .val (.ref b1), .val (.long rr3), .second, .val (.long (win - elp)), .second, .unset, .unset] [(.long (0 : Int64)), (.long cu), (.long win), (.long lim)])) (fun _ k => XS.lconst X9.here hx rfl (hb hby at_265) k) ?_
    refine Go.of (T' := T9) (f' := (mkF m 268 #[.val (.long p1), .second, .val (.long p2), .second, .val (.long p3), .second, .val (.long p4), .second, .val (.long p5), .second, .val (.long lim), .second, .val (.long win), .second, .val (.long pv), .second, .val (.long cu), .second, .val (.long elp), .second, .val (.ref b1), .val (.long rr3), .second, .val (.long (win - elp)), .second, .unset, .unset] [(.long win), (.long (0 : Int64)), (.long cu), (.long win), (.long lim)])) (fun _ k => XS.lload X9.here hx rfl (hb hby at_266) rfl k) ?_
    refine Go.of (T' := T9) (f' := (mkF m 269 #[.val (.long p1), .second, .val (.long p2), .second, .val (.long p3), .second, .val (.long p4), .second, .val (.long p5), .second, .val (.long lim), .second, .val (.long win), .second, .val (.long pv), .second, .val (.long cu), .second, .val (.long elp), .second, .val (.ref b1), .val (.long rr3), .second, .val (.long (win - elp)), .second, .unset, .unset] [(.long (1 : Int64)), (.long win), (.long (0 : Int64)), (.long cu), (.long win), (.long lim)])) (fun _ k => XS.lconst X9.here hx rfl (hb hby at_268) k) ?_
    refine Go.of (T' := T9) (f' := (mkF m 270 #[.val (.long p1), .second, .val (.long p2), .second, .val (.long p3), .second, .val (.long p4), .second, .val (.long p5), .second, .val (.long lim), .second, .val (.long win), .second, .val (.long pv), .second, .val (.long cu), .second, .val (.long elp), .second, .val (.ref b1), .val (.long rr3), .second, .val (.long (win - elp)), .second, .unset, .unset] [(.long (win - (1 : Int64))), (.long (0 : Int64)), (.long cu), (.long win), (.long lim)])) (fun _ k => XS.lsub X9.here hx rfl (hb hby at_269) rfl k) ?_
    refine goS X9 hx hZ hown (hw _ (List.mem_of_getElem? (i := 57) rfl)) (hw _ (List.mem_of_getElem? (i := 58) rfl)) (hw _ (List.mem_of_getElem? (i := 59) rfl)) (hw _ (List.mem_of_getElem? (i := 60) rfl)) (by decide) (C := 0) (S := 0) ((rm_ok l Z a0 hw lim win cu (0 : Int64) (win - (1 : Int64)) h2 ).bk (W := 0) hZ (hw _ (List.mem_of_getElem? (i := 60) rfl)) (hw _ (List.mem_of_getElem? (i := 59) rfl)) (by decide) (by decide)) e9 (argsL := [(.long lim), (.long win), (.long cu), (.long (0 : Int64)), (.long (win - (1 : Int64)))]) (rest := []) (by rw [hml]; rfl) (lenOf pd__JJJJJ_Z rfl) rfl rfl (hb hby at_270) (Nat.le_of_eq rfl) (by decide) (by decide) ?_
    intro v10 T10 L10 X10 hQ10
    obtain ⟨nq10, e10, rfl⟩ := hQ10
    replace X10 := standNil X10 nq10
    show Go p e below P T10 (mkF m 273 #[.val (.long p1), .second, .val (.long p2), .second, .val (.long p3), .second, .val (.long p4), .second, .val (.long p5), .second, .val (.long lim), .second, .val (.long win), .second, .val (.long pv), .second, .val (.long cu), .second, .val (.long elp), .second, .val (.ref b1), .val (.long rr3), .second, .val (.long (win - elp)), .second, .unset, .unset] [(.int (bi (okE lim win cu (0 : Int64) (win - (1 : Int64)))))])
    have hc273 : ¬ (okE lim win cu (0 : Int64) (win - (1 : Int64))) := fun q => hr4 (by have := (okE_iff s1 s2 hcu sm0 (by omega) (by omega)).mp q; rw [eL] at this; exact this)
    refine Go.of (T' := T10) (f' := (mkF m 276 #[.val (.long p1), .second, .val (.long p2), .second, .val (.long p3), .second, .val (.long p4), .second, .val (.long p5), .second, .val (.long lim), .second, .val (.long win), .second, .val (.long pv), .second, .val (.long cu), .second, .val (.long elp), .second, .val (.ref b1), .val (.long rr3), .second, .val (.long (win - elp)), .second, .unset, .unset] [])) (fun _ k => XS.ifNo X10.here hx rfl (hb hby at_273) rfl ((if0 _ _).trans (teq (bi_f hc273)).2) k) ?_
    refine Go.of (T' := T10) (f' := (mkF m 277 #[.val (.long p1), .second, .val (.long p2), .second, .val (.long p3), .second, .val (.long p4), .second, .val (.long p5), .second, .val (.long lim), .second, .val (.long win), .second, .val (.long pv), .second, .val (.long cu), .second, .val (.long elp), .second, .val (.ref b1), .val (.long rr3), .second, .val (.long (win - elp)), .second, .unset, .unset] [(.int (1 : Int32))])) (fun _ k => XS.iconst X10.here hx rfl (hb hby at_276) k) ?_
    refine Go.of (T' := T10) (f' := (mkF m 281 #[.val (.long p1), .second, .val (.long p2), .second, .val (.long p3), .second, .val (.long p4), .second, .val (.long p5), .second, .val (.long lim), .second, .val (.long win), .second, .val (.long pv), .second, .val (.long cu), .second, .val (.long elp), .second, .val (.ref b1), .val (.long rr3), .second, .val (.long (win - elp)), .second, .unset, .unset] [(.int (1 : Int32))])) (fun _ k => XS.goto X10.here hx rfl (pc0 := 277) (pc' := 281) rfl (hb hby at_277) (by decide) (by decide) k) ?_
    exact goRetI (Q := fun v h L => v = some (.int 1) ∧ Mv h0 h [] L) X10 hx (t := .boolean) hret hlk rfl (by simp) (hb hby at_281) K (by decide) (by decide) e10 (⟨rfl, M2⟩)
set_option maxRecDepth 65536 in
set_option maxHeartbeats 40000000 in
theorem comes_1 {Post : Tables → Env → Array Value → State → Outcome → State → Prop} (hpost : ∀ tb e args s v u, (limb_1_1.after args s (.returned v) u = true ∧ limb_1_2.after args s (.returned v) u = true ∧ True) → FrameEnd s (.returned v) u (Jvm.fieldLocs frame_1_writes args s ++ Jvm.arrayLocs frame_1_arrays args s ++ Jvm.staticLocs frame_1_statics s) 16 128 → Post tb e args s (.returned v) u) :
    ArmFor flags0 classFile x code maxLocals ret World_1 tables_1 room_1 Calls_1 rest_1 Pre_1 Post := by
  intro l hfl _ _ p e ha hc hk s m args below hf hA hF happ hP
  obtain ⟨hcalls, hrest, hpre⟩ := hP
  obtain ⟨-, -, -, hnamed, -, -, -, hat⟩ := (Spec.applies_iff hf).mp happ
  obtain ⟨hg, hn⟩ := and_e (Cond.before_iff.mp (show (Jvm.Cond.and given_1 narrow_1).before args s = true from hpre))
  obtain ⟨g1, g2⟩ := and_e hg
  obtain ⟨g3, g4⟩ := and_e g2
  obtain ⟨g5, g6⟩ := and_e g4
  obtain ⟨g7, g8⟩ := and_e g6
  obtain ⟨g9, g10⟩ := and_e g8
  obtain ⟨w0, w1, w2, w3, w4, rfl⟩ : ∃ w0 w1 w2 w3 w4 : Value, args = #[w0, w1, w2, w3, w4] := by
    have hs : args.size = 5 := by simpa [Cond.value, given_1] using g1
    obtain ⟨L⟩ := args
    match L, hs with
    | [w0, w1, w2, w3, w4], _ => exact ⟨w0, w1, w2, w3, w4, rfl⟩
  have hw := fun d (hd : d ∈ tables_1) => atoms_spec (ws := Jvm.Cond.code x code maxLocals ret :: tables_1) hat d (List.mem_cons_of_mem _ hd)
  have hfit : Fit s := fun {y c} hc i hi => by
    obtain ⟨ha, rfl⟩ := Array.getElem?_eq_some_iff.mp hc
    have q := List.all_eq_true.mp ((Array.all_eq_true_iff_forall_mem.mp hF) _ (Array.getElem_mem ha)) i (List.mem_range.mpr hi)
    simpa [Array.getElem?_eq_getElem hi] using q
  obtain ⟨i0, ei0⟩ := isL_v g3
  obtain rfl : w0 = (.long i0) := Option.some.inj ei0
  obtain ⟨i1, ei1⟩ := isL_v g5
  obtain rfl : w1 = (.long i1) := Option.some.inj ei1
  obtain ⟨i2, ei2⟩ := isL_v g7
  obtain rfl : w2 = (.long i2) := Option.some.inj ei2
  obtain ⟨i3, ei3⟩ := isL_v g9
  obtain rfl : w3 = (.long i3) := Option.some.inj ei3
  obtain ⟨i4, ei4⟩ := isL_v g10
  obtain rfl : w4 = (.long i4) := Option.some.inj ei4
  obtain ⟨n, o, h1, h2, h3, _, L, rfl, ⟨rfl, M⟩, hq⟩ := rm_law l s _ hw i0 i1 i2 i3 i4  s.heap  tables_1 p e ha hc hk s m _ below hf ((Spec.applies_iff_loose hf).mp happ).1 ⟨rfl, State.Warmed39.refl s, rfl⟩ trivial
  refine ⟨n, _, h1, h2, h3, hpost _ _ _ _ _ _ ⟨Cond.after_iff.mpr rfl, Cond.after_iff.mpr (eq_i res_at (Term.int_eval (1)) rfl), trivial⟩ ⟨hq.1, hq.2.1, (hq.2.2.sift fun y hy => Or.inr (M.fr y hy)).mono (by decide) (by decide)⟩⟩
theorem main_1_1 : Claimed_1_1 := comes_1 fun _ _ _ _ _ _ h hF => ⟨h.1, hF⟩
theorem main_1_2 : Claimed_1_2 := comes_1 fun _ _ _ _ _ _ h hF => ⟨h.2.1, hF⟩
end Jvm.Pilot.@@N@@
namespace Jvm.Pilot.@@N@@
open Jvm Jvm.ClassFile Sem Op Lib Jvm.Free Jvm.Stand Jvm.Pilot.@@N@@.Jvm.D
/-! MADE BY PROGRAM (witnessworld.py) out of the Statement's table words and the real class files: 16 classes; the members and pool entries that the words name. The judged class is class 1, her method 2. -/
namespace start1
open Jvm.ClassFile
def u (s : String) : CpInfo := .utf8 (stringToUtf16 s)
/-- a pool by its gaps: so many unusable entries, then the entry; so many at the end -/
def gap : Nat → List CpInfo → List CpInfo
  | 0, r => r
  | n + 1, r => .unusable :: gap n r
def poolList (es : List (Nat × CpInfo)) (last : Nat) : List CpInfo := es.foldr (fun e r => gap e.1 (e.2 :: r)) (gap last [])
def pool (es : List (Nat × CpInfo)) (last : Nat) : Array CpInfo := ⟨poolList es last⟩
def fileOf (pool : Array CpInfo) (this : Nat) (attrs : Array Attribute := #[]) (ms : Array MethodInfo := #[]) (fl : Nat := 33) (sup : Nat := 0) (ifs : Array Nat := #[]) (fds : Array FieldInfo := #[]) : ClassFile where
  minorVersion := 0
  majorVersion := 65
  constantPool := pool
  accessFlags := fl
  thisClass := this
  superClass := sup
  interfaces := ifs
  fields := fds
  methods := ms
  attributes := attrs
def plain (name : String) (sup : Option ClassId) : Class where
  name := name
  kind := .ordinary
  loader := none
  accessFlags := 33
  super := sup
  interfaces := #[]
  cf := none
  fields := #[]
  methods := #[]
  instanceTypes := #[]
  staticTypes := #[]
  resolved := #[]
  callSites := []
  init := .initialized
  statics := none
  mirror := none

def pool0 : Array CpInfo := pool [(5, u "<init>"), (0, u "()V"), (1, .class_ 10), (1, u "java/lang/Object")] 113

def k0c0 : Code := { maxStack := 0, maxLocals := 1, code := object_method_1_code, exceptionTable := #[], attributes := #[] }
def k0m0 : Method := { name := "<init>", desc := "()V", sig := { parameters := [], returnType := none }, accessFlags := 1, code := some k0c0 }
/-- java/lang/Object -/
def k0 : Class := { plain "java/lang/Object" none with
  accessFlags := 33
  interfaces := #[]
  cf := some (fileOf pool0 8 #[] #[{ accessFlags := 1, nameIndex := 5, descriptorIndex := 6, attributes := #[] }] 33 0 #[] #[])
  fields := #[]
  methods := #[k0m0]
  instanceTypes := #[]
  staticTypes := #[]
  resolved := Array.replicate 124 none
  statics := none }

def pool1 : Array CpInfo := pool [(2, .class_ 4), (1, u "java/lang/Object"), (0, u "<init>"), (0, u "()V"), (0, .long 1073741823), (1, .long 9223372036854775807), (1, .class_ 12), (0, u "com/example/sluiced/sluiced/limiter/SlidingWindowCounter"), (0, .methodref 11 14), (0, .nameAndType 5 15), (0, u "(JJ)V"), (0, .methodref 11 17), (0, .nameAndType 18 19), (0, u "timeUntilAdmitted"), (0, u "(JJJ)J"), (0, .methodref 21 22), (0, .class_ 23), (0, .nameAndType 24 25), (0, u "com/example/sluiced/sluiced/limiter/SlidingWindowCounterTimeUntilAdmittedPinLaw"), (0, u "ok"), (0, u "(JJJJJ)Z"), (3, u "law")] 2

def k1m0 : Method := { name := "<init>", desc := "()V", sig := { parameters := [], returnType := none }, accessFlags := 1, code := none }
def k1c1 : Code := { maxStack := 6, maxLocals := 10, code := method_2_code, exceptionTable := #[], attributes := #[] }
def k1m1 : Method := { name := "ok", desc := "(JJJJJ)Z", sig := { parameters := [.long, .long, .long, .long, .long], returnType := some .boolean }, accessFlags := 10, code := some k1c1 }
def k1c2 : Code := { maxStack := 12, maxLocals := 27, code := code, exceptionTable := #[], attributes := #[] }
def k1m2 : Method := { name := "law", desc := "(JJJJJ)Z", sig := { parameters := [.long, .long, .long, .long, .long], returnType := some .boolean }, accessFlags := 9, code := some k1c2 }
/-- com/example/sluiced/sluiced/limiter/SlidingWindowCounterTimeUntilAdmittedPinLaw -/
def k1 : Class := { plain "com/example/sluiced/sluiced/limiter/SlidingWindowCounterTimeUntilAdmittedPinLaw" (some 0) with
  accessFlags := 49
  interfaces := #[]
  cf := some (fileOf pool1 21 #[] #[{ accessFlags := 1, nameIndex := 5, descriptorIndex := 6, attributes := #[] }, { accessFlags := 10, nameIndex := 24, descriptorIndex := 25, attributes := #[] }, { accessFlags := 9, nameIndex := 29, descriptorIndex := 25, attributes := #[] }] 49 2 #[] #[])
  fields := #[]
  methods := #[k1m0, k1m1, k1m2]
  instanceTypes := #[]
  staticTypes := #[]
  resolved := Array.replicate 32 none
  statics := none }

def pool2 : Array CpInfo := pool [(1, .methodref 2 3), (0, .class_ 4), (0, .nameAndType 5 6), (0, u "java/lang/Object"), (0, u "<init>"), (0, u "()V"), (0, .class_ 8), (0, u "java/lang/Record")] 13

def k2c0 : Code := { maxStack := 1, maxLocals := 1, code := jdk_30_method_1_code, exceptionTable := #[], attributes := #[] }
def k2m0 : Method := { name := "<init>", desc := "()V", sig := { parameters := [], returnType := none }, accessFlags := 4, code := some k2c0 }
/-- java/lang/Record -/
def k2 : Class := { plain "java/lang/Record" (some 0) with
  accessFlags := 1057
  interfaces := #[]
  cf := some (fileOf pool2 7 #[] #[{ accessFlags := 4, nameIndex := 5, descriptorIndex := 6, attributes := #[] }] 1057 2 #[] #[])
  fields := #[]
  methods := #[k2m0]
  instanceTypes := #[]
  staticTypes := #[]
  resolved := Array.replicate 22 none
  statics := none }

def pool3 : Array CpInfo := pool [(1, .methodref 2 3), (0, .class_ 4), (0, .nameAndType 5 6), (0, u "java/lang/Record"), (0, u "<init>"), (0, u "()V"), (10, .fieldref 18 19), (0, .class_ 20), (0, .nameAndType 21 22), (0, u "com/example/sluiced/sluiced/limiter/SlidingWindowCounter"), (0, u "limit"), (0, u "J"), (0, .fieldref 18 24), (0, .nameAndType 25 22), (0, u "window"), (0, .methodref 18 27), (0, .nameAndType 28 29), (0, u "checkArguments"), (0, u "(JJJ)V"), (0, .methodref 18 31), (0, .nameAndType 32 33), (0, u "weighsWithinLimit"), (0, u "(JJJ)Z"), (0, .methodref 18 35), (0, .nameAndType 36 37), (0, u "firstAdmitting"), (0, u "(JJJ)J"), (0, .methodref 39 40), (0, .class_ 41), (0, .nameAndType 42 43), (0, u "java/lang/Math"), (0, u "addExact"), (0, u "(JJ)J"), (0, .long 2), (5, .methodref 18 51), (0, .nameAndType 52 53), (0, u "compareProducts"), (0, u "(JJJJ)I"), (0, .methodref 39 55), (0, .nameAndType 56 43), (0, u "multiplyHigh"), (0, .methodref 58 59), (0, .class_ 60), (0, .nameAndType 61 62), (0, u "java/lang/Long"), (0, u "compare"), (0, u "(JJ)I"), (0, .methodref 58 64), (0, .nameAndType 65 62), (0, u "compareUnsigned"), (12, u "(JJ)V"), (5, u "timeUntilAdmitted")] 40

def k3c0 : Code := { maxStack := 4, maxLocals := 5, code := prog_19_method_1_code, exceptionTable := #[], attributes := #[] }
def k3m0 : Method := { name := "<init>", desc := "(JJ)V", sig := { parameters := [.long, .long], returnType := none }, accessFlags := 1, code := some k3c0 }
def k3c1 : Code := { maxStack := 9, maxLocals := 11, code := prog_19_method_3_code, exceptionTable := #[], attributes := #[] }
def k3m1 : Method := { name := "timeUntilAdmitted", desc := "(JJJ)J", sig := { parameters := [.long, .long, .long], returnType := some .long }, accessFlags := 1, code := some k3c1 }
def k3c2 : Code := { maxStack := 6, maxLocals := 7, code := prog_19_method_5_code, exceptionTable := #[], attributes := #[] }
def k3m2 : Method := { name := "checkArguments", desc := "(JJJ)V", sig := { parameters := [.long, .long, .long], returnType := none }, accessFlags := 2, code := some k3c2 }
def k3c3 : Code := { maxStack := 8, maxLocals := 9, code := prog_19_method_6_code, exceptionTable := #[], attributes := #[] }
def k3m3 : Method := { name := "weighsWithinLimit", desc := "(JJJ)Z", sig := { parameters := [.long, .long, .long], returnType := some .boolean }, accessFlags := 2, code := some k3c3 }
def k3c4 : Code := { maxStack := 7, maxLocals := 13, code := prog_19_method_7_code, exceptionTable := #[], attributes := #[] }
def k3m4 : Method := { name := "firstAdmitting", desc := "(JJJ)J", sig := { parameters := [.long, .long, .long], returnType := some .long }, accessFlags := 2, code := some k3c4 }
def k3c5 : Code := { maxStack := 6, maxLocals := 12, code := prog_19_method_8_code, exceptionTable := #[], attributes := #[] }
def k3m5 : Method := { name := "compareProducts", desc := "(JJJJ)I", sig := { parameters := [.long, .long, .long, .long], returnType := some .int }, accessFlags := 10, code := some k3c5 }
/-- com/example/sluiced/sluiced/limiter/SlidingWindowCounter -/
def k3 : Class := { plain "com/example/sluiced/sluiced/limiter/SlidingWindowCounter" (some 2) with
  accessFlags := 49
  interfaces := #[]
  cf := some (fileOf pool3 18 #[] #[{ accessFlags := 1, nameIndex := 5, descriptorIndex := 78, attributes := #[] }, { accessFlags := 1, nameIndex := 84, descriptorIndex := 37, attributes := #[] }, { accessFlags := 2, nameIndex := 28, descriptorIndex := 29, attributes := #[] }, { accessFlags := 2, nameIndex := 32, descriptorIndex := 33, attributes := #[] }, { accessFlags := 2, nameIndex := 36, descriptorIndex := 37, attributes := #[] }, { accessFlags := 10, nameIndex := 52, descriptorIndex := 53, attributes := #[] }] 49 2 #[] #[{ accessFlags := 18, nameIndex := 21, descriptorIndex := 22, attributes := #[] }, { accessFlags := 18, nameIndex := 25, descriptorIndex := 22, attributes := #[] }])
  fields := #[{ name := "limit", type := .long, accessFlags := 18, slot := 0, constantValue := 0 }, { name := "window", type := .long, accessFlags := 18, slot := 1, constantValue := 0 }]
  methods := #[k3m0, k3m1, k3m2, k3m3, k3m4, k3m5]
  instanceTypes := #[.long, .long]
  staticTypes := #[]
  resolved := Array.replicate 125 none
  statics := none }

def pool4 : Array CpInfo := pool [(1, .class_ 2), (0, u "java/lang/Math"), (1, .class_ 6), (1, u "java/lang/Object"), (0, u "<init>"), (0, u "()V"), (89, .class_ 100), (1, u "java/lang/Math$RandomNumberGeneratorHolder"), (20, u "(JJ)J"), (16, .long 4294967295), (3, u "multiplyHigh"), (29, u "negativeZeroFloatBits"), (0, u "J"), (2, u "negativeZeroDoubleBits"), (68, u "$assertionsDisabled"), (0, u "Z"), (91, u "twoToTheDoubleScaleDown"), (0, u "D"), (4, u "twoToTheDoubleScaleUp"), (9, u "E"), (3, u "PI"), (2, u "TAU"), (2, u "DEGREES_TO_RADIANS"), (0, u "RADIANS_TO_DEGREES"), (27, u "addExact")] 66

def k4m0 : Method := { name := "<init>", desc := "()V", sig := { parameters := [], returnType := none }, accessFlags := 2, code := none }
def k4c1 : Code := { maxStack := 6, maxLocals := 6, code := jdk_29_method_25_code, exceptionTable := #[], attributes := #[] }
def k4m1 : Method := { name := "addExact", desc := "(JJ)J", sig := { parameters := [.long, .long], returnType := some .long }, accessFlags := 9, code := some k4c1 }
def k4c2 : Code := { maxStack := 6, maxLocals := 20, code := jdk_29_method_45_code, exceptionTable := #[], attributes := #[] }
def k4m2 : Method := { name := "multiplyHigh", desc := "(JJ)J", sig := { parameters := [.long, .long], returnType := some .long }, accessFlags := 9, code := some k4c2 }
/-- java/lang/Math -/
def k4 : Class := { plain "java/lang/Math" (some 0) with
  accessFlags := 49
  interfaces := #[]
  cf := some (fileOf pool4 1 #[.nestMembers #[98]] #[{ accessFlags := 2, nameIndex := 7, descriptorIndex := 8, attributes := #[] }, { accessFlags := 9, nameIndex := 393, descriptorIndex := 121, attributes := #[] }, { accessFlags := 9, nameIndex := 142, descriptorIndex := 121, attributes := #[] }] 49 4 #[] #[{ accessFlags := 25, nameIndex := 354, descriptorIndex := 339, attributes := #[] }, { accessFlags := 25, nameIndex := 358, descriptorIndex := 339, attributes := #[] }, { accessFlags := 25, nameIndex := 361, descriptorIndex := 339, attributes := #[] }, { accessFlags := 26, nameIndex := 364, descriptorIndex := 339, attributes := #[] }, { accessFlags := 26, nameIndex := 365, descriptorIndex := 339, attributes := #[] }, { accessFlags := 26, nameIndex := 172, descriptorIndex := 173, attributes := #[] }, { accessFlags := 26, nameIndex := 176, descriptorIndex := 173, attributes := #[] }, { accessFlags := 8, nameIndex := 344, descriptorIndex := 339, attributes := #[] }, { accessFlags := 8, nameIndex := 338, descriptorIndex := 339, attributes := #[] }, { accessFlags := 4120, nameIndex := 245, descriptorIndex := 246, attributes := #[] }])
  fields := #[{ name := "E", type := .double, accessFlags := 25, slot := 0, constantValue := 0 }, { name := "PI", type := .double, accessFlags := 25, slot := 1, constantValue := 0 }, { name := "TAU", type := .double, accessFlags := 25, slot := 2, constantValue := 0 }, { name := "DEGREES_TO_RADIANS", type := .double, accessFlags := 26, slot := 3, constantValue := 0 }, { name := "RADIANS_TO_DEGREES", type := .double, accessFlags := 26, slot := 4, constantValue := 0 }, { name := "negativeZeroFloatBits", type := .long, accessFlags := 26, slot := 5, constantValue := 0 }, { name := "negativeZeroDoubleBits", type := .long, accessFlags := 26, slot := 6, constantValue := 0 }, { name := "twoToTheDoubleScaleUp", type := .double, accessFlags := 8, slot := 7, constantValue := 0 }, { name := "twoToTheDoubleScaleDown", type := .double, accessFlags := 8, slot := 8, constantValue := 0 }, { name := "$assertionsDisabled", type := .boolean, accessFlags := 4120, slot := 9, constantValue := 0 }]
  methods := #[k4m0, k4m1, k4m2]
  instanceTypes := #[]
  staticTypes := #[.double, .double, .double, .double, .double, .long, .long, .double, .double, .boolean]
  resolved := Array.replicate 460 none
  statics := none }

def pool5 : Array CpInfo := pool [(1, .class_ 2), (0, u "java/io/Serializable"), (0, .class_ 4), (0, u "java/lang/Object")] 2

/-- java/io/Serializable -/
def k5 : Class := { plain "java/io/Serializable" (some 0) with
  accessFlags := 1537
  interfaces := #[]
  cf := some (fileOf pool5 1 #[] #[] 1537 3 #[] #[])
  fields := #[]
  methods := #[]
  instanceTypes := #[]
  staticTypes := #[]
  resolved := Array.replicate 7 none
  statics := none }

def pool6 : Array CpInfo := pool [(2, .class_ 4), (1, u "java/lang/Object"), (0, u "<init>"), (0, u "()V"), (1, .class_ 10), (1, u "java/lang/Number"), (2, .class_ 14), (0, u "java/io/Serializable"), (0, u "serialVersionUID"), (0, u "J")] 20

def k6m0 : Method := { name := "<init>", desc := "()V", sig := { parameters := [], returnType := none }, accessFlags := 1, code := none }
/-- java/lang/Number -/
def k6 : Class := { plain "java/lang/Number" (some 0) with
  accessFlags := 1057
  interfaces := #[5]
  cf := some (fileOf pool6 8 #[] #[{ accessFlags := 1, nameIndex := 5, descriptorIndex := 6, attributes := #[] }] 1057 2 #[13] #[{ accessFlags := 26, nameIndex := 15, descriptorIndex := 16, attributes := #[] }])
  fields := #[{ name := "serialVersionUID", type := .long, accessFlags := 26, slot := 0, constantValue := 0 }]
  methods := #[k6m0]
  instanceTypes := #[]
  staticTypes := #[.long]
  resolved := Array.replicate 37 none
  statics := none }

def pool7 : Array CpInfo := pool [(1, .class_ 2), (0, u "java/lang/Comparable"), (0, .class_ 4), (0, u "java/lang/Object")] 7

/-- java/lang/Comparable -/
def k7 : Class := { plain "java/lang/Comparable" (some 0) with
  accessFlags := 1537
  interfaces := #[]
  cf := some (fileOf pool7 1 #[] #[] 1537 3 #[] #[])
  fields := #[]
  methods := #[]
  instanceTypes := #[]
  staticTypes := #[]
  resolved := Array.replicate 12 none
  statics := none }

def pool8 : Array CpInfo := pool [(1, .class_ 2), (0, u "java/lang/constant/Constable"), (0, .class_ 4), (0, u "java/lang/Object")] 6

/-- java/lang/constant/Constable -/
def k8 : Class := { plain "java/lang/constant/Constable" (some 0) with
  accessFlags := 1537
  interfaces := #[]
  cf := some (fileOf pool8 1 #[] #[] 1537 3 #[] #[])
  fields := #[]
  methods := #[]
  instanceTypes := #[]
  staticTypes := #[]
  resolved := Array.replicate 11 none
  statics := none }

def pool9 : Array CpInfo := pool [(1, .class_ 2), (0, u "java/lang/constant/ConstantDesc"), (0, .class_ 4), (0, u "java/lang/Object")] 32

/-- java/lang/constant/ConstantDesc -/
def k9 : Class := { plain "java/lang/constant/ConstantDesc" (some 0) with
  accessFlags := 1537
  interfaces := #[]
  cf := some (fileOf pool9 1 #[] #[] 1537 3 #[] #[])
  fields := #[]
  methods := #[]
  instanceTypes := #[]
  staticTypes := #[]
  resolved := Array.replicate 37 none
  statics := none }

def pool10 : Array CpInfo := pool [(1, .class_ 2), (0, u "java/lang/Long"), (165, .long 9223372036854775808), (66, .class_ 237), (1, u "java/lang/Long$LongCache"), (33, .class_ 272), (0, u "java/lang/Number"), (2, u "value"), (0, u "J"), (25, .methodref 1 303), (0, .nameAndType 304 305), (0, u "compare"), (0, u "(JJ)I"), (55, u "TYPE"), (0, u "Ljava/lang/Class;"), (0, .class_ 364), (0, u "java/lang/Comparable"), (0, .class_ 366), (0, u "java/lang/constant/Constable"), (0, .class_ 368), (0, u "java/lang/constant/ConstantDesc"), (0, u "MIN_VALUE"), (1, u "MAX_VALUE"), (4, u "SIZE"), (0, u "I"), (1, u "BYTES"), (1, u "serialVersionUID"), (87, u "compareUnsigned")] 54

def k10c0 : Code := { maxStack := 4, maxLocals := 4, code := jdk_35_method_42_code, exceptionTable := #[], attributes := #[] }
def k10m0 : Method := { name := "compare", desc := "(JJ)I", sig := { parameters := [.long, .long], returnType := some .int }, accessFlags := 9, code := some k10c0 }
def k10c1 : Code := { maxStack := 6, maxLocals := 4, code := jdk_35_method_43_code, exceptionTable := #[], attributes := #[] }
def k10m1 : Method := { name := "compareUnsigned", desc := "(JJ)I", sig := { parameters := [.long, .long], returnType := some .int }, accessFlags := 9, code := some k10c1 }
/-- java/lang/Long -/
def k10 : Class := { plain "java/lang/Long" (some 6) with
  accessFlags := 49
  interfaces := #[7, 8, 9]
  cf := some (fileOf pool10 1 #[.nestMembers #[235]] #[{ accessFlags := 9, nameIndex := 304, descriptorIndex := 305, attributes := #[] }, { accessFlags := 9, nameIndex := 469, descriptorIndex := 305, attributes := #[] }] 49 271 #[363, 365, 367] #[{ accessFlags := 25, nameIndex := 369, descriptorIndex := 276, attributes := #[] }, { accessFlags := 25, nameIndex := 371, descriptorIndex := 276, attributes := #[] }, { accessFlags := 25, nameIndex := 361, descriptorIndex := 362, attributes := #[] }, { accessFlags := 18, nameIndex := 275, descriptorIndex := 276, attributes := #[] }, { accessFlags := 25, nameIndex := 376, descriptorIndex := 377, attributes := #[] }, { accessFlags := 25, nameIndex := 379, descriptorIndex := 377, attributes := #[] }, { accessFlags := 26, nameIndex := 381, descriptorIndex := 276, attributes := #[] }])
  fields := #[{ name := "MIN_VALUE", type := .long, accessFlags := 25, slot := 0, constantValue := 0 }, { name := "MAX_VALUE", type := .long, accessFlags := 25, slot := 1, constantValue := 0 }, { name := "TYPE", type := (.object "java/lang/Class"), accessFlags := 25, slot := 2, constantValue := 0 }, { name := "value", type := .long, accessFlags := 18, slot := 0, constantValue := 0 }, { name := "SIZE", type := .int, accessFlags := 25, slot := 3, constantValue := 0 }, { name := "BYTES", type := .int, accessFlags := 25, slot := 4, constantValue := 0 }, { name := "serialVersionUID", type := .long, accessFlags := 26, slot := 5, constantValue := 0 }]
  methods := #[k10m0, k10m1]
  instanceTypes := #[.long]
  staticTypes := #[.long, .long, (.object "java/lang/Class"), .int, .int, .long]
  resolved := Array.replicate 524 none
  statics := none }

def pool11 : Array CpInfo := pool [(1, u "java/lang/Cloneable"), (0, .class_ 1), (0, u "java/lang/Object"), (0, .class_ 3)] 3

/-- java/lang/Cloneable -/
def k11 : Class := { plain "java/lang/Cloneable" (some 0) with
  accessFlags := 1537
  interfaces := #[]
  cf := some (fileOf pool11 2 #[] #[] 1537 4 #[] #[])
  fields := #[]
  methods := #[]
  instanceTypes := #[]
  staticTypes := #[]
  resolved := Array.replicate 8 none
  statics := none }

/-- the primitive byte -/
def k12 : Class := { plain "byte" none with kind := .primitive 'B', accessFlags := 0x411 }
/-- [B -/
def k13 : Class := { plain "[B" (some 0) with kind := .array 12 .byte, interfaces := #[11, 5], accessFlags := 1041 }

/-- the primitive int -/
def k14 : Class := { plain "int" none with kind := .primitive 'I', accessFlags := 0x411 }
/-- [I -/
def k15 : Class := { plain "[I" (some 0) with kind := .array 14 .int, interfaces := #[11, 5], accessFlags := 1041 }

def heap : Heap := #[]
def classes : Array Class := #[k0, k1, k2, k3, k4, k5, k6, k7, k8, k9, k10, k11, k12, k13, k14, k15]
def interned : List (Array UInt16 × Addr) := []
def slotsUsed : Nat := 0
def theMethod : MethodId := ⟨1, 2⟩
def args0 : Array Value := #[.long 5, .long 6, .long 7, .long 8, .long 9]
def aboutOver (below : List Frame) : State where
  vm := { classes := classes, interned := interned.toArray }
  heap := heap
  slotsUsed := slotsUsed
  threads := #[{ frames := .invoking theMethod args0 :: below }]
def below0 : List Frame := [.native { method := ⟨0, 0⟩, args := #[] }]
def about1 : State := aboutOver below0
def p0 : Program := .bare "" "" ""
def e0 : Env := launch0.env 0 0 0
theorem w_frames : about1.frames = Frame.invoking theMethod args0 :: below0 := rfl
set_option maxRecDepth 65536 in
theorem w_args : argsFit about1.vm theMethod args0 = true := by decide +kernel
set_option maxRecDepth 65536 in
theorem w_heap : heapFits about1 = true := by decide +kernel
set_option maxRecDepth 65536 in
theorem w_runnable : about1.curStatus? = some .runnable := by decide +kernel
set_option maxRecDepth 65536 in
theorem w_alone : about1.alone = true := by decide +kernel
set_option maxRecDepth 65536 in
theorem w_named : about1.methodNamed? x = some theMethod := by decide +kernel
set_option maxRecDepth 65536 in
theorem w_hears : about1.hears theMethod below0 = true := by decide +kernel
set_option maxRecDepth 65536 in
theorem w_ripe : about1.ripe theMethod args0 below0 = true := by decide +kernel
theorem w_running : about1.status = .running := rfl
set_option maxRecDepth 65536 in
theorem w_room : about1.hasRoom e0.platform room_1 = true :=
  launch0.hasRoom_least _ room_1 (by decide +kernel) (by decide +kernel) (by decide +kernel) (by decide +kernel) (by decide +kernel) (by decide +kernel)
theorem allAtoms_all (ts : List Jvm.Cond) (a : Array Jvm.Value) (st : Jvm.State) : (allAtoms ts).before a st = ts.all (fun c => c.before a st) := by
  induction ts with
  | nil => rfl
  | cons c t ih =>
    show (Jvm.Cond.and c (allAtoms t)).before a st = _
    rw [Jvm.Cond.before_and, ih, List.all_cons]
def words1 : List Jvm.Cond := Jvm.Cond.code x code maxLocals ret :: tables_1
/-- a 'code' word, met by the world's own term for the bytes: nothing is compared byte by byte -/
theorem code_word {y : MethodName} {bytes : ByteArray} {mx : Nat} {rt : Option FieldType} {a : Array Value} {s : State} {m : MethodId} {meth : Method} {c : Code} (h1 : s.methodNamed? y = some m) (h2 : s.vm.method? m = some meth) (h3 : meth.code = some c) (h4 : c.code = bytes)
    (h5 : (c.maxLocals == mx && c.exceptionTable.isEmpty && decide (c.maxStack ≤ mostOperands) && decide (meth.sig.returnType = rt) && !meth.locks && decide (parseMethodDescriptor y.desc = some meth.sig)) = true) : (Jvm.Cond.code y bytes mx rt).before a s = true := by
  simp only [Bool.and_eq_true, beq_iff_eq, Bool.not_eq_true', decide_eq_true_eq] at h5
  obtain ⟨⟨⟨⟨⟨g1, g2⟩, g3⟩, g4⟩, g5⟩, g6⟩ := h5
  simp [Cond.before, Cond.holds, Cond.value, h1, h2, h3, h4, g1, g2, g3, g4, g5, g6]
def isCode : Jvm.Cond → Bool
  | .code _ _ _ _ => true
  | _ => false
theorem all_split {L : List Jvm.Cond} {P : Jvm.Cond → Bool} (h1 : L.all (fun c => isCode c || P c) = true) (h2 : ∀ c ∈ L.filter isCode, P c = true) : L.all P = true := by
  refine List.all_eq_true.mpr fun c hc => ?_
  have h := List.all_eq_true.mp h1 c hc
  rcases Bool.eq_false_or_eq_true (isCode c) with hi | hi
  · exact h2 c (List.mem_filter.mpr ⟨hc, hi⟩)
  · simpa [hi] using h
set_option maxRecDepth 65536 in
theorem w_c0 : (Jvm.Cond.code x code maxLocals ret).before args0 about1 = true := code_word (m := ⟨1, 2⟩) (meth := k1m2) (c := k1c2) (by decide +kernel) rfl rfl rfl (by decide +kernel)
set_option maxRecDepth 65536 in
theorem w_c1 : (Jvm.Cond.code ({ cls := "com/example/sluiced/sluiced/limiter/SlidingWindowCounter", name := "<init>", desc := "(JJ)V" } : Jvm.MethodName) prog_19_method_1_code (5 : Nat) (Option.none : Option Jvm.ClassFile.FieldType)).before args0 about1 = true := code_word (m := ⟨3, 0⟩) (meth := k3m0) (c := k3c0) (by decide +kernel) rfl rfl rfl (by decide +kernel)
set_option maxRecDepth 65536 in
theorem w_c2 : (Jvm.Cond.code ({ cls := "java/lang/Record", name := "<init>", desc := "()V" } : Jvm.MethodName) jdk_30_method_1_code (1 : Nat) (Option.none : Option Jvm.ClassFile.FieldType)).before args0 about1 = true := code_word (m := ⟨2, 0⟩) (meth := k2m0) (c := k2c0) (by decide +kernel) rfl rfl rfl (by decide +kernel)
set_option maxRecDepth 65536 in
theorem w_c3 : (Jvm.Cond.code ({ cls := "java/lang/Object", name := "<init>", desc := "()V" } : Jvm.MethodName) object_method_1_code (1 : Nat) (Option.none : Option Jvm.ClassFile.FieldType)).before args0 about1 = true := code_word (m := ⟨0, 0⟩) (meth := k0m0) (c := k0c0) (by decide +kernel) rfl rfl rfl (by decide +kernel)
set_option maxRecDepth 65536 in
theorem w_c4 : (Jvm.Cond.code ({ cls := "com/example/sluiced/sluiced/limiter/SlidingWindowCounter", name := "timeUntilAdmitted", desc := "(JJJ)J" } : Jvm.MethodName) prog_19_method_3_code (11 : Nat) (Option.some Jvm.ClassFile.FieldType.long)).before args0 about1 = true := code_word (m := ⟨3, 1⟩) (meth := k3m1) (c := k3c1) (by decide +kernel) rfl rfl rfl (by decide +kernel)
set_option maxRecDepth 65536 in
theorem w_c5 : (Jvm.Cond.code ({ cls := "com/example/sluiced/sluiced/limiter/SlidingWindowCounter", name := "checkArguments", desc := "(JJJ)V" } : Jvm.MethodName) prog_19_method_5_code (7 : Nat) (Option.none : Option Jvm.ClassFile.FieldType)).before args0 about1 = true := code_word (m := ⟨3, 2⟩) (meth := k3m2) (c := k3c2) (by decide +kernel) rfl rfl rfl (by decide +kernel)
set_option maxRecDepth 65536 in
theorem w_c6 : (Jvm.Cond.code ({ cls := "com/example/sluiced/sluiced/limiter/SlidingWindowCounter", name := "weighsWithinLimit", desc := "(JJJ)Z" } : Jvm.MethodName) prog_19_method_6_code (9 : Nat) (Option.some Jvm.ClassFile.FieldType.boolean)).before args0 about1 = true := code_word (m := ⟨3, 3⟩) (meth := k3m3) (c := k3c3) (by decide +kernel) rfl rfl rfl (by decide +kernel)
set_option maxRecDepth 65536 in
theorem w_c7 : (Jvm.Cond.code ({ cls := "com/example/sluiced/sluiced/limiter/SlidingWindowCounter", name := "compareProducts", desc := "(JJJJ)I" } : Jvm.MethodName) prog_19_method_8_code (12 : Nat) (Option.some Jvm.ClassFile.FieldType.int)).before args0 about1 = true := code_word (m := ⟨3, 5⟩) (meth := k3m5) (c := k3c5) (by decide +kernel) rfl rfl rfl (by decide +kernel)
set_option maxRecDepth 65536 in
theorem w_c8 : (Jvm.Cond.code ({ cls := "java/lang/Math", name := "multiplyHigh", desc := "(JJ)J" } : Jvm.MethodName) jdk_29_method_45_code (20 : Nat) (Option.some Jvm.ClassFile.FieldType.long)).before args0 about1 = true := code_word (m := ⟨4, 2⟩) (meth := k4m2) (c := k4c2) (by decide +kernel) rfl rfl rfl (by decide +kernel)
set_option maxRecDepth 65536 in
theorem w_c9 : (Jvm.Cond.code ({ cls := "java/lang/Long", name := "compareUnsigned", desc := "(JJ)I" } : Jvm.MethodName) jdk_35_method_43_code (4 : Nat) (Option.some Jvm.ClassFile.FieldType.int)).before args0 about1 = true := code_word (m := ⟨10, 1⟩) (meth := k10m1) (c := k10c1) (by decide +kernel) rfl rfl rfl (by decide +kernel)
set_option maxRecDepth 65536 in
theorem w_c10 : (Jvm.Cond.code ({ cls := "java/lang/Long", name := "compare", desc := "(JJ)I" } : Jvm.MethodName) jdk_35_method_42_code (4 : Nat) (Option.some Jvm.ClassFile.FieldType.int)).before args0 about1 = true := code_word (m := ⟨10, 0⟩) (meth := k10m0) (c := k10c0) (by decide +kernel) rfl rfl rfl (by decide +kernel)
set_option maxRecDepth 65536 in
theorem w_c11 : (Jvm.Cond.code ({ cls := "com/example/sluiced/sluiced/limiter/SlidingWindowCounter", name := "firstAdmitting", desc := "(JJJ)J" } : Jvm.MethodName) prog_19_method_7_code (13 : Nat) (Option.some Jvm.ClassFile.FieldType.long)).before args0 about1 = true := code_word (m := ⟨3, 4⟩) (meth := k3m4) (c := k3c4) (by decide +kernel) rfl rfl rfl (by decide +kernel)
set_option maxRecDepth 65536 in
theorem w_c12 : (Jvm.Cond.code ({ cls := "java/lang/Math", name := "addExact", desc := "(JJ)J" } : Jvm.MethodName) jdk_29_method_25_code (6 : Nat) (Option.some Jvm.ClassFile.FieldType.long)).before args0 about1 = true := code_word (m := ⟨4, 1⟩) (meth := k4m1) (c := k4c1) (by decide +kernel) rfl rfl rfl (by decide +kernel)
set_option maxRecDepth 65536 in
theorem w_c13 : (Jvm.Cond.code ({ cls := "com/example/sluiced/sluiced/limiter/SlidingWindowCounterTimeUntilAdmittedPinLaw", name := "ok", desc := "(JJJJJ)Z" } : Jvm.MethodName) method_2_code (10 : Nat) (Option.some Jvm.ClassFile.FieldType.boolean)).before args0 about1 = true := code_word (m := ⟨1, 1⟩) (meth := k1m1) (c := k1c1) (by decide +kernel) rfl rfl rfl (by decide +kernel)
def codes1 : List Jvm.Cond := [Jvm.Cond.code x code maxLocals ret, Jvm.Cond.code ({ cls := "com/example/sluiced/sluiced/limiter/SlidingWindowCounter", name := "<init>", desc := "(JJ)V" } : Jvm.MethodName) prog_19_method_1_code (5 : Nat) (Option.none : Option Jvm.ClassFile.FieldType), Jvm.Cond.code ({ cls := "java/lang/Record", name := "<init>", desc := "()V" } : Jvm.MethodName) jdk_30_method_1_code (1 : Nat) (Option.none : Option Jvm.ClassFile.FieldType), Jvm.Cond.code ({ cls := "java/lang/Object", name := "<init>", desc := "()V" } : Jvm.MethodName) object_method_1_code (1 : Nat) (Option.none : Option Jvm.ClassFile.FieldType), Jvm.Cond.code ({ cls := "com/example/sluiced/sluiced/limiter/SlidingWindowCounter", name := "timeUntilAdmitted", desc := "(JJJ)J" } : Jvm.MethodName) prog_19_method_3_code (11 : Nat) (Option.some Jvm.ClassFile.FieldType.long), Jvm.Cond.code ({ cls := "com/example/sluiced/sluiced/limiter/SlidingWindowCounter", name := "checkArguments", desc := "(JJJ)V" } : Jvm.MethodName) prog_19_method_5_code (7 : Nat) (Option.none : Option Jvm.ClassFile.FieldType), Jvm.Cond.code ({ cls := "com/example/sluiced/sluiced/limiter/SlidingWindowCounter", name := "weighsWithinLimit", desc := "(JJJ)Z" } : Jvm.MethodName) prog_19_method_6_code (9 : Nat) (Option.some Jvm.ClassFile.FieldType.boolean), Jvm.Cond.code ({ cls := "com/example/sluiced/sluiced/limiter/SlidingWindowCounter", name := "compareProducts", desc := "(JJJJ)I" } : Jvm.MethodName) prog_19_method_8_code (12 : Nat) (Option.some Jvm.ClassFile.FieldType.int), Jvm.Cond.code ({ cls := "java/lang/Math", name := "multiplyHigh", desc := "(JJ)J" } : Jvm.MethodName) jdk_29_method_45_code (20 : Nat) (Option.some Jvm.ClassFile.FieldType.long), Jvm.Cond.code ({ cls := "java/lang/Long", name := "compareUnsigned", desc := "(JJ)I" } : Jvm.MethodName) jdk_35_method_43_code (4 : Nat) (Option.some Jvm.ClassFile.FieldType.int), Jvm.Cond.code ({ cls := "java/lang/Long", name := "compare", desc := "(JJ)I" } : Jvm.MethodName) jdk_35_method_42_code (4 : Nat) (Option.some Jvm.ClassFile.FieldType.int), Jvm.Cond.code ({ cls := "com/example/sluiced/sluiced/limiter/SlidingWindowCounter", name := "firstAdmitting", desc := "(JJJ)J" } : Jvm.MethodName) prog_19_method_7_code (13 : Nat) (Option.some Jvm.ClassFile.FieldType.long), Jvm.Cond.code ({ cls := "java/lang/Math", name := "addExact", desc := "(JJ)J" } : Jvm.MethodName) jdk_29_method_25_code (6 : Nat) (Option.some Jvm.ClassFile.FieldType.long), Jvm.Cond.code ({ cls := "com/example/sluiced/sluiced/limiter/SlidingWindowCounterTimeUntilAdmittedPinLaw", name := "ok", desc := "(JJJJJ)Z" } : Jvm.MethodName) method_2_code (10 : Nat) (Option.some Jvm.ClassFile.FieldType.boolean)]
set_option maxRecDepth 65536 in
theorem codes_eq : words1.filter isCode = codes1 := rfl
theorem w_codes : ∀ c ∈ words1.filter isCode, c.before args0 about1 = true := by
  rw [codes_eq]
  intro c hc
  simp only [codes1, List.mem_cons, List.not_mem_nil, or_false] at hc
  rcases hc with rfl | rfl | rfl | rfl | rfl | rfl | rfl | rfl | rfl | rfl | rfl | rfl | rfl | rfl
  · exact w_c0
  · exact w_c1
  · exact w_c2
  · exact w_c3
  · exact w_c4
  · exact w_c5
  · exact w_c6
  · exact w_c7
  · exact w_c8
  · exact w_c9
  · exact w_c10
  · exact w_c11
  · exact w_c12
  · exact w_c13
set_option maxRecDepth 65536 in
theorem w_t1 : (words1.take 24).all (fun c => isCode c || c.before args0 about1) = true := by decide +kernel
set_option maxRecDepth 65536 in
theorem w_t2 : ((words1.drop 24).take 24).all (fun c => isCode c || c.before args0 about1) = true := by decide +kernel
set_option maxRecDepth 65536 in
theorem w_t3 : ((words1.drop 24).drop 24).all (fun c => isCode c || c.before args0 about1) = true := by decide +kernel
theorem w_tables : (allAtoms (Jvm.Cond.code x code maxLocals ret :: tables_1)).before args0 about1 = true := by
  rw [allAtoms_all]
  show words1.all (fun c => c.before args0 about1) = true
  refine all_split ?_ w_codes
  rw [← List.take_append_drop 24 words1, List.all_append, w_t1, ← List.take_append_drop 24 (words1.drop 24), List.all_append, w_t2, w_t3]
  rfl
set_option maxRecDepth 65536 in
theorem w_case : (Jvm.Cond.and given_1 narrow_1).before args0 about1 = true := by decide +kernel
theorem w_applies : (headSpec (Jvm.Cond.code x code maxLocals ret :: tables_1) room_1).applies x e0.platform about1 = true :=
  (Spec.applies_iff w_frames).mpr ⟨w_running, w_runnable, w_alone, w_named, w_hears, w_ripe, w_room, w_tables⟩
theorem atStart : AtStart classFile x code maxLocals ret World_1 tables_1 room_1 Calls_1 rest_1 Pre_1 launch0 p0 e0 about1 theMethod args0 below0 :=
  ⟨lists_1, trivial, launch0.admits_env _ _ _, launch0.least_env, fairChoices_fair.cas, fairChoices_fair.clock, w_frames, w_args, w_heap, w_applies, trivial, trivial, w_case⟩
end start1
theorem witness_1 : WitnessClaimed_1 := ⟨start1.p0, start1.e0, start1.about1, start1.theMethod, start1.args0, start1.below0, start1.atStart⟩
end Jvm.Pilot.@@N@@
