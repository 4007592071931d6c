import JvmDerived
import JvmDerived.Pilot.@@N@@Statement
import JvmDerived.Pilot.@@N@@Code
set_option linter.unusedVariables false
set_option linter.unusedSimpArgs false
@@BLOCK:NumsL.lean.txt@@
namespace Jvm.Pilot.@@N@@
open Jvm Jvm.ClassFile Sem Op Lib Jvm.Free Jvm.Stand Jvm.LawKit Jvm.RoadKit Bundle Jvm.Pilot.@@N@@.Jvm.D
section Own
variable {p : Program} {l : Launch} {e : Env} {R : Room} {s : State} {m : MethodId} {args : Array Value} {below : List Frame} {meth : Method} {c : Code} {T : State} {locs : List Loc} {cells slots : Nat} {Z : State} {a0 : Array Value} {h : Heap} {Q : Option Value → Heap → List Loc → Prop} {kc ks : Nat} {P : State → Outcome → Prop}
/-- from s₀ the run comes to an end at which P holds -/
def Go (p : Program) (e : Env) (below : List Frame) (P : State → Outcome → Prop) (s₀ : State) : Prop := ∃ s₂ o, Steps p.tables e below s₀ s₂ ∧ P s₂ o
/-- the method's end: Q holds of what it returns and leaves -/
def EndN (below : List Frame) (s : State) (Q : Option Value → Heap → List Loc → Prop) (kc ks : Nat) (s₂ : State) (o : Outcome) : Prop := s₂.status = .running ∧ Ended s₂ below o ∧ ∃ v L, o = .returned v ∧ Q v s₂.heap L ∧ FrameEnd s o s₂ L kc ks
theorem Go.of {P : State → Outcome → Prop} {s₀ s₁ : State} (G : Go p e below P s₁) (f : ∀ t, Steps p.tables e below s₁ t → Steps p.tables e below s₀ t) : Go p e below P s₀ := by
  obtain ⟨a, b, c1, d⟩ := G; exact ⟨a, b, f _ c1, d⟩
theorem Go.ret (X : Stand p l e R s m args below meth c T locs cells slots) (hx : p.tables.exec = Jvm.exec) (hlk : meth.locks = false) {pc : Nat} {Ls : Array Slot} {w : Value} {t : FieldType} {i : Instr} {rest : List Value} (hret : meth.sig.returnType = some t) (hd : decode c.code pc = .ok (i, 1)) (hn : narrow t w = w)
    (hi : (i = .ireturn ∧ (t = .int ∨ t = .boolean ∨ t = .byte ∨ t = .char ∨ t = .short) ∧ ∃ z, w = .int z) ∨ (i = .lreturn ∧ t = .long ∧ ∃ z, w = .long z) ∨ (i = .dreturn ∧ t = .double ∧ ∃ z, w = .double z) ∨ (i = .freturn ∧ t = .float ∧ ∃ z, w = .float z) ∨ (i = .areturn ∧ t.isReference = true ∧ w.isRef = true))
    (hc : cells ≤ kc) (hs : slots ≤ ks) (hQ : Q (some w) T.heap locs) : Go p e below (EndN below s Q kc ks) (T.setTop (mkF m pc Ls (w :: rest))) := by
  obtain ⟨fs, hr, hrun, hended, hW, hsame⟩ := X.leave (v := some w) (fun h => by rw [hret] at h; cases h) hlk
  exact ⟨_, _, retOut X hx hret hn hi hd hr, hrun, hended, _, _, rfl, hQ, ⟨_, rfl⟩, hW, hsame.mono hc hs⟩
theorem Go.retV (X : Stand p l e R s m args below meth c T locs cells slots) (hx : p.tables.exec = Jvm.exec) (hlk : meth.locks = false) {pc : Nat} {Ls : Array Slot} (hret : meth.sig.returnType = none) (hd : decode c.code pc = .ok (.return_, 1))
    (hc : cells ≤ kc) (hs : slots ≤ ks) (hQ : Q none T.heap locs) : Go p e below (EndN below s Q kc ks) (T.setTop (mkF m pc Ls [])) := by
  obtain ⟨fs, hr, hrun, hended, hW, hsame⟩ := X.leave (v := none) (fun _ => rfl) hlk
  exact ⟨_, _, X.returnOut hx hret hd hr, hrun, hended, _, _, rfl, hQ, ⟨_, rfl⟩, hW, hsame.mono hc hs⟩
theorem Go.retI (X : Stand p l e R s m args below meth c T locs cells slots) (hx : p.tables.exec = Jvm.exec) (hlk : meth.locks = false) {pc : Nat} {Ls : Array Slot} {z : Int32} {rest : List Value} (hret : meth.sig.returnType = some .int) (hd : decode c.code pc = .ok (.ireturn, 1))
    (hc : cells ≤ kc) (hs : slots ≤ ks) (hQ : Q (some (.int z)) T.heap locs) : Go p e below (EndN below s Q kc ks) (T.setTop (mkF m pc Ls (.int z :: rest))) :=
  Go.ret X hx hlk hret hd rfl (Or.inl ⟨rfl, Or.inl rfl, z, rfl⟩) hc hs hQ
theorem Go.retL (X : Stand p l e R s m args below meth c T locs cells slots) (hx : p.tables.exec = Jvm.exec) (hlk : meth.locks = false) {pc : Nat} {Ls : Array Slot} {z : Int64} {rest : List Value} (hret : meth.sig.returnType = some .long) (hd : decode c.code pc = .ok (.lreturn, 1))
    (hc : cells ≤ kc) (hs : slots ≤ ks) (hQ : Q (some (.long z)) T.heap locs) : Go p e below (EndN below s Q kc ks) (T.setTop (mkF m pc Ls (.long z :: rest))) :=
  Go.ret X hx hlk hret hd rfl (Or.inr (Or.inl ⟨rfl, rfl, z, rfl⟩)) hc hs hQ
theorem Go.retA (X : Stand p l e R s m args below meth c T locs cells slots) (hx : p.tables.exec = Jvm.exec) (hlk : meth.locks = false) {pc : Nat} {Ls : Array Slot} {w : Value} {t : FieldType} {rest : List Value} (hret : meth.sig.returnType = some t) (ht : t.isReference = true) (hw : w.isRef = true) (hd : decode c.code pc = .ok (.areturn, 1))
    (hc : cells ≤ kc) (hs : slots ≤ ks) (hQ : Q (some w) T.heap locs) : Go p e below (EndN below s Q kc ks) (T.setTop (mkF m pc Ls (w :: rest))) :=
  Go.ret X hx hlk hret hd (by cases t <;> first | (cases ht; done) | rfl) (Or.inr (Or.inr (Or.inr (Or.inr ⟨rfl, ht, hw⟩)))) hc hs hQ
theorem Go.retZ (X : Stand p l e R s m args below meth c T locs cells slots) (hx : p.tables.exec = Jvm.exec) (hlk : meth.locks = false) {pc : Nat} {Ls : Array Slot} {z : Int32} {t : FieldType} {rest : List Value} (hret : meth.sig.returnType = some t) (ht : t = .boolean ∨ t = .byte ∨ t = .char ∨ t = .short) (hd : decode c.code pc = .ok (.ireturn, 1))
    (hc : cells ≤ kc) (hs : slots ≤ ks) (hQ : Q (some (.int (nar t z))) T.heap locs) : Go p e below (EndN below s Q kc ks) (T.setTop (mkF m pc Ls (.int z :: rest))) := by
  obtain ⟨fs, hr, hrun, hended, hW, hsame⟩ := X.leave (v := some (.int (nar t z))) (fun h => by rw [hret] at h; cases h) hlk
  exact ⟨_, _, retN X hx hret ht hd hr, hrun, hended, _, _, rfl, hQ, ⟨_, rfl⟩, hW, hsame.mono hc hs⟩

theorem g_iconst (X : Stand p l e R s m args below meth c T locs cells slots) (hx : p.tables.exec = Jvm.exec) {pc : Nat} (pc' : Nat) {Ls : Array Slot} {st : List Value} {i : Int} (v : Int32) (hd : decode c.code pc = .ok (.iconst i, 1)) (hv : Int32.ofInt i = v) (hp : pc + 1 = pc') (G : Go p e below P (T.setTop (mkF m pc' Ls (.int v :: st)))) : Go p e below P (T.setTop (mkF m pc Ls (st))) := by
  subst hp; exact Go.of G fun _ q => XT.iconstV X.here hx rfl v hd hv q
theorem g_bipush (X : Stand p l e R s m args below meth c T locs cells slots) (hx : p.tables.exec = Jvm.exec) {pc : Nat} (pc' : Nat) {Ls : Array Slot} {st : List Value} {i : Int} (v : Int32) (hd : decode c.code pc = .ok (.bipush i, 2)) (hv : (Int8.ofInt i).toInt32 = v) (hp : pc + 2 = pc') (G : Go p e below P (T.setTop (mkF m pc' Ls (.int v :: st)))) : Go p e below P (T.setTop (mkF m pc Ls (st))) := by
  subst hp; exact Go.of G fun _ q => XT.bipushV X.here hx rfl v hd hv q
theorem g_sipush (X : Stand p l e R s m args below meth c T locs cells slots) (hx : p.tables.exec = Jvm.exec) {pc : Nat} (pc' : Nat) {Ls : Array Slot} {st : List Value} {i : Int} (v : Int32) (hd : decode c.code pc = .ok (.sipush i, 3)) (hv : (Int16.ofInt i).toInt32 = v) (hp : pc + 3 = pc') (G : Go p e below P (T.setTop (mkF m pc' Ls (.int v :: st)))) : Go p e below P (T.setTop (mkF m pc Ls (st))) := by
  subst hp; exact Go.of G fun _ q => XT.sipushV X.here hx rfl v hd hv q
theorem g_lconst (X : Stand p l e R s m args below meth c T locs cells slots) (hx : p.tables.exec = Jvm.exec) {pc : Nat} (pc' : Nat) {Ls : Array Slot} {st : List Value} {i : Fin 2} (v : Int64) (hd : decode c.code pc = .ok (.lconst i, 1)) (hv : Int64.ofNat i = v) (hp : pc + 1 = pc') (G : Go p e below P (T.setTop (mkF m pc' Ls (.long v :: st)))) : Go p e below P (T.setTop (mkF m pc Ls (st))) := by
  subst hp; exact Go.of G fun _ q => XT.lconstV X.here hx rfl v hd hv q
theorem g_aconst_null (X : Stand p l e R s m args below meth c T locs cells slots) (hx : p.tables.exec = Jvm.exec) {pc : Nat} (pc' : Nat) {Ls : Array Slot} {st : List Value}  (hd : decode c.code pc = .ok (.aconst_null, 1))  (hp : pc + 1 = pc') (G : Go p e below P (T.setTop (mkF m pc' Ls (.null :: st)))) : Go p e below P (T.setTop (mkF m pc Ls (st))) := by
  subst hp; exact Go.of G fun _ q => XS.aconstNull X.here hx rfl hd q
theorem g_iload_n (X : Stand p l e R s m args below meth c T locs cells slots) (hx : p.tables.exec = Jvm.exec) {pc : Nat} (pc' : Nat) {Ls : Array Slot} {st : List Value} {i : Fin 4} (v : Int32) (hd : decode c.code pc = .ok (.iload_n i, 1)) (hv : Ls[i.val]? = some (.val (.int v))) (hp : pc + 1 = pc') (G : Go p e below P (T.setTop (mkF m pc' Ls (.int v :: st)))) : Go p e below P (T.setTop (mkF m pc Ls (st))) := by
  subst hp; exact Go.of G fun _ q => XS.iloadN X.here hx rfl hd hv q
theorem g_iload (X : Stand p l e R s m args below meth c T locs cells slots) (hx : p.tables.exec = Jvm.exec) {pc : Nat} (pc' : Nat) {Ls : Array Slot} {st : List Value} {i : Nat} (v : Int32) (hd : decode c.code pc = .ok (.iload i, 2)) (hv : Ls[i]? = some (.val (.int v))) (hp : pc + 2 = pc') (G : Go p e below P (T.setTop (mkF m pc' Ls (.int v :: st)))) : Go p e below P (T.setTop (mkF m pc Ls (st))) := by
  subst hp; exact Go.of G fun _ q => XS.iload X.here hx rfl hd hv q
theorem g_lload_n (X : Stand p l e R s m args below meth c T locs cells slots) (hx : p.tables.exec = Jvm.exec) {pc : Nat} (pc' : Nat) {Ls : Array Slot} {st : List Value} {i : Fin 4} (v : Int64) (hd : decode c.code pc = .ok (.lload_n i, 1)) (hv : Ls[i.val]? = some (.val (.long v))) (hp : pc + 1 = pc') (G : Go p e below P (T.setTop (mkF m pc' Ls (.long v :: st)))) : Go p e below P (T.setTop (mkF m pc Ls (st))) := by
  subst hp; exact Go.of G fun _ q => XT.lloadN X.here hx rfl hd hv q
theorem g_lload (X : Stand p l e R s m args below meth c T locs cells slots) (hx : p.tables.exec = Jvm.exec) {pc : Nat} (pc' : Nat) {Ls : Array Slot} {st : List Value} {i : Nat} (v : Int64) (hd : decode c.code pc = .ok (.lload i, 2)) (hv : Ls[i]? = some (.val (.long v))) (hp : pc + 2 = pc') (G : Go p e below P (T.setTop (mkF m pc' Ls (.long v :: st)))) : Go p e below P (T.setTop (mkF m pc Ls (st))) := by
  subst hp; exact Go.of G fun _ q => XT.lload X.here hx rfl hd hv q
theorem g_aload_n (X : Stand p l e R s m args below meth c T locs cells slots) (hx : p.tables.exec = Jvm.exec) {pc : Nat} (pc' : Nat) {Ls : Array Slot} {st : List Value} {i : Fin 4} (v : Value) (hd : decode c.code pc = .ok (.aload_n i, 1)) (hv : Ls[i.val]? = some (.val v)) (hr : v.isRef = true) (hp : pc + 1 = pc') (G : Go p e below P (T.setTop (mkF m pc' Ls (v :: st)))) : Go p e below P (T.setTop (mkF m pc Ls (st))) := by
  subst hp; exact Go.of G fun _ q => XS.aloadN X.here hx rfl hd hv hr q
theorem g_aload (X : Stand p l e R s m args below meth c T locs cells slots) (hx : p.tables.exec = Jvm.exec) {pc : Nat} (pc' : Nat) {Ls : Array Slot} {st : List Value} {i : Nat} (v : Value) (hd : decode c.code pc = .ok (.aload i, 2)) (hv : Ls[i]? = some (.val v)) (hr : v.isRef = true) (hp : pc + 2 = pc') (G : Go p e below P (T.setTop (mkF m pc' Ls (v :: st)))) : Go p e below P (T.setTop (mkF m pc Ls (st))) := by
  subst hp; exact Go.of G fun _ q => XS.aload X.here hx rfl hd hv hr q
theorem g_istore_n (X : Stand p l e R s m args below meth c T locs cells slots) (hx : p.tables.exec = Jvm.exec) {pc : Nat} (pc' : Nat) {Ls : Array Slot} {st : List Value} {i : Fin 4} {v : Int32} (Ls' : Array Slot) (hd : decode c.code pc = .ok (.istore_n i, 1)) (hv : storeLocals Ls i.val (.int v) = some Ls') (hp : pc + 1 = pc') (G : Go p e below P (T.setTop (mkF m pc' Ls' (st)))) : Go p e below P (T.setTop (mkF m pc Ls (.int v :: st))) := by
  subst hp; exact Go.of G fun _ q => XS.istoreN X.here hx rfl hd rfl hv q
theorem g_istore (X : Stand p l e R s m args below meth c T locs cells slots) (hx : p.tables.exec = Jvm.exec) {pc : Nat} (pc' : Nat) {Ls : Array Slot} {st : List Value} {i : Nat} {v : Int32} (Ls' : Array Slot) (hd : decode c.code pc = .ok (.istore i, 2)) (hv : storeLocals Ls i (.int v) = some Ls') (hp : pc + 2 = pc') (G : Go p e below P (T.setTop (mkF m pc' Ls' (st)))) : Go p e below P (T.setTop (mkF m pc Ls (.int v :: st))) := by
  subst hp; exact Go.of G fun _ q => XS.istore X.here hx rfl hd rfl hv q
theorem g_lstore_n (X : Stand p l e R s m args below meth c T locs cells slots) (hx : p.tables.exec = Jvm.exec) {pc : Nat} (pc' : Nat) {Ls : Array Slot} {st : List Value} {i : Fin 4} {v : Int64} (Ls' : Array Slot) (hd : decode c.code pc = .ok (.lstore_n i, 1)) (hv : storeLocals Ls i.val (.long v) = some Ls') (hp : pc + 1 = pc') (G : Go p e below P (T.setTop (mkF m pc' Ls' (st)))) : Go p e below P (T.setTop (mkF m pc Ls (.long v :: st))) := by
  subst hp; exact Go.of G fun _ q => XT.lstoreN X.here hx rfl hd rfl hv q
theorem g_lstore (X : Stand p l e R s m args below meth c T locs cells slots) (hx : p.tables.exec = Jvm.exec) {pc : Nat} (pc' : Nat) {Ls : Array Slot} {st : List Value} {i : Nat} {v : Int64} (Ls' : Array Slot) (hd : decode c.code pc = .ok (.lstore i, 2)) (hv : storeLocals Ls i (.long v) = some Ls') (hp : pc + 2 = pc') (G : Go p e below P (T.setTop (mkF m pc' Ls' (st)))) : Go p e below P (T.setTop (mkF m pc Ls (.long v :: st))) := by
  subst hp; exact Go.of G fun _ q => XT.lstore X.here hx rfl hd rfl hv q
theorem g_astore_n (X : Stand p l e R s m args below meth c T locs cells slots) (hx : p.tables.exec = Jvm.exec) {pc : Nat} (pc' : Nat) {Ls : Array Slot} {st : List Value} {i : Fin 4} {v : Value} (Ls' : Array Slot) (hd : decode c.code pc = .ok (.astore_n i, 1)) (hr : v.isRef = true) (hv : storeLocals Ls i.val v = some Ls') (hp : pc + 1 = pc') (G : Go p e below P (T.setTop (mkF m pc' Ls' (st)))) : Go p e below P (T.setTop (mkF m pc Ls (v :: st))) := by
  subst hp; exact Go.of G fun _ q => XS.astoreN X.here hx rfl hd rfl hr hv q
theorem g_astore (X : Stand p l e R s m args below meth c T locs cells slots) (hx : p.tables.exec = Jvm.exec) {pc : Nat} (pc' : Nat) {Ls : Array Slot} {st : List Value} {i : Nat} {v : Value} (Ls' : Array Slot) (hd : decode c.code pc = .ok (.astore i, 2)) (hr : v.isRef = true) (hv : storeLocals Ls i v = some Ls') (hp : pc + 2 = pc') (G : Go p e below P (T.setTop (mkF m pc' Ls' (st)))) : Go p e below P (T.setTop (mkF m pc Ls (v :: st))) := by
  subst hp; exact Go.of G fun _ q => XS.astore X.here hx rfl hd rfl hr hv q
theorem g_iinc (X : Stand p l e R s m args below meth c T locs cells slots) (hx : p.tables.exec = Jvm.exec) {pc : Nat} (pc' : Nat) {Ls : Array Slot} {st : List Value} {i : Nat} {k : Int} {x : Int32} (v : Int32) (Ls' : Array Slot) (hd : decode c.code pc = .ok (.iinc i k, 3)) (hk : Int32.ofInt k = v) (hv : Ls[i]? = some (.val (.int x))) (hl : storeLocals Ls i (.int (x + v)) = some Ls') (hp : pc + 3 = pc') (G : Go p e below P (T.setTop (mkF m pc' Ls' (st)))) : Go p e below P (T.setTop (mkF m pc Ls (st))) := by
  subst hp; exact Go.of G fun _ q => XT.iincV X.here hx rfl v hd hk hv hl q
theorem g_iadd (X : Stand p l e R s m args below meth c T locs cells slots) (hx : p.tables.exec = Jvm.exec) {pc : Nat} (pc' : Nat) {Ls : Array Slot} {st : List Value} {x y : Int32} (hd : decode c.code pc = .ok (.iadd, 1))  (hp : pc + 1 = pc') (G : Go p e below P (T.setTop (mkF m pc' Ls (.int (x + y) :: st)))) : Go p e below P (T.setTop (mkF m pc Ls (.int y :: .int x :: st))) := by
  subst hp; exact Go.of G fun _ q => XS.iadd X.here hx rfl hd rfl q
theorem g_isub (X : Stand p l e R s m args below meth c T locs cells slots) (hx : p.tables.exec = Jvm.exec) {pc : Nat} (pc' : Nat) {Ls : Array Slot} {st : List Value} {x y : Int32} (hd : decode c.code pc = .ok (.isub, 1))  (hp : pc + 1 = pc') (G : Go p e below P (T.setTop (mkF m pc' Ls (.int (x - y) :: st)))) : Go p e below P (T.setTop (mkF m pc Ls (.int y :: .int x :: st))) := by
  subst hp; exact Go.of G fun _ q => XS.isub X.here hx rfl hd rfl q
theorem g_iand (X : Stand p l e R s m args below meth c T locs cells slots) (hx : p.tables.exec = Jvm.exec) {pc : Nat} (pc' : Nat) {Ls : Array Slot} {st : List Value} {x y : Int32} (hd : decode c.code pc = .ok (.iand, 1))  (hp : pc + 1 = pc') (G : Go p e below P (T.setTop (mkF m pc' Ls (.int (x &&& y) :: st)))) : Go p e below P (T.setTop (mkF m pc Ls (.int y :: .int x :: st))) := by
  subst hp; exact Go.of G fun _ q => XS.iand X.here hx rfl hd rfl q
theorem g_imul (X : Stand p l e R s m args below meth c T locs cells slots) (hx : p.tables.exec = Jvm.exec) {pc : Nat} (pc' : Nat) {Ls : Array Slot} {st : List Value} {x y : Int32} (hd : decode c.code pc = .ok (.imul, 1))  (hp : pc + 1 = pc') (G : Go p e below P (T.setTop (mkF m pc' Ls (.int (x * y) :: st)))) : Go p e below P (T.setTop (mkF m pc Ls (.int y :: .int x :: st))) := by
  subst hp; exact Go.of G fun _ q => XS.imul X.here hx rfl hd rfl q
theorem g_ior (X : Stand p l e R s m args below meth c T locs cells slots) (hx : p.tables.exec = Jvm.exec) {pc : Nat} (pc' : Nat) {Ls : Array Slot} {st : List Value} {x y : Int32} (hd : decode c.code pc = .ok (.ior, 1))  (hp : pc + 1 = pc') (G : Go p e below P (T.setTop (mkF m pc' Ls (.int (x ||| y) :: st)))) : Go p e below P (T.setTop (mkF m pc Ls (.int y :: .int x :: st))) := by
  subst hp; exact Go.of G fun _ q => XT.ior X.here hx rfl hd rfl q
theorem g_ixor (X : Stand p l e R s m args below meth c T locs cells slots) (hx : p.tables.exec = Jvm.exec) {pc : Nat} (pc' : Nat) {Ls : Array Slot} {st : List Value} {x y : Int32} (hd : decode c.code pc = .ok (.ixor, 1))  (hp : pc + 1 = pc') (G : Go p e below P (T.setTop (mkF m pc' Ls (.int (x ^^^ y) :: st)))) : Go p e below P (T.setTop (mkF m pc Ls (.int y :: .int x :: st))) := by
  subst hp; exact Go.of G fun _ q => XT.ixor X.here hx rfl hd rfl q
theorem g_ishl (X : Stand p l e R s m args below meth c T locs cells slots) (hx : p.tables.exec = Jvm.exec) {pc : Nat} (pc' : Nat) {Ls : Array Slot} {st : List Value} {x y : Int32} (hd : decode c.code pc = .ok (.ishl, 1))  (hp : pc + 1 = pc') (G : Go p e below P (T.setTop (mkF m pc' Ls (.int (x <<< (y &&& 31)) :: st)))) : Go p e below P (T.setTop (mkF m pc Ls (.int y :: .int x :: st))) := by
  subst hp; exact Go.of G fun _ q => XT.ishl X.here hx rfl hd rfl q
theorem g_ishr (X : Stand p l e R s m args below meth c T locs cells slots) (hx : p.tables.exec = Jvm.exec) {pc : Nat} (pc' : Nat) {Ls : Array Slot} {st : List Value} {x y : Int32} (hd : decode c.code pc = .ok (.ishr, 1))  (hp : pc + 1 = pc') (G : Go p e below P (T.setTop (mkF m pc' Ls (.int (x >>> (y &&& 31)) :: st)))) : Go p e below P (T.setTop (mkF m pc Ls (.int y :: .int x :: st))) := by
  subst hp; exact Go.of G fun _ q => XT.ishr X.here hx rfl hd rfl q
theorem g_iushr (X : Stand p l e R s m args below meth c T locs cells slots) (hx : p.tables.exec = Jvm.exec) {pc : Nat} (pc' : Nat) {Ls : Array Slot} {st : List Value} {x y : Int32} (hd : decode c.code pc = .ok (.iushr, 1))  (hp : pc + 1 = pc') (G : Go p e below P (T.setTop (mkF m pc' Ls (.int (XT.ushr x y) :: st)))) : Go p e below P (T.setTop (mkF m pc Ls (.int y :: .int x :: st))) := by
  subst hp; exact Go.of G fun _ q => XT.iushr X.here hx rfl hd rfl q
theorem g_idiv (X : Stand p l e R s m args below meth c T locs cells slots) (hx : p.tables.exec = Jvm.exec) {pc : Nat} (pc' : Nat) {Ls : Array Slot} {st : List Value} {x y : Int32} (hd : decode c.code pc = .ok (.idiv, 1)) (hy : y ≠ 0) (hp : pc + 1 = pc') (G : Go p e below P (T.setTop (mkF m pc' Ls (.int (x / y) :: st)))) : Go p e below P (T.setTop (mkF m pc Ls (.int y :: .int x :: st))) := by
  subst hp; exact Go.of G fun _ q => XS.idiv X.here hx rfl hd rfl hy q
theorem g_irem (X : Stand p l e R s m args below meth c T locs cells slots) (hx : p.tables.exec = Jvm.exec) {pc : Nat} (pc' : Nat) {Ls : Array Slot} {st : List Value} {x y : Int32} (hd : decode c.code pc = .ok (.irem, 1)) (hy : y ≠ 0) (hp : pc + 1 = pc') (G : Go p e below P (T.setTop (mkF m pc' Ls (.int (x % y) :: st)))) : Go p e below P (T.setTop (mkF m pc Ls (.int y :: .int x :: st))) := by
  subst hp; exact Go.of G fun _ q => iremM X hx rfl hd rfl hy q
theorem g_ineg (X : Stand p l e R s m args below meth c T locs cells slots) (hx : p.tables.exec = Jvm.exec) {pc : Nat} (pc' : Nat) {Ls : Array Slot} {st : List Value} {x : Int32} (hd : decode c.code pc = .ok (.ineg, 1))  (hp : pc + 1 = pc') (G : Go p e below P (T.setTop (mkF m pc' Ls (.int (-x) :: st)))) : Go p e below P (T.setTop (mkF m pc Ls (.int x :: st))) := by
  subst hp; exact Go.of G fun _ q => XS.ineg X.here hx rfl hd rfl q
theorem g_ladd (X : Stand p l e R s m args below meth c T locs cells slots) (hx : p.tables.exec = Jvm.exec) {pc : Nat} (pc' : Nat) {Ls : Array Slot} {st : List Value} {x y : Int64} (hd : decode c.code pc = .ok (.ladd, 1))  (hp : pc + 1 = pc') (G : Go p e below P (T.setTop (mkF m pc' Ls (.long (x + y) :: st)))) : Go p e below P (T.setTop (mkF m pc Ls (.long y :: .long x :: st))) := by
  subst hp; exact Go.of G fun _ q => XT.ladd X.here hx rfl hd rfl q
theorem g_lsub (X : Stand p l e R s m args below meth c T locs cells slots) (hx : p.tables.exec = Jvm.exec) {pc : Nat} (pc' : Nat) {Ls : Array Slot} {st : List Value} {x y : Int64} (hd : decode c.code pc = .ok (.lsub, 1))  (hp : pc + 1 = pc') (G : Go p e below P (T.setTop (mkF m pc' Ls (.long (x - y) :: st)))) : Go p e below P (T.setTop (mkF m pc Ls (.long y :: .long x :: st))) := by
  subst hp; exact Go.of G fun _ q => XT.lsub X.here hx rfl hd rfl q
theorem g_lmul (X : Stand p l e R s m args below meth c T locs cells slots) (hx : p.tables.exec = Jvm.exec) {pc : Nat} (pc' : Nat) {Ls : Array Slot} {st : List Value} {x y : Int64} (hd : decode c.code pc = .ok (.lmul, 1))  (hp : pc + 1 = pc') (G : Go p e below P (T.setTop (mkF m pc' Ls (.long (x * y) :: st)))) : Go p e below P (T.setTop (mkF m pc Ls (.long y :: .long x :: st))) := by
  subst hp; exact Go.of G fun _ q => XT.lmul X.here hx rfl hd rfl q
theorem g_land (X : Stand p l e R s m args below meth c T locs cells slots) (hx : p.tables.exec = Jvm.exec) {pc : Nat} (pc' : Nat) {Ls : Array Slot} {st : List Value} {x y : Int64} (hd : decode c.code pc = .ok (.land, 1))  (hp : pc + 1 = pc') (G : Go p e below P (T.setTop (mkF m pc' Ls (.long (x &&& y) :: st)))) : Go p e below P (T.setTop (mkF m pc Ls (.long y :: .long x :: st))) := by
  subst hp; exact Go.of G fun _ q => XT.land X.here hx rfl hd rfl q
theorem g_lor (X : Stand p l e R s m args below meth c T locs cells slots) (hx : p.tables.exec = Jvm.exec) {pc : Nat} (pc' : Nat) {Ls : Array Slot} {st : List Value} {x y : Int64} (hd : decode c.code pc = .ok (.lor, 1))  (hp : pc + 1 = pc') (G : Go p e below P (T.setTop (mkF m pc' Ls (.long (x ||| y) :: st)))) : Go p e below P (T.setTop (mkF m pc Ls (.long y :: .long x :: st))) := by
  subst hp; exact Go.of G fun _ q => XT.lor X.here hx rfl hd rfl q
theorem g_lxor (X : Stand p l e R s m args below meth c T locs cells slots) (hx : p.tables.exec = Jvm.exec) {pc : Nat} (pc' : Nat) {Ls : Array Slot} {st : List Value} {x y : Int64} (hd : decode c.code pc = .ok (.lxor, 1))  (hp : pc + 1 = pc') (G : Go p e below P (T.setTop (mkF m pc' Ls (.long (x ^^^ y) :: st)))) : Go p e below P (T.setTop (mkF m pc Ls (.long y :: .long x :: st))) := by
  subst hp; exact Go.of G fun _ q => XT.lxor X.here hx rfl hd rfl q
theorem g_ldiv (X : Stand p l e R s m args below meth c T locs cells slots) (hx : p.tables.exec = Jvm.exec) {pc : Nat} (pc' : Nat) {Ls : Array Slot} {st : List Value} {x y : Int64} (hd : decode c.code pc = .ok (.ldiv, 1)) (hy : y ≠ 0) (hp : pc + 1 = pc') (G : Go p e below P (T.setTop (mkF m pc' Ls (.long (x / y) :: st)))) : Go p e below P (T.setTop (mkF m pc Ls (.long y :: .long x :: st))) := by
  subst hp; exact Go.of G fun _ q => XT.ldiv X.here hx rfl hd rfl hy q
theorem g_lrem (X : Stand p l e R s m args below meth c T locs cells slots) (hx : p.tables.exec = Jvm.exec) {pc : Nat} (pc' : Nat) {Ls : Array Slot} {st : List Value} {x y : Int64} (hd : decode c.code pc = .ok (.lrem, 1)) (hy : y ≠ 0) (hp : pc + 1 = pc') (G : Go p e below P (T.setTop (mkF m pc' Ls (.long (x % y) :: st)))) : Go p e below P (T.setTop (mkF m pc Ls (.long y :: .long x :: st))) := by
  subst hp; exact Go.of G fun _ q => XT.lrem X.here hx rfl hd rfl hy (by rw [Jvm.RoadKit.lrem_mod]; exact q)
theorem g_lneg (X : Stand p l e R s m args below meth c T locs cells slots) (hx : p.tables.exec = Jvm.exec) {pc : Nat} (pc' : Nat) {Ls : Array Slot} {st : List Value} {x : Int64} (hd : decode c.code pc = .ok (.lneg, 1))  (hp : pc + 1 = pc') (G : Go p e below P (T.setTop (mkF m pc' Ls (.long (-x) :: st)))) : Go p e below P (T.setTop (mkF m pc Ls (.long x :: st))) := by
  subst hp; exact Go.of G fun _ q => XT.lneg X.here hx rfl hd rfl q
theorem g_lshl (X : Stand p l e R s m args below meth c T locs cells slots) (hx : p.tables.exec = Jvm.exec) {pc : Nat} (pc' : Nat) {Ls : Array Slot} {st : List Value} {x : Int64} {y : Int32} (hd : decode c.code pc = .ok (.lshl, 1))  (hp : pc + 1 = pc') (G : Go p e below P (T.setTop (mkF m pc' Ls (.long (x <<< (y.toInt64 &&& 63)) :: st)))) : Go p e below P (T.setTop (mkF m pc Ls (.int y :: .long x :: st))) := by
  subst hp; exact Go.of G fun _ q => XT.lshl X.here hx rfl hd rfl q
theorem g_lshr (X : Stand p l e R s m args below meth c T locs cells slots) (hx : p.tables.exec = Jvm.exec) {pc : Nat} (pc' : Nat) {Ls : Array Slot} {st : List Value} {x : Int64} {y : Int32} (hd : decode c.code pc = .ok (.lshr, 1))  (hp : pc + 1 = pc') (G : Go p e below P (T.setTop (mkF m pc' Ls (.long (x >>> (y.toInt64 &&& 63)) :: st)))) : Go p e below P (T.setTop (mkF m pc Ls (.int y :: .long x :: st))) := by
  subst hp; exact Go.of G fun _ q => XT.lshr X.here hx rfl hd rfl q
theorem g_lushr (X : Stand p l e R s m args below meth c T locs cells slots) (hx : p.tables.exec = Jvm.exec) {pc : Nat} (pc' : Nat) {Ls : Array Slot} {st : List Value} {x : Int64} {y : Int32} (hd : decode c.code pc = .ok (.lushr, 1))  (hp : pc + 1 = pc') (G : Go p e below P (T.setTop (mkF m pc' Ls (.long (XT.ushrL x y) :: st)))) : Go p e below P (T.setTop (mkF m pc Ls (.int y :: .long x :: st))) := by
  subst hp; exact Go.of G fun _ q => XT.lushr X.here hx rfl hd rfl q
theorem g_lcmp (X : Stand p l e R s m args below meth c T locs cells slots) (hx : p.tables.exec = Jvm.exec) {pc : Nat} (pc' : Nat) {Ls : Array Slot} {st : List Value} {x y : Int64} (hd : decode c.code pc = .ok (.lcmp, 1))  (hp : pc + 1 = pc') (G : Go p e below P (T.setTop (mkF m pc' Ls (.int (XT.cmpL x y) :: st)))) : Go p e below P (T.setTop (mkF m pc Ls (.long y :: .long x :: st))) := by
  subst hp; exact Go.of G fun _ q => XT.lcmp X.here hx rfl hd rfl q
theorem g_i2l (X : Stand p l e R s m args below meth c T locs cells slots) (hx : p.tables.exec = Jvm.exec) {pc : Nat} (pc' : Nat) {Ls : Array Slot} {st : List Value} {x : Int32} (hd : decode c.code pc = .ok (.i2l, 1))  (hp : pc + 1 = pc') (G : Go p e below P (T.setTop (mkF m pc' Ls (.long (x.toInt64) :: st)))) : Go p e below P (T.setTop (mkF m pc Ls (.int x :: st))) := by
  subst hp; exact Go.of G fun _ q => XT.i2l X.here hx rfl hd rfl q
theorem g_l2i (X : Stand p l e R s m args below meth c T locs cells slots) (hx : p.tables.exec = Jvm.exec) {pc : Nat} (pc' : Nat) {Ls : Array Slot} {st : List Value} {x : Int64} (hd : decode c.code pc = .ok (.l2i, 1))  (hp : pc + 1 = pc') (G : Go p e below P (T.setTop (mkF m pc' Ls (.int (x.toInt32) :: st)))) : Go p e below P (T.setTop (mkF m pc Ls (.long x :: st))) := by
  subst hp; exact Go.of G fun _ q => XT.l2i X.here hx rfl hd rfl q
theorem g_i2b (X : Stand p l e R s m args below meth c T locs cells slots) (hx : p.tables.exec = Jvm.exec) {pc : Nat} (pc' : Nat) {Ls : Array Slot} {st : List Value} {x : Int32} (hd : decode c.code pc = .ok (.i2b, 1))  (hp : pc + 1 = pc') (G : Go p e below P (T.setTop (mkF m pc' Ls (.int (x.toInt8.toInt32) :: st)))) : Go p e below P (T.setTop (mkF m pc Ls (.int x :: st))) := by
  subst hp; exact Go.of G fun _ q => XT.i2b X.here hx rfl hd rfl q
theorem g_i2c (X : Stand p l e R s m args below meth c T locs cells slots) (hx : p.tables.exec = Jvm.exec) {pc : Nat} (pc' : Nat) {Ls : Array Slot} {st : List Value} {x : Int32} (hd : decode c.code pc = .ok (.i2c, 1))  (hp : pc + 1 = pc') (G : Go p e below P (T.setTop (mkF m pc' Ls (.int (x.toUInt32.toUInt16.toUInt32.toInt32) :: st)))) : Go p e below P (T.setTop (mkF m pc Ls (.int x :: st))) := by
  subst hp; exact Go.of G fun _ q => XT.i2c X.here hx rfl hd rfl q
theorem g_i2s (X : Stand p l e R s m args below meth c T locs cells slots) (hx : p.tables.exec = Jvm.exec) {pc : Nat} (pc' : Nat) {Ls : Array Slot} {st : List Value} {x : Int32} (hd : decode c.code pc = .ok (.i2s, 1))  (hp : pc + 1 = pc') (G : Go p e below P (T.setTop (mkF m pc' Ls (.int (x.toInt16.toInt32) :: st)))) : Go p e below P (T.setTop (mkF m pc Ls (.int x :: st))) := by
  subst hp; exact Go.of G fun _ q => XT.i2s X.here hx rfl hd rfl q
theorem g_dup (X : Stand p l e R s m args below meth c T locs cells slots) (hx : p.tables.exec = Jvm.exec) {pc : Nat} (pc' : Nat) {Ls : Array Slot} {st : List Value} {x : Value} (hd : decode c.code pc = .ok (.dup, 1)) (hc : x.category = 1) (hp : pc + 1 = pc') (G : Go p e below P (T.setTop (mkF m pc' Ls (x :: x :: st)))) : Go p e below P (T.setTop (mkF m pc Ls (x :: st))) := by
  subst hp; exact Go.of G fun _ q => XS.dup X.here hx rfl hd rfl hc q
theorem g_pop (X : Stand p l e R s m args below meth c T locs cells slots) (hx : p.tables.exec = Jvm.exec) {pc : Nat} (pc' : Nat) {Ls : Array Slot} {st : List Value} {x : Value} (hd : decode c.code pc = .ok (.pop, 1)) (hc : x.category = 1) (hp : pc + 1 = pc') (G : Go p e below P (T.setTop (mkF m pc' Ls (st)))) : Go p e below P (T.setTop (mkF m pc Ls (x :: st))) := by
  subst hp; exact Go.of G fun _ q => XT.pop X.here hx rfl hd rfl hc q
theorem g_dup_x1 (X : Stand p l e R s m args below meth c T locs cells slots) (hx : p.tables.exec = Jvm.exec) {pc : Nat} (pc' : Nat) {Ls : Array Slot} {st : List Value} {x y : Value} (hd : decode c.code pc = .ok (.dup_x1, 1)) (hc : x.category = 1) (hc' : y.category = 1) (hp : pc + 1 = pc') (G : Go p e below P (T.setTop (mkF m pc' Ls (x :: y :: x :: st)))) : Go p e below P (T.setTop (mkF m pc Ls (x :: y :: st))) := by
  subst hp; exact Go.of G fun _ q => XT.dupX1 X.here hx rfl hd rfl hc hc' q
theorem g_dup2 (X : Stand p l e R s m args below meth c T locs cells slots) (hx : p.tables.exec = Jvm.exec) {pc : Nat} (pc' : Nat) {Ls : Array Slot} {st : List Value} {x y : Value} (hd : decode c.code pc = .ok (.dup2, 1)) (hc : x.category = 1) (hc' : y.category = 1) (hp : pc + 1 = pc') (G : Go p e below P (T.setTop (mkF m pc' Ls (x :: y :: x :: y :: st)))) : Go p e below P (T.setTop (mkF m pc Ls (x :: y :: st))) := by
  subst hp; exact Go.of G fun _ q => XT.dup2 X.here hx rfl hd rfl hc hc' q
theorem g_ldc (X : Stand p l e R s m args below meth c T locs cells slots) (hx : p.tables.exec = Jvm.exec) {pc : Nat} (pc' : Nat) {Ls : Array Slot} {st : List Value} {own : String} {i : Nat} {v : Int32} (hd : decode c.code pc = .ok (.ldc i, 2)) (hown : s.vm.findClass own = some m.cls) (hw : (Jvm.Cond.constant own i v).before args s = true) (hp : pc + 2 = pc') (G : Go p e below P (T.setTop (mkF m pc' Ls (.int v :: st)))) : Go p e below P (T.setTop (mkF m pc Ls (st))) := by
  subst hp; exact Go.of G fun _ q => X.ldcI hx hown hw rfl hd q
theorem g_ldc2_w (X : Stand p l e R s m args below meth c T locs cells slots) (hx : p.tables.exec = Jvm.exec) {pc : Nat} (pc' : Nat) {Ls : Array Slot} {st : List Value} {own : String} {i : Nat} {v : Int64} (hd : decode c.code pc = .ok (.ldc2_w i, 3)) (hown : s.vm.findClass own = some m.cls) (hw : (Jvm.Cond.constantLong own i v).before args s = true) (hp : pc + 3 = pc') (G : Go p e below P (T.setTop (mkF m pc' Ls (.long v :: st)))) : Go p e below P (T.setTop (mkF m pc Ls (st))) := by
  subst hp; exact Go.of G fun _ q => X.ldc2J hx hown hw rfl hd q
theorem g_ifN (X : Stand p l e R s m args below meth c T locs cells slots) (hx : p.tables.exec = Jvm.exec) {pc : Nat} (pc' : Nat) {Ls : Array Slot} {st : List Value} {cd : ClassFile.Cond} {o : Int} {x : Int32} (hd : decode c.code pc = .ok (.ifCond cd o, 3)) (hc : ifCond.holds cd x = false) (hp : pc + 3 = pc') (G : Go p e below P (T.setTop (mkF m pc' Ls (st)))) : Go p e below P (T.setTop (mkF m pc Ls (.int x :: st))) := by
  subst hp; exact Go.of G fun _ q => XS.ifNo X.here hx rfl hd rfl hc q
theorem g_icmpN (X : Stand p l e R s m args below meth c T locs cells slots) (hx : p.tables.exec = Jvm.exec) {pc : Nat} (pc' : Nat) {Ls : Array Slot} {st : List Value} {cd : ClassFile.Cond} {o : Int} {x y : Int32} (hd : decode c.code pc = .ok (.if_icmp cd o, 3)) (hc : if_icmp.holds cd x y = false) (hp : pc + 3 = pc') (G : Go p e below P (T.setTop (mkF m pc' Ls (st)))) : Go p e below P (T.setTop (mkF m pc Ls (.int y :: .int x :: st))) := by
  subst hp; exact Go.of G fun _ q => XS.icmpNo X.here hx rfl hd rfl hc q
theorem g_acmpN (X : Stand p l e R s m args below meth c T locs cells slots) (hx : p.tables.exec = Jvm.exec) {pc : Nat} (pc' : Nat) {Ls : Array Slot} {st : List Value} {cd : ClassFile.ACond} {o : Int} {x y : Value} (hd : decode c.code pc = .ok (.if_acmp cd o, 3)) (hx' : x.isRef = true) (hy' : y.isRef = true) (hc : XT.acmp cd x y = false) (hp : pc + 3 = pc') (G : Go p e below P (T.setTop (mkF m pc' Ls (st)))) : Go p e below P (T.setTop (mkF m pc Ls (y :: x :: st))) := by
  subst hp; exact Go.of G fun _ q => XT.acmpNo X.here hx rfl hd rfl hx' hy' hc q
theorem g_ifnullN (X : Stand p l e R s m args below meth c T locs cells slots) (hx : p.tables.exec = Jvm.exec) {pc : Nat} (pc' : Nat) {Ls : Array Slot} {st : List Value} {o : Int} {b : Addr} (hd : decode c.code pc = .ok (.ifnull o, 3))  (hp : pc + 3 = pc') (G : Go p e below P (T.setTop (mkF m pc' Ls (st)))) : Go p e below P (T.setTop (mkF m pc Ls (.ref b :: st))) := by
  subst hp; exact Go.of G fun _ q => XS.ifnullNo X.here hx rfl hd rfl q
theorem g_ifnonnullN (X : Stand p l e R s m args below meth c T locs cells slots) (hx : p.tables.exec = Jvm.exec) {pc : Nat} (pc' : Nat) {Ls : Array Slot} {st : List Value} {o : Int} (hd : decode c.code pc = .ok (.ifnonnull o, 3))  (hp : pc + 3 = pc') (G : Go p e below P (T.setTop (mkF m pc' Ls (st)))) : Go p e below P (T.setTop (mkF m pc Ls (.null :: st))) := by
  subst hp; exact Go.of G fun _ q => XT.ifnonnullNo X.here hx rfl hd rfl q
theorem g_goto (X : Stand p l e R s m args below meth c T locs cells slots) (hx : p.tables.exec = Jvm.exec) {pc : Nat} (pc' : Nat) {o : Int} {Ls : Array Slot} {st : List Value}  (hd : decode c.code pc = .ok (.goto o, 3))  (ho : 0 ≤ (pc : Int) + o) (hp : ((pc : Int) + o).toNat = pc') (G : Go p e below P (T.setTop (mkF m pc' Ls st))) : Go p e below P (T.setTop (mkF m pc Ls (st))) :=
  Go.of G fun _ q => XS.goto X.here hx rfl (pc0 := pc) rfl hd ho hp q
theorem g_ifY (X : Stand p l e R s m args below meth c T locs cells slots) (hx : p.tables.exec = Jvm.exec) {pc : Nat} (pc' : Nat) {o : Int} {Ls : Array Slot} {st : List Value} {cd : ClassFile.Cond} {x : Int32} (hd : decode c.code pc = .ok (.ifCond cd o, 3)) (hc : ifCond.holds cd x = true) (ho : 0 ≤ (pc : Int) + o) (hp : ((pc : Int) + o).toNat = pc') (G : Go p e below P (T.setTop (mkF m pc' Ls st))) : Go p e below P (T.setTop (mkF m pc Ls (.int x :: st))) :=
  Go.of G fun _ q => XS.ifYes X.here hx rfl (pc0 := pc) rfl hd rfl hc ho hp q
theorem g_icmpY (X : Stand p l e R s m args below meth c T locs cells slots) (hx : p.tables.exec = Jvm.exec) {pc : Nat} (pc' : Nat) {o : Int} {Ls : Array Slot} {st : List Value} {cd : ClassFile.Cond} {x y : Int32} (hd : decode c.code pc = .ok (.if_icmp cd o, 3)) (hc : if_icmp.holds cd x y = true) (ho : 0 ≤ (pc : Int) + o) (hp : ((pc : Int) + o).toNat = pc') (G : Go p e below P (T.setTop (mkF m pc' Ls st))) : Go p e below P (T.setTop (mkF m pc Ls (.int y :: .int x :: st))) :=
  Go.of G fun _ q => XS.icmpYes X.here hx rfl (pc0 := pc) rfl hd rfl hc ho hp q
theorem g_acmpY (X : Stand p l e R s m args below meth c T locs cells slots) (hx : p.tables.exec = Jvm.exec) {pc : Nat} (pc' : Nat) {o : Int} {Ls : Array Slot} {st : List Value} {cd : ClassFile.ACond} {x y : Value} (hd : decode c.code pc = .ok (.if_acmp cd o, 3)) (hx' : x.isRef = true) (hy' : y.isRef = true) (hc : XT.acmp cd x y = true) (ho : 0 ≤ (pc : Int) + o) (hp : ((pc : Int) + o).toNat = pc') (G : Go p e below P (T.setTop (mkF m pc' Ls st))) : Go p e below P (T.setTop (mkF m pc Ls (y :: x :: st))) :=
  Go.of G fun _ q => XT.acmpYes X.here hx rfl (pc0 := pc) rfl hd rfl hx' hy' hc ho hp q
theorem g_ifnullY (X : Stand p l e R s m args below meth c T locs cells slots) (hx : p.tables.exec = Jvm.exec) {pc : Nat} (pc' : Nat) {o : Int} {Ls : Array Slot} {st : List Value}  (hd : decode c.code pc = .ok (.ifnull o, 3))  (ho : 0 ≤ (pc : Int) + o) (hp : ((pc : Int) + o).toNat = pc') (G : Go p e below P (T.setTop (mkF m pc' Ls st))) : Go p e below P (T.setTop (mkF m pc Ls (.null :: st))) :=
  Go.of G fun _ q => XS.ifnullYes X.here hx rfl (pc0 := pc) rfl hd rfl ho hp q
theorem g_ifnonnullY (X : Stand p l e R s m args below meth c T locs cells slots) (hx : p.tables.exec = Jvm.exec) {pc : Nat} (pc' : Nat) {o : Int} {Ls : Array Slot} {st : List Value} {b : Addr} (hd : decode c.code pc = .ok (.ifnonnull o, 3))  (ho : 0 ≤ (pc : Int) + o) (hp : ((pc : Int) + o).toNat = pc') (G : Go p e below P (T.setTop (mkF m pc' Ls st))) : Go p e below P (T.setTop (mkF m pc Ls (.ref b :: st))) :=
  Go.of G fun _ q => XT.ifnonnullYes X.here hx rfl (pc0 := pc) rfl hd rfl ho hp q

theorem g_callS (X : Stand p l e R s m args below meth c T locs cells slots) (hx : p.tables.exec = Jvm.exec) (hZ : Z.Warmed39 s.vm) {own : String} {index : Nat} {y : MethodName} {bytes : ByteArray} {maxL : Nat} {ret : Option FieldType} {rm : Room} {as' : List Value} {Q' : Option Value → Heap → List Loc → Prop}
    (hown : s.vm.findClass own = some m.cls) (w1 : (Jvm.Cond.methodLink own index y).before a0 Z = true) (w2 : (Jvm.Cond.static y).before a0 Z = true) (w3 : (Jvm.Cond.initialized y.cls).before a0 Z = true) (w4 : (Jvm.Cond.code y bytes maxL ret).before a0 Z = true)
    (np : y.cls ≠ "java/lang/invoke/MethodHandle" ∧ y.cls ≠ "java/lang/invoke/VarHandle") (eT : T.heap = h)
    (hM : MetFree l y (head1 [Jvm.Cond.code y bytes maxL ret] rm) (fun a U => a = as'.toArray ∧ Z.Warmed39 U.vm ∧ U.heap = h) (fun _ _ _ _ _ => True) (fun _ U o U' => ∃ v L, o = .returned v ∧ Q' v U'.heap L ∧ FrameEnd U o U' L rm.cells rm.slots))
    {ps : List FieldType} {rt : Option FieldType} (pd : parseMethodDescriptor y.desc = some ⟨ps, rt⟩) (hlen : as'.length = ps.length)
    (W : Nat) (hf : rm.frames + 1 ≤ R.frames) (hl : W + (maxL + 11) + rm.locals ≤ R.locals) (hc : cells + rm.cells ≤ R.cells) (hs : slots + rm.slots ≤ R.slots)
    {pc : Nat} {Ls : Array Slot} {rest st : List Value} (hsz : Ls.size = c.maxLocals) (hst : st = as'.reverse ++ rest) (hW : (rest.map fun v => v.category).sum ≤ W) (hd : decode c.code pc = .ok (.invokestatic index, 3)) :
    ∃ v T' L, Stand p l e R s m args below meth c T' (locs ++ L) (cells + rm.cells) (slots + rm.slots) ∧ Q' v T'.heap L ∧ ∀ t, Steps p.tables e below (T'.setTop (mkF m (pc + 3) Ls (v.toList ++ rest))) t → Steps p.tables e below (T.setTop (mkF m pc Ls st)) t := by
  obtain ⟨v, _, ⟨T', L', k', n'⟩, -, X', ⟨L, hQ, l1, y1, z1⟩, st'⟩ := Jvm.LawKit.callS X hx (y := y) hown (mvT hZ w1) (mvT hZ w2) (mvT hZ w3) (mvT hZ w4) np (backOf (W := W) hM hZ w4 w3 hf hl) (g := mkF m pc Ls st) rfl hsz (argsL := as') (rest := rest) (lenOf pd hlen) hst (by show 2 * 0 + _ ≤ _; omega) hd (fun _ _ => ⟨rfl, eT, hc, hs⟩)
  dsimp only [Pt.U, Pt.locs, Pt.cells, Pt.slots] at X' l1 y1 z1 st' hQ
  subst l1 y1 z1
  exact ⟨v, T', L, X', hQ, st'⟩
/-- a callee that only answers -/
def Pur (w : Option Value) (h0 : Heap) (v : Option Value) (h : Heap) (L : List Loc) : Prop := v = w ∧ L = [] ∧ h = h0
theorem g_callSP (X : Stand p l e R s m args below meth c T locs cells slots) (hx : p.tables.exec = Jvm.exec) (hZ : Z.Warmed39 s.vm) {own : String} {index : Nat} {y : MethodName} {bytes : ByteArray} {maxL : Nat} {ret : Option FieldType} {rm : Room} {as' : List Value} {w : Option Value}
    (hown : s.vm.findClass own = some m.cls) (w1 : (Jvm.Cond.methodLink own index y).before a0 Z = true) (w2 : (Jvm.Cond.static y).before a0 Z = true) (w3 : (Jvm.Cond.initialized y.cls).before a0 Z = true) (w4 : (Jvm.Cond.code y bytes maxL ret).before a0 Z = true)
    (np : y.cls ≠ "java/lang/invoke/MethodHandle" ∧ y.cls ≠ "java/lang/invoke/VarHandle") (eT : T.heap = h)
    (hM : MetFree l y (head1 [Jvm.Cond.code y bytes maxL ret] rm) (fun a U => a = as'.toArray ∧ Z.Warmed39 U.vm ∧ U.heap = h) (fun _ _ _ _ _ => True) (fun _ U o U' => ∃ v L, o = .returned v ∧ Pur w h v U'.heap L ∧ FrameEnd U o U' L rm.cells rm.slots))
    {ps : List FieldType} {rt : Option FieldType} (pd : parseMethodDescriptor y.desc = some ⟨ps, rt⟩) (hlen : as'.length = ps.length)
    (W : Nat) (hf : rm.frames + 1 ≤ R.frames) (hl : W + (maxL + 11) + rm.locals ≤ R.locals) (hc : cells + rm.cells ≤ R.cells) (hs : slots + rm.slots ≤ R.slots) (h0 : rm.cells = 0) (h1 : rm.slots = 0)
    {pc pc' : Nat} {Ls : Array Slot} {rest st : List Value} (hsz : Ls.size = c.maxLocals) (hst : st = as'.reverse ++ rest) (hW : (rest.map fun v => v.category).sum ≤ W) (hd : decode c.code pc = .ok (.invokestatic index, 3)) (hp : pc + 3 = pc') :
    ∃ T', Stand p l e R s m args below meth c T' locs cells slots ∧ T'.heap = h ∧ ∀ {P : State → Outcome → Prop}, Go p e below P (T'.setTop (mkF m pc' Ls (w.toList ++ rest))) → Go p e below P (T.setTop (mkF m pc Ls st)) := by
  obtain ⟨v, T', L, X', ⟨rfl, rfl, e1⟩, st'⟩ := g_callS X hx hZ hown w1 w2 w3 w4 np eT hM pd hlen W hf hl hc hs hsz hst hW hd
  subst hp
  rw [h0, h1, List.append_nil] at X'
  exact ⟨T', X', e1, fun G => Go.of G st'⟩


theorem g_getF (X : Stand p l e R s m args below meth c T locs cells slots) (hx : p.tables.exec = Jvm.exec) (hZ : Z.Warmed39 s.vm) {own R0 O n d : String} {index : Nat} (hown : s.vm.findClass own = some m.cls) (w : (Jvm.Cond.fieldLink own index R0 n d).before a0 Z = true) (via : Via Z R0 O n d) (eT : T.heap = h) {a : Addr} {v : Value} (F : Fld Z h a O n d v)
    {pc : Nat} (pc' : Nat) {Ls : Array Slot} {st : List Value} (hd : decode c.code pc = .ok (.getfield index, 3)) (hp : pc + 3 = pc') :
    ∃ T', Stand p l e R s m args below meth c T' locs cells slots ∧ T'.heap = h ∧ ∀ {P : State → Outcome → Prop}, Go p e below P (T'.setTop (mkF m pc' Ls (v :: st))) → Go p e below P (T.setTop (mkF m pc Ls (.ref a :: st))) := by
  subst hp
  obtain ⟨T', X', e', f⟩ := getF X hx hZ hown (host := "") (Or.inl w) via eT F (g := mkF m pc Ls (.ref a :: st)) rfl rfl hd
  exact ⟨T', X', e', fun G => Go.of G f⟩
theorem g_getS (X : Stand p l e R s m args below meth c T locs cells slots) (hx : p.tables.exec = Jvm.exec) (hZ : Z.Warmed39 s.vm) {own O n d : String} {index : Nat} (hown : s.vm.findClass own = some m.cls) (w : (Jvm.Cond.fieldLink own index O n d).before a0 Z = true) (eT : T.heap = h) {v : Value} (F : Sta Z h O n d v)
    {pc : Nat} (pc' : Nat) {Ls : Array Slot} {st : List Value} (hd : decode c.code pc = .ok (.getstatic index, 3)) (hp : pc + 3 = pc') :
    ∃ T', Stand p l e R s m args below meth c T' locs cells slots ∧ T'.heap = h ∧ ∀ {P : State → Outcome → Prop}, Go p e below P (T'.setTop (mkF m pc' Ls (v :: st))) → Go p e below P (T.setTop (mkF m pc Ls st)) := by
  subst hp
  obtain ⟨T', X', e', f⟩ := getS X hx hZ hown (host := "") w Via.refl eT F (g := mkF m pc Ls st) rfl hd
  exact ⟨T', X', e', fun G => Go.of G f⟩
theorem g_putF (X : Stand p l e R s m args below meth c T locs cells slots) (hx : p.tables.exec = Jvm.exec) (hZ : Z.Warmed39 s.vm) {own R0 O n d C : String} {index kk : Nat} {ty : FieldType} (hown : s.vm.findClass own = some m.cls) (w : (Jvm.Cond.fieldLink own index R0 n d).before a0 Z = true) (via : Via Z R0 O n d) (eT : T.heap = h) {a : Addr} {v old : Value} (F : Fld Z h a O n d old) (E : Exa Z h a C)
    (L : (Jvm.Cond.lays C O n d).before a0 Z = true ∨ ((Jvm.Cond.laysFinal C O n d).before a0 Z = true ∧ own = O ∧ meth.name = "<init>")) (wi : (Jvm.Cond.instantiable C kk).before a0 Z = true) (hty : parseFieldDescriptor d = some ty) (hn : narrow ty v = v) (hf : fits ty v = true)
    {pc : Nat} (pc' : Nat) {Ls : Array Slot} {st : List Value} (hd : decode c.code pc = .ok (.putfield index, 3)) (hp : pc + 3 = pc') :
    ∃ T' h', Stand p l e R s m args below meth c T' (locs ++ [⟨a, Jvm.RoadKit.slotOf Z O n d⟩]) cells slots ∧ T'.heap = h' ∧ Wr h h' a (Jvm.RoadKit.slotOf Z O n d) v ∧ ∀ {P : State → Outcome → Prop}, Go p e below P (T'.setTop (mkF m pc' Ls st)) → Go p e below P (T.setTop (mkF m pc Ls (v :: .ref a :: st))) := by
  subst hp
  obtain ⟨T', h', X', e', W, f⟩ := putF X hx hZ hown (host := "") (Or.inl w) via eT F E L wi hty hn hf (g := mkF m pc Ls (v :: .ref a :: st)) rfl rfl hd
  exact ⟨T', h', X', e', W, fun G => Go.of G f⟩
theorem g_newO (X : Stand p l e R s m args below meth c T locs cells slots) (hx : p.tables.exec = Jvm.exec) (hZ : Z.Warmed39 s.vm) {own C : String} {index n : Nat} (hown : s.vm.findClass own = some m.cls) (w : (Jvm.Cond.classLink own index C).before a0 Z = true) (wi : (Jvm.Cond.instantiable C n).before a0 Z = true) (wz : (Jvm.Cond.initialized C).before a0 Z = true) (eT : T.heap = h)
    {pc : Nat} (pc' : Nat) {Ls : Array Slot} {st : List Value} (hd : decode c.code pc = .ok (.new index, 3)) (hp : pc + 3 = pc') (hc : cells + 1 ≤ R.cells) (hl : slots + n ≤ R.slots) :
    ∃ T' h' a, Stand p l e R s m args below meth c T' locs (cells + 1) (slots + n) ∧ T'.heap = h' ∧ a = h.size ∧ Ext h h' ∧ Exa Z h' a C ∧ (∀ {O nm d : String} {ty : FieldType}, Laid Z a0 C O nm d → parseFieldDescriptor d = some ty → Fld Z h' a O nm d (defaultValue ty)) ∧
      ∀ {P : State → Outcome → Prop}, Go p e below P (T'.setTop (mkF m pc' Ls (.ref a :: st))) → Go p e below P (T.setTop (mkF m pc Ls st)) := by
  subst hp
  obtain ⟨T', h', X', e', E, A, D, -, f⟩ := newO X hx hZ hown w wi wz eT (g := mkF m pc Ls st) rfl hd hc hl
  exact ⟨T', h', _, X', e', rfl, E, A, D, fun G => Go.of G f⟩
theorem g_initO (X : Stand p l e R s m args below meth c T locs cells slots) (hx : p.tables.exec = Jvm.exec) (hZ : Z.Warmed39 s.vm) {own : String} {idx : Nat} (hown : s.vm.findClass own = some m.cls) (w1 : (Jvm.Cond.methodLink own idx Lib.objectInit).before a0 Z = true) (w2 : (Jvm.Cond.instanceMethod Lib.objectInit).before a0 Z = true)
    (w3 : (Jvm.Cond.code Lib.objectInit ⟨#[0xb1]⟩ 1 none).before a0 Z = true) (eT : T.heap = h) (W : Nat) (hf : 1 ≤ R.frames) (hl : W + 12 ≤ R.locals) {a : Addr} {pc : Nat} (pc' : Nat) {Ls : Array Slot} {st : List Value} (hsz : Ls.size = c.maxLocals) (hW : (st.map fun v => v.category).sum ≤ W) (hd : decode c.code pc = .ok (.invokespecial idx, 3)) (hp : pc + 3 = pc') :
    ∃ T', Stand p l e R s m args below meth c T' locs cells slots ∧ T'.heap = h ∧ ∀ {P : State → Outcome → Prop}, Go p e below P (T'.setTop (mkF m pc' Ls st)) → Go p e below P (T.setTop (mkF m pc Ls (.ref a :: st))) := by
  subst hp
  obtain ⟨T', X', e', f⟩ := initO X hx hZ hown w1 w2 w3 eT (g := mkF m pc Ls (.ref a :: st)) rfl hsz rfl hd hf (W := W) (by show 2 * 0 + _ ≤ _; omega) hl
  exact ⟨T', X', e', fun G => Go.of G f⟩
theorem g_newP (X : Stand p l e R s m args below meth c T locs cells slots) (hx : p.tables.exec = Jvm.exec) (hZ : Z.Warmed39 s.vm) {aty : ArrayType} (w : (Jvm.Cond.arrayClass (newarray.typeOf aty)).before a0 Z = true) (eT : T.heap = h) {n : Int32} (cap : Nat) (hn : ¬ n < 0) (hcap : n.toNatClampNeg ≤ cap) (hbig : cap * 8 ≤ 536870912) (hc : cells + 1 ≤ R.cells) (hl : slots + cap ≤ R.slots)
    {pc : Nat} (pc' : Nat) {Ls : Array Slot} {st : List Value} (hd : decode c.code pc = .ok (.newarray aty, 2)) (hp : pc + 2 = pc') :
    ∃ T' h' a cA, Stand p l e R s m args below meth c T' locs (cells + 1) (slots + cap) ∧ T'.heap = h' ∧ a = h.size ∧ Ext h h' ∧ Arr Z h' a (newA cA (newarray.typeOf aty) n) (newarray.typeOf aty) ∧
      ∀ {P : State → Outcome → Prop}, Go p e below P (T'.setTop (mkF m pc' Ls (.ref a :: st))) → Go p e below P (T.setTop (mkF m pc Ls (.int n :: st))) := by
  subst hp
  obtain ⟨T', h', cA, X', e', E, A, f⟩ := newP X hx hZ w eT (g := mkF m pc Ls (.int n :: st)) rfl hd rfl hn hcap hbig hc hl
  exact ⟨T', h', _, cA, X', e', rfl, E, A, fun G => Go.of G f⟩
theorem g_callI (X : Stand p l e R s m args below meth c T locs cells slots) (hx : p.tables.exec = Jvm.exec) (hZ : Z.Warmed39 s.vm) {own : String} {index : Nat} {y : MethodName} {bytes : ByteArray} {maxL : Nat} {rm : Room} {a : Addr} {as' : List Value} {Q' : Option Value → Heap → List Loc → Prop} (hy1 : y.name = "<init>")
    (hown : s.vm.findClass own = some m.cls) (w1 : (Jvm.Cond.methodLink own index y).before a0 Z = true) (w2 : (Jvm.Cond.instanceMethod y).before a0 Z = true) (w3 : (Jvm.Cond.initialized y.cls).before a0 Z = true) (w4 : (Jvm.Cond.code y bytes maxL none).before a0 Z = true)
    (np : y.cls ≠ "java/lang/invoke/MethodHandle" ∧ y.cls ≠ "java/lang/invoke/VarHandle") (eT : T.heap = h)
    (hM : MetFree l y (head1 [Jvm.Cond.code y bytes maxL none] rm) (fun b U => b = (.ref a :: as').toArray ∧ Z.Warmed39 U.vm ∧ U.heap = h) (fun _ _ _ _ _ => True) (fun _ U o U' => ∃ v L, o = .returned v ∧ Q' v U'.heap L ∧ FrameEnd U o U' L rm.cells rm.slots))
    {ps : List FieldType} {rt : Option FieldType} (pd : parseMethodDescriptor y.desc = some ⟨ps, rt⟩) (hlen : as'.length = ps.length)
    (W : Nat) (hf : rm.frames + 1 ≤ R.frames) (hl : W + (maxL + 11) + rm.locals ≤ R.locals) (hc : cells + rm.cells ≤ R.cells) (hs : slots + rm.slots ≤ R.slots)
    {pc : Nat} {Ls : Array Slot} {rest st : List Value} (hsz : Ls.size = c.maxLocals) (hst : st = as'.reverse ++ .ref a :: rest) (hW : (rest.map fun v => v.category).sum ≤ W) (hd : decode c.code pc = .ok (.invokespecial index, 3)) :
    ∃ v T' L, Stand p l e R s m args below meth c T' (locs ++ L) (cells + rm.cells) (slots + rm.slots) ∧ Q' v T'.heap L ∧ ∀ {P : State → Outcome → Prop}, Go p e below P (T'.setTop (mkF m (pc + 3) Ls (v.toList ++ rest))) → Go p e below P (T.setTop (mkF m pc Ls st)) := by
  obtain ⟨v, _, ⟨T', L', k', n'⟩, -, X', ⟨L, hQ, l1, y1, z1⟩, st'⟩ := X.specialBack hx (y := y) hy1 hown (mvT hZ w1) (mvT hZ w2) (mvT hZ w4) np (backOf (W := W) hM hZ w4 w3 hf hl) (g := mkF m pc Ls st) rfl hsz (Steps.refl _) (a := a) (argsL := as') (rest := rest) (lenOf pd hlen) hst (by show 2 * 0 + _ ≤ _; omega) hd (fun _ _ => ⟨rfl, eT, hc, hs⟩)
  dsimp only [Pt.U, Pt.locs, Pt.cells, Pt.slots] at X' l1 y1 z1 st' hQ
  subst l1 y1 z1
  exact ⟨v, T', L, X', hQ, fun G => Go.of G fun _ q => st'.trans q⟩
theorem g_callV (X : Stand p l e R s m args below meth c T locs cells slots) (hx : p.tables.exec = Jvm.exec) (hZ : Z.Warmed39 s.vm) {own C : String} {index : Nat} {y z : MethodName} {bytes : ByteArray} {maxL : Nat} {ret : Option FieldType} {rm : Room} {a : Addr} {as' : List Value} {Q' : Option Value → Heap → List Loc → Prop}
    (hown : s.vm.findClass own = some m.cls) (w1 : (Jvm.Cond.methodLink own index y).before a0 Z = true) (w2 : (Jvm.Cond.declares y).before a0 Z = true) (w5 : (Jvm.Cond.selects y.cls y y).before a0 Z = true) (w6 : (Jvm.Cond.selects C y z).before a0 Z = true) (w7 : (Jvm.Cond.instanceMethod z).before a0 Z = true) (w3 : (Jvm.Cond.initialized z.cls).before a0 Z = true) (w4 : (Jvm.Cond.code z bytes maxL ret).before a0 Z = true)
    (np : y.cls ≠ "java/lang/invoke/MethodHandle" ∧ y.cls ≠ "java/lang/invoke/VarHandle") (eT : T.heap = h) (E : Exa Z h a C)
    (hM : MetFree l z (head1 [Jvm.Cond.code z bytes maxL ret] rm) (fun b U => b = (.ref a :: as').toArray ∧ Z.Warmed39 U.vm ∧ U.heap = h) (fun _ _ _ _ _ => True) (fun _ U o U' => ∃ v L, o = .returned v ∧ Q' v U'.heap L ∧ FrameEnd U o U' L rm.cells rm.slots))
    {ps : List FieldType} {rt : Option FieldType} (pd : parseMethodDescriptor y.desc = some ⟨ps, rt⟩) (hlen : as'.length = ps.length)
    (W : Nat) (hf : rm.frames + 1 ≤ R.frames) (hl : W + (maxL + 11) + rm.locals ≤ R.locals) (hc : cells + rm.cells ≤ R.cells) (hs : slots + rm.slots ≤ R.slots)
    {pc : Nat} {Ls : Array Slot} {rest st : List Value} (hsz : Ls.size = c.maxLocals) (hst : st = as'.reverse ++ .ref a :: rest) (hW : (rest.map fun v => v.category).sum ≤ W) (hd : decode c.code pc = .ok (.invokevirtual index, 3)) :
    ∃ v T' L, Stand p l e R s m args below meth c T' (locs ++ L) (cells + rm.cells) (slots + rm.slots) ∧ Q' v T'.heap L ∧ ∀ {P : State → Outcome → Prop}, Go p e below P (T'.setTop (mkF m (pc + 3) Ls (v.toList ++ rest))) → Go p e below P (T.setTop (mkF m pc Ls st)) := by
  obtain ⟨cq, kq, qa, qb, qc⟩ := isOf hZ eT E
  obtain ⟨v, _, ⟨T', L', k', n'⟩, -, X', ⟨L, hQ, l1, y1, z1⟩, st'⟩ := X.virtualBack hx (y := y) (z := z) hown (mvT hZ w1) (mvT hZ w2) (notFace_of_selects (args := #[]) (mvT hZ w5)) (mvT hZ w6) (mvT hZ w7) np (backOf (W := W) hM hZ w4 w3 hf hl) qa qc (g := mkF m pc Ls st) rfl hsz (Steps.refl _) (argsL := as') (rest := rest) (lenOf pd hlen) hst (by show 2 * 0 + _ ≤ _; omega) hd (fun _ _ => ⟨rfl, eT, hc, hs⟩)
  dsimp only [Pt.U, Pt.locs, Pt.cells, Pt.slots] at X' l1 y1 z1 st' hQ
  subst l1 y1 z1
  exact ⟨v, T', L, X', hQ, fun G => Go.of G fun _ q => st'.trans q⟩
theorem g_callVP (X : Stand p l e R s m args below meth c T locs cells slots) (hx : p.tables.exec = Jvm.exec) (hZ : Z.Warmed39 s.vm) {own C : String} {index : Nat} {y z : MethodName} {bytes : ByteArray} {maxL : Nat} {ret : Option FieldType} {rm : Room} {a : Addr} {as' : List Value} {w : Option Value}
    (hown : s.vm.findClass own = some m.cls) (w1 : (Jvm.Cond.methodLink own index y).before a0 Z = true) (w2 : (Jvm.Cond.declares y).before a0 Z = true) (w5 : (Jvm.Cond.selects y.cls y y).before a0 Z = true) (w6 : (Jvm.Cond.selects C y z).before a0 Z = true) (w7 : (Jvm.Cond.instanceMethod z).before a0 Z = true) (w3 : (Jvm.Cond.initialized z.cls).before a0 Z = true) (w4 : (Jvm.Cond.code z bytes maxL ret).before a0 Z = true)
    (np : y.cls ≠ "java/lang/invoke/MethodHandle" ∧ y.cls ≠ "java/lang/invoke/VarHandle") (eT : T.heap = h) (E : Exa Z h a C)
    (hM : MetFree l z (head1 [Jvm.Cond.code z bytes maxL ret] rm) (fun b U => b = (.ref a :: as').toArray ∧ Z.Warmed39 U.vm ∧ U.heap = h) (fun _ _ _ _ _ => True) (fun _ U o U' => ∃ v L, o = .returned v ∧ Pur w h v U'.heap L ∧ FrameEnd U o U' L rm.cells rm.slots))
    {ps : List FieldType} {rt : Option FieldType} (pd : parseMethodDescriptor y.desc = some ⟨ps, rt⟩) (hlen : as'.length = ps.length)
    (W : Nat) (hf : rm.frames + 1 ≤ R.frames) (hl : W + (maxL + 11) + rm.locals ≤ R.locals) (hc : cells + rm.cells ≤ R.cells) (hs : slots + rm.slots ≤ R.slots) (h0 : rm.cells = 0) (h1 : rm.slots = 0)
    {pc pc' : Nat} {Ls : Array Slot} {rest st : List Value} (hsz : Ls.size = c.maxLocals) (hst : st = as'.reverse ++ .ref a :: rest) (hW : (rest.map fun v => v.category).sum ≤ W) (hd : decode c.code pc = .ok (.invokevirtual index, 3)) (hp : pc + 3 = pc') :
    ∃ T', Stand p l e R s m args below meth c T' locs cells slots ∧ T'.heap = h ∧ ∀ {P : State → Outcome → Prop}, Go p e below P (T'.setTop (mkF m pc' Ls (w.toList ++ rest))) → Go p e below P (T.setTop (mkF m pc Ls st)) := by
  obtain ⟨v, T', L, X', ⟨rfl, rfl, e1⟩, st'⟩ := g_callV X hx hZ hown w1 w2 w5 w6 w7 w3 w4 np eT E hM pd hlen W hf hl hc hs hsz hst hW hd
  subst hp
  rw [h0, h1, List.append_nil] at X'
  exact ⟨T', X', e1, st'⟩


theorem own_clamp {j : Int32} {k : Nat} (hj : j.toInt = (k : Int)) : j.toNatClampNeg = k ∧ ¬ j < 0 := by
  refine ⟨by unfold Int32.toNatClampNeg; rw [hj]; rfl, ?_⟩
  rw [Int32.lt_iff_toInt_lt, hj]; have : (0 : Int32).toInt = 0 := rfl; omega
/-- at a lies an array of n bytes; the i-th is f i -/
def Bar (Z : State) (h : Heap) (a : Addr) (n : Nat) (f : Nat → Int32) : Prop := ∃ cl : Cell, Arr Z h a cl .byte ∧ cl.slots.size = n ∧ ∀ i, i < n → cl.slots[i]? = some (.int (f i))
theorem Bar.new {a : Addr} {cA : ClassId} {z : Int32} {n : Nat} (A : Arr Z h a (newA cA .byte z) .byte) (hz : z.toNatClampNeg = n) : Bar Z h a n (fun _ => 0) := by
  refine ⟨_, A, by rw [sz_new, hz], fun i hi => ?_⟩
  show (Array.replicate z.toNatClampNeg (defaultValue .byte))[i]? = _
  rw [hz]; simp [hi, defaultValue]
theorem Bar.ext {a : Addr} {n : Nat} {f : Nat → Int32} {h' : Heap} (B : Bar Z h a n f) (E : Ext h h') : Bar Z h' a n f := by obtain ⟨cl, A, r⟩ := B; exact ⟨cl, A.ext E, r⟩
theorem Bar.keep {a : Addr} {n : Nat} {f : Nat → Int32} {h' : Heap} {ws : List Addr} (B : Bar Z h a n f) (K : Keep h h' ws) (q : a ∉ ws) : Bar Z h' a n f := by obtain ⟨cl, A, r⟩ := B; exact ⟨cl, ⟨K.2.1 a cl A.1 q, A.2⟩, r⟩
theorem Bar.lt {a : Addr} {n : Nat} {f : Nat → Int32} (B : Bar Z h a n f) : a < h.size := by obtain ⟨cl, A, r⟩ := B; exact A.lt
theorem Bar.to {a : Addr} {n : Nat} {f g : Nat → Int32} (B : Bar Z h a n f) (q : ∀ i, i < n → f i = g i) : Bar Z h a n g := by obtain ⟨cl, A, r, s⟩ := B; exact ⟨cl, A, r, fun i hi => by rw [s i hi, q i hi]⟩
theorem Bar.set {a : Addr} {n : Nat} {f : Nat → Int32} {h' : Heap} {k : Nat} {x : Int32} (B : Bar Z h a n f) (hk : k < n) (W : Wr h h' a k (.int x)) : Bar Z h' a n (fun i => if i = k then x else f i) := by
  obtain ⟨cl, A, r, s⟩ := B
  refine ⟨_, A.same W, by rw [sz_set, r], fun i hi => ?_⟩
  show (cl.setSlot k (.int x)).slots[i]? = some (.int (if i = k then x else f i))
  by_cases e : i = k
  · subst e; simp [Cell.setSlot, r, hi]
  · rw [if_neg e, ← s i hi]; exact Array.getElem?_setIfInBounds_ne (Ne.symm e)
theorem g_bastore (X : Stand p l e R s m args below meth c T locs cells slots) (hx : p.tables.exec = Jvm.exec) (hZ : Z.Warmed39 s.vm) (eT : T.heap = h) {a : Addr} {n : Nat} {f : Nat → Int32} (B : Bar Z h a n f) {j x : Int32} {k : Nat} (hj : j.toInt = (k : Int)) (hk : k < n)
    {pc : Nat} (pc' : Nat) {Ls : Array Slot} {st : List Value} (hd : decode c.code pc = .ok (.bastore, 1)) (hp : pc + 1 = pc') :
    ∃ T' h', Stand p l e R s m args below meth c T' (locs ++ [⟨a, k⟩]) cells slots ∧ T'.heap = h' ∧ Wr h h' a k (.int (nar .byte x)) ∧ Bar Z h' a n (fun i => if i = k then nar .byte x else f i) ∧
      ∀ {P : State → Outcome → Prop}, Go p e below P (T'.setTop (mkF m pc' Ls st)) → Go p e below P (T.setTop (mkF m pc Ls (.int x :: .int j :: .ref a :: st))) := by
  subst hp
  have B0 := B
  obtain ⟨cl, A, r, q⟩ := B
  obtain ⟨c1, c2⟩ := own_clamp hj
  obtain ⟨T', h', X', e', W, f'⟩ := stB X hx hZ eT A (j := j) (x := x) (by rw [c1, r]; intro z; rcases z with z | z; exact c2 z; omega) (g := mkF m pc Ls (.int x :: .int j :: .ref a :: st)) rfl rfl hd
  rw [c1] at X' W
  exact ⟨T', h', X', e', W, B0.set hk W, fun G => Go.of G f'⟩
theorem g_baload (X : Stand p l e R s m args below meth c T locs cells slots) (hx : p.tables.exec = Jvm.exec) (hZ : Z.Warmed39 s.vm) (eT : T.heap = h) {a : Addr} {n : Nat} {f : Nat → Int32} (B : Bar Z h a n f) {j : Int32} {k : Nat} (hj : j.toInt = (k : Int)) (hk : k < n)
    {pc : Nat} (pc' : Nat) {Ls : Array Slot} {st : List Value} (hd : decode c.code pc = .ok (.baload, 1)) (hp : pc + 1 = pc') (G : Go p e below P (T.setTop (mkF m pc' Ls (.int (f k) :: st)))) : Go p e below P (T.setTop (mkF m pc Ls (.int j :: .ref a :: st))) := by
  subst hp
  obtain ⟨cl, A, r, q⟩ := B
  obtain ⟨c1, c2⟩ := own_clamp hj
  exact Go.of G fun _ k' => X.baloadBytes hx (by rw [eT]; exact A.1) (State.isArrayOf_alike hZ.alike A.2.1) A.2.2 (by rw [c1, r]; intro z; rcases z with z | z; exact c2 z; omega) (by rw [c1]; exact q _ hk) (g := mkF m pc Ls (.int j :: .ref a :: st)) rfl rfl hd _ k'

end Own
def isLen (N l : Nat) : Prop := 1 ≤ l ∧ l ≤ 19 ∧ N < 10 ^ l ∧ (l = 1 ∨ 10 ^ (l - 1) ≤ N)
theorem isLen_le {N l l' : Nat} (h : isLen N l) (h' : isLen N l') : l ≤ l' := by
  rcases Nat.lt_or_ge l' l with q | q
  · rcases h.2.2.2 with e | e
    · have := h'.1; omega
    · have h1 : 10 ^ l' ≤ 10 ^ (l - 1) := Nat.pow_le_pow_right (by decide) (by omega)
      have := h'.2.2.1; omega
  · exact q
theorem isLen_uniq {N l l' : Nat} (h : isLen N l) (h' : isLen N l') : l = l' := Nat.le_antisymm (isLen_le h h') (isLen_le h' h)
theorem own_ltN {q c : Int64} {N P : Nat} (hq : q.toInt = N) (hc : c.toInt = P) (h : q < c) : N < P := by
  rw [Int64.lt_iff_toInt_lt, hq, hc] at h; omega
theorem own_geN {q c : Int64} {N P : Nat} (hq : q.toInt = N) (hc : c.toInt = P) (h : ¬ q < c) : P ≤ N := by
  rw [Int64.lt_iff_toInt_lt, hq, hc] at h; omega
def dg (d : Nat) : Int32 := Int32.ofInt (48 + (d : Int))
theorem dg_toInt {d : Nat} (h : d < 10) : (dg d).toInt = 48 + (d : Int) := by
  unfold dg; rw [Int32.toInt_ofInt]; exact Jvm.Kit.bmod32 (by omega) (by omega)
theorem own_i2b {x : Int32} (h1 : 0 ≤ x.toInt) (h2 : x.toInt < 128) : x.toInt8.toInt32 = x := by
  apply Int32.toInt_inj.mp
  rw [Int8.toInt_toInt32, Int32.toInt_toInt8, Int.bmod_def]; omega
theorem own_div {q z : Int64} {N P : Nat} (hq : q.toInt = N) (hz : z.toInt = P) : (q / z).toInt = ((N / P : Nat) : Int) := by
  rw [Jvm.Kit.i64_div (by omega), hq, hz, Int.tdiv_eq_ediv_of_nonneg (by omega)]; rfl
theorem own_rem {q : Int64} {N : Nat} (hq : q.toInt = N) : (q % (10 : Int64)).toInt = ((N % 10 : Nat) : Int) := by
  rw [Int64.toInt_mod, hq, Int.tmod_eq_emod_of_nonneg (by omega)]; rfl
theorem own_dig1 {q : Int64} {M : Nat} (hq : q.toInt = M) : (((48 : Int64) + q % (10 : Int64)).toInt32.toInt8.toInt32) = dg (M % 10) := by
  have h1 := own_rem hq
  have hm : M % 10 < 10 := Nat.mod_lt _ (by decide)
  have e48 : (48 : Int64).toInt = 48 := rfl
  have h2 : ((48 : Int64) + q % (10 : Int64)).toInt = 48 + ((M % 10 : Nat) : Int) := by rw [Jvm.Kit.i64_add] <;> rw [h1, e48] <;> omega
  have h3 : ((48 : Int64) + q % (10 : Int64)).toInt32.toInt = 48 + ((M % 10 : Nat) : Int) := by rw [Jvm.Kit.i32_of_i64] <;> rw [h2] <;> omega
  rw [own_i2b (by omega) (by omega)]
  exact Int32.toInt_inj.mp (by rw [h3, dg_toInt hm])
theorem own_dig2 {q z : Int64} {N P : Nat} (hq : q.toInt = N) (hz : z.toInt = P) : ((48 : Int32) + ((q / z) % (10 : Int64)).toInt32).toInt8.toInt32 = dg (N / P % 10) := by
  have h1 := own_rem (own_div hq hz)
  have hm : N / P % 10 < 10 := Nat.mod_lt _ (by decide)
  have e48 : (48 : Int32).toInt = 48 := rfl
  have h2 : ((q / z) % (10 : Int64)).toInt32.toInt = ((N / P % 10 : Nat) : Int) := by rw [Jvm.Kit.i32_of_i64] <;> rw [h1] <;> omega
  have h3 : ((48 : Int32) + ((q / z) % (10 : Int64)).toInt32).toInt = 48 + ((N / P % 10 : Nat) : Int) := by rw [Jvm.Kit.i32_add] <;> rw [h2, e48] <;> omega
  rw [own_i2b (by omega) (by omega)]
  exact Int32.toInt_inj.mp (by rw [h3, dg_toInt hm])
/-- what the array holds when the places from at + r on are written -/
def DD (at' l N r i : Nat) : Int32 := if at' + r ≤ i ∧ i < at' + l then dg (N / 10 ^ (at' + l - 1 - i) % 10) else 0
theorem DD_step {at' l N r : Nat} (hr : r + 1 ≤ l) (i : Nat) : DD at' l N r i = if i = at' + r then dg (N / 10 ^ (l - 1 - r) % 10) else DD at' l N (r + 1) i := by
  unfold DD
  by_cases h : i = at' + r
  · rw [if_pos h, if_pos (by omega), h]; congr 4; omega
  · rw [if_neg h]
    by_cases h2 : at' + r ≤ i ∧ i < at' + l
    · rw [if_pos h2, if_pos (by omega)]
    · rw [if_neg h2, if_neg (by omega)]
theorem DD_l (at' l N i : Nat) : DD at' l N l i = 0 := by unfold DD; rw [if_neg (by omega)]
theorem own_n {x : Int64} {s : Int32} {n : Int64} (h : (x &&& (9223372036854775807 : Int64)) = n) : 0 ≤ n.toInt := by
  have e1 : (x &&& (9223372036854775807 : Int64)).toInt = x.toInt % 2 ^ 63 := Jvm.Kit.i64_mask x _ (k := 63) (by decide) (by decide)
  rw [← h, e1]; omega
theorem own_nn {x n : Int64} {y : Int32} (h : XT.ushrL (x &&& (9223372036854775807 : Int64)) y = n) : ∃ N : Nat, n.toInt = (N : Int) := by
  have e1 : (x &&& (9223372036854775807 : Int64)).toInt = x.toInt % 2 ^ 63 := Jvm.Kit.i64_mask x _ (k := 63) (by decide) (by decide)
  generalize (x &&& (9223372036854775807 : Int64)) = m at *
  have e2 : m.toInt = m.toBitVec.toInt := rfl
  have hb := m.toBitVec.isLt
  have e3 : m.toUInt64.toNat = m.toBitVec.toNat := rfl
  have h0 : 2 * m.toBitVec.toNat < 2 ^ 64 := by
    rw [e2, BitVec.toInt_eq_toNat_cond] at e1
    by_cases q : 2 * m.toBitVec.toNat < 2 ^ 64
    · exact q
    · rw [if_neg q] at e1; omega
  have h1 : n.toUInt64.toNat ≤ m.toUInt64.toNat := by
    rw [← h]; unfold XT.ushrL
    show (m.toUInt64 >>> _).toNat ≤ _
    rw [UInt64.toNat_shiftRight, Nat.shiftRight_eq_div_pow]; exact Nat.div_le_self _ _
  have e4 : n.toUInt64.toNat = n.toBitVec.toNat := rfl
  have e5 : n.toInt = n.toBitVec.toInt := rfl
  refine ⟨n.toBitVec.toNat, ?_⟩
  rw [e5, BitVec.toInt_eq_toNat_cond, if_pos (by omega)]
theorem own_at {a t : Int32} (h : a &&& (3 : Int32) = t) : ∃ k : Nat, k ≤ 3 ∧ t.toInt = (k : Int) := by
  have e1 : (a &&& (3 : Int32)).toInt = a.toInt % 2 ^ 2 := Jvm.Kit.i32_mask a _ (k := 2) (by decide) (by decide)
  exact ⟨t.toInt.toNat, by rw [← h, e1]; omega, by rw [← h, e1]; omega⟩
theorem own_N {n : Int64} {N : Nat} (h : n.toInt = (N : Int)) : N < 10 ^ 19 := by have := n.toInt_lt; omega
/-- loop 1: one digit more -/
theorem own_add {a b : Int32} {k j : Nat} (ha : a.toInt = (k : Int)) (hb : b.toInt = (j : Int)) (hk : k + j < 1000) : (a + b).toInt = ((k + j : Nat) : Int) := by
  rw [Jvm.Kit.i32_add (by omega) (by omega), ha, hb]; omega
theorem own_sub {a b : Int32} {k j : Nat} (ha : a.toInt = (k : Int)) (hb : b.toInt = (j : Int)) (hj : j ≤ k) (hk : k < 1000) : (a - b).toInt = ((k - j : Nat) : Int) := by
  rw [Jvm.Kit.i32_sub (by omega) (by omega), ha, hb]; omega
theorem own_pos {q : Int64} {M : Nat} (hq : q.toInt = (M : Int)) : (0 : Int64) < q ↔ 0 < M := by
  rw [Int64.lt_iff_toInt_lt, hq]; have : (0 : Int64).toInt = 0 := rfl; omega
theorem own_z {q : Int64} {P : Nat} (hq : q.toInt = (P : Int)) (hP : 0 < P) : q ≠ 0 := fun e => by
  rw [e] at hq; have : (0 : Int64).toInt = 0 := rfl; omega
def LQ (h0 : Heap) (v : Option Value) (h : Heap) (L : List Loc) : Prop := v = some (.int 1) ∧ Fr h0.size L
def PQ (Z : State) (a : Addr) (q2 : Int32) (k N : Nat) (h0 : Heap) (n0 : Nat) (v : Option Value) (h : Heap) (L : List Loc) : Prop := ∃ (z : Int32) (l : Nat), v = some (.int z) ∧ isLen N l ∧ z.toInt = ((k + l : Nat) : Int) ∧ Fr n0 L ∧ Keep h0 h [a] ∧ Bar Z h a 23 (DD k l N 0)
theorem len_0 : decode method_4_code 0 = .ok (.lload_n 0, 1) := by decide +kernel
theorem len_1 : decode method_4_code 1 = .ok (.ldc2_w 31, 3) := by decide +kernel
theorem len_4 : decode method_4_code 4 = .ok (.lcmp, 1) := by decide +kernel
theorem len_5 : decode method_4_code 5 = .ok (.ifCond .ge 5, 3) := by decide +kernel
theorem len_8 : decode method_4_code 8 = .ok (.iconst 1, 1) := by decide +kernel
theorem len_9 : decode method_4_code 9 = .ok (.ireturn, 1) := by decide +kernel
theorem len_10 : decode method_4_code 10 = .ok (.lload_n 0, 1) := by decide +kernel
theorem len_11 : decode method_4_code 11 = .ok (.ldc2_w 33, 3) := by decide +kernel
theorem len_14 : decode method_4_code 14 = .ok (.lcmp, 1) := by decide +kernel
theorem len_15 : decode method_4_code 15 = .ok (.ifCond .ge 5, 3) := by decide +kernel
theorem len_18 : decode method_4_code 18 = .ok (.iconst 2, 1) := by decide +kernel
theorem len_19 : decode method_4_code 19 = .ok (.ireturn, 1) := by decide +kernel
theorem len_20 : decode method_4_code 20 = .ok (.lload_n 0, 1) := by decide +kernel
theorem len_21 : decode method_4_code 21 = .ok (.ldc2_w 35, 3) := by decide +kernel
theorem len_24 : decode method_4_code 24 = .ok (.lcmp, 1) := by decide +kernel
theorem len_25 : decode method_4_code 25 = .ok (.ifCond .ge 5, 3) := by decide +kernel
theorem len_28 : decode method_4_code 28 = .ok (.iconst 3, 1) := by decide +kernel
theorem len_29 : decode method_4_code 29 = .ok (.ireturn, 1) := by decide +kernel
theorem len_30 : decode method_4_code 30 = .ok (.lload_n 0, 1) := by decide +kernel
theorem len_31 : decode method_4_code 31 = .ok (.ldc2_w 37, 3) := by decide +kernel
theorem len_34 : decode method_4_code 34 = .ok (.lcmp, 1) := by decide +kernel
theorem len_35 : decode method_4_code 35 = .ok (.ifCond .ge 5, 3) := by decide +kernel
theorem len_38 : decode method_4_code 38 = .ok (.iconst 4, 1) := by decide +kernel
theorem len_39 : decode method_4_code 39 = .ok (.ireturn, 1) := by decide +kernel
theorem len_40 : decode method_4_code 40 = .ok (.lload_n 0, 1) := by decide +kernel
theorem len_41 : decode method_4_code 41 = .ok (.ldc2_w 39, 3) := by decide +kernel
theorem len_44 : decode method_4_code 44 = .ok (.lcmp, 1) := by decide +kernel
theorem len_45 : decode method_4_code 45 = .ok (.ifCond .ge 5, 3) := by decide +kernel
theorem len_48 : decode method_4_code 48 = .ok (.iconst 5, 1) := by decide +kernel
theorem len_49 : decode method_4_code 49 = .ok (.ireturn, 1) := by decide +kernel
theorem len_50 : decode method_4_code 50 = .ok (.lload_n 0, 1) := by decide +kernel
theorem len_51 : decode method_4_code 51 = .ok (.ldc2_w 41, 3) := by decide +kernel
theorem len_54 : decode method_4_code 54 = .ok (.lcmp, 1) := by decide +kernel
theorem len_55 : decode method_4_code 55 = .ok (.ifCond .ge 6, 3) := by decide +kernel
theorem len_58 : decode method_4_code 58 = .ok (.bipush 6, 2) := by decide +kernel
theorem len_60 : decode method_4_code 60 = .ok (.ireturn, 1) := by decide +kernel
theorem len_61 : decode method_4_code 61 = .ok (.lload_n 0, 1) := by decide +kernel
theorem len_62 : decode method_4_code 62 = .ok (.ldc2_w 43, 3) := by decide +kernel
theorem len_65 : decode method_4_code 65 = .ok (.lcmp, 1) := by decide +kernel
theorem len_66 : decode method_4_code 66 = .ok (.ifCond .ge 6, 3) := by decide +kernel
theorem len_69 : decode method_4_code 69 = .ok (.bipush 7, 2) := by decide +kernel
theorem len_71 : decode method_4_code 71 = .ok (.ireturn, 1) := by decide +kernel
theorem len_72 : decode method_4_code 72 = .ok (.lload_n 0, 1) := by decide +kernel
theorem len_73 : decode method_4_code 73 = .ok (.ldc2_w 45, 3) := by decide +kernel
theorem len_76 : decode method_4_code 76 = .ok (.lcmp, 1) := by decide +kernel
theorem len_77 : decode method_4_code 77 = .ok (.ifCond .ge 6, 3) := by decide +kernel
theorem len_80 : decode method_4_code 80 = .ok (.bipush 8, 2) := by decide +kernel
theorem len_82 : decode method_4_code 82 = .ok (.ireturn, 1) := by decide +kernel
theorem len_83 : decode method_4_code 83 = .ok (.lload_n 0, 1) := by decide +kernel
theorem len_84 : decode method_4_code 84 = .ok (.ldc2_w 47, 3) := by decide +kernel
theorem len_87 : decode method_4_code 87 = .ok (.lcmp, 1) := by decide +kernel
theorem len_88 : decode method_4_code 88 = .ok (.ifCond .ge 6, 3) := by decide +kernel
theorem len_91 : decode method_4_code 91 = .ok (.bipush 9, 2) := by decide +kernel
theorem len_93 : decode method_4_code 93 = .ok (.ireturn, 1) := by decide +kernel
theorem len_94 : decode method_4_code 94 = .ok (.lload_n 0, 1) := by decide +kernel
theorem len_95 : decode method_4_code 95 = .ok (.ldc2_w 49, 3) := by decide +kernel
theorem len_98 : decode method_4_code 98 = .ok (.lcmp, 1) := by decide +kernel
theorem len_99 : decode method_4_code 99 = .ok (.ifCond .ge 6, 3) := by decide +kernel
theorem len_102 : decode method_4_code 102 = .ok (.bipush 10, 2) := by decide +kernel
theorem len_104 : decode method_4_code 104 = .ok (.ireturn, 1) := by decide +kernel
theorem len_105 : decode method_4_code 105 = .ok (.lload_n 0, 1) := by decide +kernel
theorem len_106 : decode method_4_code 106 = .ok (.ldc2_w 51, 3) := by decide +kernel
theorem len_109 : decode method_4_code 109 = .ok (.lcmp, 1) := by decide +kernel
theorem len_110 : decode method_4_code 110 = .ok (.ifCond .ge 6, 3) := by decide +kernel
theorem len_113 : decode method_4_code 113 = .ok (.bipush 11, 2) := by decide +kernel
theorem len_115 : decode method_4_code 115 = .ok (.ireturn, 1) := by decide +kernel
theorem len_116 : decode method_4_code 116 = .ok (.lload_n 0, 1) := by decide +kernel
theorem len_117 : decode method_4_code 117 = .ok (.ldc2_w 53, 3) := by decide +kernel
theorem len_120 : decode method_4_code 120 = .ok (.lcmp, 1) := by decide +kernel
theorem len_121 : decode method_4_code 121 = .ok (.ifCond .ge 6, 3) := by decide +kernel
theorem len_124 : decode method_4_code 124 = .ok (.bipush 12, 2) := by decide +kernel
theorem len_126 : decode method_4_code 126 = .ok (.ireturn, 1) := by decide +kernel
theorem len_127 : decode method_4_code 127 = .ok (.lload_n 0, 1) := by decide +kernel
theorem len_128 : decode method_4_code 128 = .ok (.ldc2_w 55, 3) := by decide +kernel
theorem len_131 : decode method_4_code 131 = .ok (.lcmp, 1) := by decide +kernel
theorem len_132 : decode method_4_code 132 = .ok (.ifCond .ge 6, 3) := by decide +kernel
theorem len_135 : decode method_4_code 135 = .ok (.bipush 13, 2) := by decide +kernel
theorem len_137 : decode method_4_code 137 = .ok (.ireturn, 1) := by decide +kernel
theorem len_138 : decode method_4_code 138 = .ok (.lload_n 0, 1) := by decide +kernel
theorem len_139 : decode method_4_code 139 = .ok (.ldc2_w 57, 3) := by decide +kernel
theorem len_142 : decode method_4_code 142 = .ok (.lcmp, 1) := by decide +kernel
theorem len_143 : decode method_4_code 143 = .ok (.ifCond .ge 6, 3) := by decide +kernel
theorem len_146 : decode method_4_code 146 = .ok (.bipush 14, 2) := by decide +kernel
theorem len_148 : decode method_4_code 148 = .ok (.ireturn, 1) := by decide +kernel
theorem len_149 : decode method_4_code 149 = .ok (.lload_n 0, 1) := by decide +kernel
theorem len_150 : decode method_4_code 150 = .ok (.ldc2_w 59, 3) := by decide +kernel
theorem len_153 : decode method_4_code 153 = .ok (.lcmp, 1) := by decide +kernel
theorem len_154 : decode method_4_code 154 = .ok (.ifCond .ge 6, 3) := by decide +kernel
theorem len_157 : decode method_4_code 157 = .ok (.bipush 15, 2) := by decide +kernel
theorem len_159 : decode method_4_code 159 = .ok (.ireturn, 1) := by decide +kernel
theorem len_160 : decode method_4_code 160 = .ok (.lload_n 0, 1) := by decide +kernel
theorem len_161 : decode method_4_code 161 = .ok (.ldc2_w 61, 3) := by decide +kernel
theorem len_164 : decode method_4_code 164 = .ok (.lcmp, 1) := by decide +kernel
theorem len_165 : decode method_4_code 165 = .ok (.ifCond .ge 6, 3) := by decide +kernel
theorem len_168 : decode method_4_code 168 = .ok (.bipush 16, 2) := by decide +kernel
theorem len_170 : decode method_4_code 170 = .ok (.ireturn, 1) := by decide +kernel
theorem len_171 : decode method_4_code 171 = .ok (.lload_n 0, 1) := by decide +kernel
theorem len_172 : decode method_4_code 172 = .ok (.ldc2_w 63, 3) := by decide +kernel
theorem len_175 : decode method_4_code 175 = .ok (.lcmp, 1) := by decide +kernel
theorem len_176 : decode method_4_code 176 = .ok (.ifCond .ge 6, 3) := by decide +kernel
theorem len_179 : decode method_4_code 179 = .ok (.bipush 17, 2) := by decide +kernel
theorem len_181 : decode method_4_code 181 = .ok (.ireturn, 1) := by decide +kernel
theorem len_182 : decode method_4_code 182 = .ok (.lload_n 0, 1) := by decide +kernel
theorem len_183 : decode method_4_code 183 = .ok (.ldc2_w 65, 3) := by decide +kernel
theorem len_186 : decode method_4_code 186 = .ok (.lcmp, 1) := by decide +kernel
theorem len_187 : decode method_4_code 187 = .ok (.ifCond .ge 6, 3) := by decide +kernel
theorem len_190 : decode method_4_code 190 = .ok (.bipush 18, 2) := by decide +kernel
theorem len_192 : decode method_4_code 192 = .ok (.ireturn, 1) := by decide +kernel
theorem len_193 : decode method_4_code 193 = .ok (.bipush 19, 2) := by decide +kernel
theorem len_195 : decode method_4_code 195 = .ok (.ireturn, 1) := by decide +kernel
theorem pn_len : plainFor (⟨"com/example/counterweight/counterweight/DecimalsPutWholePinLaw", "len", "(J)I"⟩ : MethodName) = true := by first | exact plainFor_of_name (by first | (simp [plainName, overriddenIn]; done) | decide +kernel) | decide +kernel
theorem ef_len (m : MethodId) (q1 : Int64) : entryFrame m #[(.long q1)] 2 = mkF m 0 #[.val (.long q1), .second] [] := by first | (simp [entryFrame, mkF, argsToLocals, Value.category, maxLocals]; done) | rfl
theorem pd_len : parseMethodDescriptor "(J)I" = some ⟨[.long], some (.int)⟩ := by decide +kernel
set_option maxRecDepth 65536 in
set_option maxHeartbeats 40000000 in
theorem rm_len (l : Launch) (Z : State) (a0 : Array Value) (hw : ∀ d ∈ tables_1, d.before a0 Z = true)  (q1 : Int64) (h0 : Heap) (N ln : Nat) (hN : q1.toInt = (N : Int)) (hl : isLen N ln) (z : Int32) (hz : z.toInt = (ln : Int)) :
    MetFree l (⟨"com/example/counterweight/counterweight/DecimalsPutWholePinLaw", "len", "(J)I"⟩ : MethodName) (head1 [Jvm.Cond.code (⟨"com/example/counterweight/counterweight/DecimalsPutWholePinLaw", "len", "(J)I"⟩ : MethodName) method_4_code 2 (some Jvm.ClassFile.FieldType.int)] ({ frames := 0, cells := 0, slots := 0, locals := 0 } : Room)) (fun a U => a = #[(.long q1)] ∧ Z.Warmed39 U.vm ∧ U.heap = h0) (fun _ _ _ _ _ => True) (fun _ U o U' => ∃ v L, o = .returned v ∧ Pur (some (.int z)) h0 v U'.heap L ∧ FrameEnd U o U' L ({ frames := 0, cells := 0, slots := 0, locals := 0 } : Room).cells ({ frames := 0, cells := 0, slots := 0, locals := 0 } : Room).slots) := by
  refine MetFree.of_bodySF pn_len hisR ?_
  intro p e s m args below meth c s₁ Bd hml0 hP hK
  obtain ⟨rfl, hZ, hh⟩ := hP
  have hx := Bd.exec
  have hby := Bd.bytes
  have hml : c.maxLocals = 2 := hml0
  have hown : s.vm.findClass "com/example/counterweight/counterweight/DecimalsPutWholePinLaw" = some m.cls := findClass_of_methodNamed Bd.named
  have hnm := (name_of_methodNamed Bd.named Bd.method).1
  have hlk : meth.locks = false := BodyLoose.notSynchronized Bd
  have X0 : Stand p l e ({ frames := 0, cells := 0, slots := 0, locals := 0 } : Room) s m #[(.long q1)] below meth c s₁ [] 0 0 := Stand.of_body Bd
  have e0 : s₁.heap = h0 := by rw [← hh, Bd.state]; rfl
  show Go p e below (EndN below s (Pur (some (.int z)) h0) ({ frames := 0, cells := 0, slots := 0, locals := 0 } : Room).cells ({ frames := 0, cells := 0, slots := 0, locals := 0 } : Room).slots) (s₁.setTop (entryFrame m #[(.long q1)] 2))
  rw [ef_len]
  refine g_lload_n X0 hx 1 q1 (hb hby len_0) rfl rfl ?_
  refine g_ldc2_w X0 hx 4 (hb hby len_1) hown (mvT hZ (hw _ (List.mem_of_getElem? (i := 12) rfl))) rfl ?_
  refine g_lcmp X0 hx 5 (hb hby len_4) rfl ?_
  by_cases c5 : q1 < (10 : Int64)
  ·
    refine g_ifN X0 hx 8 (hb hby len_5) (XT.ll_ge_f c5) rfl ?_
    refine g_iconst X0 hx 9 (1 : Int32) (hb hby len_8) rfl rfl ?_
    have el : ln = 1 := isLen_uniq hl ⟨by decide, by decide, own_ltN hN (P := 10 ^ 1) rfl c5, Or.inl rfl⟩
    have ez : z = (1 : Int32) := Int32.toInt_inj.mp (by rw [hz, el]; rfl)
    exact Go.retI X0 hx hlk Bd.returns (hb hby len_9) (by decide) (by decide) ⟨by rw [ez], rfl, e0⟩
  ·
    refine g_ifY X0 hx 10 (hb hby len_5) (XT.ll_ge_t c5) (by decide) (by decide) ?_
    refine g_lload_n X0 hx 11 q1 (hb hby len_10) rfl rfl ?_
    refine g_ldc2_w X0 hx 14 (hb hby len_11) hown (mvT hZ (hw _ (List.mem_of_getElem? (i := 19) rfl))) rfl ?_
    refine g_lcmp X0 hx 15 (hb hby len_14) rfl ?_
    by_cases c15 : q1 < (100 : Int64)
    ·
      refine g_ifN X0 hx 18 (hb hby len_15) (XT.ll_ge_f c15) rfl ?_
      refine g_iconst X0 hx 19 (2 : Int32) (hb hby len_18) rfl rfl ?_
      have el : ln = 2 := isLen_uniq hl ⟨by decide, by decide, own_ltN hN (P := 10 ^ 2) rfl c15, Or.inr (own_geN hN (P := 10 ^ 1) rfl c5)⟩
      have ez : z = (2 : Int32) := Int32.toInt_inj.mp (by rw [hz, el]; rfl)
      exact Go.retI X0 hx hlk Bd.returns (hb hby len_19) (by decide) (by decide) ⟨by rw [ez], rfl, e0⟩
    ·
      refine g_ifY X0 hx 20 (hb hby len_15) (XT.ll_ge_t c15) (by decide) (by decide) ?_
      refine g_lload_n X0 hx 21 q1 (hb hby len_20) rfl rfl ?_
      refine g_ldc2_w X0 hx 24 (hb hby len_21) hown (mvT hZ (hw _ (List.mem_of_getElem? (i := 20) rfl))) rfl ?_
      refine g_lcmp X0 hx 25 (hb hby len_24) rfl ?_
      by_cases c25 : q1 < (1000 : Int64)
      ·
        refine g_ifN X0 hx 28 (hb hby len_25) (XT.ll_ge_f c25) rfl ?_
        refine g_iconst X0 hx 29 (3 : Int32) (hb hby len_28) rfl rfl ?_
        have el : ln = 3 := isLen_uniq hl ⟨by decide, by decide, own_ltN hN (P := 10 ^ 3) rfl c25, Or.inr (own_geN hN (P := 10 ^ 2) rfl c15)⟩
        have ez : z = (3 : Int32) := Int32.toInt_inj.mp (by rw [hz, el]; rfl)
        exact Go.retI X0 hx hlk Bd.returns (hb hby len_29) (by decide) (by decide) ⟨by rw [ez], rfl, e0⟩
      ·
        refine g_ifY X0 hx 30 (hb hby len_25) (XT.ll_ge_t c25) (by decide) (by decide) ?_
        refine g_lload_n X0 hx 31 q1 (hb hby len_30) rfl rfl ?_
        refine g_ldc2_w X0 hx 34 (hb hby len_31) hown (mvT hZ (hw _ (List.mem_of_getElem? (i := 21) rfl))) rfl ?_
        refine g_lcmp X0 hx 35 (hb hby len_34) rfl ?_
        by_cases c35 : q1 < (10000 : Int64)
        ·
          refine g_ifN X0 hx 38 (hb hby len_35) (XT.ll_ge_f c35) rfl ?_
          refine g_iconst X0 hx 39 (4 : Int32) (hb hby len_38) rfl rfl ?_
          have el : ln = 4 := isLen_uniq hl ⟨by decide, by decide, own_ltN hN (P := 10 ^ 4) rfl c35, Or.inr (own_geN hN (P := 10 ^ 3) rfl c25)⟩
          have ez : z = (4 : Int32) := Int32.toInt_inj.mp (by rw [hz, el]; rfl)
          exact Go.retI X0 hx hlk Bd.returns (hb hby len_39) (by decide) (by decide) ⟨by rw [ez], rfl, e0⟩
        ·
          refine g_ifY X0 hx 40 (hb hby len_35) (XT.ll_ge_t c35) (by decide) (by decide) ?_
          refine g_lload_n X0 hx 41 q1 (hb hby len_40) rfl rfl ?_
          refine g_ldc2_w X0 hx 44 (hb hby len_41) hown (mvT hZ (hw _ (List.mem_of_getElem? (i := 22) rfl))) rfl ?_
          refine g_lcmp X0 hx 45 (hb hby len_44) rfl ?_
          by_cases c45 : q1 < (100000 : Int64)
          ·
            refine g_ifN X0 hx 48 (hb hby len_45) (XT.ll_ge_f c45) rfl ?_
            refine g_iconst X0 hx 49 (5 : Int32) (hb hby len_48) rfl rfl ?_
            have el : ln = 5 := isLen_uniq hl ⟨by decide, by decide, own_ltN hN (P := 10 ^ 5) rfl c45, Or.inr (own_geN hN (P := 10 ^ 4) rfl c35)⟩
            have ez : z = (5 : Int32) := Int32.toInt_inj.mp (by rw [hz, el]; rfl)
            exact Go.retI X0 hx hlk Bd.returns (hb hby len_49) (by decide) (by decide) ⟨by rw [ez], rfl, e0⟩
          ·
            refine g_ifY X0 hx 50 (hb hby len_45) (XT.ll_ge_t c45) (by decide) (by decide) ?_
            refine g_lload_n X0 hx 51 q1 (hb hby len_50) rfl rfl ?_
            refine g_ldc2_w X0 hx 54 (hb hby len_51) hown (mvT hZ (hw _ (List.mem_of_getElem? (i := 23) rfl))) rfl ?_
            refine g_lcmp X0 hx 55 (hb hby len_54) rfl ?_
            by_cases c55 : q1 < (1000000 : Int64)
            ·
              refine g_ifN X0 hx 58 (hb hby len_55) (XT.ll_ge_f c55) rfl ?_
              refine g_bipush X0 hx 60 (6 : Int32) (hb hby len_58) rfl rfl ?_
              have el : ln = 6 := isLen_uniq hl ⟨by decide, by decide, own_ltN hN (P := 10 ^ 6) rfl c55, Or.inr (own_geN hN (P := 10 ^ 5) rfl c45)⟩
              have ez : z = (6 : Int32) := Int32.toInt_inj.mp (by rw [hz, el]; rfl)
              exact Go.retI X0 hx hlk Bd.returns (hb hby len_60) (by decide) (by decide) ⟨by rw [ez], rfl, e0⟩
            ·
              refine g_ifY X0 hx 61 (hb hby len_55) (XT.ll_ge_t c55) (by decide) (by decide) ?_
              refine g_lload_n X0 hx 62 q1 (hb hby len_61) rfl rfl ?_
              refine g_ldc2_w X0 hx 65 (hb hby len_62) hown (mvT hZ (hw _ (List.mem_of_getElem? (i := 24) rfl))) rfl ?_
              refine g_lcmp X0 hx 66 (hb hby len_65) rfl ?_
              by_cases c66 : q1 < (10000000 : Int64)
              ·
                refine g_ifN X0 hx 69 (hb hby len_66) (XT.ll_ge_f c66) rfl ?_
                refine g_bipush X0 hx 71 (7 : Int32) (hb hby len_69) rfl rfl ?_
                have el : ln = 7 := isLen_uniq hl ⟨by decide, by decide, own_ltN hN (P := 10 ^ 7) rfl c66, Or.inr (own_geN hN (P := 10 ^ 6) rfl c55)⟩
                have ez : z = (7 : Int32) := Int32.toInt_inj.mp (by rw [hz, el]; rfl)
                exact Go.retI X0 hx hlk Bd.returns (hb hby len_71) (by decide) (by decide) ⟨by rw [ez], rfl, e0⟩
              ·
                refine g_ifY X0 hx 72 (hb hby len_66) (XT.ll_ge_t c66) (by decide) (by decide) ?_
                refine g_lload_n X0 hx 73 q1 (hb hby len_72) rfl rfl ?_
                refine g_ldc2_w X0 hx 76 (hb hby len_73) hown (mvT hZ (hw _ (List.mem_of_getElem? (i := 25) rfl))) rfl ?_
                refine g_lcmp X0 hx 77 (hb hby len_76) rfl ?_
                by_cases c77 : q1 < (100000000 : Int64)
                ·
                  refine g_ifN X0 hx 80 (hb hby len_77) (XT.ll_ge_f c77) rfl ?_
                  refine g_bipush X0 hx 82 (8 : Int32) (hb hby len_80) rfl rfl ?_
                  have el : ln = 8 := isLen_uniq hl ⟨by decide, by decide, own_ltN hN (P := 10 ^ 8) rfl c77, Or.inr (own_geN hN (P := 10 ^ 7) rfl c66)⟩
                  have ez : z = (8 : Int32) := Int32.toInt_inj.mp (by rw [hz, el]; rfl)
                  exact Go.retI X0 hx hlk Bd.returns (hb hby len_82) (by decide) (by decide) ⟨by rw [ez], rfl, e0⟩
                ·
                  refine g_ifY X0 hx 83 (hb hby len_77) (XT.ll_ge_t c77) (by decide) (by decide) ?_
                  refine g_lload_n X0 hx 84 q1 (hb hby len_83) rfl rfl ?_
                  refine g_ldc2_w X0 hx 87 (hb hby len_84) hown (mvT hZ (hw _ (List.mem_of_getElem? (i := 26) rfl))) rfl ?_
                  refine g_lcmp X0 hx 88 (hb hby len_87) rfl ?_
                  by_cases c88 : q1 < (1000000000 : Int64)
                  ·
                    refine g_ifN X0 hx 91 (hb hby len_88) (XT.ll_ge_f c88) rfl ?_
                    refine g_bipush X0 hx 93 (9 : Int32) (hb hby len_91) rfl rfl ?_
                    have el : ln = 9 := isLen_uniq hl ⟨by decide, by decide, own_ltN hN (P := 10 ^ 9) rfl c88, Or.inr (own_geN hN (P := 10 ^ 8) rfl c77)⟩
                    have ez : z = (9 : Int32) := Int32.toInt_inj.mp (by rw [hz, el]; rfl)
                    exact Go.retI X0 hx hlk Bd.returns (hb hby len_93) (by decide) (by decide) ⟨by rw [ez], rfl, e0⟩
                  ·
                    refine g_ifY X0 hx 94 (hb hby len_88) (XT.ll_ge_t c88) (by decide) (by decide) ?_
                    refine g_lload_n X0 hx 95 q1 (hb hby len_94) rfl rfl ?_
                    refine g_ldc2_w X0 hx 98 (hb hby len_95) hown (mvT hZ (hw _ (List.mem_of_getElem? (i := 27) rfl))) rfl ?_
                    refine g_lcmp X0 hx 99 (hb hby len_98) rfl ?_
                    by_cases c99 : q1 < (10000000000 : Int64)
                    ·
                      refine g_ifN X0 hx 102 (hb hby len_99) (XT.ll_ge_f c99) rfl ?_
                      refine g_bipush X0 hx 104 (10 : Int32) (hb hby len_102) rfl rfl ?_
                      have el : ln = 10 := isLen_uniq hl ⟨by decide, by decide, own_ltN hN (P := 10 ^ 10) rfl c99, Or.inr (own_geN hN (P := 10 ^ 9) rfl c88)⟩
                      have ez : z = (10 : Int32) := Int32.toInt_inj.mp (by rw [hz, el]; rfl)
                      exact Go.retI X0 hx hlk Bd.returns (hb hby len_104) (by decide) (by decide) ⟨by rw [ez], rfl, e0⟩
                    ·
                      refine g_ifY X0 hx 105 (hb hby len_99) (XT.ll_ge_t c99) (by decide) (by decide) ?_
                      refine g_lload_n X0 hx 106 q1 (hb hby len_105) rfl rfl ?_
                      refine g_ldc2_w X0 hx 109 (hb hby len_106) hown (mvT hZ (hw _ (List.mem_of_getElem? (i := 28) rfl))) rfl ?_
                      refine g_lcmp X0 hx 110 (hb hby len_109) rfl ?_
                      by_cases c110 : q1 < (100000000000 : Int64)
                      ·
                        refine g_ifN X0 hx 113 (hb hby len_110) (XT.ll_ge_f c110) rfl ?_
                        refine g_bipush X0 hx 115 (11 : Int32) (hb hby len_113) rfl rfl ?_
                        have el : ln = 11 := isLen_uniq hl ⟨by decide, by decide, own_ltN hN (P := 10 ^ 11) rfl c110, Or.inr (own_geN hN (P := 10 ^ 10) rfl c99)⟩
                        have ez : z = (11 : Int32) := Int32.toInt_inj.mp (by rw [hz, el]; rfl)
                        exact Go.retI X0 hx hlk Bd.returns (hb hby len_115) (by decide) (by decide) ⟨by rw [ez], rfl, e0⟩
                      ·
                        refine g_ifY X0 hx 116 (hb hby len_110) (XT.ll_ge_t c110) (by decide) (by decide) ?_
                        refine g_lload_n X0 hx 117 q1 (hb hby len_116) rfl rfl ?_
                        refine g_ldc2_w X0 hx 120 (hb hby len_117) hown (mvT hZ (hw _ (List.mem_of_getElem? (i := 29) rfl))) rfl ?_
                        refine g_lcmp X0 hx 121 (hb hby len_120) rfl ?_
                        by_cases c121 : q1 < (1000000000000 : Int64)
                        ·
                          refine g_ifN X0 hx 124 (hb hby len_121) (XT.ll_ge_f c121) rfl ?_
                          refine g_bipush X0 hx 126 (12 : Int32) (hb hby len_124) rfl rfl ?_
                          have el : ln = 12 := isLen_uniq hl ⟨by decide, by decide, own_ltN hN (P := 10 ^ 12) rfl c121, Or.inr (own_geN hN (P := 10 ^ 11) rfl c110)⟩
                          have ez : z = (12 : Int32) := Int32.toInt_inj.mp (by rw [hz, el]; rfl)
                          exact Go.retI X0 hx hlk Bd.returns (hb hby len_126) (by decide) (by decide) ⟨by rw [ez], rfl, e0⟩
                        ·
                          refine g_ifY X0 hx 127 (hb hby len_121) (XT.ll_ge_t c121) (by decide) (by decide) ?_
                          refine g_lload_n X0 hx 128 q1 (hb hby len_127) rfl rfl ?_
                          refine g_ldc2_w X0 hx 131 (hb hby len_128) hown (mvT hZ (hw _ (List.mem_of_getElem? (i := 30) rfl))) rfl ?_
                          refine g_lcmp X0 hx 132 (hb hby len_131) rfl ?_
                          by_cases c132 : q1 < (10000000000000 : Int64)
                          ·
                            refine g_ifN X0 hx 135 (hb hby len_132) (XT.ll_ge_f c132) rfl ?_
                            refine g_bipush X0 hx 137 (13 : Int32) (hb hby len_135) rfl rfl ?_
                            have el : ln = 13 := isLen_uniq hl ⟨by decide, by decide, own_ltN hN (P := 10 ^ 13) rfl c132, Or.inr (own_geN hN (P := 10 ^ 12) rfl c121)⟩
                            have ez : z = (13 : Int32) := Int32.toInt_inj.mp (by rw [hz, el]; rfl)
                            exact Go.retI X0 hx hlk Bd.returns (hb hby len_137) (by decide) (by decide) ⟨by rw [ez], rfl, e0⟩
                          ·
                            refine g_ifY X0 hx 138 (hb hby len_132) (XT.ll_ge_t c132) (by decide) (by decide) ?_
                            refine g_lload_n X0 hx 139 q1 (hb hby len_138) rfl rfl ?_
                            refine g_ldc2_w X0 hx 142 (hb hby len_139) hown (mvT hZ (hw _ (List.mem_of_getElem? (i := 31) rfl))) rfl ?_
                            refine g_lcmp X0 hx 143 (hb hby len_142) rfl ?_
                            by_cases c143 : q1 < (100000000000000 : Int64)
                            ·
                              refine g_ifN X0 hx 146 (hb hby len_143) (XT.ll_ge_f c143) rfl ?_
                              refine g_bipush X0 hx 148 (14 : Int32) (hb hby len_146) rfl rfl ?_
                              have el : ln = 14 := isLen_uniq hl ⟨by decide, by decide, own_ltN hN (P := 10 ^ 14) rfl c143, Or.inr (own_geN hN (P := 10 ^ 13) rfl c132)⟩
                              have ez : z = (14 : Int32) := Int32.toInt_inj.mp (by rw [hz, el]; rfl)
                              exact Go.retI X0 hx hlk Bd.returns (hb hby len_148) (by decide) (by decide) ⟨by rw [ez], rfl, e0⟩
                            ·
                              refine g_ifY X0 hx 149 (hb hby len_143) (XT.ll_ge_t c143) (by decide) (by decide) ?_
                              refine g_lload_n X0 hx 150 q1 (hb hby len_149) rfl rfl ?_
                              refine g_ldc2_w X0 hx 153 (hb hby len_150) hown (mvT hZ (hw _ (List.mem_of_getElem? (i := 32) rfl))) rfl ?_
                              refine g_lcmp X0 hx 154 (hb hby len_153) rfl ?_
                              by_cases c154 : q1 < (1000000000000000 : Int64)
                              ·
                                refine g_ifN X0 hx 157 (hb hby len_154) (XT.ll_ge_f c154) rfl ?_
                                refine g_bipush X0 hx 159 (15 : Int32) (hb hby len_157) rfl rfl ?_
                                have el : ln = 15 := isLen_uniq hl ⟨by decide, by decide, own_ltN hN (P := 10 ^ 15) rfl c154, Or.inr (own_geN hN (P := 10 ^ 14) rfl c143)⟩
                                have ez : z = (15 : Int32) := Int32.toInt_inj.mp (by rw [hz, el]; rfl)
                                exact Go.retI X0 hx hlk Bd.returns (hb hby len_159) (by decide) (by decide) ⟨by rw [ez], rfl, e0⟩
                              ·
                                refine g_ifY X0 hx 160 (hb hby len_154) (XT.ll_ge_t c154) (by decide) (by decide) ?_
                                refine g_lload_n X0 hx 161 q1 (hb hby len_160) rfl rfl ?_
                                refine g_ldc2_w X0 hx 164 (hb hby len_161) hown (mvT hZ (hw _ (List.mem_of_getElem? (i := 33) rfl))) rfl ?_
                                refine g_lcmp X0 hx 165 (hb hby len_164) rfl ?_
                                by_cases c165 : q1 < (10000000000000000 : Int64)
                                ·
                                  refine g_ifN X0 hx 168 (hb hby len_165) (XT.ll_ge_f c165) rfl ?_
                                  refine g_bipush X0 hx 170 (16 : Int32) (hb hby len_168) rfl rfl ?_
                                  have el : ln = 16 := isLen_uniq hl ⟨by decide, by decide, own_ltN hN (P := 10 ^ 16) rfl c165, Or.inr (own_geN hN (P := 10 ^ 15) rfl c154)⟩
                                  have ez : z = (16 : Int32) := Int32.toInt_inj.mp (by rw [hz, el]; rfl)
                                  exact Go.retI X0 hx hlk Bd.returns (hb hby len_170) (by decide) (by decide) ⟨by rw [ez], rfl, e0⟩
                                ·
                                  refine g_ifY X0 hx 171 (hb hby len_165) (XT.ll_ge_t c165) (by decide) (by decide) ?_
                                  refine g_lload_n X0 hx 172 q1 (hb hby len_171) rfl rfl ?_
                                  refine g_ldc2_w X0 hx 175 (hb hby len_172) hown (mvT hZ (hw _ (List.mem_of_getElem? (i := 34) rfl))) rfl ?_
                                  refine g_lcmp X0 hx 176 (hb hby len_175) rfl ?_
                                  by_cases c176 : q1 < (100000000000000000 : Int64)
                                  ·
                                    refine g_ifN X0 hx 179 (hb hby len_176) (XT.ll_ge_f c176) rfl ?_
                                    refine g_bipush X0 hx 181 (17 : Int32) (hb hby len_179) rfl rfl ?_
                                    have el : ln = 17 := isLen_uniq hl ⟨by decide, by decide, own_ltN hN (P := 10 ^ 17) rfl c176, Or.inr (own_geN hN (P := 10 ^ 16) rfl c165)⟩
                                    have ez : z = (17 : Int32) := Int32.toInt_inj.mp (by rw [hz, el]; rfl)
                                    exact Go.retI X0 hx hlk Bd.returns (hb hby len_181) (by decide) (by decide) ⟨by rw [ez], rfl, e0⟩
                                  ·
                                    refine g_ifY X0 hx 182 (hb hby len_176) (XT.ll_ge_t c176) (by decide) (by decide) ?_
                                    refine g_lload_n X0 hx 183 q1 (hb hby len_182) rfl rfl ?_
                                    refine g_ldc2_w X0 hx 186 (hb hby len_183) hown (mvT hZ (hw _ (List.mem_of_getElem? (i := 35) rfl))) rfl ?_
                                    refine g_lcmp X0 hx 187 (hb hby len_186) rfl ?_
                                    by_cases c187 : q1 < (1000000000000000000 : Int64)
                                    ·
                                      refine g_ifN X0 hx 190 (hb hby len_187) (XT.ll_ge_f c187) rfl ?_
                                      refine g_bipush X0 hx 192 (18 : Int32) (hb hby len_190) rfl rfl ?_
                                      have el : ln = 18 := isLen_uniq hl ⟨by decide, by decide, own_ltN hN (P := 10 ^ 18) rfl c187, Or.inr (own_geN hN (P := 10 ^ 17) rfl c176)⟩
                                      have ez : z = (18 : Int32) := Int32.toInt_inj.mp (by rw [hz, el]; rfl)
                                      exact Go.retI X0 hx hlk Bd.returns (hb hby len_192) (by decide) (by decide) ⟨by rw [ez], rfl, e0⟩
                                    ·
                                      refine g_ifY X0 hx 193 (hb hby len_187) (XT.ll_ge_t c187) (by decide) (by decide) ?_
                                      refine g_bipush X0 hx 195 (19 : Int32) (hb hby len_193) rfl rfl ?_
                                      have el : ln = 19 := isLen_uniq hl ⟨by decide, by decide, own_N hN, Or.inr (own_geN hN (P := 10 ^ 18) rfl c187)⟩
                                      have ez : z = (19 : Int32) := Int32.toInt_inj.mp (by rw [hz, el]; rfl)
                                      exact Go.retI X0 hx hlk Bd.returns (hb hby len_195) (by decide) (by decide) ⟨by rw [ez], rfl, e0⟩
theorem pow_0 : decode method_5_code 0 = .ok (.iload_n 0, 1) := by decide +kernel
theorem pow_1 : decode method_5_code 1 = .ok (.ifCond .ne 5, 3) := by decide +kernel
theorem pow_4 : decode method_5_code 4 = .ok (.lconst 1, 1) := by decide +kernel
theorem pow_5 : decode method_5_code 5 = .ok (.lreturn, 1) := by decide +kernel
theorem pow_6 : decode method_5_code 6 = .ok (.iload_n 0, 1) := by decide +kernel
theorem pow_7 : decode method_5_code 7 = .ok (.iconst 1, 1) := by decide +kernel
theorem pow_8 : decode method_5_code 8 = .ok (.if_icmp .ne 7, 3) := by decide +kernel
theorem pow_11 : decode method_5_code 11 = .ok (.ldc2_w 31, 3) := by decide +kernel
theorem pow_14 : decode method_5_code 14 = .ok (.lreturn, 1) := by decide +kernel
theorem pow_15 : decode method_5_code 15 = .ok (.iload_n 0, 1) := by decide +kernel
theorem pow_16 : decode method_5_code 16 = .ok (.iconst 2, 1) := by decide +kernel
theorem pow_17 : decode method_5_code 17 = .ok (.if_icmp .ne 7, 3) := by decide +kernel
theorem pow_20 : decode method_5_code 20 = .ok (.ldc2_w 33, 3) := by decide +kernel
theorem pow_23 : decode method_5_code 23 = .ok (.lreturn, 1) := by decide +kernel
theorem pow_24 : decode method_5_code 24 = .ok (.iload_n 0, 1) := by decide +kernel
theorem pow_25 : decode method_5_code 25 = .ok (.iconst 3, 1) := by decide +kernel
theorem pow_26 : decode method_5_code 26 = .ok (.if_icmp .ne 7, 3) := by decide +kernel
theorem pow_29 : decode method_5_code 29 = .ok (.ldc2_w 35, 3) := by decide +kernel
theorem pow_32 : decode method_5_code 32 = .ok (.lreturn, 1) := by decide +kernel
theorem pow_33 : decode method_5_code 33 = .ok (.iload_n 0, 1) := by decide +kernel
theorem pow_34 : decode method_5_code 34 = .ok (.iconst 4, 1) := by decide +kernel
theorem pow_35 : decode method_5_code 35 = .ok (.if_icmp .ne 7, 3) := by decide +kernel
theorem pow_38 : decode method_5_code 38 = .ok (.ldc2_w 37, 3) := by decide +kernel
theorem pow_41 : decode method_5_code 41 = .ok (.lreturn, 1) := by decide +kernel
theorem pow_42 : decode method_5_code 42 = .ok (.iload_n 0, 1) := by decide +kernel
theorem pow_43 : decode method_5_code 43 = .ok (.iconst 5, 1) := by decide +kernel
theorem pow_44 : decode method_5_code 44 = .ok (.if_icmp .ne 7, 3) := by decide +kernel
theorem pow_47 : decode method_5_code 47 = .ok (.ldc2_w 39, 3) := by decide +kernel
theorem pow_50 : decode method_5_code 50 = .ok (.lreturn, 1) := by decide +kernel
theorem pow_51 : decode method_5_code 51 = .ok (.iload_n 0, 1) := by decide +kernel
theorem pow_52 : decode method_5_code 52 = .ok (.bipush 6, 2) := by decide +kernel
theorem pow_54 : decode method_5_code 54 = .ok (.if_icmp .ne 7, 3) := by decide +kernel
theorem pow_57 : decode method_5_code 57 = .ok (.ldc2_w 41, 3) := by decide +kernel
theorem pow_60 : decode method_5_code 60 = .ok (.lreturn, 1) := by decide +kernel
theorem pow_61 : decode method_5_code 61 = .ok (.iload_n 0, 1) := by decide +kernel
theorem pow_62 : decode method_5_code 62 = .ok (.bipush 7, 2) := by decide +kernel
theorem pow_64 : decode method_5_code 64 = .ok (.if_icmp .ne 7, 3) := by decide +kernel
theorem pow_67 : decode method_5_code 67 = .ok (.ldc2_w 43, 3) := by decide +kernel
theorem pow_70 : decode method_5_code 70 = .ok (.lreturn, 1) := by decide +kernel
theorem pow_71 : decode method_5_code 71 = .ok (.iload_n 0, 1) := by decide +kernel
theorem pow_72 : decode method_5_code 72 = .ok (.bipush 8, 2) := by decide +kernel
theorem pow_74 : decode method_5_code 74 = .ok (.if_icmp .ne 7, 3) := by decide +kernel
theorem pow_77 : decode method_5_code 77 = .ok (.ldc2_w 45, 3) := by decide +kernel
theorem pow_80 : decode method_5_code 80 = .ok (.lreturn, 1) := by decide +kernel
theorem pow_81 : decode method_5_code 81 = .ok (.iload_n 0, 1) := by decide +kernel
theorem pow_82 : decode method_5_code 82 = .ok (.bipush 9, 2) := by decide +kernel
theorem pow_84 : decode method_5_code 84 = .ok (.if_icmp .ne 7, 3) := by decide +kernel
theorem pow_87 : decode method_5_code 87 = .ok (.ldc2_w 47, 3) := by decide +kernel
theorem pow_90 : decode method_5_code 90 = .ok (.lreturn, 1) := by decide +kernel
theorem pow_91 : decode method_5_code 91 = .ok (.iload_n 0, 1) := by decide +kernel
theorem pow_92 : decode method_5_code 92 = .ok (.bipush 10, 2) := by decide +kernel
theorem pow_94 : decode method_5_code 94 = .ok (.if_icmp .ne 7, 3) := by decide +kernel
theorem pow_97 : decode method_5_code 97 = .ok (.ldc2_w 49, 3) := by decide +kernel
theorem pow_100 : decode method_5_code 100 = .ok (.lreturn, 1) := by decide +kernel
theorem pow_101 : decode method_5_code 101 = .ok (.iload_n 0, 1) := by decide +kernel
theorem pow_102 : decode method_5_code 102 = .ok (.bipush 11, 2) := by decide +kernel
theorem pow_104 : decode method_5_code 104 = .ok (.if_icmp .ne 7, 3) := by decide +kernel
theorem pow_107 : decode method_5_code 107 = .ok (.ldc2_w 51, 3) := by decide +kernel
theorem pow_110 : decode method_5_code 110 = .ok (.lreturn, 1) := by decide +kernel
theorem pow_111 : decode method_5_code 111 = .ok (.iload_n 0, 1) := by decide +kernel
theorem pow_112 : decode method_5_code 112 = .ok (.bipush 12, 2) := by decide +kernel
theorem pow_114 : decode method_5_code 114 = .ok (.if_icmp .ne 7, 3) := by decide +kernel
theorem pow_117 : decode method_5_code 117 = .ok (.ldc2_w 53, 3) := by decide +kernel
theorem pow_120 : decode method_5_code 120 = .ok (.lreturn, 1) := by decide +kernel
theorem pow_121 : decode method_5_code 121 = .ok (.iload_n 0, 1) := by decide +kernel
theorem pow_122 : decode method_5_code 122 = .ok (.bipush 13, 2) := by decide +kernel
theorem pow_124 : decode method_5_code 124 = .ok (.if_icmp .ne 7, 3) := by decide +kernel
theorem pow_127 : decode method_5_code 127 = .ok (.ldc2_w 55, 3) := by decide +kernel
theorem pow_130 : decode method_5_code 130 = .ok (.lreturn, 1) := by decide +kernel
theorem pow_131 : decode method_5_code 131 = .ok (.iload_n 0, 1) := by decide +kernel
theorem pow_132 : decode method_5_code 132 = .ok (.bipush 14, 2) := by decide +kernel
theorem pow_134 : decode method_5_code 134 = .ok (.if_icmp .ne 7, 3) := by decide +kernel
theorem pow_137 : decode method_5_code 137 = .ok (.ldc2_w 57, 3) := by decide +kernel
theorem pow_140 : decode method_5_code 140 = .ok (.lreturn, 1) := by decide +kernel
theorem pow_141 : decode method_5_code 141 = .ok (.iload_n 0, 1) := by decide +kernel
theorem pow_142 : decode method_5_code 142 = .ok (.bipush 15, 2) := by decide +kernel
theorem pow_144 : decode method_5_code 144 = .ok (.if_icmp .ne 7, 3) := by decide +kernel
theorem pow_147 : decode method_5_code 147 = .ok (.ldc2_w 59, 3) := by decide +kernel
theorem pow_150 : decode method_5_code 150 = .ok (.lreturn, 1) := by decide +kernel
theorem pow_151 : decode method_5_code 151 = .ok (.iload_n 0, 1) := by decide +kernel
theorem pow_152 : decode method_5_code 152 = .ok (.bipush 16, 2) := by decide +kernel
theorem pow_154 : decode method_5_code 154 = .ok (.if_icmp .ne 7, 3) := by decide +kernel
theorem pow_157 : decode method_5_code 157 = .ok (.ldc2_w 61, 3) := by decide +kernel
theorem pow_160 : decode method_5_code 160 = .ok (.lreturn, 1) := by decide +kernel
theorem pow_161 : decode method_5_code 161 = .ok (.iload_n 0, 1) := by decide +kernel
theorem pow_162 : decode method_5_code 162 = .ok (.bipush 17, 2) := by decide +kernel
theorem pow_164 : decode method_5_code 164 = .ok (.if_icmp .ne 7, 3) := by decide +kernel
theorem pow_167 : decode method_5_code 167 = .ok (.ldc2_w 63, 3) := by decide +kernel
theorem pow_170 : decode method_5_code 170 = .ok (.lreturn, 1) := by decide +kernel
theorem pow_171 : decode method_5_code 171 = .ok (.ldc2_w 65, 3) := by decide +kernel
theorem pow_174 : decode method_5_code 174 = .ok (.lreturn, 1) := by decide +kernel
theorem pn_pow : plainFor (⟨"com/example/counterweight/counterweight/DecimalsPutWholePinLaw", "pow10", "(I)J"⟩ : MethodName) = true := by first | exact plainFor_of_name (by first | (simp [plainName, overriddenIn]; done) | decide +kernel) | decide +kernel
theorem ef_pow (m : MethodId) (q1 : Int32) : entryFrame m #[(.int q1)] 1 = mkF m 0 #[.val (.int q1)] [] := by first | (simp [entryFrame, mkF, argsToLocals, Value.category, maxLocals]; done) | rfl
theorem pd_pow : parseMethodDescriptor "(I)J" = some ⟨[.int], some (.long)⟩ := by decide +kernel
set_option maxRecDepth 65536 in
set_option maxHeartbeats 40000000 in
theorem rm_pow (l : Launch) (Z : State) (a0 : Array Value) (hw : ∀ d ∈ tables_1, d.before a0 Z = true)  (q1 : Int32) (h0 : Heap) (k : Nat) (hk : q1.toInt = (k : Int)) (hk8 : k ≤ 18) (z : Int64) (hz : z.toInt = ((10 ^ k : Nat) : Int)) :
    MetFree l (⟨"com/example/counterweight/counterweight/DecimalsPutWholePinLaw", "pow10", "(I)J"⟩ : MethodName) (head1 [Jvm.Cond.code (⟨"com/example/counterweight/counterweight/DecimalsPutWholePinLaw", "pow10", "(I)J"⟩ : MethodName) method_5_code 1 (some Jvm.ClassFile.FieldType.long)] ({ frames := 0, cells := 0, slots := 0, locals := 0 } : Room)) (fun a U => a = #[(.int q1)] ∧ Z.Warmed39 U.vm ∧ U.heap = h0) (fun _ _ _ _ _ => True) (fun _ U o U' => ∃ v L, o = .returned v ∧ Pur (some (.long z)) h0 v U'.heap L ∧ FrameEnd U o U' L ({ frames := 0, cells := 0, slots := 0, locals := 0 } : Room).cells ({ frames := 0, cells := 0, slots := 0, locals := 0 } : Room).slots) := by
  refine MetFree.of_bodySF pn_pow hisR ?_
  intro p e s m args below meth c s₁ Bd hml0 hP hK
  obtain ⟨rfl, hZ, hh⟩ := hP
  have hx := Bd.exec
  have hby := Bd.bytes
  have hml : c.maxLocals = 1 := hml0
  have hown : s.vm.findClass "com/example/counterweight/counterweight/DecimalsPutWholePinLaw" = some m.cls := findClass_of_methodNamed Bd.named
  have hnm := (name_of_methodNamed Bd.named Bd.method).1
  have hlk : meth.locks = false := BodyLoose.notSynchronized Bd
  have X0 : Stand p l e ({ frames := 0, cells := 0, slots := 0, locals := 0 } : Room) s m #[(.int q1)] below meth c s₁ [] 0 0 := Stand.of_body Bd
  have e0 : s₁.heap = h0 := by rw [← hh, Bd.state]; rfl
  show Go p e below (EndN below s (Pur (some (.long z)) h0) ({ frames := 0, cells := 0, slots := 0, locals := 0 } : Room).cells ({ frames := 0, cells := 0, slots := 0, locals := 0 } : Room).slots) (s₁.setTop (entryFrame m #[(.int q1)] 1))
  rw [ef_pow]
  refine g_iload_n X0 hx 1 q1 (hb hby pow_0) rfl rfl ?_
  by_cases c1 : q1 = (0 : Int32)
  ·
    refine g_ifN X0 hx 4 (hb hby pow_1) (XT.i0_ne_f c1) rfl ?_
    refine g_lconst X0 hx 5 (1 : Int64) (hb hby pow_4) rfl rfl ?_
    have ek : k = 0 := by have q := hk; rw [c1] at q; exact (Int.ofNat_inj.mp q).symm
    have ez : z = (1 : Int64) := Int64.toInt_inj.mp (by rw [hz, ek]; rfl)
    exact Go.retL X0 hx hlk Bd.returns (hb hby pow_5) (by decide) (by decide) ⟨by rw [ez], rfl, e0⟩
  ·
    refine g_ifY X0 hx 6 (hb hby pow_1) (XT.i0_ne_t c1) (by decide) (by decide) ?_
    refine g_iload_n X0 hx 7 q1 (hb hby pow_6) rfl rfl ?_
    refine g_iconst X0 hx 8 (1 : Int32) (hb hby pow_7) rfl rfl ?_
    by_cases c8 : q1 = (1 : Int32)
    ·
      refine g_icmpN X0 hx 11 (hb hby pow_8) (XT.ii_ne_f c8) rfl ?_
      refine g_ldc2_w X0 hx 14 (hb hby pow_11) hown (mvT hZ (hw _ (List.mem_of_getElem? (i := 12) rfl))) rfl ?_
      have ek : k = 1 := by have q := hk; rw [c8] at q; exact (Int.ofNat_inj.mp q).symm
      have ez : z = (10 : Int64) := Int64.toInt_inj.mp (by rw [hz, ek]; rfl)
      exact Go.retL X0 hx hlk Bd.returns (hb hby pow_14) (by decide) (by decide) ⟨by rw [ez], rfl, e0⟩
    ·
      refine g_icmpY X0 hx 15 (hb hby pow_8) (XT.ii_ne_t c8) (by decide) (by decide) ?_
      refine g_iload_n X0 hx 16 q1 (hb hby pow_15) rfl rfl ?_
      refine g_iconst X0 hx 17 (2 : Int32) (hb hby pow_16) rfl rfl ?_
      by_cases c17 : q1 = (2 : Int32)
      ·
        refine g_icmpN X0 hx 20 (hb hby pow_17) (XT.ii_ne_f c17) rfl ?_
        refine g_ldc2_w X0 hx 23 (hb hby pow_20) hown (mvT hZ (hw _ (List.mem_of_getElem? (i := 19) rfl))) rfl ?_
        have ek : k = 2 := by have q := hk; rw [c17] at q; exact (Int.ofNat_inj.mp q).symm
        have ez : z = (100 : Int64) := Int64.toInt_inj.mp (by rw [hz, ek]; rfl)
        exact Go.retL X0 hx hlk Bd.returns (hb hby pow_23) (by decide) (by decide) ⟨by rw [ez], rfl, e0⟩
      ·
        refine g_icmpY X0 hx 24 (hb hby pow_17) (XT.ii_ne_t c17) (by decide) (by decide) ?_
        refine g_iload_n X0 hx 25 q1 (hb hby pow_24) rfl rfl ?_
        refine g_iconst X0 hx 26 (3 : Int32) (hb hby pow_25) rfl rfl ?_
        by_cases c26 : q1 = (3 : Int32)
        ·
          refine g_icmpN X0 hx 29 (hb hby pow_26) (XT.ii_ne_f c26) rfl ?_
          refine g_ldc2_w X0 hx 32 (hb hby pow_29) hown (mvT hZ (hw _ (List.mem_of_getElem? (i := 20) rfl))) rfl ?_
          have ek : k = 3 := by have q := hk; rw [c26] at q; exact (Int.ofNat_inj.mp q).symm
          have ez : z = (1000 : Int64) := Int64.toInt_inj.mp (by rw [hz, ek]; rfl)
          exact Go.retL X0 hx hlk Bd.returns (hb hby pow_32) (by decide) (by decide) ⟨by rw [ez], rfl, e0⟩
        ·
          refine g_icmpY X0 hx 33 (hb hby pow_26) (XT.ii_ne_t c26) (by decide) (by decide) ?_
          refine g_iload_n X0 hx 34 q1 (hb hby pow_33) rfl rfl ?_
          refine g_iconst X0 hx 35 (4 : Int32) (hb hby pow_34) rfl rfl ?_
          by_cases c35 : q1 = (4 : Int32)
          ·
            refine g_icmpN X0 hx 38 (hb hby pow_35) (XT.ii_ne_f c35) rfl ?_
            refine g_ldc2_w X0 hx 41 (hb hby pow_38) hown (mvT hZ (hw _ (List.mem_of_getElem? (i := 21) rfl))) rfl ?_
            have ek : k = 4 := by have q := hk; rw [c35] at q; exact (Int.ofNat_inj.mp q).symm
            have ez : z = (10000 : Int64) := Int64.toInt_inj.mp (by rw [hz, ek]; rfl)
            exact Go.retL X0 hx hlk Bd.returns (hb hby pow_41) (by decide) (by decide) ⟨by rw [ez], rfl, e0⟩
          ·
            refine g_icmpY X0 hx 42 (hb hby pow_35) (XT.ii_ne_t c35) (by decide) (by decide) ?_
            refine g_iload_n X0 hx 43 q1 (hb hby pow_42) rfl rfl ?_
            refine g_iconst X0 hx 44 (5 : Int32) (hb hby pow_43) rfl rfl ?_
            by_cases c44 : q1 = (5 : Int32)
            ·
              refine g_icmpN X0 hx 47 (hb hby pow_44) (XT.ii_ne_f c44) rfl ?_
              refine g_ldc2_w X0 hx 50 (hb hby pow_47) hown (mvT hZ (hw _ (List.mem_of_getElem? (i := 22) rfl))) rfl ?_
              have ek : k = 5 := by have q := hk; rw [c44] at q; exact (Int.ofNat_inj.mp q).symm
              have ez : z = (100000 : Int64) := Int64.toInt_inj.mp (by rw [hz, ek]; rfl)
              exact Go.retL X0 hx hlk Bd.returns (hb hby pow_50) (by decide) (by decide) ⟨by rw [ez], rfl, e0⟩
            ·
              refine g_icmpY X0 hx 51 (hb hby pow_44) (XT.ii_ne_t c44) (by decide) (by decide) ?_
              refine g_iload_n X0 hx 52 q1 (hb hby pow_51) rfl rfl ?_
              refine g_bipush X0 hx 54 (6 : Int32) (hb hby pow_52) rfl rfl ?_
              by_cases c54 : q1 = (6 : Int32)
              ·
                refine g_icmpN X0 hx 57 (hb hby pow_54) (XT.ii_ne_f c54) rfl ?_
                refine g_ldc2_w X0 hx 60 (hb hby pow_57) hown (mvT hZ (hw _ (List.mem_of_getElem? (i := 23) rfl))) rfl ?_
                have ek : k = 6 := by have q := hk; rw [c54] at q; exact (Int.ofNat_inj.mp q).symm
                have ez : z = (1000000 : Int64) := Int64.toInt_inj.mp (by rw [hz, ek]; rfl)
                exact Go.retL X0 hx hlk Bd.returns (hb hby pow_60) (by decide) (by decide) ⟨by rw [ez], rfl, e0⟩
              ·
                refine g_icmpY X0 hx 61 (hb hby pow_54) (XT.ii_ne_t c54) (by decide) (by decide) ?_
                refine g_iload_n X0 hx 62 q1 (hb hby pow_61) rfl rfl ?_
                refine g_bipush X0 hx 64 (7 : Int32) (hb hby pow_62) rfl rfl ?_
                by_cases c64 : q1 = (7 : Int32)
                ·
                  refine g_icmpN X0 hx 67 (hb hby pow_64) (XT.ii_ne_f c64) rfl ?_
                  refine g_ldc2_w X0 hx 70 (hb hby pow_67) hown (mvT hZ (hw _ (List.mem_of_getElem? (i := 24) rfl))) rfl ?_
                  have ek : k = 7 := by have q := hk; rw [c64] at q; exact (Int.ofNat_inj.mp q).symm
                  have ez : z = (10000000 : Int64) := Int64.toInt_inj.mp (by rw [hz, ek]; rfl)
                  exact Go.retL X0 hx hlk Bd.returns (hb hby pow_70) (by decide) (by decide) ⟨by rw [ez], rfl, e0⟩
                ·
                  refine g_icmpY X0 hx 71 (hb hby pow_64) (XT.ii_ne_t c64) (by decide) (by decide) ?_
                  refine g_iload_n X0 hx 72 q1 (hb hby pow_71) rfl rfl ?_
                  refine g_bipush X0 hx 74 (8 : Int32) (hb hby pow_72) rfl rfl ?_
                  by_cases c74 : q1 = (8 : Int32)
                  ·
                    refine g_icmpN X0 hx 77 (hb hby pow_74) (XT.ii_ne_f c74) rfl ?_
                    refine g_ldc2_w X0 hx 80 (hb hby pow_77) hown (mvT hZ (hw _ (List.mem_of_getElem? (i := 25) rfl))) rfl ?_
                    have ek : k = 8 := by have q := hk; rw [c74] at q; exact (Int.ofNat_inj.mp q).symm
                    have ez : z = (100000000 : Int64) := Int64.toInt_inj.mp (by rw [hz, ek]; rfl)
                    exact Go.retL X0 hx hlk Bd.returns (hb hby pow_80) (by decide) (by decide) ⟨by rw [ez], rfl, e0⟩
                  ·
                    refine g_icmpY X0 hx 81 (hb hby pow_74) (XT.ii_ne_t c74) (by decide) (by decide) ?_
                    refine g_iload_n X0 hx 82 q1 (hb hby pow_81) rfl rfl ?_
                    refine g_bipush X0 hx 84 (9 : Int32) (hb hby pow_82) rfl rfl ?_
                    by_cases c84 : q1 = (9 : Int32)
                    ·
                      refine g_icmpN X0 hx 87 (hb hby pow_84) (XT.ii_ne_f c84) rfl ?_
                      refine g_ldc2_w X0 hx 90 (hb hby pow_87) hown (mvT hZ (hw _ (List.mem_of_getElem? (i := 26) rfl))) rfl ?_
                      have ek : k = 9 := by have q := hk; rw [c84] at q; exact (Int.ofNat_inj.mp q).symm
                      have ez : z = (1000000000 : Int64) := Int64.toInt_inj.mp (by rw [hz, ek]; rfl)
                      exact Go.retL X0 hx hlk Bd.returns (hb hby pow_90) (by decide) (by decide) ⟨by rw [ez], rfl, e0⟩
                    ·
                      refine g_icmpY X0 hx 91 (hb hby pow_84) (XT.ii_ne_t c84) (by decide) (by decide) ?_
                      refine g_iload_n X0 hx 92 q1 (hb hby pow_91) rfl rfl ?_
                      refine g_bipush X0 hx 94 (10 : Int32) (hb hby pow_92) rfl rfl ?_
                      by_cases c94 : q1 = (10 : Int32)
                      ·
                        refine g_icmpN X0 hx 97 (hb hby pow_94) (XT.ii_ne_f c94) rfl ?_
                        refine g_ldc2_w X0 hx 100 (hb hby pow_97) hown (mvT hZ (hw _ (List.mem_of_getElem? (i := 27) rfl))) rfl ?_
                        have ek : k = 10 := by have q := hk; rw [c94] at q; exact (Int.ofNat_inj.mp q).symm
                        have ez : z = (10000000000 : Int64) := Int64.toInt_inj.mp (by rw [hz, ek]; rfl)
                        exact Go.retL X0 hx hlk Bd.returns (hb hby pow_100) (by decide) (by decide) ⟨by rw [ez], rfl, e0⟩
                      ·
                        refine g_icmpY X0 hx 101 (hb hby pow_94) (XT.ii_ne_t c94) (by decide) (by decide) ?_
                        refine g_iload_n X0 hx 102 q1 (hb hby pow_101) rfl rfl ?_
                        refine g_bipush X0 hx 104 (11 : Int32) (hb hby pow_102) rfl rfl ?_
                        by_cases c104 : q1 = (11 : Int32)
                        ·
                          refine g_icmpN X0 hx 107 (hb hby pow_104) (XT.ii_ne_f c104) rfl ?_
                          refine g_ldc2_w X0 hx 110 (hb hby pow_107) hown (mvT hZ (hw _ (List.mem_of_getElem? (i := 28) rfl))) rfl ?_
                          have ek : k = 11 := by have q := hk; rw [c104] at q; exact (Int.ofNat_inj.mp q).symm
                          have ez : z = (100000000000 : Int64) := Int64.toInt_inj.mp (by rw [hz, ek]; rfl)
                          exact Go.retL X0 hx hlk Bd.returns (hb hby pow_110) (by decide) (by decide) ⟨by rw [ez], rfl, e0⟩
                        ·
                          refine g_icmpY X0 hx 111 (hb hby pow_104) (XT.ii_ne_t c104) (by decide) (by decide) ?_
                          refine g_iload_n X0 hx 112 q1 (hb hby pow_111) rfl rfl ?_
                          refine g_bipush X0 hx 114 (12 : Int32) (hb hby pow_112) rfl rfl ?_
                          by_cases c114 : q1 = (12 : Int32)
                          ·
                            refine g_icmpN X0 hx 117 (hb hby pow_114) (XT.ii_ne_f c114) rfl ?_
                            refine g_ldc2_w X0 hx 120 (hb hby pow_117) hown (mvT hZ (hw _ (List.mem_of_getElem? (i := 29) rfl))) rfl ?_
                            have ek : k = 12 := by have q := hk; rw [c114] at q; exact (Int.ofNat_inj.mp q).symm
                            have ez : z = (1000000000000 : Int64) := Int64.toInt_inj.mp (by rw [hz, ek]; rfl)
                            exact Go.retL X0 hx hlk Bd.returns (hb hby pow_120) (by decide) (by decide) ⟨by rw [ez], rfl, e0⟩
                          ·
                            refine g_icmpY X0 hx 121 (hb hby pow_114) (XT.ii_ne_t c114) (by decide) (by decide) ?_
                            refine g_iload_n X0 hx 122 q1 (hb hby pow_121) rfl rfl ?_
                            refine g_bipush X0 hx 124 (13 : Int32) (hb hby pow_122) rfl rfl ?_
                            by_cases c124 : q1 = (13 : Int32)
                            ·
                              refine g_icmpN X0 hx 127 (hb hby pow_124) (XT.ii_ne_f c124) rfl ?_
                              refine g_ldc2_w X0 hx 130 (hb hby pow_127) hown (mvT hZ (hw _ (List.mem_of_getElem? (i := 30) rfl))) rfl ?_
                              have ek : k = 13 := by have q := hk; rw [c124] at q; exact (Int.ofNat_inj.mp q).symm
                              have ez : z = (10000000000000 : Int64) := Int64.toInt_inj.mp (by rw [hz, ek]; rfl)
                              exact Go.retL X0 hx hlk Bd.returns (hb hby pow_130) (by decide) (by decide) ⟨by rw [ez], rfl, e0⟩
                            ·
                              refine g_icmpY X0 hx 131 (hb hby pow_124) (XT.ii_ne_t c124) (by decide) (by decide) ?_
                              refine g_iload_n X0 hx 132 q1 (hb hby pow_131) rfl rfl ?_
                              refine g_bipush X0 hx 134 (14 : Int32) (hb hby pow_132) rfl rfl ?_
                              by_cases c134 : q1 = (14 : Int32)
                              ·
                                refine g_icmpN X0 hx 137 (hb hby pow_134) (XT.ii_ne_f c134) rfl ?_
                                refine g_ldc2_w X0 hx 140 (hb hby pow_137) hown (mvT hZ (hw _ (List.mem_of_getElem? (i := 31) rfl))) rfl ?_
                                have ek : k = 14 := by have q := hk; rw [c134] at q; exact (Int.ofNat_inj.mp q).symm
                                have ez : z = (100000000000000 : Int64) := Int64.toInt_inj.mp (by rw [hz, ek]; rfl)
                                exact Go.retL X0 hx hlk Bd.returns (hb hby pow_140) (by decide) (by decide) ⟨by rw [ez], rfl, e0⟩
                              ·
                                refine g_icmpY X0 hx 141 (hb hby pow_134) (XT.ii_ne_t c134) (by decide) (by decide) ?_
                                refine g_iload_n X0 hx 142 q1 (hb hby pow_141) rfl rfl ?_
                                refine g_bipush X0 hx 144 (15 : Int32) (hb hby pow_142) rfl rfl ?_
                                by_cases c144 : q1 = (15 : Int32)
                                ·
                                  refine g_icmpN X0 hx 147 (hb hby pow_144) (XT.ii_ne_f c144) rfl ?_
                                  refine g_ldc2_w X0 hx 150 (hb hby pow_147) hown (mvT hZ (hw _ (List.mem_of_getElem? (i := 32) rfl))) rfl ?_
                                  have ek : k = 15 := by have q := hk; rw [c144] at q; exact (Int.ofNat_inj.mp q).symm
                                  have ez : z = (1000000000000000 : Int64) := Int64.toInt_inj.mp (by rw [hz, ek]; rfl)
                                  exact Go.retL X0 hx hlk Bd.returns (hb hby pow_150) (by decide) (by decide) ⟨by rw [ez], rfl, e0⟩
                                ·
                                  refine g_icmpY X0 hx 151 (hb hby pow_144) (XT.ii_ne_t c144) (by decide) (by decide) ?_
                                  refine g_iload_n X0 hx 152 q1 (hb hby pow_151) rfl rfl ?_
                                  refine g_bipush X0 hx 154 (16 : Int32) (hb hby pow_152) rfl rfl ?_
                                  by_cases c154 : q1 = (16 : Int32)
                                  ·
                                    refine g_icmpN X0 hx 157 (hb hby pow_154) (XT.ii_ne_f c154) rfl ?_
                                    refine g_ldc2_w X0 hx 160 (hb hby pow_157) hown (mvT hZ (hw _ (List.mem_of_getElem? (i := 33) rfl))) rfl ?_
                                    have ek : k = 16 := by have q := hk; rw [c154] at q; exact (Int.ofNat_inj.mp q).symm
                                    have ez : z = (10000000000000000 : Int64) := Int64.toInt_inj.mp (by rw [hz, ek]; rfl)
                                    exact Go.retL X0 hx hlk Bd.returns (hb hby pow_160) (by decide) (by decide) ⟨by rw [ez], rfl, e0⟩
                                  ·
                                    refine g_icmpY X0 hx 161 (hb hby pow_154) (XT.ii_ne_t c154) (by decide) (by decide) ?_
                                    refine g_iload_n X0 hx 162 q1 (hb hby pow_161) rfl rfl ?_
                                    refine g_bipush X0 hx 164 (17 : Int32) (hb hby pow_162) rfl rfl ?_
                                    by_cases c164 : q1 = (17 : Int32)
                                    ·
                                      refine g_icmpN X0 hx 167 (hb hby pow_164) (XT.ii_ne_f c164) rfl ?_
                                      refine g_ldc2_w X0 hx 170 (hb hby pow_167) hown (mvT hZ (hw _ (List.mem_of_getElem? (i := 34) rfl))) rfl ?_
                                      have ek : k = 17 := by have q := hk; rw [c164] at q; exact (Int.ofNat_inj.mp q).symm
                                      have ez : z = (100000000000000000 : Int64) := Int64.toInt_inj.mp (by rw [hz, ek]; rfl)
                                      exact Go.retL X0 hx hlk Bd.returns (hb hby pow_170) (by decide) (by decide) ⟨by rw [ez], rfl, e0⟩
                                    ·
                                      refine g_icmpY X0 hx 171 (hb hby pow_164) (XT.ii_ne_t c164) (by decide) (by decide) ?_
                                      refine g_ldc2_w X0 hx 174 (hb hby pow_171) hown (mvT hZ (hw _ (List.mem_of_getElem? (i := 35) rfl))) rfl ?_
                                      have ek : k = 18 := by
                                          have f : ∀ (j : Nat) (y : Int32), y.toInt = (j : Int) → ¬ q1 = y → k ≠ j := fun j y hy hn e => hn (Int32.toInt_inj.mp (by rw [hk, hy, e]))
                                          have f0 := f 0 _ rfl c1
                                          have f1 := f 1 _ rfl c8
                                          have f2 := f 2 _ rfl c17
                                          have f3 := f 3 _ rfl c26
                                          have f4 := f 4 _ rfl c35
                                          have f5 := f 5 _ rfl c44
                                          have f6 := f 6 _ rfl c54
                                          have f7 := f 7 _ rfl c64
                                          have f8 := f 8 _ rfl c74
                                          have f9 := f 9 _ rfl c84
                                          have f10 := f 10 _ rfl c94
                                          have f11 := f 11 _ rfl c104
                                          have f12 := f 12 _ rfl c114
                                          have f13 := f 13 _ rfl c124
                                          have f14 := f 14 _ rfl c134
                                          have f15 := f 15 _ rfl c144
                                          have f16 := f 16 _ rfl c154
                                          have f17 := f 17 _ rfl c164
                                          omega
                                      have ez : z = (1000000000000000000 : Int64) := Int64.toInt_inj.mp (by rw [hz, ek]; rfl)
                                      exact Go.retL X0 hx hlk Bd.returns (hb hby pow_174) (by decide) (by decide) ⟨by rw [ez], rfl, e0⟩
theorem ok_0 : decode method_3_code 0 = .ok (.iload_n 1, 1) := by decide +kernel
theorem ok_1 : decode method_3_code 1 = .ok (.iload_n 2, 1) := by decide +kernel
theorem ok_2 : decode method_3_code 2 = .ok (.if_icmp .lt 10, 3) := by decide +kernel
theorem ok_5 : decode method_3_code 5 = .ok (.iload_n 1, 1) := by decide +kernel
theorem ok_6 : decode method_3_code 6 = .ok (.iload_n 2, 1) := by decide +kernel
theorem ok_7 : decode method_3_code 7 = .ok (.iload_n 3, 1) := by decide +kernel
theorem ok_8 : decode method_3_code 8 = .ok (.iadd, 1) := by decide +kernel
theorem ok_9 : decode method_3_code 9 = .ok (.if_icmp .lt 15, 3) := by decide +kernel
theorem ok_12 : decode method_3_code 12 = .ok (.aload_n 0, 1) := by decide +kernel
theorem ok_13 : decode method_3_code 13 = .ok (.iload_n 1, 1) := by decide +kernel
theorem ok_14 : decode method_3_code 14 = .ok (.baload, 1) := by decide +kernel
theorem ok_15 : decode method_3_code 15 = .ok (.ifCond .ne 7, 3) := by decide +kernel
theorem ok_18 : decode method_3_code 18 = .ok (.iconst 1, 1) := by decide +kernel
theorem ok_19 : decode method_3_code 19 = .ok (.goto 4, 3) := by decide +kernel
theorem ok_22 : decode method_3_code 22 = .ok (.iconst 0, 1) := by decide +kernel
theorem ok_23 : decode method_3_code 23 = .ok (.ireturn, 1) := by decide +kernel
theorem ok_24 : decode method_3_code 24 = .ok (.iload_n 2, 1) := by decide +kernel
theorem ok_25 : decode method_3_code 25 = .ok (.iload_n 3, 1) := by decide +kernel
theorem ok_26 : decode method_3_code 26 = .ok (.iadd, 1) := by decide +kernel
theorem ok_27 : decode method_3_code 27 = .ok (.iconst 1, 1) := by decide +kernel
theorem ok_28 : decode method_3_code 28 = .ok (.isub, 1) := by decide +kernel
theorem ok_29 : decode method_3_code 29 = .ok (.iload_n 1, 1) := by decide +kernel
theorem ok_30 : decode method_3_code 30 = .ok (.isub, 1) := by decide +kernel
theorem ok_31 : decode method_3_code 31 = .ok (.istore 6, 2) := by decide +kernel
theorem ok_33 : decode method_3_code 33 = .ok (.lload 4, 2) := by decide +kernel
theorem ok_35 : decode method_3_code 35 = .ok (.iload 6, 2) := by decide +kernel
theorem ok_37 : decode method_3_code 37 = .ok (.invokestatic 27, 3) := by decide +kernel
theorem ok_40 : decode method_3_code 40 = .ok (.ldiv, 1) := by decide +kernel
theorem ok_41 : decode method_3_code 41 = .ok (.ldc2_w 31, 3) := by decide +kernel
theorem ok_44 : decode method_3_code 44 = .ok (.lrem, 1) := by decide +kernel
theorem ok_45 : decode method_3_code 45 = .ok (.l2i, 1) := by decide +kernel
theorem ok_46 : decode method_3_code 46 = .ok (.istore 7, 2) := by decide +kernel
theorem ok_48 : decode method_3_code 48 = .ok (.aload_n 0, 1) := by decide +kernel
theorem ok_49 : decode method_3_code 49 = .ok (.iload_n 1, 1) := by decide +kernel
theorem ok_50 : decode method_3_code 50 = .ok (.baload, 1) := by decide +kernel
theorem ok_51 : decode method_3_code 51 = .ok (.bipush 48, 2) := by decide +kernel
theorem ok_53 : decode method_3_code 53 = .ok (.iload 7, 2) := by decide +kernel
theorem ok_55 : decode method_3_code 55 = .ok (.iadd, 1) := by decide +kernel
theorem ok_56 : decode method_3_code 56 = .ok (.i2b, 1) := by decide +kernel
theorem ok_57 : decode method_3_code 57 = .ok (.if_icmp .ne 7, 3) := by decide +kernel
theorem ok_60 : decode method_3_code 60 = .ok (.iconst 1, 1) := by decide +kernel
theorem ok_61 : decode method_3_code 61 = .ok (.goto 4, 3) := by decide +kernel
theorem ok_64 : decode method_3_code 64 = .ok (.iconst 0, 1) := by decide +kernel
theorem ok_65 : decode method_3_code 65 = .ok (.ireturn, 1) := by decide +kernel
theorem pn_ok : plainFor (⟨"com/example/counterweight/counterweight/DecimalsPutWholePinLaw", "ok", "([BIIIJ)Z"⟩ : MethodName) = true := by first | exact plainFor_of_name (by first | (simp [plainName, overriddenIn]; done) | decide +kernel) | decide +kernel
theorem ef_ok (m : MethodId) (qa : Addr) (q1 : Int32) (q2 : Int32) (q3 : Int32) (q4 : Int64) : entryFrame m #[(.ref qa), (.int q1), (.int q2), (.int q3), (.long q4)] 8 = mkF m 0 #[.val (.ref qa), .val (.int q1), .val (.int q2), .val (.int q3), .val (.long q4), .second, .unset, .unset] [] := by first | (simp [entryFrame, mkF, argsToLocals, Value.category, maxLocals]; done) | rfl
theorem pd_ok : parseMethodDescriptor "([BIIIJ)Z" = some ⟨[.array (.byte), .int, .int, .int, .long], some (.boolean)⟩ := by decide +kernel
set_option maxRecDepth 65536 in
set_option maxHeartbeats 40000000 in
theorem rm_ok (l : Launch) (Z : State) (a0 : Array Value) (hw : ∀ d ∈ tables_1, d.before a0 Z = true)  (qa : Addr) (q1 : Int32) (q2 : Int32) (q3 : Int32) (q4 : Int64) (h0 : Heap) (i k ln N : Nat) (hi : q1.toInt = (i : Int)) (hi3 : i < 23) (hk : q2.toInt = (k : Int)) (hk3 : k ≤ 3) (hl : q3.toInt = (ln : Int)) (hl1 : 1 ≤ ln) (hl9 : ln ≤ 19) (hN : q4.toInt = (N : Int)) (B : Bar Z h0 qa 23 (DD k ln N 0)) :
    MetFree l (⟨"com/example/counterweight/counterweight/DecimalsPutWholePinLaw", "ok", "([BIIIJ)Z"⟩ : MethodName) (head1 [Jvm.Cond.code (⟨"com/example/counterweight/counterweight/DecimalsPutWholePinLaw", "ok", "([BIIIJ)Z"⟩ : MethodName) method_3_code 8 (some Jvm.ClassFile.FieldType.boolean)] ({ frames := 1, cells := 0, slots := 0, locals := 28 } : Room)) (fun a U => a = #[(.ref qa), (.int q1), (.int q2), (.int q3), (.long q4)] ∧ Z.Warmed39 U.vm ∧ U.heap = h0) (fun _ _ _ _ _ => True) (fun _ U o U' => ∃ v L, o = .returned v ∧ Pur (some (.int (1 : Int32))) h0 v U'.heap L ∧ FrameEnd U o U' L ({ frames := 1, cells := 0, slots := 0, locals := 28 } : Room).cells ({ frames := 1, cells := 0, slots := 0, locals := 28 } : Room).slots) := by
  refine MetFree.of_bodySF pn_ok hisR ?_
  intro p e s m args below meth c s₁ Bd hml0 hP hK
  obtain ⟨rfl, hZ, hh⟩ := hP
  have hx := Bd.exec
  have hby := Bd.bytes
  have hml : c.maxLocals = 8 := hml0
  have hown : s.vm.findClass "com/example/counterweight/counterweight/DecimalsPutWholePinLaw" = some m.cls := findClass_of_methodNamed Bd.named
  have hnm := (name_of_methodNamed Bd.named Bd.method).1
  have hlk : meth.locks = false := BodyLoose.notSynchronized Bd
  have X0 : Stand p l e ({ frames := 1, cells := 0, slots := 0, locals := 28 } : Room) s m #[(.ref qa), (.int q1), (.int q2), (.int q3), (.long q4)] below meth c s₁ [] 0 0 := Stand.of_body Bd
  have e0 : s₁.heap = h0 := by rw [← hh, Bd.state]; rfl
  show Go p e below (EndN below s (Pur (some (.int (1 : Int32))) h0) ({ frames := 1, cells := 0, slots := 0, locals := 28 } : Room).cells ({ frames := 1, cells := 0, slots := 0, locals := 28 } : Room).slots) (s₁.setTop (entryFrame m #[(.ref qa), (.int q1), (.int q2), (.int q3), (.long q4)] 8))
  rw [ef_ok]
  refine g_iload_n X0 hx 1 q1 (hb hby ok_0) rfl rfl ?_
  refine g_iload_n X0 hx 2 q2 (hb hby ok_1) rfl rfl ?_
  by_cases c2 : q1 < q2
  ·
    refine g_icmpY X0 hx 12 (hb hby ok_2) (XT.ii_lt_t c2) (by decide) (by decide) ?_
    have q3' := own_add hk hl (by omega)
    have hD : DD k ln N 0 i = 0 := by
      have d2 := c2
      rw [Int32.lt_iff_toInt_lt, hi, hk] at d2
      unfold DD; rw [if_neg (by omega)]
    refine g_aload_n X0 hx 13 (.ref qa) (hb hby ok_12) rfl rfl rfl ?_
    refine g_iload_n X0 hx 14 q1 (hb hby ok_13) rfl rfl ?_
    refine g_baload X0 hx hZ e0 B hi hi3 15 (hb hby ok_14) rfl ?_
    refine g_ifN X0 hx 18 (hb hby ok_15) (XT.i0_ne_f hD) rfl ?_
    refine g_iconst X0 hx 19 (1 : Int32) (hb hby ok_18) rfl rfl ?_
    refine g_goto X0 hx 23 (hb hby ok_19) (by decide) (by decide) ?_
    exact Go.retZ X0 hx hlk Bd.returns (by simp) (hb hby ok_23) (by decide) (by decide) ⟨rfl, rfl, e0⟩
  ·
    refine g_icmpN X0 hx 5 (hb hby ok_2) (XT.ii_lt_f c2) rfl ?_
    refine g_iload_n X0 hx 6 q1 (hb hby ok_5) rfl rfl ?_
    refine g_iload_n X0 hx 7 q2 (hb hby ok_6) rfl rfl ?_
    refine g_iload_n X0 hx 8 q3 (hb hby ok_7) rfl rfl ?_
    refine g_iadd X0 hx 9 (hb hby ok_8) rfl ?_
    by_cases c9 : q1 < (q2 + q3)
    ·
      refine g_icmpY X0 hx 24 (hb hby ok_9) (XT.ii_lt_t c9) (by decide) (by decide) ?_
      have q3' := own_add hk hl (by omega)
      have d2 := c2
      rw [Int32.lt_iff_toInt_lt, hi, hk] at d2
      have d9 := c9
      rw [Int32.lt_iff_toInt_lt, hi, q3'] at d9
      have q4' := own_sub q3' (b := (1 : Int32)) (j := 1) rfl (by omega) (by omega)
      have q5' := own_sub q4' hi (by omega) (by omega)
      obtain ⟨z, hz⟩ : ∃ z : Int64, z.toInt = ((10 ^ (k + ln - 1 - i) : Nat) : Int) := by
        have hp : 10 ^ (k + ln - 1 - i) ≤ 10 ^ 18 := Nat.pow_le_pow_right (by decide) (by omega)
        generalize 10 ^ (k + ln - 1 - i) = P at *
        exact ⟨Int64.ofInt (P : Int), by rw [Int64.toInt_ofInt]; exact Jvm.Kit.bmod64 (by omega) (by omega)⟩
      have hD : DD k ln N 0 i = dg (N / 10 ^ (k + ln - 1 - i) % 10) := by unfold DD; rw [if_pos (by omega)]
      refine g_iload_n X0 hx 25 q2 (hb hby ok_24) rfl rfl ?_
      refine g_iload_n X0 hx 26 q3 (hb hby ok_25) rfl rfl ?_
      refine g_iadd X0 hx 27 (hb hby ok_26) rfl ?_
      refine g_iconst X0 hx 28 (1 : Int32) (hb hby ok_27) rfl rfl ?_
      refine g_isub X0 hx 29 (hb hby ok_28) rfl ?_
      refine g_iload_n X0 hx 30 q1 (hb hby ok_29) rfl rfl ?_
      refine g_isub X0 hx 31 (hb hby ok_30) rfl ?_
      refine g_istore X0 hx 33 #[.val (.ref qa), .val (.int q1), .val (.int q2), .val (.int q3), .val (.long q4), .second, .val (.int (((q2 + q3) - (1 : Int32)) - q1)), .unset] (hb hby ok_31) rfl rfl ?_
      refine g_lload X0 hx 35 q4 (hb hby ok_33) rfl rfl ?_
      refine g_iload X0 hx 37 (((q2 + q3) - (1 : Int32)) - q1) (hb hby ok_35) rfl rfl ?_
      obtain ⟨T_37, X_37, e_37, st_37⟩ := g_callSP X0 hx hZ (own := "com/example/counterweight/counterweight/DecimalsPutWholePinLaw") (index := 27) (y := (⟨"com/example/counterweight/counterweight/DecimalsPutWholePinLaw", "pow10", "(I)J"⟩ : MethodName)) (as' := [(.int (((q2 + q3) - (1 : Int32)) - q1))]) (w := some (.long z)) hown (hw _ (List.mem_of_getElem? (i := 16) rfl)) (hw _ (List.mem_of_getElem? (i := 17) rfl)) (hw _ (List.mem_of_getElem? (i := 10) rfl)) (hw _ (List.mem_of_getElem? (i := 18) rfl)) (by decide) e0 (rm_pow l Z a0 hw (((q2 + q3) - (1 : Int32)) - q1) h0 (k + ln - 1 - i) q5' (by omega) z hz) pd_pow rfl 2 (by decide) (by decide) (by decide) (by decide) rfl rfl (pc := 37) (pc' := 40) (Ls := #[.val (.ref qa), .val (.int q1), .val (.int q2), .val (.int q3), .val (.long q4), .second, .val (.int (((q2 + q3) - (1 : Int32)) - q1)), .unset]) (rest := [(.long q4)]) (st := [(.int (((q2 + q3) - (1 : Int32)) - q1)), (.long q4)]) (by rw [hml]; rfl) rfl (Nat.le_of_eq rfl) (hb hby ok_37) rfl
      refine st_37 ?_
      show Go p e below _ (T_37.setTop (mkF m 40 #[.val (.ref qa), .val (.int q1), .val (.int q2), .val (.int q3), .val (.long q4), .second, .val (.int (((q2 + q3) - (1 : Int32)) - q1)), .unset] [(.long z), (.long q4)]))
      refine g_ldiv X_37 hx 41 (hb hby ok_40) (own_z hz (Nat.pow_pos (by decide))) rfl ?_
      refine g_ldc2_w X_37 hx 44 (hb hby ok_41) hown (mvT hZ (hw _ (List.mem_of_getElem? (i := 12) rfl))) rfl ?_
      refine g_lrem X_37 hx 45 (hb hby ok_44) (by decide) rfl ?_
      refine g_l2i X_37 hx 46 (hb hby ok_45) rfl ?_
      refine g_istore X_37 hx 48 #[.val (.ref qa), .val (.int q1), .val (.int q2), .val (.int q3), .val (.long q4), .second, .val (.int (((q2 + q3) - (1 : Int32)) - q1)), .val (.int (((q4 / z) % (10 : Int64)).toInt32))] (hb hby ok_46) rfl rfl ?_
      refine g_aload_n X_37 hx 49 (.ref qa) (hb hby ok_48) rfl rfl rfl ?_
      refine g_iload_n X_37 hx 50 q1 (hb hby ok_49) rfl rfl ?_
      refine g_baload X_37 hx hZ e_37 B hi hi3 51 (hb hby ok_50) rfl ?_
      refine g_bipush X_37 hx 53 (48 : Int32) (hb hby ok_51) rfl rfl ?_
      refine g_iload X_37 hx 55 (((q4 / z) % (10 : Int64)).toInt32) (hb hby ok_53) rfl rfl ?_
      refine g_iadd X_37 hx 56 (hb hby ok_55) rfl ?_
      refine g_i2b X_37 hx 57 (hb hby ok_56) rfl ?_
      refine g_icmpN X_37 hx 60 (hb hby ok_57) (XT.ii_ne_f (hD.trans (own_dig2 hN hz).symm)) rfl ?_
      refine g_iconst X_37 hx 61 (1 : Int32) (hb hby ok_60) rfl rfl ?_
      refine g_goto X_37 hx 65 (hb hby ok_61) (by decide) (by decide) ?_
      exact Go.retZ X_37 hx hlk Bd.returns (by simp) (hb hby ok_65) (by decide) (by decide) ⟨rfl, rfl, e_37⟩
    ·
      refine g_icmpN X0 hx 12 (hb hby ok_9) (XT.ii_lt_f c9) rfl ?_
      have q3' := own_add hk hl (by omega)
      have hD : DD k ln N 0 i = 0 := by
        have d9 := c9
        rw [Int32.lt_iff_toInt_lt, hi, q3'] at d9
        unfold DD; rw [if_neg (by omega)]
      refine g_aload_n X0 hx 13 (.ref qa) (hb hby ok_12) rfl rfl rfl ?_
      refine g_iload_n X0 hx 14 q1 (hb hby ok_13) rfl rfl ?_
      refine g_baload X0 hx hZ e0 B hi hi3 15 (hb hby ok_14) rfl ?_
      refine g_ifN X0 hx 18 (hb hby ok_15) (XT.i0_ne_f hD) rfl ?_
      refine g_iconst X0 hx 19 (1 : Int32) (hb hby ok_18) rfl rfl ?_
      refine g_goto X0 hx 23 (hb hby ok_19) (by decide) (by decide) ?_
      exact Go.retZ X0 hx hlk Bd.returns (by simp) (hb hby ok_23) (by decide) (by decide) ⟨rfl, rfl, e0⟩
theorem put_0 : decode prog_47_method_11_code 0 = .ok (.iload_n 1, 1) := by decide +kernel
theorem put_1 : decode prog_47_method_11_code 1 = .ok (.iconst 1, 1) := by decide +kernel
theorem put_2 : decode prog_47_method_11_code 2 = .ok (.iadd, 1) := by decide +kernel
theorem put_3 : decode prog_47_method_11_code 3 = .ok (.istore 4, 2) := by decide +kernel
theorem put_5 : decode prog_47_method_11_code 5 = .ok (.lload_n 2, 1) := by decide +kernel
theorem put_6 : decode prog_47_method_11_code 6 = .ok (.ldc2_w 185, 3) := by decide +kernel
theorem put_9 : decode prog_47_method_11_code 9 = .ok (.ldiv, 1) := by decide +kernel
theorem put_10 : decode prog_47_method_11_code 10 = .ok (.lstore 5, 2) := by decide +kernel
theorem put_12 : decode prog_47_method_11_code 12 = .ok (.lload 5, 2) := by decide +kernel
theorem put_14 : decode prog_47_method_11_code 14 = .ok (.lconst 0, 1) := by decide +kernel
theorem put_15 : decode prog_47_method_11_code 15 = .ok (.lcmp, 1) := by decide +kernel
theorem put_16 : decode prog_47_method_11_code 16 = .ok (.ifCond .le 17, 3) := by decide +kernel
theorem put_19 : decode prog_47_method_11_code 19 = .ok (.iinc 4 1, 3) := by decide +kernel
theorem put_22 : decode prog_47_method_11_code 22 = .ok (.lload 5, 2) := by decide +kernel
theorem put_24 : decode prog_47_method_11_code 24 = .ok (.ldc2_w 185, 3) := by decide +kernel
theorem put_27 : decode prog_47_method_11_code 27 = .ok (.ldiv, 1) := by decide +kernel
theorem put_28 : decode prog_47_method_11_code 28 = .ok (.lstore 5, 2) := by decide +kernel
theorem put_30 : decode prog_47_method_11_code 30 = .ok (.goto (-18), 3) := by decide +kernel
theorem put_33 : decode prog_47_method_11_code 33 = .ok (.lload_n 2, 1) := by decide +kernel
theorem put_34 : decode prog_47_method_11_code 34 = .ok (.lstore 5, 2) := by decide +kernel
theorem put_36 : decode prog_47_method_11_code 36 = .ok (.iload 4, 2) := by decide +kernel
theorem put_38 : decode prog_47_method_11_code 38 = .ok (.iconst 1, 1) := by decide +kernel
theorem put_39 : decode prog_47_method_11_code 39 = .ok (.isub, 1) := by decide +kernel
theorem put_40 : decode prog_47_method_11_code 40 = .ok (.istore 7, 2) := by decide +kernel
theorem put_42 : decode prog_47_method_11_code 42 = .ok (.iload 7, 2) := by decide +kernel
theorem put_44 : decode prog_47_method_11_code 44 = .ok (.iload_n 1, 1) := by decide +kernel
theorem put_45 : decode prog_47_method_11_code 45 = .ok (.if_icmp .lt 33, 3) := by decide +kernel
theorem put_48 : decode prog_47_method_11_code 48 = .ok (.aload_n 0, 1) := by decide +kernel
theorem put_49 : decode prog_47_method_11_code 49 = .ok (.iload 7, 2) := by decide +kernel
theorem put_51 : decode prog_47_method_11_code 51 = .ok (.ldc2_w 183, 3) := by decide +kernel
theorem put_54 : decode prog_47_method_11_code 54 = .ok (.lload 5, 2) := by decide +kernel
theorem put_56 : decode prog_47_method_11_code 56 = .ok (.ldc2_w 185, 3) := by decide +kernel
theorem put_59 : decode prog_47_method_11_code 59 = .ok (.lrem, 1) := by decide +kernel
theorem put_60 : decode prog_47_method_11_code 60 = .ok (.ladd, 1) := by decide +kernel
theorem put_61 : decode prog_47_method_11_code 61 = .ok (.l2i, 1) := by decide +kernel
theorem put_62 : decode prog_47_method_11_code 62 = .ok (.i2b, 1) := by decide +kernel
theorem put_63 : decode prog_47_method_11_code 63 = .ok (.bastore, 1) := by decide +kernel
theorem put_64 : decode prog_47_method_11_code 64 = .ok (.lload 5, 2) := by decide +kernel
theorem put_66 : decode prog_47_method_11_code 66 = .ok (.ldc2_w 185, 3) := by decide +kernel
theorem put_69 : decode prog_47_method_11_code 69 = .ok (.ldiv, 1) := by decide +kernel
theorem put_70 : decode prog_47_method_11_code 70 = .ok (.lstore 5, 2) := by decide +kernel
theorem put_72 : decode prog_47_method_11_code 72 = .ok (.iinc 7 (-1), 3) := by decide +kernel
theorem put_75 : decode prog_47_method_11_code 75 = .ok (.goto (-33), 3) := by decide +kernel
theorem put_78 : decode prog_47_method_11_code 78 = .ok (.iload 4, 2) := by decide +kernel
theorem put_80 : decode prog_47_method_11_code 80 = .ok (.ireturn, 1) := by decide +kernel
theorem pn_put : plainFor (⟨"com/example/counterweight/counterweight/Decimals", "putWhole", "([BIJ)I"⟩ : MethodName) = true := by first | exact plainFor_of_name (by first | (simp [plainName, overriddenIn]; done) | decide +kernel) | decide +kernel
theorem ef_put (m : MethodId) (qa : Addr) (q1 : Int32) (q2 : Int64) : entryFrame m #[(.ref qa), (.int q1), (.long q2)] 8 = mkF m 0 #[.val (.ref qa), .val (.int q1), .val (.long q2), .second, .unset, .unset, .unset, .unset] [] := by first | (simp [entryFrame, mkF, argsToLocals, Value.category, maxLocals]; done) | rfl
theorem pd_put : parseMethodDescriptor "([BIJ)I" = some ⟨[.array (.byte), .int, .long], some (.int)⟩ := by decide +kernel
set_option maxRecDepth 65536 in
set_option maxHeartbeats 40000000 in
theorem rm_put (l : Launch) (Z : State) (a0 : Array Value) (hw : ∀ d ∈ tables_1, d.before a0 Z = true)  (qa : Addr) (q1 : Int32) (q2 : Int64) (h0 : Heap) (k N : Nat) (hk : q1.toInt = (k : Int)) (hk3 : k ≤ 3) (hN : q2.toInt = (N : Int)) (n0 : Nat) (ga : n0 ≤ qa) (B : Bar Z h0 qa 23 (fun _ => 0)) :
    MetFree l (⟨"com/example/counterweight/counterweight/Decimals", "putWhole", "([BIJ)I"⟩ : MethodName) (head1 [Jvm.Cond.code (⟨"com/example/counterweight/counterweight/Decimals", "putWhole", "([BIJ)I"⟩ : MethodName) prog_47_method_11_code 8 (some Jvm.ClassFile.FieldType.int)] ({ frames := 0, cells := 0, slots := 0, locals := 0 } : Room)) (fun a U => a = #[(.ref qa), (.int q1), (.long q2)] ∧ Z.Warmed39 U.vm ∧ U.heap = h0) (fun _ _ _ _ _ => True) (fun _ U o U' => ∃ v L, o = .returned v ∧ PQ Z qa q1 k N h0 n0 v U'.heap L ∧ FrameEnd U o U' L ({ frames := 0, cells := 0, slots := 0, locals := 0 } : Room).cells ({ frames := 0, cells := 0, slots := 0, locals := 0 } : Room).slots) := by
  refine MetFree.of_bodySF pn_put hisR ?_
  intro p e s m args below meth c s₁ Bd hml0 hP hK
  obtain ⟨rfl, hZ, hh⟩ := hP
  have hx := Bd.exec
  have hby := Bd.bytes
  have hml : c.maxLocals = 8 := hml0
  have hown : s.vm.findClass "com/example/counterweight/counterweight/Decimals" = some m.cls := findClass_of_methodNamed Bd.named
  have hnm := (name_of_methodNamed Bd.named Bd.method).1
  have hlk : meth.locks = false := BodyLoose.notSynchronized Bd
  have X0 : Stand p l e ({ frames := 0, cells := 0, slots := 0, locals := 0 } : Room) s m #[(.ref qa), (.int q1), (.long q2)] below meth c s₁ [] 0 0 := Stand.of_body Bd
  have e0 : s₁.heap = h0 := by rw [← hh, Bd.state]; rfl
  show Go p e below (EndN below s (PQ Z qa q1 k N h0 n0) ({ frames := 0, cells := 0, slots := 0, locals := 0 } : Room).cells ({ frames := 0, cells := 0, slots := 0, locals := 0 } : Room).slots) (s₁.setTop (entryFrame m #[(.ref qa), (.int q1), (.long q2)] 8))
  rw [ef_put]
  have loop2 : ∀ (ln : Nat) (hl : isLen N ln) (ve : Int32) (hve : ve.toInt = ((k + ln : Nat) : Int)) (r : Nat), r ≤ ln → ∀ (T : State) (h : Heap) (locs : List Loc) (vr : Int64) (vi : Int32), Stand p l e ({ frames := 0, cells := 0, slots := 0, locals := 0 } : Room) s m #[(.ref qa), (.int q1), (.long q2)] below meth c T locs 0 0 → T.heap = h → Fr n0 locs → Keep h0 h [qa] → Bar Z h qa 23 (DD k ln N r) → vr.toInt = ((N / 10 ^ (ln - r) : Nat) : Int) → (vi.toInt = ((k + r : Nat) : Int) - 1) → Go p e below (EndN below s (PQ Z qa q1 k N h0 n0) ({ frames := 0, cells := 0, slots := 0, locals := 0 } : Room).cells ({ frames := 0, cells := 0, slots := 0, locals := 0 } : Room).slots) (T.setTop (mkF m 42 #[.val (.ref qa), .val (.int q1), .val (.long q2), .second, .val (.int ve), .val (.long vr), .second, .val (.int vi)] [])) := by
    intro ln hl ve hve r
    induction r with
    | zero =>
      intro hr T h locs vr vi X eT N0 K0 B0 hvr hvi
      have c45 : vi < q1 := by rw [Int32.lt_iff_toInt_lt, hvi, hk]; omega
      refine g_iload X hx 44 vi (hb hby put_42) rfl rfl ?_
      refine g_iload_n X hx 45 q1 (hb hby put_44) rfl rfl ?_
      refine g_icmpY X hx 78 (hb hby put_45) (XT.ii_lt_t c45) (by decide) (by decide) ?_
      refine g_iload X hx 80 ve (hb hby put_78) rfl rfl ?_
      exact Go.retI X hx hlk Bd.returns (hb hby put_80) (by decide) (by decide) ⟨ve, ln, rfl, hl, hve, N0, eT.symm ▸ K0, eT.symm ▸ B0⟩
    | succ r ih =>
      intro hr T h locs vr vi X eT N0 K0 B0 hvr hvi
      have hi : vi.toInt = ((k + r : Nat) : Int) := by rw [hvi]; omega
      have c45 : ¬ vi < q1 := by rw [Int32.lt_iff_toInt_lt, hi, hk]; omega
      have hl9 := hl.2.1
      have hd1 := own_dig1 hvr
      refine g_iload X hx 44 vi (hb hby put_42) rfl rfl ?_
      refine g_iload_n X hx 45 q1 (hb hby put_44) rfl rfl ?_
      refine g_icmpN X hx 48 (hb hby put_45) (XT.ii_lt_f c45) rfl ?_
      refine g_aload_n X hx 49 (.ref qa) (hb hby put_48) rfl rfl rfl ?_
      refine g_iload X hx 51 vi (hb hby put_49) rfl rfl ?_
      refine g_ldc2_w X hx 54 (hb hby put_51) hown (mvT hZ (hw _ (List.mem_of_getElem? (i := 7) rfl))) rfl ?_
      refine g_lload X hx 56 vr (hb hby put_54) rfl rfl ?_
      refine g_ldc2_w X hx 59 (hb hby put_56) hown (mvT hZ (hw _ (List.mem_of_getElem? (i := 6) rfl))) rfl ?_
      refine g_lrem X hx 60 (hb hby put_59) (by decide) rfl ?_
      refine g_ladd X hx 61 (hb hby put_60) rfl ?_
      refine g_l2i X hx 62 (hb hby put_61) rfl ?_
      refine g_i2b X hx 63 (hb hby put_62) rfl ?_
      obtain ⟨T_63, h_63, X_63, e_63, W_63, B_63, st_63⟩ := g_bastore X hx hZ eT B0 (j := vi) (x := ((((48 : Int64) + (vr % (10 : Int64))).toInt32).toInt8.toInt32)) hi (by omega) 64 (hb hby put_63) rfl
      refine st_63 ?_
      refine g_lload X_63 hx 66 vr (hb hby put_64) rfl rfl ?_
      refine g_ldc2_w X_63 hx 69 (hb hby put_66) hown (mvT hZ (hw _ (List.mem_of_getElem? (i := 6) rfl))) rfl ?_
      refine g_ldiv X_63 hx 70 (hb hby put_69) (by decide) rfl ?_
      refine g_lstore X_63 hx 72 #[.val (.ref qa), .val (.int q1), .val (.long q2), .second, .val (.int ve), .val (.long (vr / (10 : Int64))), .second, .val (.int vi)] (hb hby put_70) rfl rfl ?_
      refine g_iinc X_63 hx 75 (-1 : Int32) #[.val (.ref qa), .val (.int q1), .val (.long q2), .second, .val (.int ve), .val (.long (vr / (10 : Int64))), .second, .val (.int (vi + (-1 : Int32)))] (hb hby put_72) rfl rfl rfl rfl ?_
      refine g_goto X_63 hx 42 (hb hby put_75) (by decide) (by decide) ?_
      refine ih (by omega) T_63 h_63 _ _ _ X_63 e_63 (Fr.snoc X_63 N0 ga) (K0.wr W_63 (Or.inl (by simp))) (B_63.to fun i _ => ?_) ?_ ?_
      · have hs := DD_step (at' := k) (l := ln) (N := N) (r := r) hr i
        rw [hs]
        by_cases e : i = k + r
        · rw [if_pos e, if_pos e]
          show ((_ : Int32)).toInt8.toInt32 = _
          rw [hd1, own_i2b (by rw [dg_toInt (Nat.mod_lt _ (by decide))]; omega) (by rw [dg_toInt (Nat.mod_lt _ (by decide))]; omega), show ln - (r + 1) = ln - 1 - r by omega]
        · rw [if_neg e, if_neg e]
      · rw [own_div hvr (P := 10) rfl, Nat.div_div_eq_div_mul, ← Nat.pow_succ, show (ln - (r + 1)).succ = ln - r by omega]
      · rw [Jvm.Kit.i32_add] <;> rw [hi] <;> (have em : (-1 : Int32).toInt = -1 := rfl) <;> rw [em] <;> omega
  have loop1 : ∀ (f j : Nat) (ve : Int32) (vr : Int64), j + f = 18 → ve.toInt = ((k + 1 + j : Nat) : Int) → vr.toInt = ((N / 10 ^ (j + 1) : Nat) : Int) → (j = 0 ∨ 10 ^ j ≤ N) → Go p e below (EndN below s (PQ Z qa q1 k N h0 n0) ({ frames := 0, cells := 0, slots := 0, locals := 0 } : Room).cells ({ frames := 0, cells := 0, slots := 0, locals := 0 } : Room).slots) (s₁.setTop (mkF m 12 #[.val (.ref qa), .val (.int q1), .val (.long q2), .second, .val (.int ve), .val (.long vr), .second, .unset] [])) := by
    intro f
    induction f with
    | zero =>
      intro j ve vr hjf hve hvr hj
      have c16 : ¬ (0 : Int64) < vr := fun z => by
        have q := (own_pos hvr).mp z
        have q2 := own_N hN
        rw [show j + 1 = 19 by omega, Nat.div_eq_of_lt q2] at q
        omega
      have hlt : N < 10 ^ (j + 1) := by
        rcases Nat.lt_or_ge N (10 ^ (j + 1)) with q | q
        · exact q
        · exact absurd (Nat.div_pos q (Nat.pow_pos (by decide))) (fun z => c16 ((own_pos hvr).mpr z))
      have hl : isLen N (j + 1) := ⟨by omega, by omega, hlt, by rcases hj with q | q; exact Or.inl (by omega); exact Or.inr q⟩
      refine g_lload X0 hx 14 vr (hb hby put_12) rfl rfl ?_
      refine g_lconst X0 hx 15 (0 : Int64) (hb hby put_14) rfl rfl ?_
      refine g_lcmp X0 hx 16 (hb hby put_15) rfl ?_
      refine g_ifY X0 hx 33 (hb hby put_16) (XT.ll_le_t c16) (by decide) (by decide) ?_
      refine g_lload_n X0 hx 34 q2 (hb hby put_33) rfl rfl ?_
      refine g_lstore X0 hx 36 #[.val (.ref qa), .val (.int q1), .val (.long q2), .second, .val (.int ve), .val (.long q2), .second, .unset] (hb hby put_34) rfl rfl ?_
      refine g_iload X0 hx 38 ve (hb hby put_36) rfl rfl ?_
      refine g_iconst X0 hx 39 (1 : Int32) (hb hby put_38) rfl rfl ?_
      refine g_isub X0 hx 40 (hb hby put_39) rfl ?_
      refine g_istore X0 hx 42 #[.val (.ref qa), .val (.int q1), .val (.long q2), .second, .val (.int ve), .val (.long q2), .second, .val (.int (ve - (1 : Int32)))] (hb hby put_40) rfl rfl ?_
      refine loop2 (j + 1) hl ve (by rw [hve]; omega) (j + 1) (Nat.le_refl _) s₁ h0 [] _ _ X0 e0 (Fr.nil _) (Keep.refl _ _) (B.to fun i _ => (DD_l _ _ _ _).symm) ?_ ?_
      · rw [hN, Nat.sub_self, Nat.pow_zero, Nat.div_one]
      · rw [own_sub hve (b := (1 : Int32)) (j := 1) rfl (by omega) (by omega)]; omega
    | succ f ih =>
      intro j ve vr hjf hve hvr hj
      by_cases c16 : (0 : Int64) < vr
      ·
        have hp := (own_pos hvr).mp c16
        have hge : 10 ^ (j + 1) ≤ N := by
          rcases Nat.lt_or_ge N (10 ^ (j + 1)) with q | q
          · rw [Nat.div_eq_of_lt q] at hp; omega
          · exact q
        refine g_lload X0 hx 14 vr (hb hby put_12) rfl rfl ?_
        refine g_lconst X0 hx 15 (0 : Int64) (hb hby put_14) rfl rfl ?_
        refine g_lcmp X0 hx 16 (hb hby put_15) rfl ?_
        refine g_ifN X0 hx 19 (hb hby put_16) (XT.ll_le_f c16) rfl ?_
        refine g_iinc X0 hx 22 (1 : Int32) #[.val (.ref qa), .val (.int q1), .val (.long q2), .second, .val (.int (ve + (1 : Int32))), .val (.long vr), .second, .unset] (hb hby put_19) rfl rfl rfl rfl ?_
        refine g_lload X0 hx 24 vr (hb hby put_22) rfl rfl ?_
        refine g_ldc2_w X0 hx 27 (hb hby put_24) hown (mvT hZ (hw _ (List.mem_of_getElem? (i := 6) rfl))) rfl ?_
        refine g_ldiv X0 hx 28 (hb hby put_27) (by decide) rfl ?_
        refine g_lstore X0 hx 30 #[.val (.ref qa), .val (.int q1), .val (.long q2), .second, .val (.int (ve + (1 : Int32))), .val (.long (vr / (10 : Int64))), .second, .unset] (hb hby put_28) rfl rfl ?_
        refine g_goto X0 hx 12 (hb hby put_30) (by decide) (by decide) ?_
        refine ih (j + 1) _ _ (by omega) ?_ ?_ (Or.inr hge)
        · rw [own_add hve (b := (1 : Int32)) (j := 1) rfl (by omega)]; omega
        · rw [own_div hvr (P := 10) rfl, Nat.div_div_eq_div_mul, ← Nat.pow_succ]
      ·
        have hlt : N < 10 ^ (j + 1) := by
          rcases Nat.lt_or_ge N (10 ^ (j + 1)) with q | q
          · exact q
          · exact absurd (Nat.div_pos q (Nat.pow_pos (by decide))) (fun z => c16 ((own_pos hvr).mpr z))
        have hl : isLen N (j + 1) := ⟨by omega, by omega, hlt, by rcases hj with q | q; exact Or.inl (by omega); exact Or.inr q⟩
        refine g_lload X0 hx 14 vr (hb hby put_12) rfl rfl ?_
        refine g_lconst X0 hx 15 (0 : Int64) (hb hby put_14) rfl rfl ?_
        refine g_lcmp X0 hx 16 (hb hby put_15) rfl ?_
        refine g_ifY X0 hx 33 (hb hby put_16) (XT.ll_le_t c16) (by decide) (by decide) ?_
        refine g_lload_n X0 hx 34 q2 (hb hby put_33) rfl rfl ?_
        refine g_lstore X0 hx 36 #[.val (.ref qa), .val (.int q1), .val (.long q2), .second, .val (.int ve), .val (.long q2), .second, .unset] (hb hby put_34) rfl rfl ?_
        refine g_iload X0 hx 38 ve (hb hby put_36) rfl rfl ?_
        refine g_iconst X0 hx 39 (1 : Int32) (hb hby put_38) rfl rfl ?_
        refine g_isub X0 hx 40 (hb hby put_39) rfl ?_
        refine g_istore X0 hx 42 #[.val (.ref qa), .val (.int q1), .val (.long q2), .second, .val (.int ve), .val (.long q2), .second, .val (.int (ve - (1 : Int32)))] (hb hby put_40) rfl rfl ?_
        refine loop2 (j + 1) hl ve (by rw [hve]; omega) (j + 1) (Nat.le_refl _) s₁ h0 [] _ _ X0 e0 (Fr.nil _) (Keep.refl _ _) (B.to fun i _ => (DD_l _ _ _ _).symm) ?_ ?_
        · rw [hN, Nat.sub_self, Nat.pow_zero, Nat.div_one]
        · rw [own_sub hve (b := (1 : Int32)) (j := 1) rfl (by omega) (by omega)]; omega
  refine g_iload_n X0 hx 1 q1 (hb hby put_0) rfl rfl ?_
  refine g_iconst X0 hx 2 (1 : Int32) (hb hby put_1) rfl rfl ?_
  refine g_iadd X0 hx 3 (hb hby put_2) rfl ?_
  refine g_istore X0 hx 5 #[.val (.ref qa), .val (.int q1), .val (.long q2), .second, .val (.int (q1 + (1 : Int32))), .unset, .unset, .unset] (hb hby put_3) rfl rfl ?_
  refine g_lload_n X0 hx 6 q2 (hb hby put_5) rfl rfl ?_
  refine g_ldc2_w X0 hx 9 (hb hby put_6) hown (mvT hZ (hw _ (List.mem_of_getElem? (i := 6) rfl))) rfl ?_
  refine g_ldiv X0 hx 10 (hb hby put_9) (by decide) rfl ?_
  refine g_lstore X0 hx 12 #[.val (.ref qa), .val (.int q1), .val (.long q2), .second, .val (.int (q1 + (1 : Int32))), .val (.long (q2 / (10 : Int64))), .second, .unset] (hb hby put_10) rfl rfl ?_
  refine loop1 18 0 _ _ rfl ?_ ?_ (Or.inl rfl)
  · rw [own_add hk (b := (1 : Int32)) (j := 1) rfl (by omega)]
  · rw [own_div hN (P := 10) rfl]
theorem pn_law : plainFor x = true := by first | exact plainFor_of_name (by first | (simp [plainName, overriddenIn]; done) | decide +kernel) | decide +kernel
theorem ef_law (m : MethodId) (q1 : Int32) (q2 : Int64) (q3 : Int32) : entryFrame m #[(.int q1), (.long q2), (.int q3)] maxLocals = mkF m 0 #[.val (.int q1), .val (.long q2), .second, .val (.int q3), .unset, .unset, .unset, .unset, .unset, .unset] [] := by first | (simp [entryFrame, mkF, argsToLocals, Value.category, maxLocals]; done) | rfl
theorem pd_law : parseMethodDescriptor "(IJI)Z" = some ⟨[.int, .long, .int], some (.boolean)⟩ := by decide +kernel
set_option maxRecDepth 65536 in
set_option maxHeartbeats 40000000 in
theorem rm_law (l : Launch) (Z : State) (a0 : Array Value) (hw : ∀ d ∈ tables_1, d.before a0 Z = true) (ws : List Jvm.Cond) (q1 : Int32) (q2 : Int64) (q3 : Int32) (h0 : Heap)  :
    MetFree l x (head1 (Jvm.Cond.code x code maxLocals ret :: ws) room_1) (fun a U => a = #[(.int q1), (.long q2), (.int q3)] ∧ Z.Warmed39 U.vm ∧ U.heap = h0) (fun _ _ _ _ _ => True) (fun _ U o U' => ∃ v L, o = .returned v ∧ LQ h0 v U'.heap L ∧ FrameEnd U o U' L 16 128) := by
  refine MetFree.of_bodySF pn_law hisR ?_
  intro p e s m args below meth c s₁ Bd hml0 hP hK
  obtain ⟨rfl, hZ, hh⟩ := hP
  have hx := Bd.exec
  have hby := Bd.bytes
  have hml : c.maxLocals = 10 := hml0
  have hown : s.vm.findClass "com/example/counterweight/counterweight/DecimalsPutWholePinLaw" = some m.cls := findClass_of_methodNamed Bd.named
  have hnm := (name_of_methodNamed Bd.named Bd.method).1
  have hlk : meth.locks = false := BodyLoose.notSynchronized Bd
  have X0 : Stand p l e room_1 s m #[(.int q1), (.long q2), (.int q3)] below meth c s₁ [] 0 0 := Stand.of_body Bd
  have e0 : s₁.heap = h0 := by rw [← hh, Bd.state]; rfl
  show Go p e below (EndN below s (LQ h0) 16 128) (s₁.setTop (entryFrame m #[(.int q1), (.long q2), (.int q3)] maxLocals))
  rw [ef_law]
  refine g_iload_n X0 hx 1 q1 (hb hby at_0) rfl rfl ?_
  refine g_iconst X0 hx 2 (3 : Int32) (hb hby at_1) rfl rfl ?_
  refine g_iand X0 hx 3 (hb hby at_2) rfl ?_
  refine g_istore X0 hx 5 #[.val (.int q1), .val (.long q2), .second, .val (.int q3), .val (.int (q1 &&& (3 : Int32))), .unset, .unset, .unset, .unset, .unset] (hb hby at_3) rfl rfl ?_
  generalize hvt : (q1 &&& (3 : Int32)) = vt
  obtain ⟨kk, hkk3, hkk⟩ := own_at hvt
  refine g_lload_n X0 hx 6 q2 (hb hby at_5) rfl rfl ?_
  refine g_ldc2_w X0 hx 9 (hb hby at_6) hown (mvT hZ (hw _ (List.mem_of_getElem? (i := 0) rfl))) rfl ?_
  refine g_land X0 hx 10 (hb hby at_9) rfl ?_
  refine g_iload_n X0 hx 11 q3 (hb hby at_10) rfl rfl ?_
  refine g_bipush X0 hx 13 (63 : Int32) (hb hby at_11) rfl rfl ?_
  refine g_iand X0 hx 14 (hb hby at_13) rfl ?_
  refine g_lushr X0 hx 15 (hb hby at_14) rfl ?_
  refine g_lstore X0 hx 17 #[.val (.int q1), .val (.long q2), .second, .val (.int q3), .val (.int vt), .val (.long (XT.ushrL (q2 &&& (9223372036854775807 : Int64)) (q3 &&& (63 : Int32)))), .second, .unset, .unset, .unset] (hb hby at_15) rfl rfl ?_
  generalize hvn : (XT.ushrL (q2 &&& (9223372036854775807 : Int64)) (q3 &&& (63 : Int32))) = vn
  obtain ⟨NN, hNN⟩ := own_nn hvn
  refine g_bipush X0 hx 19 (23 : Int32) (hb hby at_17) rfl rfl ?_
  obtain ⟨T_19, h_19, a_19, k_19, X_19, e_19, ga_19, E_19, A_19, st_19⟩ := g_newP X0 hx hZ (aty := .byte) (n := (23 : Int32)) (hw _ (List.mem_of_getElem? (i := 1) rfl)) e0 23 (by decide) (by decide) (by decide) (by decide) (by decide) 21 (hb hby at_19) rfl
  refine st_19 ?_
  have g_19 : h0.size ≤ a_19 := by rw [ga_19]; exact (Nat.le_refl _)
  have Z_19 : h0.size ≤ h_19.size := Nat.le_trans (Nat.le_refl _) E_19.1
  refine g_astore X_19 hx 23 #[.val (.int q1), .val (.long q2), .second, .val (.int q3), .val (.int vt), .val (.long vn), .second, .val (.ref a_19), .unset, .unset] (hb hby at_21) rfl rfl rfl ?_
  refine g_aload X_19 hx 25 (.ref a_19) (hb hby at_23) rfl rfl rfl ?_
  refine g_iload X_19 hx 27 vt (hb hby at_25) rfl rfl ?_
  refine g_lload X_19 hx 29 vn (hb hby at_27) rfl rfl ?_
  obtain ⟨_, T_29, L_29, X_29, ⟨ve, l0, rfl, hl0, hve, NP, KP, BP⟩, st_29⟩ := g_callS X_19 hx hZ (own := "com/example/counterweight/counterweight/DecimalsPutWholePinLaw") (index := 11) (y := (⟨"com/example/counterweight/counterweight/Decimals", "putWhole", "([BIJ)I"⟩ : MethodName)) (as' := [(.ref a_19), (.int vt), (.long vn)]) hown (hw _ (List.mem_of_getElem? (i := 2) rfl)) (hw _ (List.mem_of_getElem? (i := 3) rfl)) (hw _ (List.mem_of_getElem? (i := 4) rfl)) (hw _ (List.mem_of_getElem? (i := 5) rfl)) (by decide) e_19 (rm_put l Z a0 hw a_19 vt vn h_19 kk NN hkk hkk3 hNN h0.size g_19 (Bar.new A_19 rfl)) pd_put rfl 0 (by decide) (by decide) (by decide) (by decide) (pc := 29) (Ls := #[.val (.int q1), .val (.long q2), .second, .val (.int q3), .val (.int vt), .val (.long vn), .second, .val (.ref a_19), .unset, .unset]) (rest := []) (st := [(.long vn), (.int vt), (.ref a_19)]) (by rw [hml]; rfl) rfl (Nat.le_of_eq rfl) (hb hby at_29)
  refine Go.of ?_ st_29
  have N_29 := Fr.app (Fr.nil _) NP
  obtain ⟨v0, hv0⟩ : ∃ z : Int32, z.toInt = (l0 : Int) := ⟨Int32.ofInt (l0 : Int), by have := hl0.2.1; rw [Int32.toInt_ofInt]; exact Jvm.Kit.bmod32 (by omega) (by omega)⟩
  have h9 := hl0.2.1
  have h1 := hl0.1
  show Go p e below _ (T_29.setTop (mkF m 32 #[.val (.int q1), .val (.long q2), .second, .val (.int q3), .val (.int vt), .val (.long vn), .second, .val (.ref a_19), .unset, .unset] [(.int ve)]))
  refine g_istore X_29 hx 34 #[.val (.int q1), .val (.long q2), .second, .val (.int q3), .val (.int vt), .val (.long vn), .second, .val (.ref a_19), .val (.int ve), .unset] (hb hby at_32) rfl rfl ?_
  refine g_lload X_29 hx 36 vn (hb hby at_34) rfl rfl ?_
  obtain ⟨T_36, X_36, e_36, st_36⟩ := g_callSP X_29 hx hZ (own := "com/example/counterweight/counterweight/DecimalsPutWholePinLaw") (index := 17) (y := (⟨"com/example/counterweight/counterweight/DecimalsPutWholePinLaw", "len", "(J)I"⟩ : MethodName)) (as' := [(.long vn)]) (w := some (.int v0)) hown (hw _ (List.mem_of_getElem? (i := 8) rfl)) (hw _ (List.mem_of_getElem? (i := 9) rfl)) (hw _ (List.mem_of_getElem? (i := 10) rfl)) (hw _ (List.mem_of_getElem? (i := 11) rfl)) (by decide) rfl (rm_len l Z a0 hw vn T_29.heap NN l0 hNN hl0 v0 hv0) pd_len rfl 0 (by decide) (by decide) (by decide) (by decide) rfl rfl (pc := 36) (pc' := 39) (Ls := #[.val (.int q1), .val (.long q2), .second, .val (.int q3), .val (.int vt), .val (.long vn), .second, .val (.ref a_19), .val (.int ve), .unset]) (rest := []) (st := [(.long vn)]) (by rw [hml]; rfl) rfl (Nat.le_of_eq rfl) (hb hby at_36) rfl
  refine st_36 ?_
  show Go p e below _ (T_36.setTop (mkF m 39 #[.val (.int q1), .val (.long q2), .second, .val (.int q3), .val (.int vt), .val (.long vn), .second, .val (.ref a_19), .val (.int ve), .unset] [(.int v0)]))
  refine g_istore X_36 hx 41 #[.val (.int q1), .val (.long q2), .second, .val (.int q3), .val (.int vt), .val (.long vn), .second, .val (.ref a_19), .val (.int ve), .val (.int v0)] (hb hby at_39) rfl rfl ?_
  refine g_iload X_36 hx 43 ve (hb hby at_41) rfl rfl ?_
  refine g_iload X_36 hx 45 vt (hb hby at_43) rfl rfl ?_
  refine g_iload X_36 hx 47 v0 (hb hby at_45) rfl rfl ?_
  refine g_iadd X_36 hx 48 (hb hby at_47) rfl ?_
  refine g_icmpY X_36 hx 53 (hb hby at_48) (XT.ii_eq_t (Int32.toInt_inj.mp (by rw [hve, own_add hkk hv0 (by omega)]))) (by decide) (by decide) ?_
  refine g_aload X_36 hx 55 (.ref a_19) (hb hby at_53) rfl rfl rfl ?_
  refine g_iconst X_36 hx 56 (0 : Int32) (hb hby at_55) rfl rfl ?_
  refine g_iload X_36 hx 58 vt (hb hby at_56) rfl rfl ?_
  refine g_iload X_36 hx 60 v0 (hb hby at_58) rfl rfl ?_
  refine g_lload X_36 hx 62 vn (hb hby at_60) rfl rfl ?_
  obtain ⟨T_62, X_62, e_62, st_62⟩ := g_callSP X_36 hx hZ (own := "com/example/counterweight/counterweight/DecimalsPutWholePinLaw") (index := 23) (y := (⟨"com/example/counterweight/counterweight/DecimalsPutWholePinLaw", "ok", "([BIIIJ)Z"⟩ : MethodName)) (as' := [(.ref a_19), (.int (0 : Int32)), (.int vt), (.int v0), (.long vn)]) (w := some (.int (1 : Int32))) hown (hw _ (List.mem_of_getElem? (i := 13) rfl)) (hw _ (List.mem_of_getElem? (i := 14) rfl)) (hw _ (List.mem_of_getElem? (i := 10) rfl)) (hw _ (List.mem_of_getElem? (i := 15) rfl)) (by decide) e_36 (rm_ok l Z a0 hw a_19 (0 : Int32) vt v0 vn T_29.heap 0 kk l0 NN rfl (by decide) hkk hkk3 hv0 h1 h9 hNN BP) pd_ok rfl 0 (by decide) (by decide) (by decide) (by decide) rfl rfl (pc := 62) (pc' := 65) (Ls := #[.val (.int q1), .val (.long q2), .second, .val (.int q3), .val (.int vt), .val (.long vn), .second, .val (.ref a_19), .val (.int ve), .val (.int v0)]) (rest := []) (st := [(.long vn), (.int v0), (.int vt), (.int (0 : Int32)), (.ref a_19)]) (by rw [hml]; rfl) rfl (Nat.le_of_eq rfl) (hb hby at_62) rfl
  refine st_62 ?_
  show Go p e below _ (T_62.setTop (mkF m 65 #[.val (.int q1), .val (.long q2), .second, .val (.int q3), .val (.int vt), .val (.long vn), .second, .val (.ref a_19), .val (.int ve), .val (.int v0)] [(.int (1 : Int32))]))
  refine g_ifN X_62 hx 68 (hb hby at_65) (XT.i0_eq_f (by decide)) rfl ?_
  refine g_aload X_62 hx 70 (.ref a_19) (hb hby at_68) rfl rfl rfl ?_
  refine g_iconst X_62 hx 71 (1 : Int32) (hb hby at_70) rfl rfl ?_
  refine g_iload X_62 hx 73 vt (hb hby at_71) rfl rfl ?_
  refine g_iload X_62 hx 75 v0 (hb hby at_73) rfl rfl ?_
  refine g_lload X_62 hx 77 vn (hb hby at_75) rfl rfl ?_
  obtain ⟨T_77, X_77, e_77, st_77⟩ := g_callSP X_62 hx hZ (own := "com/example/counterweight/counterweight/DecimalsPutWholePinLaw") (index := 23) (y := (⟨"com/example/counterweight/counterweight/DecimalsPutWholePinLaw", "ok", "([BIIIJ)Z"⟩ : MethodName)) (as' := [(.ref a_19), (.int (1 : Int32)), (.int vt), (.int v0), (.long vn)]) (w := some (.int (1 : Int32))) hown (hw _ (List.mem_of_getElem? (i := 13) rfl)) (hw _ (List.mem_of_getElem? (i := 14) rfl)) (hw _ (List.mem_of_getElem? (i := 10) rfl)) (hw _ (List.mem_of_getElem? (i := 15) rfl)) (by decide) e_62 (rm_ok l Z a0 hw a_19 (1 : Int32) vt v0 vn T_29.heap 1 kk l0 NN rfl (by decide) hkk hkk3 hv0 h1 h9 hNN BP) pd_ok rfl 0 (by decide) (by decide) (by decide) (by decide) rfl rfl (pc := 77) (pc' := 80) (Ls := #[.val (.int q1), .val (.long q2), .second, .val (.int q3), .val (.int vt), .val (.long vn), .second, .val (.ref a_19), .val (.int ve), .val (.int v0)]) (rest := []) (st := [(.long vn), (.int v0), (.int vt), (.int (1 : Int32)), (.ref a_19)]) (by rw [hml]; rfl) rfl (Nat.le_of_eq rfl) (hb hby at_77) rfl
  refine st_77 ?_
  show Go p e below _ (T_77.setTop (mkF m 80 #[.val (.int q1), .val (.long q2), .second, .val (.int q3), .val (.int vt), .val (.long vn), .second, .val (.ref a_19), .val (.int ve), .val (.int v0)] [(.int (1 : Int32))]))
  refine g_ifN X_77 hx 83 (hb hby at_80) (XT.i0_eq_f (by decide)) rfl ?_
  refine g_aload X_77 hx 85 (.ref a_19) (hb hby at_83) rfl rfl rfl ?_
  refine g_iconst X_77 hx 86 (2 : Int32) (hb hby at_85) rfl rfl ?_
  refine g_iload X_77 hx 88 vt (hb hby at_86) rfl rfl ?_
  refine g_iload X_77 hx 90 v0 (hb hby at_88) rfl rfl ?_
  refine g_lload X_77 hx 92 vn (hb hby at_90) rfl rfl ?_
  obtain ⟨T_92, X_92, e_92, st_92⟩ := g_callSP X_77 hx hZ (own := "com/example/counterweight/counterweight/DecimalsPutWholePinLaw") (index := 23) (y := (⟨"com/example/counterweight/counterweight/DecimalsPutWholePinLaw", "ok", "([BIIIJ)Z"⟩ : MethodName)) (as' := [(.ref a_19), (.int (2 : Int32)), (.int vt), (.int v0), (.long vn)]) (w := some (.int (1 : Int32))) hown (hw _ (List.mem_of_getElem? (i := 13) rfl)) (hw _ (List.mem_of_getElem? (i := 14) rfl)) (hw _ (List.mem_of_getElem? (i := 10) rfl)) (hw _ (List.mem_of_getElem? (i := 15) rfl)) (by decide) e_77 (rm_ok l Z a0 hw a_19 (2 : Int32) vt v0 vn T_29.heap 2 kk l0 NN rfl (by decide) hkk hkk3 hv0 h1 h9 hNN BP) pd_ok rfl 0 (by decide) (by decide) (by decide) (by decide) rfl rfl (pc := 92) (pc' := 95) (Ls := #[.val (.int q1), .val (.long q2), .second, .val (.int q3), .val (.int vt), .val (.long vn), .second, .val (.ref a_19), .val (.int ve), .val (.int v0)]) (rest := []) (st := [(.long vn), (.int v0), (.int vt), (.int (2 : Int32)), (.ref a_19)]) (by rw [hml]; rfl) rfl (Nat.le_of_eq rfl) (hb hby at_92) rfl
  refine st_92 ?_
  show Go p e below _ (T_92.setTop (mkF m 95 #[.val (.int q1), .val (.long q2), .second, .val (.int q3), .val (.int vt), .val (.long vn), .second, .val (.ref a_19), .val (.int ve), .val (.int v0)] [(.int (1 : Int32))]))
  refine g_ifN X_92 hx 98 (hb hby at_95) (XT.i0_eq_f (by decide)) rfl ?_
  refine g_aload X_92 hx 100 (.ref a_19) (hb hby at_98) rfl rfl rfl ?_
  refine g_iconst X_92 hx 101 (3 : Int32) (hb hby at_100) rfl rfl ?_
  refine g_iload X_92 hx 103 vt (hb hby at_101) rfl rfl ?_
  refine g_iload X_92 hx 105 v0 (hb hby at_103) rfl rfl ?_
  refine g_lload X_92 hx 107 vn (hb hby at_105) rfl rfl ?_
  obtain ⟨T_107, X_107, e_107, st_107⟩ := g_callSP X_92 hx hZ (own := "com/example/counterweight/counterweight/DecimalsPutWholePinLaw") (index := 23) (y := (⟨"com/example/counterweight/counterweight/DecimalsPutWholePinLaw", "ok", "([BIIIJ)Z"⟩ : MethodName)) (as' := [(.ref a_19), (.int (3 : Int32)), (.int vt), (.int v0), (.long vn)]) (w := some (.int (1 : Int32))) hown (hw _ (List.mem_of_getElem? (i := 13) rfl)) (hw _ (List.mem_of_getElem? (i := 14) rfl)) (hw _ (List.mem_of_getElem? (i := 10) rfl)) (hw _ (List.mem_of_getElem? (i := 15) rfl)) (by decide) e_92 (rm_ok l Z a0 hw a_19 (3 : Int32) vt v0 vn T_29.heap 3 kk l0 NN rfl (by decide) hkk hkk3 hv0 h1 h9 hNN BP) pd_ok rfl 0 (by decide) (by decide) (by decide) (by decide) rfl rfl (pc := 107) (pc' := 110) (Ls := #[.val (.int q1), .val (.long q2), .second, .val (.int q3), .val (.int vt), .val (.long vn), .second, .val (.ref a_19), .val (.int ve), .val (.int v0)]) (rest := []) (st := [(.long vn), (.int v0), (.int vt), (.int (3 : Int32)), (.ref a_19)]) (by rw [hml]; rfl) rfl (Nat.le_of_eq rfl) (hb hby at_107) rfl
  refine st_107 ?_
  show Go p e below _ (T_107.setTop (mkF m 110 #[.val (.int q1), .val (.long q2), .second, .val (.int q3), .val (.int vt), .val (.long vn), .second, .val (.ref a_19), .val (.int ve), .val (.int v0)] [(.int (1 : Int32))]))
  refine g_ifN X_107 hx 113 (hb hby at_110) (XT.i0_eq_f (by decide)) rfl ?_
  refine g_aload X_107 hx 115 (.ref a_19) (hb hby at_113) rfl rfl rfl ?_
  refine g_iconst X_107 hx 116 (4 : Int32) (hb hby at_115) rfl rfl ?_
  refine g_iload X_107 hx 118 vt (hb hby at_116) rfl rfl ?_
  refine g_iload X_107 hx 120 v0 (hb hby at_118) rfl rfl ?_
  refine g_lload X_107 hx 122 vn (hb hby at_120) rfl rfl ?_
  obtain ⟨T_122, X_122, e_122, st_122⟩ := g_callSP X_107 hx hZ (own := "com/example/counterweight/counterweight/DecimalsPutWholePinLaw") (index := 23) (y := (⟨"com/example/counterweight/counterweight/DecimalsPutWholePinLaw", "ok", "([BIIIJ)Z"⟩ : MethodName)) (as' := [(.ref a_19), (.int (4 : Int32)), (.int vt), (.int v0), (.long vn)]) (w := some (.int (1 : Int32))) hown (hw _ (List.mem_of_getElem? (i := 13) rfl)) (hw _ (List.mem_of_getElem? (i := 14) rfl)) (hw _ (List.mem_of_getElem? (i := 10) rfl)) (hw _ (List.mem_of_getElem? (i := 15) rfl)) (by decide) e_107 (rm_ok l Z a0 hw a_19 (4 : Int32) vt v0 vn T_29.heap 4 kk l0 NN rfl (by decide) hkk hkk3 hv0 h1 h9 hNN BP) pd_ok rfl 0 (by decide) (by decide) (by decide) (by decide) rfl rfl (pc := 122) (pc' := 125) (Ls := #[.val (.int q1), .val (.long q2), .second, .val (.int q3), .val (.int vt), .val (.long vn), .second, .val (.ref a_19), .val (.int ve), .val (.int v0)]) (rest := []) (st := [(.long vn), (.int v0), (.int vt), (.int (4 : Int32)), (.ref a_19)]) (by rw [hml]; rfl) rfl (Nat.le_of_eq rfl) (hb hby at_122) rfl
  refine st_122 ?_
  show Go p e below _ (T_122.setTop (mkF m 125 #[.val (.int q1), .val (.long q2), .second, .val (.int q3), .val (.int vt), .val (.long vn), .second, .val (.ref a_19), .val (.int ve), .val (.int v0)] [(.int (1 : Int32))]))
  refine g_ifN X_122 hx 128 (hb hby at_125) (XT.i0_eq_f (by decide)) rfl ?_
  refine g_aload X_122 hx 130 (.ref a_19) (hb hby at_128) rfl rfl rfl ?_
  refine g_iconst X_122 hx 131 (5 : Int32) (hb hby at_130) rfl rfl ?_
  refine g_iload X_122 hx 133 vt (hb hby at_131) rfl rfl ?_
  refine g_iload X_122 hx 135 v0 (hb hby at_133) rfl rfl ?_
  refine g_lload X_122 hx 137 vn (hb hby at_135) rfl rfl ?_
  obtain ⟨T_137, X_137, e_137, st_137⟩ := g_callSP X_122 hx hZ (own := "com/example/counterweight/counterweight/DecimalsPutWholePinLaw") (index := 23) (y := (⟨"com/example/counterweight/counterweight/DecimalsPutWholePinLaw", "ok", "([BIIIJ)Z"⟩ : MethodName)) (as' := [(.ref a_19), (.int (5 : Int32)), (.int vt), (.int v0), (.long vn)]) (w := some (.int (1 : Int32))) hown (hw _ (List.mem_of_getElem? (i := 13) rfl)) (hw _ (List.mem_of_getElem? (i := 14) rfl)) (hw _ (List.mem_of_getElem? (i := 10) rfl)) (hw _ (List.mem_of_getElem? (i := 15) rfl)) (by decide) e_122 (rm_ok l Z a0 hw a_19 (5 : Int32) vt v0 vn T_29.heap 5 kk l0 NN rfl (by decide) hkk hkk3 hv0 h1 h9 hNN BP) pd_ok rfl 0 (by decide) (by decide) (by decide) (by decide) rfl rfl (pc := 137) (pc' := 140) (Ls := #[.val (.int q1), .val (.long q2), .second, .val (.int q3), .val (.int vt), .val (.long vn), .second, .val (.ref a_19), .val (.int ve), .val (.int v0)]) (rest := []) (st := [(.long vn), (.int v0), (.int vt), (.int (5 : Int32)), (.ref a_19)]) (by rw [hml]; rfl) rfl (Nat.le_of_eq rfl) (hb hby at_137) rfl
  refine st_137 ?_
  show Go p e below _ (T_137.setTop (mkF m 140 #[.val (.int q1), .val (.long q2), .second, .val (.int q3), .val (.int vt), .val (.long vn), .second, .val (.ref a_19), .val (.int ve), .val (.int v0)] [(.int (1 : Int32))]))
  refine g_ifN X_137 hx 143 (hb hby at_140) (XT.i0_eq_f (by decide)) rfl ?_
  refine g_aload X_137 hx 145 (.ref a_19) (hb hby at_143) rfl rfl rfl ?_
  refine g_bipush X_137 hx 147 (6 : Int32) (hb hby at_145) rfl rfl ?_
  refine g_iload X_137 hx 149 vt (hb hby at_147) rfl rfl ?_
  refine g_iload X_137 hx 151 v0 (hb hby at_149) rfl rfl ?_
  refine g_lload X_137 hx 153 vn (hb hby at_151) rfl rfl ?_
  obtain ⟨T_153, X_153, e_153, st_153⟩ := g_callSP X_137 hx hZ (own := "com/example/counterweight/counterweight/DecimalsPutWholePinLaw") (index := 23) (y := (⟨"com/example/counterweight/counterweight/DecimalsPutWholePinLaw", "ok", "([BIIIJ)Z"⟩ : MethodName)) (as' := [(.ref a_19), (.int (6 : Int32)), (.int vt), (.int v0), (.long vn)]) (w := some (.int (1 : Int32))) hown (hw _ (List.mem_of_getElem? (i := 13) rfl)) (hw _ (List.mem_of_getElem? (i := 14) rfl)) (hw _ (List.mem_of_getElem? (i := 10) rfl)) (hw _ (List.mem_of_getElem? (i := 15) rfl)) (by decide) e_137 (rm_ok l Z a0 hw a_19 (6 : Int32) vt v0 vn T_29.heap 6 kk l0 NN rfl (by decide) hkk hkk3 hv0 h1 h9 hNN BP) pd_ok rfl 0 (by decide) (by decide) (by decide) (by decide) rfl rfl (pc := 153) (pc' := 156) (Ls := #[.val (.int q1), .val (.long q2), .second, .val (.int q3), .val (.int vt), .val (.long vn), .second, .val (.ref a_19), .val (.int ve), .val (.int v0)]) (rest := []) (st := [(.long vn), (.int v0), (.int vt), (.int (6 : Int32)), (.ref a_19)]) (by rw [hml]; rfl) rfl (Nat.le_of_eq rfl) (hb hby at_153) rfl
  refine st_153 ?_
  show Go p e below _ (T_153.setTop (mkF m 156 #[.val (.int q1), .val (.long q2), .second, .val (.int q3), .val (.int vt), .val (.long vn), .second, .val (.ref a_19), .val (.int ve), .val (.int v0)] [(.int (1 : Int32))]))
  refine g_ifN X_153 hx 159 (hb hby at_156) (XT.i0_eq_f (by decide)) rfl ?_
  refine g_aload X_153 hx 161 (.ref a_19) (hb hby at_159) rfl rfl rfl ?_
  refine g_bipush X_153 hx 163 (7 : Int32) (hb hby at_161) rfl rfl ?_
  refine g_iload X_153 hx 165 vt (hb hby at_163) rfl rfl ?_
  refine g_iload X_153 hx 167 v0 (hb hby at_165) rfl rfl ?_
  refine g_lload X_153 hx 169 vn (hb hby at_167) rfl rfl ?_
  obtain ⟨T_169, X_169, e_169, st_169⟩ := g_callSP X_153 hx hZ (own := "com/example/counterweight/counterweight/DecimalsPutWholePinLaw") (index := 23) (y := (⟨"com/example/counterweight/counterweight/DecimalsPutWholePinLaw", "ok", "([BIIIJ)Z"⟩ : MethodName)) (as' := [(.ref a_19), (.int (7 : Int32)), (.int vt), (.int v0), (.long vn)]) (w := some (.int (1 : Int32))) hown (hw _ (List.mem_of_getElem? (i := 13) rfl)) (hw _ (List.mem_of_getElem? (i := 14) rfl)) (hw _ (List.mem_of_getElem? (i := 10) rfl)) (hw _ (List.mem_of_getElem? (i := 15) rfl)) (by decide) e_153 (rm_ok l Z a0 hw a_19 (7 : Int32) vt v0 vn T_29.heap 7 kk l0 NN rfl (by decide) hkk hkk3 hv0 h1 h9 hNN BP) pd_ok rfl 0 (by decide) (by decide) (by decide) (by decide) rfl rfl (pc := 169) (pc' := 172) (Ls := #[.val (.int q1), .val (.long q2), .second, .val (.int q3), .val (.int vt), .val (.long vn), .second, .val (.ref a_19), .val (.int ve), .val (.int v0)]) (rest := []) (st := [(.long vn), (.int v0), (.int vt), (.int (7 : Int32)), (.ref a_19)]) (by rw [hml]; rfl) rfl (Nat.le_of_eq rfl) (hb hby at_169) rfl
  refine st_169 ?_
  show Go p e below _ (T_169.setTop (mkF m 172 #[.val (.int q1), .val (.long q2), .second, .val (.int q3), .val (.int vt), .val (.long vn), .second, .val (.ref a_19), .val (.int ve), .val (.int v0)] [(.int (1 : Int32))]))
  refine g_ifN X_169 hx 175 (hb hby at_172) (XT.i0_eq_f (by decide)) rfl ?_
  refine g_aload X_169 hx 177 (.ref a_19) (hb hby at_175) rfl rfl rfl ?_
  refine g_bipush X_169 hx 179 (8 : Int32) (hb hby at_177) rfl rfl ?_
  refine g_iload X_169 hx 181 vt (hb hby at_179) rfl rfl ?_
  refine g_iload X_169 hx 183 v0 (hb hby at_181) rfl rfl ?_
  refine g_lload X_169 hx 185 vn (hb hby at_183) rfl rfl ?_
  obtain ⟨T_185, X_185, e_185, st_185⟩ := g_callSP X_169 hx hZ (own := "com/example/counterweight/counterweight/DecimalsPutWholePinLaw") (index := 23) (y := (⟨"com/example/counterweight/counterweight/DecimalsPutWholePinLaw", "ok", "([BIIIJ)Z"⟩ : MethodName)) (as' := [(.ref a_19), (.int (8 : Int32)), (.int vt), (.int v0), (.long vn)]) (w := some (.int (1 : Int32))) hown (hw _ (List.mem_of_getElem? (i := 13) rfl)) (hw _ (List.mem_of_getElem? (i := 14) rfl)) (hw _ (List.mem_of_getElem? (i := 10) rfl)) (hw _ (List.mem_of_getElem? (i := 15) rfl)) (by decide) e_169 (rm_ok l Z a0 hw a_19 (8 : Int32) vt v0 vn T_29.heap 8 kk l0 NN rfl (by decide) hkk hkk3 hv0 h1 h9 hNN BP) pd_ok rfl 0 (by decide) (by decide) (by decide) (by decide) rfl rfl (pc := 185) (pc' := 188) (Ls := #[.val (.int q1), .val (.long q2), .second, .val (.int q3), .val (.int vt), .val (.long vn), .second, .val (.ref a_19), .val (.int ve), .val (.int v0)]) (rest := []) (st := [(.long vn), (.int v0), (.int vt), (.int (8 : Int32)), (.ref a_19)]) (by rw [hml]; rfl) rfl (Nat.le_of_eq rfl) (hb hby at_185) rfl
  refine st_185 ?_
  show Go p e below _ (T_185.setTop (mkF m 188 #[.val (.int q1), .val (.long q2), .second, .val (.int q3), .val (.int vt), .val (.long vn), .second, .val (.ref a_19), .val (.int ve), .val (.int v0)] [(.int (1 : Int32))]))
  refine g_ifN X_185 hx 191 (hb hby at_188) (XT.i0_eq_f (by decide)) rfl ?_
  refine g_aload X_185 hx 193 (.ref a_19) (hb hby at_191) rfl rfl rfl ?_
  refine g_bipush X_185 hx 195 (9 : Int32) (hb hby at_193) rfl rfl ?_
  refine g_iload X_185 hx 197 vt (hb hby at_195) rfl rfl ?_
  refine g_iload X_185 hx 199 v0 (hb hby at_197) rfl rfl ?_
  refine g_lload X_185 hx 201 vn (hb hby at_199) rfl rfl ?_
  obtain ⟨T_201, X_201, e_201, st_201⟩ := g_callSP X_185 hx hZ (own := "com/example/counterweight/counterweight/DecimalsPutWholePinLaw") (index := 23) (y := (⟨"com/example/counterweight/counterweight/DecimalsPutWholePinLaw", "ok", "([BIIIJ)Z"⟩ : MethodName)) (as' := [(.ref a_19), (.int (9 : Int32)), (.int vt), (.int v0), (.long vn)]) (w := some (.int (1 : Int32))) hown (hw _ (List.mem_of_getElem? (i := 13) rfl)) (hw _ (List.mem_of_getElem? (i := 14) rfl)) (hw _ (List.mem_of_getElem? (i := 10) rfl)) (hw _ (List.mem_of_getElem? (i := 15) rfl)) (by decide) e_185 (rm_ok l Z a0 hw a_19 (9 : Int32) vt v0 vn T_29.heap 9 kk l0 NN rfl (by decide) hkk hkk3 hv0 h1 h9 hNN BP) pd_ok rfl 0 (by decide) (by decide) (by decide) (by decide) rfl rfl (pc := 201) (pc' := 204) (Ls := #[.val (.int q1), .val (.long q2), .second, .val (.int q3), .val (.int vt), .val (.long vn), .second, .val (.ref a_19), .val (.int ve), .val (.int v0)]) (rest := []) (st := [(.long vn), (.int v0), (.int vt), (.int (9 : Int32)), (.ref a_19)]) (by rw [hml]; rfl) rfl (Nat.le_of_eq rfl) (hb hby at_201) rfl
  refine st_201 ?_
  show Go p e below _ (T_201.setTop (mkF m 204 #[.val (.int q1), .val (.long q2), .second, .val (.int q3), .val (.int vt), .val (.long vn), .second, .val (.ref a_19), .val (.int ve), .val (.int v0)] [(.int (1 : Int32))]))
  refine g_ifN X_201 hx 207 (hb hby at_204) (XT.i0_eq_f (by decide)) rfl ?_
  refine g_aload X_201 hx 209 (.ref a_19) (hb hby at_207) rfl rfl rfl ?_
  refine g_bipush X_201 hx 211 (10 : Int32) (hb hby at_209) rfl rfl ?_
  refine g_iload X_201 hx 213 vt (hb hby at_211) rfl rfl ?_
  refine g_iload X_201 hx 215 v0 (hb hby at_213) rfl rfl ?_
  refine g_lload X_201 hx 217 vn (hb hby at_215) rfl rfl ?_
  obtain ⟨T_217, X_217, e_217, st_217⟩ := g_callSP X_201 hx hZ (own := "com/example/counterweight/counterweight/DecimalsPutWholePinLaw") (index := 23) (y := (⟨"com/example/counterweight/counterweight/DecimalsPutWholePinLaw", "ok", "([BIIIJ)Z"⟩ : MethodName)) (as' := [(.ref a_19), (.int (10 : Int32)), (.int vt), (.int v0), (.long vn)]) (w := some (.int (1 : Int32))) hown (hw _ (List.mem_of_getElem? (i := 13) rfl)) (hw _ (List.mem_of_getElem? (i := 14) rfl)) (hw _ (List.mem_of_getElem? (i := 10) rfl)) (hw _ (List.mem_of_getElem? (i := 15) rfl)) (by decide) e_201 (rm_ok l Z a0 hw a_19 (10 : Int32) vt v0 vn T_29.heap 10 kk l0 NN rfl (by decide) hkk hkk3 hv0 h1 h9 hNN BP) pd_ok rfl 0 (by decide) (by decide) (by decide) (by decide) rfl rfl (pc := 217) (pc' := 220) (Ls := #[.val (.int q1), .val (.long q2), .second, .val (.int q3), .val (.int vt), .val (.long vn), .second, .val (.ref a_19), .val (.int ve), .val (.int v0)]) (rest := []) (st := [(.long vn), (.int v0), (.int vt), (.int (10 : Int32)), (.ref a_19)]) (by rw [hml]; rfl) rfl (Nat.le_of_eq rfl) (hb hby at_217) rfl
  refine st_217 ?_
  show Go p e below _ (T_217.setTop (mkF m 220 #[.val (.int q1), .val (.long q2), .second, .val (.int q3), .val (.int vt), .val (.long vn), .second, .val (.ref a_19), .val (.int ve), .val (.int v0)] [(.int (1 : Int32))]))
  refine g_ifN X_217 hx 223 (hb hby at_220) (XT.i0_eq_f (by decide)) rfl ?_
  refine g_aload X_217 hx 225 (.ref a_19) (hb hby at_223) rfl rfl rfl ?_
  refine g_bipush X_217 hx 227 (11 : Int32) (hb hby at_225) rfl rfl ?_
  refine g_iload X_217 hx 229 vt (hb hby at_227) rfl rfl ?_
  refine g_iload X_217 hx 231 v0 (hb hby at_229) rfl rfl ?_
  refine g_lload X_217 hx 233 vn (hb hby at_231) rfl rfl ?_
  obtain ⟨T_233, X_233, e_233, st_233⟩ := g_callSP X_217 hx hZ (own := "com/example/counterweight/counterweight/DecimalsPutWholePinLaw") (index := 23) (y := (⟨"com/example/counterweight/counterweight/DecimalsPutWholePinLaw", "ok", "([BIIIJ)Z"⟩ : MethodName)) (as' := [(.ref a_19), (.int (11 : Int32)), (.int vt), (.int v0), (.long vn)]) (w := some (.int (1 : Int32))) hown (hw _ (List.mem_of_getElem? (i := 13) rfl)) (hw _ (List.mem_of_getElem? (i := 14) rfl)) (hw _ (List.mem_of_getElem? (i := 10) rfl)) (hw _ (List.mem_of_getElem? (i := 15) rfl)) (by decide) e_217 (rm_ok l Z a0 hw a_19 (11 : Int32) vt v0 vn T_29.heap 11 kk l0 NN rfl (by decide) hkk hkk3 hv0 h1 h9 hNN BP) pd_ok rfl 0 (by decide) (by decide) (by decide) (by decide) rfl rfl (pc := 233) (pc' := 236) (Ls := #[.val (.int q1), .val (.long q2), .second, .val (.int q3), .val (.int vt), .val (.long vn), .second, .val (.ref a_19), .val (.int ve), .val (.int v0)]) (rest := []) (st := [(.long vn), (.int v0), (.int vt), (.int (11 : Int32)), (.ref a_19)]) (by rw [hml]; rfl) rfl (Nat.le_of_eq rfl) (hb hby at_233) rfl
  refine st_233 ?_
  show Go p e below _ (T_233.setTop (mkF m 236 #[.val (.int q1), .val (.long q2), .second, .val (.int q3), .val (.int vt), .val (.long vn), .second, .val (.ref a_19), .val (.int ve), .val (.int v0)] [(.int (1 : Int32))]))
  refine g_ifN X_233 hx 239 (hb hby at_236) (XT.i0_eq_f (by decide)) rfl ?_
  refine g_aload X_233 hx 241 (.ref a_19) (hb hby at_239) rfl rfl rfl ?_
  refine g_bipush X_233 hx 243 (12 : Int32) (hb hby at_241) rfl rfl ?_
  refine g_iload X_233 hx 245 vt (hb hby at_243) rfl rfl ?_
  refine g_iload X_233 hx 247 v0 (hb hby at_245) rfl rfl ?_
  refine g_lload X_233 hx 249 vn (hb hby at_247) rfl rfl ?_
  obtain ⟨T_249, X_249, e_249, st_249⟩ := g_callSP X_233 hx hZ (own := "com/example/counterweight/counterweight/DecimalsPutWholePinLaw") (index := 23) (y := (⟨"com/example/counterweight/counterweight/DecimalsPutWholePinLaw", "ok", "([BIIIJ)Z"⟩ : MethodName)) (as' := [(.ref a_19), (.int (12 : Int32)), (.int vt), (.int v0), (.long vn)]) (w := some (.int (1 : Int32))) hown (hw _ (List.mem_of_getElem? (i := 13) rfl)) (hw _ (List.mem_of_getElem? (i := 14) rfl)) (hw _ (List.mem_of_getElem? (i := 10) rfl)) (hw _ (List.mem_of_getElem? (i := 15) rfl)) (by decide) e_233 (rm_ok l Z a0 hw a_19 (12 : Int32) vt v0 vn T_29.heap 12 kk l0 NN rfl (by decide) hkk hkk3 hv0 h1 h9 hNN BP) pd_ok rfl 0 (by decide) (by decide) (by decide) (by decide) rfl rfl (pc := 249) (pc' := 252) (Ls := #[.val (.int q1), .val (.long q2), .second, .val (.int q3), .val (.int vt), .val (.long vn), .second, .val (.ref a_19), .val (.int ve), .val (.int v0)]) (rest := []) (st := [(.long vn), (.int v0), (.int vt), (.int (12 : Int32)), (.ref a_19)]) (by rw [hml]; rfl) rfl (Nat.le_of_eq rfl) (hb hby at_249) rfl
  refine st_249 ?_
  show Go p e below _ (T_249.setTop (mkF m 252 #[.val (.int q1), .val (.long q2), .second, .val (.int q3), .val (.int vt), .val (.long vn), .second, .val (.ref a_19), .val (.int ve), .val (.int v0)] [(.int (1 : Int32))]))
  refine g_ifN X_249 hx 255 (hb hby at_252) (XT.i0_eq_f (by decide)) rfl ?_
  refine g_aload X_249 hx 257 (.ref a_19) (hb hby at_255) rfl rfl rfl ?_
  refine g_bipush X_249 hx 259 (13 : Int32) (hb hby at_257) rfl rfl ?_
  refine g_iload X_249 hx 261 vt (hb hby at_259) rfl rfl ?_
  refine g_iload X_249 hx 263 v0 (hb hby at_261) rfl rfl ?_
  refine g_lload X_249 hx 265 vn (hb hby at_263) rfl rfl ?_
  obtain ⟨T_265, X_265, e_265, st_265⟩ := g_callSP X_249 hx hZ (own := "com/example/counterweight/counterweight/DecimalsPutWholePinLaw") (index := 23) (y := (⟨"com/example/counterweight/counterweight/DecimalsPutWholePinLaw", "ok", "([BIIIJ)Z"⟩ : MethodName)) (as' := [(.ref a_19), (.int (13 : Int32)), (.int vt), (.int v0), (.long vn)]) (w := some (.int (1 : Int32))) hown (hw _ (List.mem_of_getElem? (i := 13) rfl)) (hw _ (List.mem_of_getElem? (i := 14) rfl)) (hw _ (List.mem_of_getElem? (i := 10) rfl)) (hw _ (List.mem_of_getElem? (i := 15) rfl)) (by decide) e_249 (rm_ok l Z a0 hw a_19 (13 : Int32) vt v0 vn T_29.heap 13 kk l0 NN rfl (by decide) hkk hkk3 hv0 h1 h9 hNN BP) pd_ok rfl 0 (by decide) (by decide) (by decide) (by decide) rfl rfl (pc := 265) (pc' := 268) (Ls := #[.val (.int q1), .val (.long q2), .second, .val (.int q3), .val (.int vt), .val (.long vn), .second, .val (.ref a_19), .val (.int ve), .val (.int v0)]) (rest := []) (st := [(.long vn), (.int v0), (.int vt), (.int (13 : Int32)), (.ref a_19)]) (by rw [hml]; rfl) rfl (Nat.le_of_eq rfl) (hb hby at_265) rfl
  refine st_265 ?_
  show Go p e below _ (T_265.setTop (mkF m 268 #[.val (.int q1), .val (.long q2), .second, .val (.int q3), .val (.int vt), .val (.long vn), .second, .val (.ref a_19), .val (.int ve), .val (.int v0)] [(.int (1 : Int32))]))
  refine g_ifN X_265 hx 271 (hb hby at_268) (XT.i0_eq_f (by decide)) rfl ?_
  refine g_aload X_265 hx 273 (.ref a_19) (hb hby at_271) rfl rfl rfl ?_
  refine g_bipush X_265 hx 275 (14 : Int32) (hb hby at_273) rfl rfl ?_
  refine g_iload X_265 hx 277 vt (hb hby at_275) rfl rfl ?_
  refine g_iload X_265 hx 279 v0 (hb hby at_277) rfl rfl ?_
  refine g_lload X_265 hx 281 vn (hb hby at_279) rfl rfl ?_
  obtain ⟨T_281, X_281, e_281, st_281⟩ := g_callSP X_265 hx hZ (own := "com/example/counterweight/counterweight/DecimalsPutWholePinLaw") (index := 23) (y := (⟨"com/example/counterweight/counterweight/DecimalsPutWholePinLaw", "ok", "([BIIIJ)Z"⟩ : MethodName)) (as' := [(.ref a_19), (.int (14 : Int32)), (.int vt), (.int v0), (.long vn)]) (w := some (.int (1 : Int32))) hown (hw _ (List.mem_of_getElem? (i := 13) rfl)) (hw _ (List.mem_of_getElem? (i := 14) rfl)) (hw _ (List.mem_of_getElem? (i := 10) rfl)) (hw _ (List.mem_of_getElem? (i := 15) rfl)) (by decide) e_265 (rm_ok l Z a0 hw a_19 (14 : Int32) vt v0 vn T_29.heap 14 kk l0 NN rfl (by decide) hkk hkk3 hv0 h1 h9 hNN BP) pd_ok rfl 0 (by decide) (by decide) (by decide) (by decide) rfl rfl (pc := 281) (pc' := 284) (Ls := #[.val (.int q1), .val (.long q2), .second, .val (.int q3), .val (.int vt), .val (.long vn), .second, .val (.ref a_19), .val (.int ve), .val (.int v0)]) (rest := []) (st := [(.long vn), (.int v0), (.int vt), (.int (14 : Int32)), (.ref a_19)]) (by rw [hml]; rfl) rfl (Nat.le_of_eq rfl) (hb hby at_281) rfl
  refine st_281 ?_
  show Go p e below _ (T_281.setTop (mkF m 284 #[.val (.int q1), .val (.long q2), .second, .val (.int q3), .val (.int vt), .val (.long vn), .second, .val (.ref a_19), .val (.int ve), .val (.int v0)] [(.int (1 : Int32))]))
  refine g_ifN X_281 hx 287 (hb hby at_284) (XT.i0_eq_f (by decide)) rfl ?_
  refine g_aload X_281 hx 289 (.ref a_19) (hb hby at_287) rfl rfl rfl ?_
  refine g_bipush X_281 hx 291 (15 : Int32) (hb hby at_289) rfl rfl ?_
  refine g_iload X_281 hx 293 vt (hb hby at_291) rfl rfl ?_
  refine g_iload X_281 hx 295 v0 (hb hby at_293) rfl rfl ?_
  refine g_lload X_281 hx 297 vn (hb hby at_295) rfl rfl ?_
  obtain ⟨T_297, X_297, e_297, st_297⟩ := g_callSP X_281 hx hZ (own := "com/example/counterweight/counterweight/DecimalsPutWholePinLaw") (index := 23) (y := (⟨"com/example/counterweight/counterweight/DecimalsPutWholePinLaw", "ok", "([BIIIJ)Z"⟩ : MethodName)) (as' := [(.ref a_19), (.int (15 : Int32)), (.int vt), (.int v0), (.long vn)]) (w := some (.int (1 : Int32))) hown (hw _ (List.mem_of_getElem? (i := 13) rfl)) (hw _ (List.mem_of_getElem? (i := 14) rfl)) (hw _ (List.mem_of_getElem? (i := 10) rfl)) (hw _ (List.mem_of_getElem? (i := 15) rfl)) (by decide) e_281 (rm_ok l Z a0 hw a_19 (15 : Int32) vt v0 vn T_29.heap 15 kk l0 NN rfl (by decide) hkk hkk3 hv0 h1 h9 hNN BP) pd_ok rfl 0 (by decide) (by decide) (by decide) (by decide) rfl rfl (pc := 297) (pc' := 300) (Ls := #[.val (.int q1), .val (.long q2), .second, .val (.int q3), .val (.int vt), .val (.long vn), .second, .val (.ref a_19), .val (.int ve), .val (.int v0)]) (rest := []) (st := [(.long vn), (.int v0), (.int vt), (.int (15 : Int32)), (.ref a_19)]) (by rw [hml]; rfl) rfl (Nat.le_of_eq rfl) (hb hby at_297) rfl
  refine st_297 ?_
  show Go p e below _ (T_297.setTop (mkF m 300 #[.val (.int q1), .val (.long q2), .second, .val (.int q3), .val (.int vt), .val (.long vn), .second, .val (.ref a_19), .val (.int ve), .val (.int v0)] [(.int (1 : Int32))]))
  refine g_ifN X_297 hx 303 (hb hby at_300) (XT.i0_eq_f (by decide)) rfl ?_
  refine g_aload X_297 hx 305 (.ref a_19) (hb hby at_303) rfl rfl rfl ?_
  refine g_bipush X_297 hx 307 (16 : Int32) (hb hby at_305) rfl rfl ?_
  refine g_iload X_297 hx 309 vt (hb hby at_307) rfl rfl ?_
  refine g_iload X_297 hx 311 v0 (hb hby at_309) rfl rfl ?_
  refine g_lload X_297 hx 313 vn (hb hby at_311) rfl rfl ?_
  obtain ⟨T_313, X_313, e_313, st_313⟩ := g_callSP X_297 hx hZ (own := "com/example/counterweight/counterweight/DecimalsPutWholePinLaw") (index := 23) (y := (⟨"com/example/counterweight/counterweight/DecimalsPutWholePinLaw", "ok", "([BIIIJ)Z"⟩ : MethodName)) (as' := [(.ref a_19), (.int (16 : Int32)), (.int vt), (.int v0), (.long vn)]) (w := some (.int (1 : Int32))) hown (hw _ (List.mem_of_getElem? (i := 13) rfl)) (hw _ (List.mem_of_getElem? (i := 14) rfl)) (hw _ (List.mem_of_getElem? (i := 10) rfl)) (hw _ (List.mem_of_getElem? (i := 15) rfl)) (by decide) e_297 (rm_ok l Z a0 hw a_19 (16 : Int32) vt v0 vn T_29.heap 16 kk l0 NN rfl (by decide) hkk hkk3 hv0 h1 h9 hNN BP) pd_ok rfl 0 (by decide) (by decide) (by decide) (by decide) rfl rfl (pc := 313) (pc' := 316) (Ls := #[.val (.int q1), .val (.long q2), .second, .val (.int q3), .val (.int vt), .val (.long vn), .second, .val (.ref a_19), .val (.int ve), .val (.int v0)]) (rest := []) (st := [(.long vn), (.int v0), (.int vt), (.int (16 : Int32)), (.ref a_19)]) (by rw [hml]; rfl) rfl (Nat.le_of_eq rfl) (hb hby at_313) rfl
  refine st_313 ?_
  show Go p e below _ (T_313.setTop (mkF m 316 #[.val (.int q1), .val (.long q2), .second, .val (.int q3), .val (.int vt), .val (.long vn), .second, .val (.ref a_19), .val (.int ve), .val (.int v0)] [(.int (1 : Int32))]))
  refine g_ifN X_313 hx 319 (hb hby at_316) (XT.i0_eq_f (by decide)) rfl ?_
  refine g_aload X_313 hx 321 (.ref a_19) (hb hby at_319) rfl rfl rfl ?_
  refine g_bipush X_313 hx 323 (17 : Int32) (hb hby at_321) rfl rfl ?_
  refine g_iload X_313 hx 325 vt (hb hby at_323) rfl rfl ?_
  refine g_iload X_313 hx 327 v0 (hb hby at_325) rfl rfl ?_
  refine g_lload X_313 hx 329 vn (hb hby at_327) rfl rfl ?_
  obtain ⟨T_329, X_329, e_329, st_329⟩ := g_callSP X_313 hx hZ (own := "com/example/counterweight/counterweight/DecimalsPutWholePinLaw") (index := 23) (y := (⟨"com/example/counterweight/counterweight/DecimalsPutWholePinLaw", "ok", "([BIIIJ)Z"⟩ : MethodName)) (as' := [(.ref a_19), (.int (17 : Int32)), (.int vt), (.int v0), (.long vn)]) (w := some (.int (1 : Int32))) hown (hw _ (List.mem_of_getElem? (i := 13) rfl)) (hw _ (List.mem_of_getElem? (i := 14) rfl)) (hw _ (List.mem_of_getElem? (i := 10) rfl)) (hw _ (List.mem_of_getElem? (i := 15) rfl)) (by decide) e_313 (rm_ok l Z a0 hw a_19 (17 : Int32) vt v0 vn T_29.heap 17 kk l0 NN rfl (by decide) hkk hkk3 hv0 h1 h9 hNN BP) pd_ok rfl 0 (by decide) (by decide) (by decide) (by decide) rfl rfl (pc := 329) (pc' := 332) (Ls := #[.val (.int q1), .val (.long q2), .second, .val (.int q3), .val (.int vt), .val (.long vn), .second, .val (.ref a_19), .val (.int ve), .val (.int v0)]) (rest := []) (st := [(.long vn), (.int v0), (.int vt), (.int (17 : Int32)), (.ref a_19)]) (by rw [hml]; rfl) rfl (Nat.le_of_eq rfl) (hb hby at_329) rfl
  refine st_329 ?_
  show Go p e below _ (T_329.setTop (mkF m 332 #[.val (.int q1), .val (.long q2), .second, .val (.int q3), .val (.int vt), .val (.long vn), .second, .val (.ref a_19), .val (.int ve), .val (.int v0)] [(.int (1 : Int32))]))
  refine g_ifN X_329 hx 335 (hb hby at_332) (XT.i0_eq_f (by decide)) rfl ?_
  refine g_aload X_329 hx 337 (.ref a_19) (hb hby at_335) rfl rfl rfl ?_
  refine g_bipush X_329 hx 339 (18 : Int32) (hb hby at_337) rfl rfl ?_
  refine g_iload X_329 hx 341 vt (hb hby at_339) rfl rfl ?_
  refine g_iload X_329 hx 343 v0 (hb hby at_341) rfl rfl ?_
  refine g_lload X_329 hx 345 vn (hb hby at_343) rfl rfl ?_
  obtain ⟨T_345, X_345, e_345, st_345⟩ := g_callSP X_329 hx hZ (own := "com/example/counterweight/counterweight/DecimalsPutWholePinLaw") (index := 23) (y := (⟨"com/example/counterweight/counterweight/DecimalsPutWholePinLaw", "ok", "([BIIIJ)Z"⟩ : MethodName)) (as' := [(.ref a_19), (.int (18 : Int32)), (.int vt), (.int v0), (.long vn)]) (w := some (.int (1 : Int32))) hown (hw _ (List.mem_of_getElem? (i := 13) rfl)) (hw _ (List.mem_of_getElem? (i := 14) rfl)) (hw _ (List.mem_of_getElem? (i := 10) rfl)) (hw _ (List.mem_of_getElem? (i := 15) rfl)) (by decide) e_329 (rm_ok l Z a0 hw a_19 (18 : Int32) vt v0 vn T_29.heap 18 kk l0 NN rfl (by decide) hkk hkk3 hv0 h1 h9 hNN BP) pd_ok rfl 0 (by decide) (by decide) (by decide) (by decide) rfl rfl (pc := 345) (pc' := 348) (Ls := #[.val (.int q1), .val (.long q2), .second, .val (.int q3), .val (.int vt), .val (.long vn), .second, .val (.ref a_19), .val (.int ve), .val (.int v0)]) (rest := []) (st := [(.long vn), (.int v0), (.int vt), (.int (18 : Int32)), (.ref a_19)]) (by rw [hml]; rfl) rfl (Nat.le_of_eq rfl) (hb hby at_345) rfl
  refine st_345 ?_
  show Go p e below _ (T_345.setTop (mkF m 348 #[.val (.int q1), .val (.long q2), .second, .val (.int q3), .val (.int vt), .val (.long vn), .second, .val (.ref a_19), .val (.int ve), .val (.int v0)] [(.int (1 : Int32))]))
  refine g_ifN X_345 hx 351 (hb hby at_348) (XT.i0_eq_f (by decide)) rfl ?_
  refine g_aload X_345 hx 353 (.ref a_19) (hb hby at_351) rfl rfl rfl ?_
  refine g_bipush X_345 hx 355 (19 : Int32) (hb hby at_353) rfl rfl ?_
  refine g_iload X_345 hx 357 vt (hb hby at_355) rfl rfl ?_
  refine g_iload X_345 hx 359 v0 (hb hby at_357) rfl rfl ?_
  refine g_lload X_345 hx 361 vn (hb hby at_359) rfl rfl ?_
  obtain ⟨T_361, X_361, e_361, st_361⟩ := g_callSP X_345 hx hZ (own := "com/example/counterweight/counterweight/DecimalsPutWholePinLaw") (index := 23) (y := (⟨"com/example/counterweight/counterweight/DecimalsPutWholePinLaw", "ok", "([BIIIJ)Z"⟩ : MethodName)) (as' := [(.ref a_19), (.int (19 : Int32)), (.int vt), (.int v0), (.long vn)]) (w := some (.int (1 : Int32))) hown (hw _ (List.mem_of_getElem? (i := 13) rfl)) (hw _ (List.mem_of_getElem? (i := 14) rfl)) (hw _ (List.mem_of_getElem? (i := 10) rfl)) (hw _ (List.mem_of_getElem? (i := 15) rfl)) (by decide) e_345 (rm_ok l Z a0 hw a_19 (19 : Int32) vt v0 vn T_29.heap 19 kk l0 NN rfl (by decide) hkk hkk3 hv0 h1 h9 hNN BP) pd_ok rfl 0 (by decide) (by decide) (by decide) (by decide) rfl rfl (pc := 361) (pc' := 364) (Ls := #[.val (.int q1), .val (.long q2), .second, .val (.int q3), .val (.int vt), .val (.long vn), .second, .val (.ref a_19), .val (.int ve), .val (.int v0)]) (rest := []) (st := [(.long vn), (.int v0), (.int vt), (.int (19 : Int32)), (.ref a_19)]) (by rw [hml]; rfl) rfl (Nat.le_of_eq rfl) (hb hby at_361) rfl
  refine st_361 ?_
  show Go p e below _ (T_361.setTop (mkF m 364 #[.val (.int q1), .val (.long q2), .second, .val (.int q3), .val (.int vt), .val (.long vn), .second, .val (.ref a_19), .val (.int ve), .val (.int v0)] [(.int (1 : Int32))]))
  refine g_ifN X_361 hx 367 (hb hby at_364) (XT.i0_eq_f (by decide)) rfl ?_
  refine g_aload X_361 hx 369 (.ref a_19) (hb hby at_367) rfl rfl rfl ?_
  refine g_bipush X_361 hx 371 (20 : Int32) (hb hby at_369) rfl rfl ?_
  refine g_iload X_361 hx 373 vt (hb hby at_371) rfl rfl ?_
  refine g_iload X_361 hx 375 v0 (hb hby at_373) rfl rfl ?_
  refine g_lload X_361 hx 377 vn (hb hby at_375) rfl rfl ?_
  obtain ⟨T_377, X_377, e_377, st_377⟩ := g_callSP X_361 hx hZ (own := "com/example/counterweight/counterweight/DecimalsPutWholePinLaw") (index := 23) (y := (⟨"com/example/counterweight/counterweight/DecimalsPutWholePinLaw", "ok", "([BIIIJ)Z"⟩ : MethodName)) (as' := [(.ref a_19), (.int (20 : Int32)), (.int vt), (.int v0), (.long vn)]) (w := some (.int (1 : Int32))) hown (hw _ (List.mem_of_getElem? (i := 13) rfl)) (hw _ (List.mem_of_getElem? (i := 14) rfl)) (hw _ (List.mem_of_getElem? (i := 10) rfl)) (hw _ (List.mem_of_getElem? (i := 15) rfl)) (by decide) e_361 (rm_ok l Z a0 hw a_19 (20 : Int32) vt v0 vn T_29.heap 20 kk l0 NN rfl (by decide) hkk hkk3 hv0 h1 h9 hNN BP) pd_ok rfl 0 (by decide) (by decide) (by decide) (by decide) rfl rfl (pc := 377) (pc' := 380) (Ls := #[.val (.int q1), .val (.long q2), .second, .val (.int q3), .val (.int vt), .val (.long vn), .second, .val (.ref a_19), .val (.int ve), .val (.int v0)]) (rest := []) (st := [(.long vn), (.int v0), (.int vt), (.int (20 : Int32)), (.ref a_19)]) (by rw [hml]; rfl) rfl (Nat.le_of_eq rfl) (hb hby at_377) rfl
  refine st_377 ?_
  show Go p e below _ (T_377.setTop (mkF m 380 #[.val (.int q1), .val (.long q2), .second, .val (.int q3), .val (.int vt), .val (.long vn), .second, .val (.ref a_19), .val (.int ve), .val (.int v0)] [(.int (1 : Int32))]))
  refine g_ifN X_377 hx 383 (hb hby at_380) (XT.i0_eq_f (by decide)) rfl ?_
  refine g_aload X_377 hx 385 (.ref a_19) (hb hby at_383) rfl rfl rfl ?_
  refine g_bipush X_377 hx 387 (21 : Int32) (hb hby at_385) rfl rfl ?_
  refine g_iload X_377 hx 389 vt (hb hby at_387) rfl rfl ?_
  refine g_iload X_377 hx 391 v0 (hb hby at_389) rfl rfl ?_
  refine g_lload X_377 hx 393 vn (hb hby at_391) rfl rfl ?_
  obtain ⟨T_393, X_393, e_393, st_393⟩ := g_callSP X_377 hx hZ (own := "com/example/counterweight/counterweight/DecimalsPutWholePinLaw") (index := 23) (y := (⟨"com/example/counterweight/counterweight/DecimalsPutWholePinLaw", "ok", "([BIIIJ)Z"⟩ : MethodName)) (as' := [(.ref a_19), (.int (21 : Int32)), (.int vt), (.int v0), (.long vn)]) (w := some (.int (1 : Int32))) hown (hw _ (List.mem_of_getElem? (i := 13) rfl)) (hw _ (List.mem_of_getElem? (i := 14) rfl)) (hw _ (List.mem_of_getElem? (i := 10) rfl)) (hw _ (List.mem_of_getElem? (i := 15) rfl)) (by decide) e_377 (rm_ok l Z a0 hw a_19 (21 : Int32) vt v0 vn T_29.heap 21 kk l0 NN rfl (by decide) hkk hkk3 hv0 h1 h9 hNN BP) pd_ok rfl 0 (by decide) (by decide) (by decide) (by decide) rfl rfl (pc := 393) (pc' := 396) (Ls := #[.val (.int q1), .val (.long q2), .second, .val (.int q3), .val (.int vt), .val (.long vn), .second, .val (.ref a_19), .val (.int ve), .val (.int v0)]) (rest := []) (st := [(.long vn), (.int v0), (.int vt), (.int (21 : Int32)), (.ref a_19)]) (by rw [hml]; rfl) rfl (Nat.le_of_eq rfl) (hb hby at_393) rfl
  refine st_393 ?_
  show Go p e below _ (T_393.setTop (mkF m 396 #[.val (.int q1), .val (.long q2), .second, .val (.int q3), .val (.int vt), .val (.long vn), .second, .val (.ref a_19), .val (.int ve), .val (.int v0)] [(.int (1 : Int32))]))
  refine g_ifN X_393 hx 399 (hb hby at_396) (XT.i0_eq_f (by decide)) rfl ?_
  refine g_aload X_393 hx 401 (.ref a_19) (hb hby at_399) rfl rfl rfl ?_
  refine g_bipush X_393 hx 403 (22 : Int32) (hb hby at_401) rfl rfl ?_
  refine g_iload X_393 hx 405 vt (hb hby at_403) rfl rfl ?_
  refine g_iload X_393 hx 407 v0 (hb hby at_405) rfl rfl ?_
  refine g_lload X_393 hx 409 vn (hb hby at_407) rfl rfl ?_
  obtain ⟨T_409, X_409, e_409, st_409⟩ := g_callSP X_393 hx hZ (own := "com/example/counterweight/counterweight/DecimalsPutWholePinLaw") (index := 23) (y := (⟨"com/example/counterweight/counterweight/DecimalsPutWholePinLaw", "ok", "([BIIIJ)Z"⟩ : MethodName)) (as' := [(.ref a_19), (.int (22 : Int32)), (.int vt), (.int v0), (.long vn)]) (w := some (.int (1 : Int32))) hown (hw _ (List.mem_of_getElem? (i := 13) rfl)) (hw _ (List.mem_of_getElem? (i := 14) rfl)) (hw _ (List.mem_of_getElem? (i := 10) rfl)) (hw _ (List.mem_of_getElem? (i := 15) rfl)) (by decide) e_393 (rm_ok l Z a0 hw a_19 (22 : Int32) vt v0 vn T_29.heap 22 kk l0 NN rfl (by decide) hkk hkk3 hv0 h1 h9 hNN BP) pd_ok rfl 0 (by decide) (by decide) (by decide) (by decide) rfl rfl (pc := 409) (pc' := 412) (Ls := #[.val (.int q1), .val (.long q2), .second, .val (.int q3), .val (.int vt), .val (.long vn), .second, .val (.ref a_19), .val (.int ve), .val (.int v0)]) (rest := []) (st := [(.long vn), (.int v0), (.int vt), (.int (22 : Int32)), (.ref a_19)]) (by rw [hml]; rfl) rfl (Nat.le_of_eq rfl) (hb hby at_409) rfl
  refine st_409 ?_
  show Go p e below _ (T_409.setTop (mkF m 412 #[.val (.int q1), .val (.long q2), .second, .val (.int q3), .val (.int vt), .val (.long vn), .second, .val (.ref a_19), .val (.int ve), .val (.int v0)] [(.int (1 : Int32))]))
  refine g_ifN X_409 hx 415 (hb hby at_412) (XT.i0_eq_f (by decide)) rfl ?_
  refine g_iconst X_409 hx 416 (1 : Int32) (hb hby at_415) rfl rfl ?_
  refine g_goto X_409 hx 420 (hb hby at_416) (by decide) (by decide) ?_
  exact Go.ret X_409 hx hlk Bd.returns (hb hby at_420) rfl (Or.inl ⟨rfl, by decide, _, rfl⟩) (by decide) (by decide) ⟨rfl, N_29⟩
set_option maxRecDepth 65536 in
set_option maxHeartbeats 40000000 in
theorem comes_1 {Post : Tables → Env → Array Value → State → Outcome → State → Prop} (hpost : ∀ tb e args s v u, (limb_1_1.after args s (.returned v) u = true ∧ limb_1_2.after args s (.returned v) u = true ∧ True) → FrameEnd s (.returned v) u (Jvm.fieldLocs frame_1_writes args s ++ Jvm.arrayLocs frame_1_arrays args s ++ Jvm.staticLocs frame_1_statics s) 16 128 → Post tb e args s (.returned v) u) :
    ArmFor flags0 classFile x code maxLocals ret World_1 tables_1 room_1 Calls_1 rest_1 Pre_1 Post := by
  intro l hfl _ _ p e ha hc hk s m args below hf hA hF happ hP
  obtain ⟨hcalls, hrest, hpre⟩ := hP
  obtain ⟨-, -, -, hnamed, -, -, -, hat⟩ := (Spec.applies_iff hf).mp happ
  obtain ⟨hg, hn⟩ := and_e (Cond.before_iff.mp (show (Jvm.Cond.and given_1 narrow_1).before args s = true from hpre))
  obtain ⟨h1, g_0⟩ := and_e hg
  obtain ⟨k0, g_1⟩ := and_e g_0
  obtain ⟨k1, g_2⟩ := and_e g_1
  obtain ⟨w0, w1, w2, rfl⟩ : ∃ w0 w1 w2 : Value, args = #[w0, w1, w2] := by
    have hs : args.size = 3 := by simpa [Cond.value, given_1] using h1
    obtain ⟨L⟩ := args
    match L, hs with
    | [w0, w1, w2], _ => exact ⟨w0, w1, w2, rfl⟩
  have hw := fun d (hd : d ∈ tables_1) => atoms_spec (ws := Jvm.Cond.code x code maxLocals ret :: tables_1) hat d (List.mem_cons_of_mem _ hd)
  obtain ⟨i0, e_0⟩ := is_v k0
  obtain rfl : w0 = (.int i0) := Option.some.inj e_0
  obtain ⟨i1, e_1⟩ := isL_v k1
  obtain rfl : w1 = (.long i1) := Option.some.inj e_1
  obtain ⟨i2, e_2⟩ := is_v g_2
  obtain rfl : w2 = (.int i2) := Option.some.inj e_2
  obtain ⟨n, o, h1, h2, h3, _, L, rfl, ⟨rfl, N⟩, hq⟩ := rm_law l s _ hw tables_1 i0 i1 i2 s.heap  p e ha hc hk s m _ below hf ((Spec.applies_iff_loose hf).mp happ).1 ⟨rfl, State.Warmed39.refl s, rfl⟩ trivial
  refine ⟨n, _, h1, h2, h3, hpost _ _ _ _ _ _ ⟨Cond.after_iff.mpr rfl, Cond.after_iff.mpr (eq_i res_at (Term.int_eval (1)) rfl), trivial⟩ ⟨hq.1, hq.2.1, (hq.2.2.sift fun y hy => Or.inr (N y hy)).mono (by decide) (by decide)⟩⟩
theorem main_1_1 : Claimed_1_1 := comes_1 fun _ _ _ _ _ _ h hF => ⟨h.1, hF⟩
theorem main_1_2 : Claimed_1_2 := comes_1 fun _ _ _ _ _ _ h hF => ⟨h.2.1, hF⟩
end Jvm.Pilot.@@N@@
namespace Jvm.Pilot.@@N@@
open Jvm Jvm.ClassFile Sem Op Lib Jvm.Free Jvm.Stand Jvm.Pilot.@@N@@.Jvm.D
/-! MADE BY PROGRAM (witnessworld.py) out of the Statement's table words and the real class files: 9 classes; the members and pool entries that the words name. The judged class is class 1, her method 1. -/
namespace start1
open Jvm.ClassFile
def u (s : String) : CpInfo := .utf8 (stringToUtf16 s)
/-- a pool by its gaps: so many unusable entries, then the entry; so many at the end -/
def gap : Nat → List CpInfo → List CpInfo
  | 0, r => r
  | n + 1, r => .unusable :: gap n r
def poolList (es : List (Nat × CpInfo)) (last : Nat) : List CpInfo := es.foldr (fun e r => gap e.1 (e.2 :: r)) (gap last [])
def pool (es : List (Nat × CpInfo)) (last : Nat) : Array CpInfo := ⟨poolList es last⟩
def fileOf (pool : Array CpInfo) (this : Nat) (attrs : Array Attribute := #[]) (ms : Array MethodInfo := #[]) (fl : Nat := 33) (sup : Nat := 0) (ifs : Array Nat := #[]) (fds : Array FieldInfo := #[]) : ClassFile where
  minorVersion := 0
  majorVersion := 65
  constantPool := pool
  accessFlags := fl
  thisClass := this
  superClass := sup
  interfaces := ifs
  fields := fds
  methods := ms
  attributes := attrs
def plain (name : String) (sup : Option ClassId) : Class where
  name := name
  kind := .ordinary
  loader := none
  accessFlags := 33
  super := sup
  interfaces := #[]
  cf := none
  fields := #[]
  methods := #[]
  instanceTypes := #[]
  staticTypes := #[]
  resolved := #[]
  callSites := []
  init := .initialized
  statics := none
  mirror := none

def pool0 : Array CpInfo := pool [(5, u "<init>"), (0, u "()V"), (1, .class_ 10), (1, u "java/lang/Object")] 113

def k0m0 : Method := { name := "<init>", desc := "()V", sig := { parameters := [], returnType := none }, accessFlags := 1, code := none }
/-- java/lang/Object -/
def k0 : Class := { plain "java/lang/Object" none with
  accessFlags := 33
  interfaces := #[]
  cf := some (fileOf pool0 8 #[] #[{ accessFlags := 1, nameIndex := 5, descriptorIndex := 6, attributes := #[] }] 33 0 #[] #[])
  fields := #[]
  methods := #[k0m0]
  instanceTypes := #[]
  staticTypes := #[]
  resolved := Array.replicate 124 none
  statics := none }

def pool1 : Array CpInfo := pool [(2, .class_ 4), (1, u "java/lang/Object"), (0, u "<init>"), (0, u "()V"), (2, .long 9223372036854775807), (1, .methodref 12 13), (0, .class_ 14), (0, .nameAndType 15 16), (0, u "com/example/counterweight/counterweight/Decimals"), (0, u "putWhole"), (0, u "([BIJ)I"), (0, .methodref 18 19), (0, .class_ 20), (0, .nameAndType 21 22), (0, u "com/example/counterweight/counterweight/DecimalsPutWholePinLaw"), (0, u "len"), (0, u "(J)I"), (0, .methodref 18 24), (0, .nameAndType 25 26), (0, u "ok"), (0, u "([BIIIJ)Z"), (0, .methodref 18 28), (0, .nameAndType 29 30), (0, u "pow10"), (0, u "(I)J"), (0, .long 10), (1, .long 100), (1, .long 1000), (1, .long 10000), (1, .long 100000), (1, .long 1000000), (1, .long 10000000), (1, .long 100000000), (1, .long 1000000000), (1, .long 10000000000), (1, .long 100000000000), (1, .long 1000000000000), (1, .long 10000000000000), (1, .long 100000000000000), (1, .long 1000000000000000), (1, .long 10000000000000000), (1, .long 100000000000000000), (1, .long 1000000000000000000), (3, u "law"), (0, u "(IJI)Z")] 5

def k1m0 : Method := { name := "<init>", desc := "()V", sig := { parameters := [], returnType := none }, accessFlags := 2, code := none }
def k1c1 : Code := { maxStack := 6, maxLocals := 10, code := code, exceptionTable := #[], attributes := #[] }
def k1m1 : Method := { name := "law", desc := "(IJI)Z", sig := { parameters := [.int, .long, .int], returnType := some .boolean }, accessFlags := 9, code := some k1c1 }
def k1c2 : Code := { maxStack := 4, maxLocals := 8, code := method_3_code, exceptionTable := #[], attributes := #[] }
def k1m2 : Method := { name := "ok", desc := "([BIIIJ)Z", sig := { parameters := [(.array .byte), .int, .int, .int, .long], returnType := some .boolean }, accessFlags := 10, code := some k1c2 }
def k1c3 : Code := { maxStack := 4, maxLocals := 2, code := method_4_code, exceptionTable := #[], attributes := #[] }
def k1m3 : Method := { name := "len", desc := "(J)I", sig := { parameters := [.long], returnType := some .int }, accessFlags := 10, code := some k1c3 }
def k1c4 : Code := { maxStack := 2, maxLocals := 1, code := method_5_code, exceptionTable := #[], attributes := #[] }
def k1m4 : Method := { name := "pow10", desc := "(I)J", sig := { parameters := [.int], returnType := some .long }, accessFlags := 10, code := some k1c4 }
/-- com/example/counterweight/counterweight/DecimalsPutWholePinLaw -/
def k1 : Class := { plain "com/example/counterweight/counterweight/DecimalsPutWholePinLaw" (some 0) with
  accessFlags := 49
  interfaces := #[]
  cf := some (fileOf pool1 18 #[] #[{ accessFlags := 2, nameIndex := 5, descriptorIndex := 6, attributes := #[] }, { accessFlags := 9, nameIndex := 69, descriptorIndex := 70, attributes := #[] }, { accessFlags := 10, nameIndex := 25, descriptorIndex := 26, attributes := #[] }, { accessFlags := 10, nameIndex := 21, descriptorIndex := 22, attributes := #[] }, { accessFlags := 10, nameIndex := 29, descriptorIndex := 30, attributes := #[] }] 49 2 #[] #[])
  fields := #[]
  methods := #[k1m0, k1m1, k1m2, k1m3, k1m4]
  instanceTypes := #[]
  staticTypes := #[]
  resolved := Array.replicate 76 none
  statics := none }

def pool2 : Array CpInfo := pool [(1, .class_ 2), (0, u "com/example/counterweight/counterweight/Decimals"), (1, .class_ 6), (1, u "java/lang/Object"), (0, u "<init>"), (0, u "()V"), (2, u "DECIMAL"), (0, u "Ljava/util/regex/Pattern;"), (30, u "WHOLE"), (137, u "putWhole"), (0, u "([BIJ)I"), (0, .long 48), (1, .long 10), (20, u "POWERS_OF_TEN"), (0, u "[J"), (40, u "MAX_DECIMALS"), (0, u "I"), (2, u "MAX_FIXED_LENGTH")] 40

def k2m0 : Method := { name := "<init>", desc := "()V", sig := { parameters := [], returnType := none }, accessFlags := 2, code := none }
def k2c1 : Code := { maxStack := 8, maxLocals := 8, code := prog_47_method_11_code, exceptionTable := #[], attributes := #[] }
def k2m1 : Method := { name := "putWhole", desc := "([BIJ)I", sig := { parameters := [(.array .byte), .int, .long], returnType := some .int }, accessFlags := 8, code := some k2c1 }
/-- com/example/counterweight/counterweight/Decimals -/
def k2 : Class := { plain "com/example/counterweight/counterweight/Decimals" (some 0) with
  accessFlags := 48
  interfaces := #[]
  cf := some (fileOf pool2 1 #[] #[{ accessFlags := 2, nameIndex := 7, descriptorIndex := 8, attributes := #[] }, { accessFlags := 8, nameIndex := 181, descriptorIndex := 182, attributes := #[] }] 48 4 #[] #[{ accessFlags := 26, nameIndex := 11, descriptorIndex := 12, attributes := #[] }, { accessFlags := 26, nameIndex := 43, descriptorIndex := 12, attributes := #[] }, { accessFlags := 24, nameIndex := 248, descriptorIndex := 249, attributes := #[] }, { accessFlags := 26, nameIndex := 206, descriptorIndex := 207, attributes := #[] }, { accessFlags := 24, nameIndex := 252, descriptorIndex := 249, attributes := #[] }])
  fields := #[{ name := "DECIMAL", type := (.object "java/util/regex/Pattern"), accessFlags := 26, slot := 0, constantValue := 0 }, { name := "WHOLE", type := (.object "java/util/regex/Pattern"), accessFlags := 26, slot := 1, constantValue := 0 }, { name := "MAX_DECIMALS", type := .int, accessFlags := 24, slot := 2, constantValue := 0 }, { name := "POWERS_OF_TEN", type := (.array .long), accessFlags := 26, slot := 3, constantValue := 0 }, { name := "MAX_FIXED_LENGTH", type := .int, accessFlags := 24, slot := 4, constantValue := 0 }]
  methods := #[k2m0, k2m1]
  instanceTypes := #[]
  staticTypes := #[(.object "java/util/regex/Pattern"), (.object "java/util/regex/Pattern"), .int, (.array .long), .int]
  resolved := Array.replicate 293 none
  statics := none }

def pool3 : Array CpInfo := pool [(1, u "java/lang/Cloneable"), (0, .class_ 1), (0, u "java/lang/Object"), (0, .class_ 3)] 3

/-- java/lang/Cloneable -/
def k3 : Class := { plain "java/lang/Cloneable" (some 0) with
  accessFlags := 1537
  interfaces := #[]
  cf := some (fileOf pool3 2 #[] #[] 1537 4 #[] #[])
  fields := #[]
  methods := #[]
  instanceTypes := #[]
  staticTypes := #[]
  resolved := Array.replicate 8 none
  statics := none }

def pool4 : Array CpInfo := pool [(1, u "java/io/Serializable"), (0, .class_ 1), (0, u "java/lang/Object"), (0, .class_ 3)] 3

/-- java/io/Serializable -/
def k4 : Class := { plain "java/io/Serializable" (some 0) with
  accessFlags := 1537
  interfaces := #[]
  cf := some (fileOf pool4 2 #[] #[] 1537 4 #[] #[])
  fields := #[]
  methods := #[]
  instanceTypes := #[]
  staticTypes := #[]
  resolved := Array.replicate 8 none
  statics := none }

/-- the primitive byte -/
def k5 : Class := { plain "byte" none with kind := .primitive 'B', accessFlags := 0x411 }
/-- [B -/
def k6 : Class := { plain "[B" (some 0) with kind := .array 5 .byte, interfaces := #[3, 4], accessFlags := 1041 }

/-- the primitive int -/
def k7 : Class := { plain "int" none with kind := .primitive 'I', accessFlags := 0x411 }
/-- [I -/
def k8 : Class := { plain "[I" (some 0) with kind := .array 7 .int, interfaces := #[3, 4], accessFlags := 1041 }

def heap : Heap := #[]
def classes : Array Class := #[k0, k1, k2, k3, k4, k5, k6, k7, k8]
def interned : List (Array UInt16 × Addr) := []
def slotsUsed : Nat := 0
def theMethod : MethodId := ⟨1, 1⟩
def args0 : Array Value := #[.int 5, .long 12345, .int 3]
def aboutOver (below : List Frame) : State where
  vm := { classes := classes, interned := interned.toArray }
  heap := heap
  slotsUsed := slotsUsed
  threads := #[{ frames := .invoking theMethod args0 :: below }]
def below0 : List Frame := [.native { method := ⟨0, 0⟩, args := #[] }]
def about1 : State := aboutOver below0
def p0 : Program := .bare "" "" ""
def e0 : Env := launch0.env 0 0 0
theorem w_frames : about1.frames = Frame.invoking theMethod args0 :: below0 := rfl
set_option maxRecDepth 65536 in
theorem w_args : argsFit about1.vm theMethod args0 = true := by decide +kernel
set_option maxRecDepth 65536 in
theorem w_heap : heapFits about1 = true := by decide +kernel
set_option maxRecDepth 65536 in
theorem w_runnable : about1.curStatus? = some .runnable := by decide +kernel
set_option maxRecDepth 65536 in
theorem w_alone : about1.alone = true := by decide +kernel
set_option maxRecDepth 65536 in
theorem w_named : about1.methodNamed? x = some theMethod := by decide +kernel
set_option maxRecDepth 65536 in
theorem w_hears : about1.hears theMethod below0 = true := by decide +kernel
set_option maxRecDepth 65536 in
theorem w_ripe : about1.ripe theMethod args0 below0 = true := by decide +kernel
theorem w_running : about1.status = .running := rfl
set_option maxRecDepth 65536 in
theorem w_room : about1.hasRoom e0.platform room_1 = true :=
  launch0.hasRoom_least _ room_1 (by decide +kernel) (by decide +kernel) (by decide +kernel) (by decide +kernel) (by decide +kernel) (by decide +kernel)
theorem allAtoms_all (ts : List Jvm.Cond) (a : Array Jvm.Value) (st : Jvm.State) : (allAtoms ts).before a st = ts.all (fun c => c.before a st) := by
  induction ts with
  | nil => rfl
  | cons c t ih =>
    show (Jvm.Cond.and c (allAtoms t)).before a st = _
    rw [Jvm.Cond.before_and, ih, List.all_cons]
def words1 : List Jvm.Cond := Jvm.Cond.code x code maxLocals ret :: tables_1
/-- a 'code' word, met by the world's own term for the bytes: nothing is compared byte by byte -/
theorem code_word {y : MethodName} {bytes : ByteArray} {mx : Nat} {rt : Option FieldType} {a : Array Value} {s : State} {m : MethodId} {meth : Method} {c : Code} (h1 : s.methodNamed? y = some m) (h2 : s.vm.method? m = some meth) (h3 : meth.code = some c) (h4 : c.code = bytes)
    (h5 : (c.maxLocals == mx && c.exceptionTable.isEmpty && decide (c.maxStack ≤ mostOperands) && decide (meth.sig.returnType = rt) && !meth.locks && decide (parseMethodDescriptor y.desc = some meth.sig)) = true) : (Jvm.Cond.code y bytes mx rt).before a s = true := by
  simp only [Bool.and_eq_true, beq_iff_eq, Bool.not_eq_true', decide_eq_true_eq] at h5
  obtain ⟨⟨⟨⟨⟨g1, g2⟩, g3⟩, g4⟩, g5⟩, g6⟩ := h5
  simp [Cond.before, Cond.holds, Cond.value, h1, h2, h3, h4, g1, g2, g3, g4, g5, g6]
def isCode : Jvm.Cond → Bool
  | .code _ _ _ _ => true
  | _ => false
theorem all_split {L : List Jvm.Cond} {P : Jvm.Cond → Bool} (h1 : L.all (fun c => isCode c || P c) = true) (h2 : ∀ c ∈ L.filter isCode, P c = true) : L.all P = true := by
  refine List.all_eq_true.mpr fun c hc => ?_
  have h := List.all_eq_true.mp h1 c hc
  rcases Bool.eq_false_or_eq_true (isCode c) with hi | hi
  · exact h2 c (List.mem_filter.mpr ⟨hc, hi⟩)
  · simpa [hi] using h
set_option maxRecDepth 65536 in
theorem w_c0 : (Jvm.Cond.code x code maxLocals ret).before args0 about1 = true := code_word (m := ⟨1, 1⟩) (meth := k1m1) (c := k1c1) (by decide +kernel) rfl rfl rfl (by decide +kernel)
set_option maxRecDepth 65536 in
theorem w_c1 : (Jvm.Cond.code ({ cls := "com/example/counterweight/counterweight/Decimals", name := "putWhole", desc := "([BIJ)I" } : Jvm.MethodName) prog_47_method_11_code (8 : Nat) (Option.some Jvm.ClassFile.FieldType.int)).before args0 about1 = true := code_word (m := ⟨2, 1⟩) (meth := k2m1) (c := k2c1) (by decide +kernel) rfl rfl rfl (by decide +kernel)
set_option maxRecDepth 65536 in
theorem w_c2 : (Jvm.Cond.code ({ cls := "com/example/counterweight/counterweight/DecimalsPutWholePinLaw", name := "len", desc := "(J)I" } : Jvm.MethodName) method_4_code (2 : Nat) (Option.some Jvm.ClassFile.FieldType.int)).before args0 about1 = true := code_word (m := ⟨1, 3⟩) (meth := k1m3) (c := k1c3) (by decide +kernel) rfl rfl rfl (by decide +kernel)
set_option maxRecDepth 65536 in
theorem w_c3 : (Jvm.Cond.code ({ cls := "com/example/counterweight/counterweight/DecimalsPutWholePinLaw", name := "ok", desc := "([BIIIJ)Z" } : Jvm.MethodName) method_3_code (8 : Nat) (Option.some Jvm.ClassFile.FieldType.boolean)).before args0 about1 = true := code_word (m := ⟨1, 2⟩) (meth := k1m2) (c := k1c2) (by decide +kernel) rfl rfl rfl (by decide +kernel)
set_option maxRecDepth 65536 in
theorem w_c4 : (Jvm.Cond.code ({ cls := "com/example/counterweight/counterweight/DecimalsPutWholePinLaw", name := "pow10", desc := "(I)J" } : Jvm.MethodName) method_5_code (1 : Nat) (Option.some Jvm.ClassFile.FieldType.long)).before args0 about1 = true := code_word (m := ⟨1, 4⟩) (meth := k1m4) (c := k1c4) (by decide +kernel) rfl rfl rfl (by decide +kernel)
def codes1 : List Jvm.Cond := [Jvm.Cond.code x code maxLocals ret, Jvm.Cond.code ({ cls := "com/example/counterweight/counterweight/Decimals", name := "putWhole", desc := "([BIJ)I" } : Jvm.MethodName) prog_47_method_11_code (8 : Nat) (Option.some Jvm.ClassFile.FieldType.int), Jvm.Cond.code ({ cls := "com/example/counterweight/counterweight/DecimalsPutWholePinLaw", name := "len", desc := "(J)I" } : Jvm.MethodName) method_4_code (2 : Nat) (Option.some Jvm.ClassFile.FieldType.int), Jvm.Cond.code ({ cls := "com/example/counterweight/counterweight/DecimalsPutWholePinLaw", name := "ok", desc := "([BIIIJ)Z" } : Jvm.MethodName) method_3_code (8 : Nat) (Option.some Jvm.ClassFile.FieldType.boolean), Jvm.Cond.code ({ cls := "com/example/counterweight/counterweight/DecimalsPutWholePinLaw", name := "pow10", desc := "(I)J" } : Jvm.MethodName) method_5_code (1 : Nat) (Option.some Jvm.ClassFile.FieldType.long)]
set_option maxRecDepth 65536 in
theorem codes_eq : words1.filter isCode = codes1 := rfl
theorem w_codes : ∀ c ∈ words1.filter isCode, c.before args0 about1 = true := by
  rw [codes_eq]
  intro c hc
  simp only [codes1, List.mem_cons, List.not_mem_nil, or_false] at hc
  rcases hc with rfl | rfl | rfl | rfl | rfl
  · exact w_c0
  · exact w_c1
  · exact w_c2
  · exact w_c3
  · exact w_c4
set_option maxRecDepth 65536 in
theorem w_t1 : (words1.take 24).all (fun c => isCode c || c.before args0 about1) = true := by decide +kernel
set_option maxRecDepth 65536 in
theorem w_t2 : (words1.drop 24).all (fun c => isCode c || c.before args0 about1) = true := by decide +kernel
theorem w_tables : (allAtoms (Jvm.Cond.code x code maxLocals ret :: tables_1)).before args0 about1 = true := by
  rw [allAtoms_all]
  show words1.all (fun c => c.before args0 about1) = true
  refine all_split ?_ w_codes
  rw [← List.take_append_drop 24 words1, List.all_append, w_t1, w_t2]
  rfl
set_option maxRecDepth 65536 in
theorem w_case : (Jvm.Cond.and given_1 narrow_1).before args0 about1 = true := by decide +kernel
theorem w_applies : (headSpec (Jvm.Cond.code x code maxLocals ret :: tables_1) room_1).applies x e0.platform about1 = true :=
  (Spec.applies_iff w_frames).mpr ⟨w_running, w_runnable, w_alone, w_named, w_hears, w_ripe, w_room, w_tables⟩
theorem atStart : AtStart classFile x code maxLocals ret World_1 tables_1 room_1 Calls_1 rest_1 Pre_1 launch0 p0 e0 about1 theMethod args0 below0 :=
  ⟨lists_1, trivial, launch0.admits_env _ _ _, launch0.least_env, fairChoices_fair.cas, fairChoices_fair.clock, w_frames, w_args, w_heap, w_applies, trivial, trivial, w_case⟩
end start1
theorem witness_1 : WitnessClaimed_1 := ⟨start1.p0, start1.e0, start1.about1, start1.theMethod, start1.args0, start1.below0, start1.atStart⟩
end Jvm.Pilot.@@N@@
