import JvmDerived
import JvmDerived.Pilot.@@N@@Statement
import JvmDerived.Pilot.@@N@@Code
set_option linter.unusedVariables false
set_option linter.unusedSimpArgs false
@@BLOCK:NumsL.lean.txt@@
namespace Jvm.Pilot.@@N@@
open Jvm Jvm.ClassFile Sem Op Lib Jvm.Free Jvm.Stand Jvm.LawKit Jvm.RoadKit Bundle Jvm.Pilot.@@N@@.Jvm.D
section Own
variable {p : Program} {l : Launch} {e : Env} {R : Room} {s : State} {m : MethodId} {args : Array Value} {below : List Frame} {meth : Method} {c : Code} {T : State} {locs : List Loc} {cells slots : Nat} {Z : State} {a0 : Array Value} {h : Heap} {Q : Option Value → Heap → List Loc → Prop} {kc ks : Nat} {P : State → Outcome → Prop}
/-- from s₀ the run comes to an end at which P holds -/
def Go (p : Program) (e : Env) (below : List Frame) (P : State → Outcome → Prop) (s₀ : State) : Prop := ∃ s₂ o, Steps p.tables e below s₀ s₂ ∧ P s₂ o
/-- the method's end: Q holds of what it returns and leaves -/
def EndN (below : List Frame) (s : State) (Q : Option Value → Heap → List Loc → Prop) (kc ks : Nat) (s₂ : State) (o : Outcome) : Prop := s₂.status = .running ∧ Ended s₂ below o ∧ ∃ v L, o = .returned v ∧ Q v s₂.heap L ∧ FrameEnd s o s₂ L kc ks
theorem Go.of {P : State → Outcome → Prop} {s₀ s₁ : State} (G : Go p e below P s₁) (f : ∀ t, Steps p.tables e below s₁ t → Steps p.tables e below s₀ t) : Go p e below P s₀ := by
  obtain ⟨a, b, c1, d⟩ := G; exact ⟨a, b, f _ c1, d⟩
theorem Go.ret (X : Stand p l e R s m args below meth c T locs cells slots) (hx : p.tables.exec = Jvm.exec) (hlk : meth.locks = false) {pc : Nat} {Ls : Array Slot} {w : Value} {t : FieldType} {i : Instr} {rest : List Value} (hret : meth.sig.returnType = some t) (hd : decode c.code pc = .ok (i, 1)) (hn : narrow t w = w)
    (hi : (i = .ireturn ∧ (t = .int ∨ t = .boolean ∨ t = .byte ∨ t = .char ∨ t = .short) ∧ ∃ z, w = .int z) ∨ (i = .lreturn ∧ t = .long ∧ ∃ z, w = .long z) ∨ (i = .dreturn ∧ t = .double ∧ ∃ z, w = .double z) ∨ (i = .freturn ∧ t = .float ∧ ∃ z, w = .float z) ∨ (i = .areturn ∧ t.isReference = true ∧ w.isRef = true))
    (hc : cells ≤ kc) (hs : slots ≤ ks) (hQ : Q (some w) T.heap locs) : Go p e below (EndN below s Q kc ks) (T.setTop (mkF m pc Ls (w :: rest))) := by
  obtain ⟨fs, hr, hrun, hended, hW, hsame⟩ := X.leave (v := some w) (fun h => by rw [hret] at h; cases h) hlk
  exact ⟨_, _, retOut X hx hret hn hi hd hr, hrun, hended, _, _, rfl, hQ, ⟨_, rfl⟩, hW, hsame.mono hc hs⟩
theorem Go.retV (X : Stand p l e R s m args below meth c T locs cells slots) (hx : p.tables.exec = Jvm.exec) (hlk : meth.locks = false) {pc : Nat} {Ls : Array Slot} (hret : meth.sig.returnType = none) (hd : decode c.code pc = .ok (.return_, 1))
    (hc : cells ≤ kc) (hs : slots ≤ ks) (hQ : Q none T.heap locs) : Go p e below (EndN below s Q kc ks) (T.setTop (mkF m pc Ls [])) := by
  obtain ⟨fs, hr, hrun, hended, hW, hsame⟩ := X.leave (v := none) (fun _ => rfl) hlk
  exact ⟨_, _, X.returnOut hx hret hd hr, hrun, hended, _, _, rfl, hQ, ⟨_, rfl⟩, hW, hsame.mono hc hs⟩
theorem Go.retI (X : Stand p l e R s m args below meth c T locs cells slots) (hx : p.tables.exec = Jvm.exec) (hlk : meth.locks = false) {pc : Nat} {Ls : Array Slot} {z : Int32} {rest : List Value} (hret : meth.sig.returnType = some .int) (hd : decode c.code pc = .ok (.ireturn, 1))
    (hc : cells ≤ kc) (hs : slots ≤ ks) (hQ : Q (some (.int z)) T.heap locs) : Go p e below (EndN below s Q kc ks) (T.setTop (mkF m pc Ls (.int z :: rest))) :=
  Go.ret X hx hlk hret hd rfl (Or.inl ⟨rfl, Or.inl rfl, z, rfl⟩) hc hs hQ
theorem Go.retL (X : Stand p l e R s m args below meth c T locs cells slots) (hx : p.tables.exec = Jvm.exec) (hlk : meth.locks = false) {pc : Nat} {Ls : Array Slot} {z : Int64} {rest : List Value} (hret : meth.sig.returnType = some .long) (hd : decode c.code pc = .ok (.lreturn, 1))
    (hc : cells ≤ kc) (hs : slots ≤ ks) (hQ : Q (some (.long z)) T.heap locs) : Go p e below (EndN below s Q kc ks) (T.setTop (mkF m pc Ls (.long z :: rest))) :=
  Go.ret X hx hlk hret hd rfl (Or.inr (Or.inl ⟨rfl, rfl, z, rfl⟩)) hc hs hQ
theorem Go.retA (X : Stand p l e R s m args below meth c T locs cells slots) (hx : p.tables.exec = Jvm.exec) (hlk : meth.locks = false) {pc : Nat} {Ls : Array Slot} {w : Value} {t : FieldType} {rest : List Value} (hret : meth.sig.returnType = some t) (ht : t.isReference = true) (hw : w.isRef = true) (hd : decode c.code pc = .ok (.areturn, 1))
    (hc : cells ≤ kc) (hs : slots ≤ ks) (hQ : Q (some w) T.heap locs) : Go p e below (EndN below s Q kc ks) (T.setTop (mkF m pc Ls (w :: rest))) :=
  Go.ret X hx hlk hret hd (by cases t <;> first | (cases ht; done) | rfl) (Or.inr (Or.inr (Or.inr (Or.inr ⟨rfl, ht, hw⟩)))) hc hs hQ
theorem Go.retZ (X : Stand p l e R s m args below meth c T locs cells slots) (hx : p.tables.exec = Jvm.exec) (hlk : meth.locks = false) {pc : Nat} {Ls : Array Slot} {z : Int32} {t : FieldType} {rest : List Value} (hret : meth.sig.returnType = some t) (ht : t = .boolean ∨ t = .byte ∨ t = .char ∨ t = .short) (hd : decode c.code pc = .ok (.ireturn, 1))
    (hc : cells ≤ kc) (hs : slots ≤ ks) (hQ : Q (some (.int (nar t z))) T.heap locs) : Go p e below (EndN below s Q kc ks) (T.setTop (mkF m pc Ls (.int z :: rest))) := by
  obtain ⟨fs, hr, hrun, hended, hW, hsame⟩ := X.leave (v := some (.int (nar t z))) (fun h => by rw [hret] at h; cases h) hlk
  exact ⟨_, _, retN X hx hret ht hd hr, hrun, hended, _, _, rfl, hQ, ⟨_, rfl⟩, hW, hsame.mono hc hs⟩

theorem g_iconst (X : Stand p l e R s m args below meth c T locs cells slots) (hx : p.tables.exec = Jvm.exec) {pc : Nat} (pc' : Nat) {Ls : Array Slot} {st : List Value} {i : Int} (v : Int32) (hd : decode c.code pc = .ok (.iconst i, 1)) (hv : Int32.ofInt i = v) (hp : pc + 1 = pc') (G : Go p e below P (T.setTop (mkF m pc' Ls (.int v :: st)))) : Go p e below P (T.setTop (mkF m pc Ls (st))) := by
  subst hp; exact Go.of G fun _ q => XT.iconstV X.here hx rfl v hd hv q
theorem g_bipush (X : Stand p l e R s m args below meth c T locs cells slots) (hx : p.tables.exec = Jvm.exec) {pc : Nat} (pc' : Nat) {Ls : Array Slot} {st : List Value} {i : Int} (v : Int32) (hd : decode c.code pc = .ok (.bipush i, 2)) (hv : (Int8.ofInt i).toInt32 = v) (hp : pc + 2 = pc') (G : Go p e below P (T.setTop (mkF m pc' Ls (.int v :: st)))) : Go p e below P (T.setTop (mkF m pc Ls (st))) := by
  subst hp; exact Go.of G fun _ q => XT.bipushV X.here hx rfl v hd hv q
theorem g_sipush (X : Stand p l e R s m args below meth c T locs cells slots) (hx : p.tables.exec = Jvm.exec) {pc : Nat} (pc' : Nat) {Ls : Array Slot} {st : List Value} {i : Int} (v : Int32) (hd : decode c.code pc = .ok (.sipush i, 3)) (hv : (Int16.ofInt i).toInt32 = v) (hp : pc + 3 = pc') (G : Go p e below P (T.setTop (mkF m pc' Ls (.int v :: st)))) : Go p e below P (T.setTop (mkF m pc Ls (st))) := by
  subst hp; exact Go.of G fun _ q => XT.sipushV X.here hx rfl v hd hv q
theorem g_lconst (X : Stand p l e R s m args below meth c T locs cells slots) (hx : p.tables.exec = Jvm.exec) {pc : Nat} (pc' : Nat) {Ls : Array Slot} {st : List Value} {i : Fin 2} (v : Int64) (hd : decode c.code pc = .ok (.lconst i, 1)) (hv : Int64.ofNat i = v) (hp : pc + 1 = pc') (G : Go p e below P (T.setTop (mkF m pc' Ls (.long v :: st)))) : Go p e below P (T.setTop (mkF m pc Ls (st))) := by
  subst hp; exact Go.of G fun _ q => XT.lconstV X.here hx rfl v hd hv q
theorem g_aconst_null (X : Stand p l e R s m args below meth c T locs cells slots) (hx : p.tables.exec = Jvm.exec) {pc : Nat} (pc' : Nat) {Ls : Array Slot} {st : List Value}  (hd : decode c.code pc = .ok (.aconst_null, 1))  (hp : pc + 1 = pc') (G : Go p e below P (T.setTop (mkF m pc' Ls (.null :: st)))) : Go p e below P (T.setTop (mkF m pc Ls (st))) := by
  subst hp; exact Go.of G fun _ q => XS.aconstNull X.here hx rfl hd q
theorem g_iload_n (X : Stand p l e R s m args below meth c T locs cells slots) (hx : p.tables.exec = Jvm.exec) {pc : Nat} (pc' : Nat) {Ls : Array Slot} {st : List Value} {i : Fin 4} (v : Int32) (hd : decode c.code pc = .ok (.iload_n i, 1)) (hv : Ls[i.val]? = some (.val (.int v))) (hp : pc + 1 = pc') (G : Go p e below P (T.setTop (mkF m pc' Ls (.int v :: st)))) : Go p e below P (T.setTop (mkF m pc Ls (st))) := by
  subst hp; exact Go.of G fun _ q => XS.iloadN X.here hx rfl hd hv q
theorem g_iload (X : Stand p l e R s m args below meth c T locs cells slots) (hx : p.tables.exec = Jvm.exec) {pc : Nat} (pc' : Nat) {Ls : Array Slot} {st : List Value} {i : Nat} (v : Int32) (hd : decode c.code pc = .ok (.iload i, 2)) (hv : Ls[i]? = some (.val (.int v))) (hp : pc + 2 = pc') (G : Go p e below P (T.setTop (mkF m pc' Ls (.int v :: st)))) : Go p e below P (T.setTop (mkF m pc Ls (st))) := by
  subst hp; exact Go.of G fun _ q => XS.iload X.here hx rfl hd hv q
theorem g_lload_n (X : Stand p l e R s m args below meth c T locs cells slots) (hx : p.tables.exec = Jvm.exec) {pc : Nat} (pc' : Nat) {Ls : Array Slot} {st : List Value} {i : Fin 4} (v : Int64) (hd : decode c.code pc = .ok (.lload_n i, 1)) (hv : Ls[i.val]? = some (.val (.long v))) (hp : pc + 1 = pc') (G : Go p e below P (T.setTop (mkF m pc' Ls (.long v :: st)))) : Go p e below P (T.setTop (mkF m pc Ls (st))) := by
  subst hp; exact Go.of G fun _ q => XT.lloadN X.here hx rfl hd hv q
theorem g_lload (X : Stand p l e R s m args below meth c T locs cells slots) (hx : p.tables.exec = Jvm.exec) {pc : Nat} (pc' : Nat) {Ls : Array Slot} {st : List Value} {i : Nat} (v : Int64) (hd : decode c.code pc = .ok (.lload i, 2)) (hv : Ls[i]? = some (.val (.long v))) (hp : pc + 2 = pc') (G : Go p e below P (T.setTop (mkF m pc' Ls (.long v :: st)))) : Go p e below P (T.setTop (mkF m pc Ls (st))) := by
  subst hp; exact Go.of G fun _ q => XT.lload X.here hx rfl hd hv q
theorem g_aload_n (X : Stand p l e R s m args below meth c T locs cells slots) (hx : p.tables.exec = Jvm.exec) {pc : Nat} (pc' : Nat) {Ls : Array Slot} {st : List Value} {i : Fin 4} (v : Value) (hd : decode c.code pc = .ok (.aload_n i, 1)) (hv : Ls[i.val]? = some (.val v)) (hr : v.isRef = true) (hp : pc + 1 = pc') (G : Go p e below P (T.setTop (mkF m pc' Ls (v :: st)))) : Go p e below P (T.setTop (mkF m pc Ls (st))) := by
  subst hp; exact Go.of G fun _ q => XS.aloadN X.here hx rfl hd hv hr q
theorem g_aload (X : Stand p l e R s m args below meth c T locs cells slots) (hx : p.tables.exec = Jvm.exec) {pc : Nat} (pc' : Nat) {Ls : Array Slot} {st : List Value} {i : Nat} (v : Value) (hd : decode c.code pc = .ok (.aload i, 2)) (hv : Ls[i]? = some (.val v)) (hr : v.isRef = true) (hp : pc + 2 = pc') (G : Go p e below P (T.setTop (mkF m pc' Ls (v :: st)))) : Go p e below P (T.setTop (mkF m pc Ls (st))) := by
  subst hp; exact Go.of G fun _ q => XS.aload X.here hx rfl hd hv hr q
theorem g_istore_n (X : Stand p l e R s m args below meth c T locs cells slots) (hx : p.tables.exec = Jvm.exec) {pc : Nat} (pc' : Nat) {Ls : Array Slot} {st : List Value} {i : Fin 4} {v : Int32} (Ls' : Array Slot) (hd : decode c.code pc = .ok (.istore_n i, 1)) (hv : storeLocals Ls i.val (.int v) = some Ls') (hp : pc + 1 = pc') (G : Go p e below P (T.setTop (mkF m pc' Ls' (st)))) : Go p e below P (T.setTop (mkF m pc Ls (.int v :: st))) := by
  subst hp; exact Go.of G fun _ q => XS.istoreN X.here hx rfl hd rfl hv q
theorem g_istore (X : Stand p l e R s m args below meth c T locs cells slots) (hx : p.tables.exec = Jvm.exec) {pc : Nat} (pc' : Nat) {Ls : Array Slot} {st : List Value} {i : Nat} {v : Int32} (Ls' : Array Slot) (hd : decode c.code pc = .ok (.istore i, 2)) (hv : storeLocals Ls i (.int v) = some Ls') (hp : pc + 2 = pc') (G : Go p e below P (T.setTop (mkF m pc' Ls' (st)))) : Go p e below P (T.setTop (mkF m pc Ls (.int v :: st))) := by
  subst hp; exact Go.of G fun _ q => XS.istore X.here hx rfl hd rfl hv q
theorem g_lstore_n (X : Stand p l e R s m args below meth c T locs cells slots) (hx : p.tables.exec = Jvm.exec) {pc : Nat} (pc' : Nat) {Ls : Array Slot} {st : List Value} {i : Fin 4} {v : Int64} (Ls' : Array Slot) (hd : decode c.code pc = .ok (.lstore_n i, 1)) (hv : storeLocals Ls i.val (.long v) = some Ls') (hp : pc + 1 = pc') (G : Go p e below P (T.setTop (mkF m pc' Ls' (st)))) : Go p e below P (T.setTop (mkF m pc Ls (.long v :: st))) := by
  subst hp; exact Go.of G fun _ q => XT.lstoreN X.here hx rfl hd rfl hv q
theorem g_lstore (X : Stand p l e R s m args below meth c T locs cells slots) (hx : p.tables.exec = Jvm.exec) {pc : Nat} (pc' : Nat) {Ls : Array Slot} {st : List Value} {i : Nat} {v : Int64} (Ls' : Array Slot) (hd : decode c.code pc = .ok (.lstore i, 2)) (hv : storeLocals Ls i (.long v) = some Ls') (hp : pc + 2 = pc') (G : Go p e below P (T.setTop (mkF m pc' Ls' (st)))) : Go p e below P (T.setTop (mkF m pc Ls (.long v :: st))) := by
  subst hp; exact Go.of G fun _ q => XT.lstore X.here hx rfl hd rfl hv q
theorem g_astore_n (X : Stand p l e R s m args below meth c T locs cells slots) (hx : p.tables.exec = Jvm.exec) {pc : Nat} (pc' : Nat) {Ls : Array Slot} {st : List Value} {i : Fin 4} {v : Value} (Ls' : Array Slot) (hd : decode c.code pc = .ok (.astore_n i, 1)) (hr : v.isRef = true) (hv : storeLocals Ls i.val v = some Ls') (hp : pc + 1 = pc') (G : Go p e below P (T.setTop (mkF m pc' Ls' (st)))) : Go p e below P (T.setTop (mkF m pc Ls (v :: st))) := by
  subst hp; exact Go.of G fun _ q => XS.astoreN X.here hx rfl hd rfl hr hv q
theorem g_astore (X : Stand p l e R s m args below meth c T locs cells slots) (hx : p.tables.exec = Jvm.exec) {pc : Nat} (pc' : Nat) {Ls : Array Slot} {st : List Value} {i : Nat} {v : Value} (Ls' : Array Slot) (hd : decode c.code pc = .ok (.astore i, 2)) (hr : v.isRef = true) (hv : storeLocals Ls i v = some Ls') (hp : pc + 2 = pc') (G : Go p e below P (T.setTop (mkF m pc' Ls' (st)))) : Go p e below P (T.setTop (mkF m pc Ls (v :: st))) := by
  subst hp; exact Go.of G fun _ q => XS.astore X.here hx rfl hd rfl hr hv q
theorem g_iinc (X : Stand p l e R s m args below meth c T locs cells slots) (hx : p.tables.exec = Jvm.exec) {pc : Nat} (pc' : Nat) {Ls : Array Slot} {st : List Value} {i : Nat} {k : Int} {x : Int32} (v : Int32) (Ls' : Array Slot) (hd : decode c.code pc = .ok (.iinc i k, 3)) (hk : Int32.ofInt k = v) (hv : Ls[i]? = some (.val (.int x))) (hl : storeLocals Ls i (.int (x + v)) = some Ls') (hp : pc + 3 = pc') (G : Go p e below P (T.setTop (mkF m pc' Ls' (st)))) : Go p e below P (T.setTop (mkF m pc Ls (st))) := by
  subst hp; exact Go.of G fun _ q => XT.iincV X.here hx rfl v hd hk hv hl q
theorem g_iadd (X : Stand p l e R s m args below meth c T locs cells slots) (hx : p.tables.exec = Jvm.exec) {pc : Nat} (pc' : Nat) {Ls : Array Slot} {st : List Value} {x y : Int32} (hd : decode c.code pc = .ok (.iadd, 1))  (hp : pc + 1 = pc') (G : Go p e below P (T.setTop (mkF m pc' Ls (.int (x + y) :: st)))) : Go p e below P (T.setTop (mkF m pc Ls (.int y :: .int x :: st))) := by
  subst hp; exact Go.of G fun _ q => XS.iadd X.here hx rfl hd rfl q
theorem g_isub (X : Stand p l e R s m args below meth c T locs cells slots) (hx : p.tables.exec = Jvm.exec) {pc : Nat} (pc' : Nat) {Ls : Array Slot} {st : List Value} {x y : Int32} (hd : decode c.code pc = .ok (.isub, 1))  (hp : pc + 1 = pc') (G : Go p e below P (T.setTop (mkF m pc' Ls (.int (x - y) :: st)))) : Go p e below P (T.setTop (mkF m pc Ls (.int y :: .int x :: st))) := by
  subst hp; exact Go.of G fun _ q => XS.isub X.here hx rfl hd rfl q
theorem g_iand (X : Stand p l e R s m args below meth c T locs cells slots) (hx : p.tables.exec = Jvm.exec) {pc : Nat} (pc' : Nat) {Ls : Array Slot} {st : List Value} {x y : Int32} (hd : decode c.code pc = .ok (.iand, 1))  (hp : pc + 1 = pc') (G : Go p e below P (T.setTop (mkF m pc' Ls (.int (x &&& y) :: st)))) : Go p e below P (T.setTop (mkF m pc Ls (.int y :: .int x :: st))) := by
  subst hp; exact Go.of G fun _ q => XS.iand X.here hx rfl hd rfl q
theorem g_imul (X : Stand p l e R s m args below meth c T locs cells slots) (hx : p.tables.exec = Jvm.exec) {pc : Nat} (pc' : Nat) {Ls : Array Slot} {st : List Value} {x y : Int32} (hd : decode c.code pc = .ok (.imul, 1))  (hp : pc + 1 = pc') (G : Go p e below P (T.setTop (mkF m pc' Ls (.int (x * y) :: st)))) : Go p e below P (T.setTop (mkF m pc Ls (.int y :: .int x :: st))) := by
  subst hp; exact Go.of G fun _ q => XS.imul X.here hx rfl hd rfl q
theorem g_ior (X : Stand p l e R s m args below meth c T locs cells slots) (hx : p.tables.exec = Jvm.exec) {pc : Nat} (pc' : Nat) {Ls : Array Slot} {st : List Value} {x y : Int32} (hd : decode c.code pc = .ok (.ior, 1))  (hp : pc + 1 = pc') (G : Go p e below P (T.setTop (mkF m pc' Ls (.int (x ||| y) :: st)))) : Go p e below P (T.setTop (mkF m pc Ls (.int y :: .int x :: st))) := by
  subst hp; exact Go.of G fun _ q => XT.ior X.here hx rfl hd rfl q
theorem g_ixor (X : Stand p l e R s m args below meth c T locs cells slots) (hx : p.tables.exec = Jvm.exec) {pc : Nat} (pc' : Nat) {Ls : Array Slot} {st : List Value} {x y : Int32} (hd : decode c.code pc = .ok (.ixor, 1))  (hp : pc + 1 = pc') (G : Go p e below P (T.setTop (mkF m pc' Ls (.int (x ^^^ y) :: st)))) : Go p e below P (T.setTop (mkF m pc Ls (.int y :: .int x :: st))) := by
  subst hp; exact Go.of G fun _ q => XT.ixor X.here hx rfl hd rfl q
theorem g_ishl (X : Stand p l e R s m args below meth c T locs cells slots) (hx : p.tables.exec = Jvm.exec) {pc : Nat} (pc' : Nat) {Ls : Array Slot} {st : List Value} {x y : Int32} (hd : decode c.code pc = .ok (.ishl, 1))  (hp : pc + 1 = pc') (G : Go p e below P (T.setTop (mkF m pc' Ls (.int (x <<< (y &&& 31)) :: st)))) : Go p e below P (T.setTop (mkF m pc Ls (.int y :: .int x :: st))) := by
  subst hp; exact Go.of G fun _ q => XT.ishl X.here hx rfl hd rfl q
theorem g_ishr (X : Stand p l e R s m args below meth c T locs cells slots) (hx : p.tables.exec = Jvm.exec) {pc : Nat} (pc' : Nat) {Ls : Array Slot} {st : List Value} {x y : Int32} (hd : decode c.code pc = .ok (.ishr, 1))  (hp : pc + 1 = pc') (G : Go p e below P (T.setTop (mkF m pc' Ls (.int (x >>> (y &&& 31)) :: st)))) : Go p e below P (T.setTop (mkF m pc Ls (.int y :: .int x :: st))) := by
  subst hp; exact Go.of G fun _ q => XT.ishr X.here hx rfl hd rfl q
theorem g_iushr (X : Stand p l e R s m args below meth c T locs cells slots) (hx : p.tables.exec = Jvm.exec) {pc : Nat} (pc' : Nat) {Ls : Array Slot} {st : List Value} {x y : Int32} (hd : decode c.code pc = .ok (.iushr, 1))  (hp : pc + 1 = pc') (G : Go p e below P (T.setTop (mkF m pc' Ls (.int (XT.ushr x y) :: st)))) : Go p e below P (T.setTop (mkF m pc Ls (.int y :: .int x :: st))) := by
  subst hp; exact Go.of G fun _ q => XT.iushr X.here hx rfl hd rfl q
theorem g_idiv (X : Stand p l e R s m args below meth c T locs cells slots) (hx : p.tables.exec = Jvm.exec) {pc : Nat} (pc' : Nat) {Ls : Array Slot} {st : List Value} {x y : Int32} (hd : decode c.code pc = .ok (.idiv, 1)) (hy : y ≠ 0) (hp : pc + 1 = pc') (G : Go p e below P (T.setTop (mkF m pc' Ls (.int (x / y) :: st)))) : Go p e below P (T.setTop (mkF m pc Ls (.int y :: .int x :: st))) := by
  subst hp; exact Go.of G fun _ q => XS.idiv X.here hx rfl hd rfl hy q
theorem g_irem (X : Stand p l e R s m args below meth c T locs cells slots) (hx : p.tables.exec = Jvm.exec) {pc : Nat} (pc' : Nat) {Ls : Array Slot} {st : List Value} {x y : Int32} (hd : decode c.code pc = .ok (.irem, 1)) (hy : y ≠ 0) (hp : pc + 1 = pc') (G : Go p e below P (T.setTop (mkF m pc' Ls (.int (x % y) :: st)))) : Go p e below P (T.setTop (mkF m pc Ls (.int y :: .int x :: st))) := by
  subst hp; exact Go.of G fun _ q => iremM X hx rfl hd rfl hy q
theorem g_ineg (X : Stand p l e R s m args below meth c T locs cells slots) (hx : p.tables.exec = Jvm.exec) {pc : Nat} (pc' : Nat) {Ls : Array Slot} {st : List Value} {x : Int32} (hd : decode c.code pc = .ok (.ineg, 1))  (hp : pc + 1 = pc') (G : Go p e below P (T.setTop (mkF m pc' Ls (.int (-x) :: st)))) : Go p e below P (T.setTop (mkF m pc Ls (.int x :: st))) := by
  subst hp; exact Go.of G fun _ q => XS.ineg X.here hx rfl hd rfl q
theorem g_ladd (X : Stand p l e R s m args below meth c T locs cells slots) (hx : p.tables.exec = Jvm.exec) {pc : Nat} (pc' : Nat) {Ls : Array Slot} {st : List Value} {x y : Int64} (hd : decode c.code pc = .ok (.ladd, 1))  (hp : pc + 1 = pc') (G : Go p e below P (T.setTop (mkF m pc' Ls (.long (x + y) :: st)))) : Go p e below P (T.setTop (mkF m pc Ls (.long y :: .long x :: st))) := by
  subst hp; exact Go.of G fun _ q => XT.ladd X.here hx rfl hd rfl q
theorem g_lsub (X : Stand p l e R s m args below meth c T locs cells slots) (hx : p.tables.exec = Jvm.exec) {pc : Nat} (pc' : Nat) {Ls : Array Slot} {st : List Value} {x y : Int64} (hd : decode c.code pc = .ok (.lsub, 1))  (hp : pc + 1 = pc') (G : Go p e below P (T.setTop (mkF m pc' Ls (.long (x - y) :: st)))) : Go p e below P (T.setTop (mkF m pc Ls (.long y :: .long x :: st))) := by
  subst hp; exact Go.of G fun _ q => XT.lsub X.here hx rfl hd rfl q
theorem g_lmul (X : Stand p l e R s m args below meth c T locs cells slots) (hx : p.tables.exec = Jvm.exec) {pc : Nat} (pc' : Nat) {Ls : Array Slot} {st : List Value} {x y : Int64} (hd : decode c.code pc = .ok (.lmul, 1))  (hp : pc + 1 = pc') (G : Go p e below P (T.setTop (mkF m pc' Ls (.long (x * y) :: st)))) : Go p e below P (T.setTop (mkF m pc Ls (.long y :: .long x :: st))) := by
  subst hp; exact Go.of G fun _ q => XT.lmul X.here hx rfl hd rfl q
theorem g_land (X : Stand p l e R s m args below meth c T locs cells slots) (hx : p.tables.exec = Jvm.exec) {pc : Nat} (pc' : Nat) {Ls : Array Slot} {st : List Value} {x y : Int64} (hd : decode c.code pc = .ok (.land, 1))  (hp : pc + 1 = pc') (G : Go p e below P (T.setTop (mkF m pc' Ls (.long (x &&& y) :: st)))) : Go p e below P (T.setTop (mkF m pc Ls (.long y :: .long x :: st))) := by
  subst hp; exact Go.of G fun _ q => XT.land X.here hx rfl hd rfl q
theorem g_lor (X : Stand p l e R s m args below meth c T locs cells slots) (hx : p.tables.exec = Jvm.exec) {pc : Nat} (pc' : Nat) {Ls : Array Slot} {st : List Value} {x y : Int64} (hd : decode c.code pc = .ok (.lor, 1))  (hp : pc + 1 = pc') (G : Go p e below P (T.setTop (mkF m pc' Ls (.long (x ||| y) :: st)))) : Go p e below P (T.setTop (mkF m pc Ls (.long y :: .long x :: st))) := by
  subst hp; exact Go.of G fun _ q => XT.lor X.here hx rfl hd rfl q
theorem g_lxor (X : Stand p l e R s m args below meth c T locs cells slots) (hx : p.tables.exec = Jvm.exec) {pc : Nat} (pc' : Nat) {Ls : Array Slot} {st : List Value} {x y : Int64} (hd : decode c.code pc = .ok (.lxor, 1))  (hp : pc + 1 = pc') (G : Go p e below P (T.setTop (mkF m pc' Ls (.long (x ^^^ y) :: st)))) : Go p e below P (T.setTop (mkF m pc Ls (.long y :: .long x :: st))) := by
  subst hp; exact Go.of G fun _ q => XT.lxor X.here hx rfl hd rfl q
theorem g_ldiv (X : Stand p l e R s m args below meth c T locs cells slots) (hx : p.tables.exec = Jvm.exec) {pc : Nat} (pc' : Nat) {Ls : Array Slot} {st : List Value} {x y : Int64} (hd : decode c.code pc = .ok (.ldiv, 1)) (hy : y ≠ 0) (hp : pc + 1 = pc') (G : Go p e below P (T.setTop (mkF m pc' Ls (.long (x / y) :: st)))) : Go p e below P (T.setTop (mkF m pc Ls (.long y :: .long x :: st))) := by
  subst hp; exact Go.of G fun _ q => XT.ldiv X.here hx rfl hd rfl hy q
theorem g_lrem (X : Stand p l e R s m args below meth c T locs cells slots) (hx : p.tables.exec = Jvm.exec) {pc : Nat} (pc' : Nat) {Ls : Array Slot} {st : List Value} {x y : Int64} (hd : decode c.code pc = .ok (.lrem, 1)) (hy : y ≠ 0) (hp : pc + 1 = pc') (G : Go p e below P (T.setTop (mkF m pc' Ls (.long (x % y) :: st)))) : Go p e below P (T.setTop (mkF m pc Ls (.long y :: .long x :: st))) := by
  subst hp; exact Go.of G fun _ q => XT.lrem X.here hx rfl hd rfl hy (by rw [Jvm.RoadKit.lrem_mod]; exact q)
theorem g_lneg (X : Stand p l e R s m args below meth c T locs cells slots) (hx : p.tables.exec = Jvm.exec) {pc : Nat} (pc' : Nat) {Ls : Array Slot} {st : List Value} {x : Int64} (hd : decode c.code pc = .ok (.lneg, 1))  (hp : pc + 1 = pc') (G : Go p e below P (T.setTop (mkF m pc' Ls (.long (-x) :: st)))) : Go p e below P (T.setTop (mkF m pc Ls (.long x :: st))) := by
  subst hp; exact Go.of G fun _ q => XT.lneg X.here hx rfl hd rfl q
theorem g_lshl (X : Stand p l e R s m args below meth c T locs cells slots) (hx : p.tables.exec = Jvm.exec) {pc : Nat} (pc' : Nat) {Ls : Array Slot} {st : List Value} {x : Int64} {y : Int32} (hd : decode c.code pc = .ok (.lshl, 1))  (hp : pc + 1 = pc') (G : Go p e below P (T.setTop (mkF m pc' Ls (.long (x <<< (y.toInt64 &&& 63)) :: st)))) : Go p e below P (T.setTop (mkF m pc Ls (.int y :: .long x :: st))) := by
  subst hp; exact Go.of G fun _ q => XT.lshl X.here hx rfl hd rfl q
theorem g_lshr (X : Stand p l e R s m args below meth c T locs cells slots) (hx : p.tables.exec = Jvm.exec) {pc : Nat} (pc' : Nat) {Ls : Array Slot} {st : List Value} {x : Int64} {y : Int32} (hd : decode c.code pc = .ok (.lshr, 1))  (hp : pc + 1 = pc') (G : Go p e below P (T.setTop (mkF m pc' Ls (.long (x >>> (y.toInt64 &&& 63)) :: st)))) : Go p e below P (T.setTop (mkF m pc Ls (.int y :: .long x :: st))) := by
  subst hp; exact Go.of G fun _ q => XT.lshr X.here hx rfl hd rfl q
theorem g_lushr (X : Stand p l e R s m args below meth c T locs cells slots) (hx : p.tables.exec = Jvm.exec) {pc : Nat} (pc' : Nat) {Ls : Array Slot} {st : List Value} {x : Int64} {y : Int32} (hd : decode c.code pc = .ok (.lushr, 1))  (hp : pc + 1 = pc') (G : Go p e below P (T.setTop (mkF m pc' Ls (.long (XT.ushrL x y) :: st)))) : Go p e below P (T.setTop (mkF m pc Ls (.int y :: .long x :: st))) := by
  subst hp; exact Go.of G fun _ q => XT.lushr X.here hx rfl hd rfl q
theorem g_lcmp (X : Stand p l e R s m args below meth c T locs cells slots) (hx : p.tables.exec = Jvm.exec) {pc : Nat} (pc' : Nat) {Ls : Array Slot} {st : List Value} {x y : Int64} (hd : decode c.code pc = .ok (.lcmp, 1))  (hp : pc + 1 = pc') (G : Go p e below P (T.setTop (mkF m pc' Ls (.int (XT.cmpL x y) :: st)))) : Go p e below P (T.setTop (mkF m pc Ls (.long y :: .long x :: st))) := by
  subst hp; exact Go.of G fun _ q => XT.lcmp X.here hx rfl hd rfl q
theorem g_i2l (X : Stand p l e R s m args below meth c T locs cells slots) (hx : p.tables.exec = Jvm.exec) {pc : Nat} (pc' : Nat) {Ls : Array Slot} {st : List Value} {x : Int32} (hd : decode c.code pc = .ok (.i2l, 1))  (hp : pc + 1 = pc') (G : Go p e below P (T.setTop (mkF m pc' Ls (.long (x.toInt64) :: st)))) : Go p e below P (T.setTop (mkF m pc Ls (.int x :: st))) := by
  subst hp; exact Go.of G fun _ q => XT.i2l X.here hx rfl hd rfl q
theorem g_l2i (X : Stand p l e R s m args below meth c T locs cells slots) (hx : p.tables.exec = Jvm.exec) {pc : Nat} (pc' : Nat) {Ls : Array Slot} {st : List Value} {x : Int64} (hd : decode c.code pc = .ok (.l2i, 1))  (hp : pc + 1 = pc') (G : Go p e below P (T.setTop (mkF m pc' Ls (.int (x.toInt32) :: st)))) : Go p e below P (T.setTop (mkF m pc Ls (.long x :: st))) := by
  subst hp; exact Go.of G fun _ q => XT.l2i X.here hx rfl hd rfl q
theorem g_i2b (X : Stand p l e R s m args below meth c T locs cells slots) (hx : p.tables.exec = Jvm.exec) {pc : Nat} (pc' : Nat) {Ls : Array Slot} {st : List Value} {x : Int32} (hd : decode c.code pc = .ok (.i2b, 1))  (hp : pc + 1 = pc') (G : Go p e below P (T.setTop (mkF m pc' Ls (.int (x.toInt8.toInt32) :: st)))) : Go p e below P (T.setTop (mkF m pc Ls (.int x :: st))) := by
  subst hp; exact Go.of G fun _ q => XT.i2b X.here hx rfl hd rfl q
theorem g_i2c (X : Stand p l e R s m args below meth c T locs cells slots) (hx : p.tables.exec = Jvm.exec) {pc : Nat} (pc' : Nat) {Ls : Array Slot} {st : List Value} {x : Int32} (hd : decode c.code pc = .ok (.i2c, 1))  (hp : pc + 1 = pc') (G : Go p e below P (T.setTop (mkF m pc' Ls (.int (x.toUInt32.toUInt16.toUInt32.toInt32) :: st)))) : Go p e below P (T.setTop (mkF m pc Ls (.int x :: st))) := by
  subst hp; exact Go.of G fun _ q => XT.i2c X.here hx rfl hd rfl q
theorem g_i2s (X : Stand p l e R s m args below meth c T locs cells slots) (hx : p.tables.exec = Jvm.exec) {pc : Nat} (pc' : Nat) {Ls : Array Slot} {st : List Value} {x : Int32} (hd : decode c.code pc = .ok (.i2s, 1))  (hp : pc + 1 = pc') (G : Go p e below P (T.setTop (mkF m pc' Ls (.int (x.toInt16.toInt32) :: st)))) : Go p e below P (T.setTop (mkF m pc Ls (.int x :: st))) := by
  subst hp; exact Go.of G fun _ q => XT.i2s X.here hx rfl hd rfl q
theorem g_dup (X : Stand p l e R s m args below meth c T locs cells slots) (hx : p.tables.exec = Jvm.exec) {pc : Nat} (pc' : Nat) {Ls : Array Slot} {st : List Value} {x : Value} (hd : decode c.code pc = .ok (.dup, 1)) (hc : x.category = 1) (hp : pc + 1 = pc') (G : Go p e below P (T.setTop (mkF m pc' Ls (x :: x :: st)))) : Go p e below P (T.setTop (mkF m pc Ls (x :: st))) := by
  subst hp; exact Go.of G fun _ q => XS.dup X.here hx rfl hd rfl hc q
theorem g_pop (X : Stand p l e R s m args below meth c T locs cells slots) (hx : p.tables.exec = Jvm.exec) {pc : Nat} (pc' : Nat) {Ls : Array Slot} {st : List Value} {x : Value} (hd : decode c.code pc = .ok (.pop, 1)) (hc : x.category = 1) (hp : pc + 1 = pc') (G : Go p e below P (T.setTop (mkF m pc' Ls (st)))) : Go p e below P (T.setTop (mkF m pc Ls (x :: st))) := by
  subst hp; exact Go.of G fun _ q => XT.pop X.here hx rfl hd rfl hc q
theorem g_dup_x1 (X : Stand p l e R s m args below meth c T locs cells slots) (hx : p.tables.exec = Jvm.exec) {pc : Nat} (pc' : Nat) {Ls : Array Slot} {st : List Value} {x y : Value} (hd : decode c.code pc = .ok (.dup_x1, 1)) (hc : x.category = 1) (hc' : y.category = 1) (hp : pc + 1 = pc') (G : Go p e below P (T.setTop (mkF m pc' Ls (x :: y :: x :: st)))) : Go p e below P (T.setTop (mkF m pc Ls (x :: y :: st))) := by
  subst hp; exact Go.of G fun _ q => XT.dupX1 X.here hx rfl hd rfl hc hc' q
theorem g_dup2 (X : Stand p l e R s m args below meth c T locs cells slots) (hx : p.tables.exec = Jvm.exec) {pc : Nat} (pc' : Nat) {Ls : Array Slot} {st : List Value} {x y : Value} (hd : decode c.code pc = .ok (.dup2, 1)) (hc : x.category = 1) (hc' : y.category = 1) (hp : pc + 1 = pc') (G : Go p e below P (T.setTop (mkF m pc' Ls (x :: y :: x :: y :: st)))) : Go p e below P (T.setTop (mkF m pc Ls (x :: y :: st))) := by
  subst hp; exact Go.of G fun _ q => XT.dup2 X.here hx rfl hd rfl hc hc' q
theorem g_ldc (X : Stand p l e R s m args below meth c T locs cells slots) (hx : p.tables.exec = Jvm.exec) {pc : Nat} (pc' : Nat) {Ls : Array Slot} {st : List Value} {own : String} {i : Nat} {v : Int32} (hd : decode c.code pc = .ok (.ldc i, 2)) (hown : s.vm.findClass own = some m.cls) (hw : (Jvm.Cond.constant own i v).before args s = true) (hp : pc + 2 = pc') (G : Go p e below P (T.setTop (mkF m pc' Ls (.int v :: st)))) : Go p e below P (T.setTop (mkF m pc Ls (st))) := by
  subst hp; exact Go.of G fun _ q => X.ldcI hx hown hw rfl hd q
theorem g_ldc2_w (X : Stand p l e R s m args below meth c T locs cells slots) (hx : p.tables.exec = Jvm.exec) {pc : Nat} (pc' : Nat) {Ls : Array Slot} {st : List Value} {own : String} {i : Nat} {v : Int64} (hd : decode c.code pc = .ok (.ldc2_w i, 3)) (hown : s.vm.findClass own = some m.cls) (hw : (Jvm.Cond.constantLong own i v).before args s = true) (hp : pc + 3 = pc') (G : Go p e below P (T.setTop (mkF m pc' Ls (.long v :: st)))) : Go p e below P (T.setTop (mkF m pc Ls (st))) := by
  subst hp; exact Go.of G fun _ q => X.ldc2J hx hown hw rfl hd q
theorem g_ifN (X : Stand p l e R s m args below meth c T locs cells slots) (hx : p.tables.exec = Jvm.exec) {pc : Nat} (pc' : Nat) {Ls : Array Slot} {st : List Value} {cd : ClassFile.Cond} {o : Int} {x : Int32} (hd : decode c.code pc = .ok (.ifCond cd o, 3)) (hc : ifCond.holds cd x = false) (hp : pc + 3 = pc') (G : Go p e below P (T.setTop (mkF m pc' Ls (st)))) : Go p e below P (T.setTop (mkF m pc Ls (.int x :: st))) := by
  subst hp; exact Go.of G fun _ q => XS.ifNo X.here hx rfl hd rfl hc q
theorem g_icmpN (X : Stand p l e R s m args below meth c T locs cells slots) (hx : p.tables.exec = Jvm.exec) {pc : Nat} (pc' : Nat) {Ls : Array Slot} {st : List Value} {cd : ClassFile.Cond} {o : Int} {x y : Int32} (hd : decode c.code pc = .ok (.if_icmp cd o, 3)) (hc : if_icmp.holds cd x y = false) (hp : pc + 3 = pc') (G : Go p e below P (T.setTop (mkF m pc' Ls (st)))) : Go p e below P (T.setTop (mkF m pc Ls (.int y :: .int x :: st))) := by
  subst hp; exact Go.of G fun _ q => XS.icmpNo X.here hx rfl hd rfl hc q
theorem g_acmpN (X : Stand p l e R s m args below meth c T locs cells slots) (hx : p.tables.exec = Jvm.exec) {pc : Nat} (pc' : Nat) {Ls : Array Slot} {st : List Value} {cd : ClassFile.ACond} {o : Int} {x y : Value} (hd : decode c.code pc = .ok (.if_acmp cd o, 3)) (hx' : x.isRef = true) (hy' : y.isRef = true) (hc : XT.acmp cd x y = false) (hp : pc + 3 = pc') (G : Go p e below P (T.setTop (mkF m pc' Ls (st)))) : Go p e below P (T.setTop (mkF m pc Ls (y :: x :: st))) := by
  subst hp; exact Go.of G fun _ q => XT.acmpNo X.here hx rfl hd rfl hx' hy' hc q
theorem g_ifnullN (X : Stand p l e R s m args below meth c T locs cells slots) (hx : p.tables.exec = Jvm.exec) {pc : Nat} (pc' : Nat) {Ls : Array Slot} {st : List Value} {o : Int} {b : Addr} (hd : decode c.code pc = .ok (.ifnull o, 3))  (hp : pc + 3 = pc') (G : Go p e below P (T.setTop (mkF m pc' Ls (st)))) : Go p e below P (T.setTop (mkF m pc Ls (.ref b :: st))) := by
  subst hp; exact Go.of G fun _ q => XS.ifnullNo X.here hx rfl hd rfl q
theorem g_ifnonnullN (X : Stand p l e R s m args below meth c T locs cells slots) (hx : p.tables.exec = Jvm.exec) {pc : Nat} (pc' : Nat) {Ls : Array Slot} {st : List Value} {o : Int} (hd : decode c.code pc = .ok (.ifnonnull o, 3))  (hp : pc + 3 = pc') (G : Go p e below P (T.setTop (mkF m pc' Ls (st)))) : Go p e below P (T.setTop (mkF m pc Ls (.null :: st))) := by
  subst hp; exact Go.of G fun _ q => XT.ifnonnullNo X.here hx rfl hd rfl q
theorem g_goto (X : Stand p l e R s m args below meth c T locs cells slots) (hx : p.tables.exec = Jvm.exec) {pc : Nat} (pc' : Nat) {o : Int} {Ls : Array Slot} {st : List Value}  (hd : decode c.code pc = .ok (.goto o, 3))  (ho : 0 ≤ (pc : Int) + o) (hp : ((pc : Int) + o).toNat = pc') (G : Go p e below P (T.setTop (mkF m pc' Ls st))) : Go p e below P (T.setTop (mkF m pc Ls (st))) :=
  Go.of G fun _ q => XS.goto X.here hx rfl (pc0 := pc) rfl hd ho hp q
theorem g_ifY (X : Stand p l e R s m args below meth c T locs cells slots) (hx : p.tables.exec = Jvm.exec) {pc : Nat} (pc' : Nat) {o : Int} {Ls : Array Slot} {st : List Value} {cd : ClassFile.Cond} {x : Int32} (hd : decode c.code pc = .ok (.ifCond cd o, 3)) (hc : ifCond.holds cd x = true) (ho : 0 ≤ (pc : Int) + o) (hp : ((pc : Int) + o).toNat = pc') (G : Go p e below P (T.setTop (mkF m pc' Ls st))) : Go p e below P (T.setTop (mkF m pc Ls (.int x :: st))) :=
  Go.of G fun _ q => XS.ifYes X.here hx rfl (pc0 := pc) rfl hd rfl hc ho hp q
theorem g_icmpY (X : Stand p l e R s m args below meth c T locs cells slots) (hx : p.tables.exec = Jvm.exec) {pc : Nat} (pc' : Nat) {o : Int} {Ls : Array Slot} {st : List Value} {cd : ClassFile.Cond} {x y : Int32} (hd : decode c.code pc = .ok (.if_icmp cd o, 3)) (hc : if_icmp.holds cd x y = true) (ho : 0 ≤ (pc : Int) + o) (hp : ((pc : Int) + o).toNat = pc') (G : Go p e below P (T.setTop (mkF m pc' Ls st))) : Go p e below P (T.setTop (mkF m pc Ls (.int y :: .int x :: st))) :=
  Go.of G fun _ q => XS.icmpYes X.here hx rfl (pc0 := pc) rfl hd rfl hc ho hp q
theorem g_acmpY (X : Stand p l e R s m args below meth c T locs cells slots) (hx : p.tables.exec = Jvm.exec) {pc : Nat} (pc' : Nat) {o : Int} {Ls : Array Slot} {st : List Value} {cd : ClassFile.ACond} {x y : Value} (hd : decode c.code pc = .ok (.if_acmp cd o, 3)) (hx' : x.isRef = true) (hy' : y.isRef = true) (hc : XT.acmp cd x y = true) (ho : 0 ≤ (pc : Int) + o) (hp : ((pc : Int) + o).toNat = pc') (G : Go p e below P (T.setTop (mkF m pc' Ls st))) : Go p e below P (T.setTop (mkF m pc Ls (y :: x :: st))) :=
  Go.of G fun _ q => XT.acmpYes X.here hx rfl (pc0 := pc) rfl hd rfl hx' hy' hc ho hp q
theorem g_ifnullY (X : Stand p l e R s m args below meth c T locs cells slots) (hx : p.tables.exec = Jvm.exec) {pc : Nat} (pc' : Nat) {o : Int} {Ls : Array Slot} {st : List Value}  (hd : decode c.code pc = .ok (.ifnull o, 3))  (ho : 0 ≤ (pc : Int) + o) (hp : ((pc : Int) + o).toNat = pc') (G : Go p e below P (T.setTop (mkF m pc' Ls st))) : Go p e below P (T.setTop (mkF m pc Ls (.null :: st))) :=
  Go.of G fun _ q => XS.ifnullYes X.here hx rfl (pc0 := pc) rfl hd rfl ho hp q
theorem g_ifnonnullY (X : Stand p l e R s m args below meth c T locs cells slots) (hx : p.tables.exec = Jvm.exec) {pc : Nat} (pc' : Nat) {o : Int} {Ls : Array Slot} {st : List Value} {b : Addr} (hd : decode c.code pc = .ok (.ifnonnull o, 3))  (ho : 0 ≤ (pc : Int) + o) (hp : ((pc : Int) + o).toNat = pc') (G : Go p e below P (T.setTop (mkF m pc' Ls st))) : Go p e below P (T.setTop (mkF m pc Ls (.ref b :: st))) :=
  Go.of G fun _ q => XT.ifnonnullYes X.here hx rfl (pc0 := pc) rfl hd rfl ho hp q

theorem g_callS (X : Stand p l e R s m args below meth c T locs cells slots) (hx : p.tables.exec = Jvm.exec) (hZ : Z.Warmed39 s.vm) {own : String} {index : Nat} {y : MethodName} {bytes : ByteArray} {maxL : Nat} {ret : Option FieldType} {rm : Room} {as' : List Value} {Q' : Option Value → Heap → List Loc → Prop}
    (hown : s.vm.findClass own = some m.cls) (w1 : (Jvm.Cond.methodLink own index y).before a0 Z = true) (w2 : (Jvm.Cond.static y).before a0 Z = true) (w3 : (Jvm.Cond.initialized y.cls).before a0 Z = true) (w4 : (Jvm.Cond.code y bytes maxL ret).before a0 Z = true)
    (np : y.cls ≠ "java/lang/invoke/MethodHandle" ∧ y.cls ≠ "java/lang/invoke/VarHandle") (eT : T.heap = h)
    (hM : MetFree l y (head1 [Jvm.Cond.code y bytes maxL ret] rm) (fun a U => a = as'.toArray ∧ Z.Warmed39 U.vm ∧ U.heap = h) (fun _ _ _ _ _ => True) (fun _ U o U' => ∃ v L, o = .returned v ∧ Q' v U'.heap L ∧ FrameEnd U o U' L rm.cells rm.slots))
    {ps : List FieldType} {rt : Option FieldType} (pd : parseMethodDescriptor y.desc = some ⟨ps, rt⟩) (hlen : as'.length = ps.length)
    (W : Nat) (hf : rm.frames + 1 ≤ R.frames) (hl : W + (maxL + 11) + rm.locals ≤ R.locals) (hc : cells + rm.cells ≤ R.cells) (hs : slots + rm.slots ≤ R.slots)
    {pc : Nat} {Ls : Array Slot} {rest st : List Value} (hsz : Ls.size = c.maxLocals) (hst : st = as'.reverse ++ rest) (hW : (rest.map fun v => v.category).sum ≤ W) (hd : decode c.code pc = .ok (.invokestatic index, 3)) :
    ∃ v T' L, Stand p l e R s m args below meth c T' (locs ++ L) (cells + rm.cells) (slots + rm.slots) ∧ Q' v T'.heap L ∧ ∀ t, Steps p.tables e below (T'.setTop (mkF m (pc + 3) Ls (v.toList ++ rest))) t → Steps p.tables e below (T.setTop (mkF m pc Ls st)) t := by
  obtain ⟨v, _, ⟨T', L', k', n'⟩, -, X', ⟨L, hQ, l1, y1, z1⟩, st'⟩ := Jvm.LawKit.callS X hx (y := y) hown (mvT hZ w1) (mvT hZ w2) (mvT hZ w3) (mvT hZ w4) np (backOf (W := W) hM hZ w4 w3 hf hl) (g := mkF m pc Ls st) rfl hsz (argsL := as') (rest := rest) (lenOf pd hlen) hst (by show 2 * 0 + _ ≤ _; omega) hd (fun _ _ => ⟨rfl, eT, hc, hs⟩)
  dsimp only [Pt.U, Pt.locs, Pt.cells, Pt.slots] at X' l1 y1 z1 st' hQ
  subst l1 y1 z1
  exact ⟨v, T', L, X', hQ, st'⟩
/-- a callee that only answers -/
def Pur (w : Option Value) (h0 : Heap) (v : Option Value) (h : Heap) (L : List Loc) : Prop := v = w ∧ L = [] ∧ h = h0
theorem g_callSP (X : Stand p l e R s m args below meth c T locs cells slots) (hx : p.tables.exec = Jvm.exec) (hZ : Z.Warmed39 s.vm) {own : String} {index : Nat} {y : MethodName} {bytes : ByteArray} {maxL : Nat} {ret : Option FieldType} {rm : Room} {as' : List Value} {w : Option Value}
    (hown : s.vm.findClass own = some m.cls) (w1 : (Jvm.Cond.methodLink own index y).before a0 Z = true) (w2 : (Jvm.Cond.static y).before a0 Z = true) (w3 : (Jvm.Cond.initialized y.cls).before a0 Z = true) (w4 : (Jvm.Cond.code y bytes maxL ret).before a0 Z = true)
    (np : y.cls ≠ "java/lang/invoke/MethodHandle" ∧ y.cls ≠ "java/lang/invoke/VarHandle") (eT : T.heap = h)
    (hM : MetFree l y (head1 [Jvm.Cond.code y bytes maxL ret] rm) (fun a U => a = as'.toArray ∧ Z.Warmed39 U.vm ∧ U.heap = h) (fun _ _ _ _ _ => True) (fun _ U o U' => ∃ v L, o = .returned v ∧ Pur w h v U'.heap L ∧ FrameEnd U o U' L rm.cells rm.slots))
    {ps : List FieldType} {rt : Option FieldType} (pd : parseMethodDescriptor y.desc = some ⟨ps, rt⟩) (hlen : as'.length = ps.length)
    (W : Nat) (hf : rm.frames + 1 ≤ R.frames) (hl : W + (maxL + 11) + rm.locals ≤ R.locals) (hc : cells + rm.cells ≤ R.cells) (hs : slots + rm.slots ≤ R.slots) (h0 : rm.cells = 0) (h1 : rm.slots = 0)
    {pc pc' : Nat} {Ls : Array Slot} {rest st : List Value} (hsz : Ls.size = c.maxLocals) (hst : st = as'.reverse ++ rest) (hW : (rest.map fun v => v.category).sum ≤ W) (hd : decode c.code pc = .ok (.invokestatic index, 3)) (hp : pc + 3 = pc') :
    ∃ T', Stand p l e R s m args below meth c T' locs cells slots ∧ T'.heap = h ∧ ∀ {P : State → Outcome → Prop}, Go p e below P (T'.setTop (mkF m pc' Ls (w.toList ++ rest))) → Go p e below P (T.setTop (mkF m pc Ls st)) := by
  obtain ⟨v, T', L, X', ⟨rfl, rfl, e1⟩, st'⟩ := g_callS X hx hZ hown w1 w2 w3 w4 np eT hM pd hlen W hf hl hc hs hsz hst hW hd
  subst hp
  rw [h0, h1, List.append_nil] at X'
  exact ⟨T', X', e1, fun G => Go.of G st'⟩


theorem g_getF (X : Stand p l e R s m args below meth c T locs cells slots) (hx : p.tables.exec = Jvm.exec) (hZ : Z.Warmed39 s.vm) {own R0 O n d : String} {index : Nat} (hown : s.vm.findClass own = some m.cls) (w : (Jvm.Cond.fieldLink own index R0 n d).before a0 Z = true) (via : Via Z R0 O n d) (eT : T.heap = h) {a : Addr} {v : Value} (F : Fld Z h a O n d v)
    {pc : Nat} (pc' : Nat) {Ls : Array Slot} {st : List Value} (hd : decode c.code pc = .ok (.getfield index, 3)) (hp : pc + 3 = pc') :
    ∃ T', Stand p l e R s m args below meth c T' locs cells slots ∧ T'.heap = h ∧ ∀ {P : State → Outcome → Prop}, Go p e below P (T'.setTop (mkF m pc' Ls (v :: st))) → Go p e below P (T.setTop (mkF m pc Ls (.ref a :: st))) := by
  subst hp
  obtain ⟨T', X', e', f⟩ := getF X hx hZ hown (host := "") (Or.inl w) via eT F (g := mkF m pc Ls (.ref a :: st)) rfl rfl hd
  exact ⟨T', X', e', fun G => Go.of G f⟩
theorem g_getS (X : Stand p l e R s m args below meth c T locs cells slots) (hx : p.tables.exec = Jvm.exec) (hZ : Z.Warmed39 s.vm) {own O n d : String} {index : Nat} (hown : s.vm.findClass own = some m.cls) (w : (Jvm.Cond.fieldLink own index O n d).before a0 Z = true) (eT : T.heap = h) {v : Value} (F : Sta Z h O n d v)
    {pc : Nat} (pc' : Nat) {Ls : Array Slot} {st : List Value} (hd : decode c.code pc = .ok (.getstatic index, 3)) (hp : pc + 3 = pc') :
    ∃ T', Stand p l e R s m args below meth c T' locs cells slots ∧ T'.heap = h ∧ ∀ {P : State → Outcome → Prop}, Go p e below P (T'.setTop (mkF m pc' Ls (v :: st))) → Go p e below P (T.setTop (mkF m pc Ls st)) := by
  subst hp
  obtain ⟨T', X', e', f⟩ := getS X hx hZ hown (host := "") w Via.refl eT F (g := mkF m pc Ls st) rfl hd
  exact ⟨T', X', e', fun G => Go.of G f⟩
theorem g_putF (X : Stand p l e R s m args below meth c T locs cells slots) (hx : p.tables.exec = Jvm.exec) (hZ : Z.Warmed39 s.vm) {own R0 O n d C : String} {index kk : Nat} {ty : FieldType} (hown : s.vm.findClass own = some m.cls) (w : (Jvm.Cond.fieldLink own index R0 n d).before a0 Z = true) (via : Via Z R0 O n d) (eT : T.heap = h) {a : Addr} {v old : Value} (F : Fld Z h a O n d old) (E : Exa Z h a C)
    (L : (Jvm.Cond.lays C O n d).before a0 Z = true ∨ ((Jvm.Cond.laysFinal C O n d).before a0 Z = true ∧ own = O ∧ meth.name = "<init>")) (wi : (Jvm.Cond.instantiable C kk).before a0 Z = true) (hty : parseFieldDescriptor d = some ty) (hn : narrow ty v = v) (hf : fits ty v = true)
    {pc : Nat} (pc' : Nat) {Ls : Array Slot} {st : List Value} (hd : decode c.code pc = .ok (.putfield index, 3)) (hp : pc + 3 = pc') :
    ∃ T' h', Stand p l e R s m args below meth c T' (locs ++ [⟨a, Jvm.RoadKit.slotOf Z O n d⟩]) cells slots ∧ T'.heap = h' ∧ Wr h h' a (Jvm.RoadKit.slotOf Z O n d) v ∧ ∀ {P : State → Outcome → Prop}, Go p e below P (T'.setTop (mkF m pc' Ls st)) → Go p e below P (T.setTop (mkF m pc Ls (v :: .ref a :: st))) := by
  subst hp
  obtain ⟨T', h', X', e', W, f⟩ := putF X hx hZ hown (host := "") (Or.inl w) via eT F E L wi hty hn hf (g := mkF m pc Ls (v :: .ref a :: st)) rfl rfl hd
  exact ⟨T', h', X', e', W, fun G => Go.of G f⟩
theorem g_newO (X : Stand p l e R s m args below meth c T locs cells slots) (hx : p.tables.exec = Jvm.exec) (hZ : Z.Warmed39 s.vm) {own C : String} {index n : Nat} (hown : s.vm.findClass own = some m.cls) (w : (Jvm.Cond.classLink own index C).before a0 Z = true) (wi : (Jvm.Cond.instantiable C n).before a0 Z = true) (wz : (Jvm.Cond.initialized C).before a0 Z = true) (eT : T.heap = h)
    {pc : Nat} (pc' : Nat) {Ls : Array Slot} {st : List Value} (hd : decode c.code pc = .ok (.new index, 3)) (hp : pc + 3 = pc') (hc : cells + 1 ≤ R.cells) (hl : slots + n ≤ R.slots) :
    ∃ T' h' a, Stand p l e R s m args below meth c T' locs (cells + 1) (slots + n) ∧ T'.heap = h' ∧ a = h.size ∧ Ext h h' ∧ Exa Z h' a C ∧ (∀ {O nm d : String} {ty : FieldType}, Laid Z a0 C O nm d → parseFieldDescriptor d = some ty → Fld Z h' a O nm d (defaultValue ty)) ∧
      ∀ {P : State → Outcome → Prop}, Go p e below P (T'.setTop (mkF m pc' Ls (.ref a :: st))) → Go p e below P (T.setTop (mkF m pc Ls st)) := by
  subst hp
  obtain ⟨T', h', X', e', E, A, D, -, f⟩ := newO X hx hZ hown w wi wz eT (g := mkF m pc Ls st) rfl hd hc hl
  exact ⟨T', h', _, X', e', rfl, E, A, D, fun G => Go.of G f⟩
theorem g_initO (X : Stand p l e R s m args below meth c T locs cells slots) (hx : p.tables.exec = Jvm.exec) (hZ : Z.Warmed39 s.vm) {own : String} {idx : Nat} (hown : s.vm.findClass own = some m.cls) (w1 : (Jvm.Cond.methodLink own idx Lib.objectInit).before a0 Z = true) (w2 : (Jvm.Cond.instanceMethod Lib.objectInit).before a0 Z = true)
    (w3 : (Jvm.Cond.code Lib.objectInit ⟨#[0xb1]⟩ 1 none).before a0 Z = true) (eT : T.heap = h) (W : Nat) (hf : 1 ≤ R.frames) (hl : W + 12 ≤ R.locals) {a : Addr} {pc : Nat} (pc' : Nat) {Ls : Array Slot} {st : List Value} (hsz : Ls.size = c.maxLocals) (hW : (st.map fun v => v.category).sum ≤ W) (hd : decode c.code pc = .ok (.invokespecial idx, 3)) (hp : pc + 3 = pc') :
    ∃ T', Stand p l e R s m args below meth c T' locs cells slots ∧ T'.heap = h ∧ ∀ {P : State → Outcome → Prop}, Go p e below P (T'.setTop (mkF m pc' Ls st)) → Go p e below P (T.setTop (mkF m pc Ls (.ref a :: st))) := by
  subst hp
  obtain ⟨T', X', e', f⟩ := initO X hx hZ hown w1 w2 w3 eT (g := mkF m pc Ls (.ref a :: st)) rfl hsz rfl hd hf (W := W) (by show 2 * 0 + _ ≤ _; omega) hl
  exact ⟨T', X', e', fun G => Go.of G f⟩
theorem g_newP (X : Stand p l e R s m args below meth c T locs cells slots) (hx : p.tables.exec = Jvm.exec) (hZ : Z.Warmed39 s.vm) {aty : ArrayType} (w : (Jvm.Cond.arrayClass (newarray.typeOf aty)).before a0 Z = true) (eT : T.heap = h) {n : Int32} (cap : Nat) (hn : ¬ n < 0) (hcap : n.toNatClampNeg ≤ cap) (hbig : cap * 8 ≤ 536870912) (hc : cells + 1 ≤ R.cells) (hl : slots + cap ≤ R.slots)
    {pc : Nat} (pc' : Nat) {Ls : Array Slot} {st : List Value} (hd : decode c.code pc = .ok (.newarray aty, 2)) (hp : pc + 2 = pc') :
    ∃ T' h' a cA, Stand p l e R s m args below meth c T' locs (cells + 1) (slots + cap) ∧ T'.heap = h' ∧ a = h.size ∧ Ext h h' ∧ Arr Z h' a (newA cA (newarray.typeOf aty) n) (newarray.typeOf aty) ∧
      ∀ {P : State → Outcome → Prop}, Go p e below P (T'.setTop (mkF m pc' Ls (.ref a :: st))) → Go p e below P (T.setTop (mkF m pc Ls (.int n :: st))) := by
  subst hp
  obtain ⟨T', h', cA, X', e', E, A, f⟩ := newP X hx hZ w eT (g := mkF m pc Ls (.int n :: st)) rfl hd rfl hn hcap hbig hc hl
  exact ⟨T', h', _, cA, X', e', rfl, E, A, fun G => Go.of G f⟩
theorem g_callI (X : Stand p l e R s m args below meth c T locs cells slots) (hx : p.tables.exec = Jvm.exec) (hZ : Z.Warmed39 s.vm) {own : String} {index : Nat} {y : MethodName} {bytes : ByteArray} {maxL : Nat} {rm : Room} {a : Addr} {as' : List Value} {Q' : Option Value → Heap → List Loc → Prop} (hy1 : y.name = "<init>")
    (hown : s.vm.findClass own = some m.cls) (w1 : (Jvm.Cond.methodLink own index y).before a0 Z = true) (w2 : (Jvm.Cond.instanceMethod y).before a0 Z = true) (w3 : (Jvm.Cond.initialized y.cls).before a0 Z = true) (w4 : (Jvm.Cond.code y bytes maxL none).before a0 Z = true)
    (np : y.cls ≠ "java/lang/invoke/MethodHandle" ∧ y.cls ≠ "java/lang/invoke/VarHandle") (eT : T.heap = h)
    (hM : MetFree l y (head1 [Jvm.Cond.code y bytes maxL none] rm) (fun b U => b = (.ref a :: as').toArray ∧ Z.Warmed39 U.vm ∧ U.heap = h) (fun _ _ _ _ _ => True) (fun _ U o U' => ∃ v L, o = .returned v ∧ Q' v U'.heap L ∧ FrameEnd U o U' L rm.cells rm.slots))
    {ps : List FieldType} {rt : Option FieldType} (pd : parseMethodDescriptor y.desc = some ⟨ps, rt⟩) (hlen : as'.length = ps.length)
    (W : Nat) (hf : rm.frames + 1 ≤ R.frames) (hl : W + (maxL + 11) + rm.locals ≤ R.locals) (hc : cells + rm.cells ≤ R.cells) (hs : slots + rm.slots ≤ R.slots)
    {pc : Nat} {Ls : Array Slot} {rest st : List Value} (hsz : Ls.size = c.maxLocals) (hst : st = as'.reverse ++ .ref a :: rest) (hW : (rest.map fun v => v.category).sum ≤ W) (hd : decode c.code pc = .ok (.invokespecial index, 3)) :
    ∃ v T' L, Stand p l e R s m args below meth c T' (locs ++ L) (cells + rm.cells) (slots + rm.slots) ∧ Q' v T'.heap L ∧ ∀ {P : State → Outcome → Prop}, Go p e below P (T'.setTop (mkF m (pc + 3) Ls (v.toList ++ rest))) → Go p e below P (T.setTop (mkF m pc Ls st)) := by
  obtain ⟨v, _, ⟨T', L', k', n'⟩, -, X', ⟨L, hQ, l1, y1, z1⟩, st'⟩ := X.specialBack hx (y := y) hy1 hown (mvT hZ w1) (mvT hZ w2) (mvT hZ w4) np (backOf (W := W) hM hZ w4 w3 hf hl) (g := mkF m pc Ls st) rfl hsz (Steps.refl _) (a := a) (argsL := as') (rest := rest) (lenOf pd hlen) hst (by show 2 * 0 + _ ≤ _; omega) hd (fun _ _ => ⟨rfl, eT, hc, hs⟩)
  dsimp only [Pt.U, Pt.locs, Pt.cells, Pt.slots] at X' l1 y1 z1 st' hQ
  subst l1 y1 z1
  exact ⟨v, T', L, X', hQ, fun G => Go.of G fun _ q => st'.trans q⟩
theorem g_callV (X : Stand p l e R s m args below meth c T locs cells slots) (hx : p.tables.exec = Jvm.exec) (hZ : Z.Warmed39 s.vm) {own C : String} {index : Nat} {y z : MethodName} {bytes : ByteArray} {maxL : Nat} {ret : Option FieldType} {rm : Room} {a : Addr} {as' : List Value} {Q' : Option Value → Heap → List Loc → Prop}
    (hown : s.vm.findClass own = some m.cls) (w1 : (Jvm.Cond.methodLink own index y).before a0 Z = true) (w2 : (Jvm.Cond.declares y).before a0 Z = true) (w5 : (Jvm.Cond.selects y.cls y y).before a0 Z = true) (w6 : (Jvm.Cond.selects C y z).before a0 Z = true) (w7 : (Jvm.Cond.instanceMethod z).before a0 Z = true) (w3 : (Jvm.Cond.initialized z.cls).before a0 Z = true) (w4 : (Jvm.Cond.code z bytes maxL ret).before a0 Z = true)
    (np : y.cls ≠ "java/lang/invoke/MethodHandle" ∧ y.cls ≠ "java/lang/invoke/VarHandle") (eT : T.heap = h) (E : Exa Z h a C)
    (hM : MetFree l z (head1 [Jvm.Cond.code z bytes maxL ret] rm) (fun b U => b = (.ref a :: as').toArray ∧ Z.Warmed39 U.vm ∧ U.heap = h) (fun _ _ _ _ _ => True) (fun _ U o U' => ∃ v L, o = .returned v ∧ Q' v U'.heap L ∧ FrameEnd U o U' L rm.cells rm.slots))
    {ps : List FieldType} {rt : Option FieldType} (pd : parseMethodDescriptor y.desc = some ⟨ps, rt⟩) (hlen : as'.length = ps.length)
    (W : Nat) (hf : rm.frames + 1 ≤ R.frames) (hl : W + (maxL + 11) + rm.locals ≤ R.locals) (hc : cells + rm.cells ≤ R.cells) (hs : slots + rm.slots ≤ R.slots)
    {pc : Nat} {Ls : Array Slot} {rest st : List Value} (hsz : Ls.size = c.maxLocals) (hst : st = as'.reverse ++ .ref a :: rest) (hW : (rest.map fun v => v.category).sum ≤ W) (hd : decode c.code pc = .ok (.invokevirtual index, 3)) :
    ∃ v T' L, Stand p l e R s m args below meth c T' (locs ++ L) (cells + rm.cells) (slots + rm.slots) ∧ Q' v T'.heap L ∧ ∀ {P : State → Outcome → Prop}, Go p e below P (T'.setTop (mkF m (pc + 3) Ls (v.toList ++ rest))) → Go p e below P (T.setTop (mkF m pc Ls st)) := by
  obtain ⟨cq, kq, qa, qb, qc⟩ := isOf hZ eT E
  obtain ⟨v, _, ⟨T', L', k', n'⟩, -, X', ⟨L, hQ, l1, y1, z1⟩, st'⟩ := X.virtualBack hx (y := y) (z := z) hown (mvT hZ w1) (mvT hZ w2) (notFace_of_selects (args := #[]) (mvT hZ w5)) (mvT hZ w6) (mvT hZ w7) np (backOf (W := W) hM hZ w4 w3 hf hl) qa qc (g := mkF m pc Ls st) rfl hsz (Steps.refl _) (argsL := as') (rest := rest) (lenOf pd hlen) hst (by show 2 * 0 + _ ≤ _; omega) hd (fun _ _ => ⟨rfl, eT, hc, hs⟩)
  dsimp only [Pt.U, Pt.locs, Pt.cells, Pt.slots] at X' l1 y1 z1 st' hQ
  subst l1 y1 z1
  exact ⟨v, T', L, X', hQ, fun G => Go.of G fun _ q => st'.trans q⟩
theorem g_callVP (X : Stand p l e R s m args below meth c T locs cells slots) (hx : p.tables.exec = Jvm.exec) (hZ : Z.Warmed39 s.vm) {own C : String} {index : Nat} {y z : MethodName} {bytes : ByteArray} {maxL : Nat} {ret : Option FieldType} {rm : Room} {a : Addr} {as' : List Value} {w : Option Value}
    (hown : s.vm.findClass own = some m.cls) (w1 : (Jvm.Cond.methodLink own index y).before a0 Z = true) (w2 : (Jvm.Cond.declares y).before a0 Z = true) (w5 : (Jvm.Cond.selects y.cls y y).before a0 Z = true) (w6 : (Jvm.Cond.selects C y z).before a0 Z = true) (w7 : (Jvm.Cond.instanceMethod z).before a0 Z = true) (w3 : (Jvm.Cond.initialized z.cls).before a0 Z = true) (w4 : (Jvm.Cond.code z bytes maxL ret).before a0 Z = true)
    (np : y.cls ≠ "java/lang/invoke/MethodHandle" ∧ y.cls ≠ "java/lang/invoke/VarHandle") (eT : T.heap = h) (E : Exa Z h a C)
    (hM : MetFree l z (head1 [Jvm.Cond.code z bytes maxL ret] rm) (fun b U => b = (.ref a :: as').toArray ∧ Z.Warmed39 U.vm ∧ U.heap = h) (fun _ _ _ _ _ => True) (fun _ U o U' => ∃ v L, o = .returned v ∧ Pur w h v U'.heap L ∧ FrameEnd U o U' L rm.cells rm.slots))
    {ps : List FieldType} {rt : Option FieldType} (pd : parseMethodDescriptor y.desc = some ⟨ps, rt⟩) (hlen : as'.length = ps.length)
    (W : Nat) (hf : rm.frames + 1 ≤ R.frames) (hl : W + (maxL + 11) + rm.locals ≤ R.locals) (hc : cells + rm.cells ≤ R.cells) (hs : slots + rm.slots ≤ R.slots) (h0 : rm.cells = 0) (h1 : rm.slots = 0)
    {pc pc' : Nat} {Ls : Array Slot} {rest st : List Value} (hsz : Ls.size = c.maxLocals) (hst : st = as'.reverse ++ .ref a :: rest) (hW : (rest.map fun v => v.category).sum ≤ W) (hd : decode c.code pc = .ok (.invokevirtual index, 3)) (hp : pc + 3 = pc') :
    ∃ T', Stand p l e R s m args below meth c T' locs cells slots ∧ T'.heap = h ∧ ∀ {P : State → Outcome → Prop}, Go p e below P (T'.setTop (mkF m pc' Ls (w.toList ++ rest))) → Go p e below P (T.setTop (mkF m pc Ls st)) := by
  obtain ⟨v, T', L, X', ⟨rfl, rfl, e1⟩, st'⟩ := g_callV X hx hZ hown w1 w2 w5 w6 w7 w3 w4 np eT E hM pd hlen W hf hl hc hs hsz hst hW hd
  subst hp
  rw [h0, h1, List.append_nil] at X'
  exact ⟨T', X', e1, st'⟩

end Own
theorem own_lo : ∀ k : Fin 64, ((1 : Int64) <<< ((Int32.ofInt (k.1 : Int)).toInt64 &&& 63)).toInt = (if k.1 = 63 then (-9223372036854775808 : Int) else ((2 ^ k.1 : Nat) : Int)) := by decide +kernel
theorem own_sh : ∀ k : Fin 64, ((Int32.ofInt (k.1 : Int)).toInt64.toUInt64 &&& Int64.toUInt64 63).toNat = k.1 := by decide +kernel
theorem own_pow : ∀ k : Fin 64, (k.1 ≤ 61 → 2 ^ k.1 ≤ 2305843009213693952) ∧ (k.1 = 62 → 2 ^ k.1 = 4611686018427387904) ∧ (k.1 = 63 → 2 ^ k.1 = 9223372036854775808) ∧ 1 ≤ 2 ^ k.1 := by decide +kernel
theorem own_u (x : Int64) : (x.toUInt64.toNat < 9223372036854775808 → x.toInt = x.toUInt64.toNat) ∧ (9223372036854775808 ≤ x.toUInt64.toNat → x.toInt = (x.toUInt64.toNat : Int) - 18446744073709551616) ∧ x.toUInt64.toNat < 18446744073709551616 := by
  have e : x.toInt = x.toBitVec.toInt := rfl
  have e2 : x.toUInt64.toNat = x.toBitVec.toNat := rfl
  have hb := x.toBitVec.isLt
  rw [e, e2, BitVec.toInt_eq_toNat_cond]
  refine ⟨fun h => ?_, fun h => ?_, by omega⟩
  · rw [if_pos (by omega)]
  · rw [if_neg (by omega)]; rfl
theorem own_ushr (x : Int64) (k : Fin 64) : XT.ushrL x (Int32.ofInt (k.1 : Int)) = 1 ↔ x.toUInt64.toNat / 2 ^ k.1 = 1 := by
  have h1 : (x.toUInt64 >>> ((Int32.ofInt (k.1 : Int)).toInt64.toUInt64 &&& Int64.toUInt64 63)).toNat = x.toUInt64.toNat / 2 ^ k.1 := by
    rw [UInt64.toNat_shiftRight, own_sh k, Nat.mod_eq_of_lt k.2, Nat.shiftRight_eq_div_pow]
  rw [← h1]
  unfold XT.ushrL
  constructor
  · intro h
    have h2 := congrArg (fun z : Int64 => z.toUInt64.toNat) h
    exact (show _ = _ from h2)
  · intro h
    have h2 : (x.toUInt64 >>> ((Int32.ofInt (k.1 : Int)).toInt64.toUInt64 &&& Int64.toUInt64 63)) = 1 := UInt64.toNat_inj.mp h
    rw [h2]; rfl
theorem own_div1 (u P : Nat) (hP : 1 ≤ P) : u / P = 1 ↔ P ≤ u ∧ u < 2 * P := by
  rw [Nat.div_eq_iff (by omega)]; omega
theorem own_fin {e : Int32} (h0 : 0 ≤ e.toInt) (h1 : e.toInt ≤ 63) : ∃ k : Fin 64, e = Int32.ofInt (k.1 : Int) := by
  refine ⟨⟨e.toInt.toNat, by omega⟩, ?_⟩
  have : ((e.toInt.toNat : Nat) : Int) = e.toInt := Int.toNat_of_nonneg h0
  show e = Int32.ofInt ((e.toInt.toNat : Nat) : Int)
  rw [this, Int32.ofInt_toInt]
theorem own_e (k : Fin 64) : (Int32.ofInt (k.1 : Int)).toInt = (k.1 : Int) := by revert k; decide +kernel
/-- the three cases -/
theorem own_63 {e : Int32} (x : Int64) (he : e = 63) : XT.ushrL x e = 1 ↔ x < 0 := by
  subst he
  rw [show (63 : Int32) = Int32.ofInt (((⟨63, by decide⟩ : Fin 64).1 : Nat) : Int) from rfl, own_ushr, own_div1 _ _ (by decide), Int64.lt_iff_toInt_lt]
  have := own_u x
  have e0 : (0 : Int64).toInt = 0 := rfl
  rw [e0]
  simp only [show (2 : Nat) ^ 63 = 9223372036854775808 from rfl]
  omega
theorem own_62 {e : Int32} (x : Int64) (he : e = 62) : XT.ushrL x e = 1 ↔ ¬ x < (1 : Int64) <<< (e.toInt64 &&& 63) := by
  subst he
  rw [show (62 : Int32) = Int32.ofInt (((⟨62, by decide⟩ : Fin 64).1 : Nat) : Int) from rfl, own_ushr, own_div1 _ _ (by decide), Int64.lt_iff_toInt_lt, own_lo]
  have := own_u x
  simp only [show (2 : Nat) ^ 62 = 4611686018427387904 from rfl]
  rw [if_neg (by decide)]
  omega
theorem own_61 {e : Int32} (x : Int64) (h0 : 0 ≤ e.toInt) (h1 : e.toInt ≤ 63) (n3 : ¬ e = 63) (n2 : ¬ e = 62) : XT.ushrL x e = 1 ↔ ¬ x < (1 : Int64) <<< (e.toInt64 &&& 63) ∧ x < ((1 : Int64) <<< (e.toInt64 &&& 63)) * 2 := by
  obtain ⟨k, rfl⟩ := own_fin h0 h1
  have k3 : k.1 ≠ 63 := fun q => n3 (by rw [q]; rfl)
  have k2 : k.1 ≠ 62 := fun q => n2 (by rw [q]; rfl)
  have hp := own_pow k
  have hk := k.2
  have l1 := own_lo k
  rw [if_neg k3] at l1
  have e2 : (2 : Int64).toInt = 2 := rfl
  have l2 : (((1 : Int64) <<< ((Int32.ofInt (k.1 : Int)).toInt64 &&& 63)) * 2).toInt = 2 * (2 ^ k.1 : Nat) := by
    rw [Jvm.Kit.i64_mul] <;> rw [l1, e2] <;> omega
  rw [own_ushr, own_div1 _ _ hp.2.2.2, Int64.lt_iff_toInt_lt, Int64.lt_iff_toInt_lt, l1, l2]
  have := own_u x
  omega
theorem own_rows {a rows : Int32} (h : (1 : Int32) + (a &&& (63 : Int32)) = rows) : 1 ≤ rows.toInt ∧ rows.toInt ≤ 64 := by
  have e1 : (a &&& (63 : Int32)).toInt = a.toInt % 2 ^ 6 := Jvm.Kit.i32_mask a _ (k := 6) (by decide) (by decide)
  have e2 : (1 : Int32).toInt = 1 := rfl
  rw [← h, Jvm.Kit.i32_add (by omega) (by omega)]; omega
theorem own_cc {b rows c : Int32} (hr : 1 ≤ rows.toInt) (h : (b &&& (2147483647 : Int32)) % rows = c) : 0 ≤ c.toInt ∧ c.toInt < rows.toInt := by
  have e1 : (b &&& (2147483647 : Int32)).toInt = b.toInt % 2 ^ 31 := Jvm.Kit.i32_mask b _ (k := 31) (by decide) (by decide)
  rw [← h, Int32.toInt_mod, e1, Int.tmod_eq_emod_of_nonneg (by omega)]
  exact ⟨Int.emod_nonneg _ (by omega), Int.emod_lt_of_pos _ (by omega)⟩
theorem own_ee {rows c e : Int32} (hr : 1 ≤ rows.toInt) (hr2 : rows.toInt ≤ 64) (h0 : 0 ≤ c.toInt) (h1 : c.toInt < rows.toInt) (h : (rows - (1 : Int32)) - c = e) : 0 ≤ e.toInt ∧ e.toInt ≤ 63 := by
  have e2 : (1 : Int32).toInt = 1 := rfl
  have q : (rows - (1 : Int32)).toInt = rows.toInt - 1 := by rw [Jvm.Kit.i32_sub (by omega) (by omega)]; omega
  rw [← h, Jvm.Kit.i32_sub (by omega) (by omega)]; omega

def LQ (h0 : Heap) (v : Option Value) (h : Heap) (L : List Loc) : Prop := v = some (.int 1) ∧ Fr h0.size L
def b2i (p : Prop) [Decidable p] : Int32 := if p then 1 else 0
theorem b2i_t {p : Prop} [Decidable p] (h : p) : b2i p = 1 := if_pos h
theorem b2i_f {p : Prop} [Decidable p] (h : ¬ p) : b2i p = 0 := if_neg h
theorem col_0 : decode prog_89_method_3_code 0 = .ok (.lload_n 2, 1) := by decide +kernel
theorem col_1 : decode prog_89_method_3_code 1 = .ok (.iload_n 0, 1) := by decide +kernel
theorem col_2 : decode prog_89_method_3_code 2 = .ok (.iconst 1, 1) := by decide +kernel
theorem col_3 : decode prog_89_method_3_code 3 = .ok (.isub, 1) := by decide +kernel
theorem col_4 : decode prog_89_method_3_code 4 = .ok (.iload_n 1, 1) := by decide +kernel
theorem col_5 : decode prog_89_method_3_code 5 = .ok (.isub, 1) := by decide +kernel
theorem col_6 : decode prog_89_method_3_code 6 = .ok (.lushr, 1) := by decide +kernel
theorem col_7 : decode prog_89_method_3_code 7 = .ok (.lconst 1, 1) := by decide +kernel
theorem col_8 : decode prog_89_method_3_code 8 = .ok (.lcmp, 1) := by decide +kernel
theorem col_9 : decode prog_89_method_3_code 9 = .ok (.ifCond .ne 7, 3) := by decide +kernel
theorem col_12 : decode prog_89_method_3_code 12 = .ok (.iconst 1, 1) := by decide +kernel
theorem col_13 : decode prog_89_method_3_code 13 = .ok (.goto 4, 3) := by decide +kernel
theorem col_16 : decode prog_89_method_3_code 16 = .ok (.iconst 0, 1) := by decide +kernel
theorem col_17 : decode prog_89_method_3_code 17 = .ok (.ireturn, 1) := by decide +kernel
theorem pn_col : plainFor (⟨"com/example/evenfold/evenfold/randomization/LeftMatrixScramble", "isColumn", "(IIJ)Z"⟩ : MethodName) = true := by first | exact plainFor_of_name (by first | (simp [plainName, overriddenIn]; done) | decide +kernel) | decide +kernel
theorem ef_col (m : MethodId) (q1 : Int32) (q2 : Int32) (q3 : Int64) : entryFrame m #[(.int q1), (.int q2), (.long q3)] 4 = mkF m 0 #[.val (.int q1), .val (.int q2), .val (.long q3), .second] [] := by first | (simp [entryFrame, mkF, argsToLocals, Value.category, maxLocals]; done) | rfl
theorem pd_col : parseMethodDescriptor "(IIJ)Z" = some ⟨[.int, .int, .long], some (.boolean)⟩ := by decide +kernel
set_option maxRecDepth 65536 in
set_option maxHeartbeats 40000000 in
theorem rm_col (l : Launch) (Z : State) (a0 : Array Value) (hw : ∀ d ∈ tables_1, d.before a0 Z = true)  (q1 : Int32) (q2 : Int32) (q3 : Int64) (h0 : Heap)  :
    MetFree l (⟨"com/example/evenfold/evenfold/randomization/LeftMatrixScramble", "isColumn", "(IIJ)Z"⟩ : MethodName) (head1 [Jvm.Cond.code (⟨"com/example/evenfold/evenfold/randomization/LeftMatrixScramble", "isColumn", "(IIJ)Z"⟩ : MethodName) prog_89_method_3_code 4 (some Jvm.ClassFile.FieldType.boolean)] ({ frames := 0, cells := 0, slots := 0, locals := 0 } : Room)) (fun a U => a = #[(.int q1), (.int q2), (.long q3)] ∧ Z.Warmed39 U.vm ∧ U.heap = h0) (fun _ _ _ _ _ => True) (fun _ U o U' => ∃ v L, o = .returned v ∧ Pur (some (.int (b2i (XT.ushrL q3 ((q1 - (1 : Int32)) - q2) = (1 : Int64))))) h0 v U'.heap L ∧ FrameEnd U o U' L ({ frames := 0, cells := 0, slots := 0, locals := 0 } : Room).cells ({ frames := 0, cells := 0, slots := 0, locals := 0 } : Room).slots) := by
  refine MetFree.of_bodySF pn_col hisR ?_
  intro p e s m args below meth c s₁ Bd hml0 hP hK
  obtain ⟨rfl, hZ, hh⟩ := hP
  have hx := Bd.exec
  have hby := Bd.bytes
  have hml : c.maxLocals = 4 := hml0
  have hown : s.vm.findClass "com/example/evenfold/evenfold/randomization/LeftMatrixScramble" = some m.cls := findClass_of_methodNamed Bd.named
  have hnm := (name_of_methodNamed Bd.named Bd.method).1
  have hlk : meth.locks = false := BodyLoose.notSynchronized Bd
  have X0 : Stand p l e ({ frames := 0, cells := 0, slots := 0, locals := 0 } : Room) s m #[(.int q1), (.int q2), (.long q3)] below meth c s₁ [] 0 0 := Stand.of_body Bd
  have e0 : s₁.heap = h0 := by rw [← hh, Bd.state]; rfl
  show Go p e below (EndN below s (Pur (some (.int (b2i (XT.ushrL q3 ((q1 - (1 : Int32)) - q2) = (1 : Int64))))) h0) ({ frames := 0, cells := 0, slots := 0, locals := 0 } : Room).cells ({ frames := 0, cells := 0, slots := 0, locals := 0 } : Room).slots) (s₁.setTop (entryFrame m #[(.int q1), (.int q2), (.long q3)] 4))
  rw [ef_col]
  refine g_lload_n X0 hx 1 q3 (hb hby col_0) rfl rfl ?_
  refine g_iload_n X0 hx 2 q1 (hb hby col_1) rfl rfl ?_
  refine g_iconst X0 hx 3 (1 : Int32) (hb hby col_2) rfl rfl ?_
  refine g_isub X0 hx 4 (hb hby col_3) rfl ?_
  refine g_iload_n X0 hx 5 q2 (hb hby col_4) rfl rfl ?_
  refine g_isub X0 hx 6 (hb hby col_5) rfl ?_
  refine g_lushr X0 hx 7 (hb hby col_6) rfl ?_
  refine g_lconst X0 hx 8 (1 : Int64) (hb hby col_7) rfl rfl ?_
  refine g_lcmp X0 hx 9 (hb hby col_8) rfl ?_
  by_cases c9 : (XT.ushrL q3 ((q1 - (1 : Int32)) - q2)) = (1 : Int64)
  ·
    refine g_ifN X0 hx 12 (hb hby col_9) (XT.ll_ne_f c9) rfl ?_
    refine g_iconst X0 hx 13 (1 : Int32) (hb hby col_12) rfl rfl ?_
    refine g_goto X0 hx 17 (hb hby col_13) (by decide) (by decide) ?_
    exact Go.retZ X0 hx hlk Bd.returns (by simp) (hb hby col_17) (by decide) (by decide) ⟨by rw [b2i_t c9]; rfl, rfl, e0⟩
  ·
    refine g_ifY X0 hx 16 (hb hby col_9) (XT.ll_ne_t c9) (by decide) (by decide) ?_
    refine g_iconst X0 hx 17 (0 : Int32) (hb hby col_16) rfl rfl ?_
    exact Go.retZ X0 hx hlk Bd.returns (by simp) (hb hby col_17) (by decide) (by decide) ⟨by rw [b2i_f c9]; rfl, rfl, e0⟩
theorem pn_law : plainFor x = true := by first | exact plainFor_of_name (by first | (simp [plainName, overriddenIn]; done) | decide +kernel) | decide +kernel
theorem ef_law (m : MethodId) (q1 : Int32) (q2 : Int32) (q3 : Int32) (q4 : Int64) : entryFrame m #[(.int q1), (.int q2), (.int q3), (.long q4)] maxLocals = mkF m 0 #[.val (.int q1), .val (.int q2), .val (.int q3), .val (.long q4), .second, .unset, .unset, .unset, .unset, .unset, .unset, .unset, .unset, .unset] [] := by first | (simp [entryFrame, mkF, argsToLocals, Value.category, maxLocals]; done) | rfl
theorem pd_law : parseMethodDescriptor "(IIIJ)Z" = some ⟨[.int, .int, .int, .long], some (.boolean)⟩ := by decide +kernel
set_option maxRecDepth 65536 in
set_option maxHeartbeats 40000000 in
theorem rm_law (l : Launch) (Z : State) (a0 : Array Value) (hw : ∀ d ∈ tables_1, d.before a0 Z = true) (ws : List Jvm.Cond) (q1 : Int32) (q2 : Int32) (q3 : Int32) (q4 : Int64) (h0 : Heap)  :
    MetFree l x (head1 (Jvm.Cond.code x code maxLocals ret :: ws) room_1) (fun a U => a = #[(.int q1), (.int q2), (.int q3), (.long q4)] ∧ Z.Warmed39 U.vm ∧ U.heap = h0) (fun _ _ _ _ _ => True) (fun _ U o U' => ∃ v L, o = .returned v ∧ LQ h0 v U'.heap L ∧ FrameEnd U o U' L 0 0) := by
  refine MetFree.of_bodySF pn_law hisR ?_
  intro p e s m args below meth c s₁ Bd hml0 hP hK
  obtain ⟨rfl, hZ, hh⟩ := hP
  have hx := Bd.exec
  have hby := Bd.bytes
  have hml : c.maxLocals = 14 := hml0
  have hown : s.vm.findClass "com/example/evenfold/evenfold/randomization/LeftMatrixScrambleIsColumnPinLaw" = some m.cls := findClass_of_methodNamed Bd.named
  have hnm := (name_of_methodNamed Bd.named Bd.method).1
  have hlk : meth.locks = false := BodyLoose.notSynchronized Bd
  have X0 : Stand p l e room_1 s m #[(.int q1), (.int q2), (.int q3), (.long q4)] below meth c s₁ [] 0 0 := Stand.of_body Bd
  have e0 : s₁.heap = h0 := by rw [← hh, Bd.state]; rfl
  show Go p e below (EndN below s (LQ h0) 0 0) (s₁.setTop (entryFrame m #[(.int q1), (.int q2), (.int q3), (.long q4)] maxLocals))
  rw [ef_law]
  refine g_iconst X0 hx 1 (1 : Int32) (hb hby at_0) rfl rfl ?_
  refine g_iload_n X0 hx 2 q1 (hb hby at_1) rfl rfl ?_
  refine g_bipush X0 hx 4 (63 : Int32) (hb hby at_2) rfl rfl ?_
  refine g_iand X0 hx 5 (hb hby at_4) rfl ?_
  refine g_iadd X0 hx 6 (hb hby at_5) rfl ?_
  refine g_istore X0 hx 8 #[.val (.int q1), .val (.int q2), .val (.int q3), .val (.long q4), .second, .val (.int ((1 : Int32) + (q1 &&& (63 : Int32)))), .unset, .unset, .unset, .unset, .unset, .unset, .unset, .unset] (hb hby at_6) rfl rfl ?_
  generalize hvr : ((1 : Int32) + (q1 &&& (63 : Int32))) = vr
  have br := own_rows hvr
  refine g_iload_n X0 hx 9 q2 (hb hby at_8) rfl rfl ?_
  refine g_ldc X0 hx 11 (hb hby at_9) hown (mvT hZ (hw _ (List.mem_of_getElem? (i := 0) rfl))) rfl ?_
  refine g_iand X0 hx 12 (hb hby at_11) rfl ?_
  refine g_iload X0 hx 14 vr (hb hby at_12) rfl rfl ?_
  refine g_irem X0 hx 15 (hb hby at_14) (fun q => absurd (q ▸ br.1) (by decide)) rfl ?_
  refine g_istore X0 hx 17 #[.val (.int q1), .val (.int q2), .val (.int q3), .val (.long q4), .second, .val (.int vr), .val (.int ((q2 &&& (2147483647 : Int32)) % vr)), .unset, .unset, .unset, .unset, .unset, .unset, .unset] (hb hby at_15) rfl rfl ?_
  generalize hvc : ((q2 &&& (2147483647 : Int32)) % vr) = vc
  have bc := own_cc br.1 hvc
  refine g_iload X0 hx 19 vr (hb hby at_17) rfl rfl ?_
  refine g_iconst X0 hx 20 (1 : Int32) (hb hby at_19) rfl rfl ?_
  refine g_isub X0 hx 21 (hb hby at_20) rfl ?_
  refine g_iload X0 hx 23 vc (hb hby at_21) rfl rfl ?_
  refine g_isub X0 hx 24 (hb hby at_23) rfl ?_
  refine g_istore X0 hx 26 #[.val (.int q1), .val (.int q2), .val (.int q3), .val (.long q4), .second, .val (.int vr), .val (.int vc), .val (.int ((vr - (1 : Int32)) - vc)), .unset, .unset, .unset, .unset, .unset, .unset] (hb hby at_24) rfl rfl ?_
  generalize hve : ((vr - (1 : Int32)) - vc) = ve
  have be := own_ee br.1 br.2 bc.1 bc.2 hve
  refine g_lconst X0 hx 27 (1 : Int64) (hb hby at_26) rfl rfl ?_
  refine g_iload X0 hx 29 ve (hb hby at_27) rfl rfl ?_
  refine g_lshl X0 hx 30 (hb hby at_29) rfl ?_
  refine g_lstore X0 hx 32 #[.val (.int q1), .val (.int q2), .val (.int q3), .val (.long q4), .second, .val (.int vr), .val (.int vc), .val (.int ve), .val (.long ((1 : Int64) <<< (ve.toInt64 &&& 63))), .second, .unset, .unset, .unset, .unset] (hb hby at_30) rfl rfl ?_
  refine g_iload_n X0 hx 33 q3 (hb hby at_32) rfl rfl ?_
  refine g_iconst X0 hx 34 (3 : Int32) (hb hby at_33) rfl rfl ?_
  refine g_iand X0 hx 35 (hb hby at_34) rfl ?_
  refine g_istore X0 hx 37 #[.val (.int q1), .val (.int q2), .val (.int q3), .val (.long q4), .second, .val (.int vr), .val (.int vc), .val (.int ve), .val (.long ((1 : Int64) <<< (ve.toInt64 &&& 63))), .second, .val (.int (q3 &&& (3 : Int32))), .unset, .unset, .unset] (hb hby at_35) rfl rfl ?_
  have J93 : ∀ (col : Int64),  Go p e below (EndN below s (LQ h0) 0 0) (s₁.setTop (mkF m 93 #[.val (.int q1), .val (.int q2), .val (.int q3), .val (.long q4), .second, .val (.int vr), .val (.int vc), .val (.int ve), .val (.long ((1 : Int64) <<< (ve.toInt64 &&& 63))), .second, .val (.int (q3 &&& (3 : Int32))), .val (.long col), .second, .unset] [])) := by
    intro col
    refine g_iload X0 hx 95 ve (hb hby at_93) rfl rfl ?_
    refine g_bipush X0 hx 97 (63 : Int32) (hb hby at_95) rfl rfl ?_
    by_cases c97 : ve = (63 : Int32)
    ·
      refine g_icmpN X0 hx 100 (hb hby at_97) (XT.ii_ne_f c97) rfl ?_
      refine g_lload X0 hx 102 col (hb hby at_100) rfl rfl ?_
      refine g_lconst X0 hx 103 (0 : Int64) (hb hby at_102) rfl rfl ?_
      refine g_lcmp X0 hx 104 (hb hby at_103) rfl ?_
      by_cases c104 : col < (0 : Int64)
      ·
        refine g_ifN X0 hx 107 (hb hby at_104) (XT.ll_ge_f c104) rfl ?_
        refine g_iconst X0 hx 108 (1 : Int32) (hb hby at_107) rfl rfl ?_
        refine g_goto X0 hx 112 (hb hby at_108) (by decide) (by decide) ?_
        refine g_istore X0 hx 114 #[.val (.int q1), .val (.int q2), .val (.int q3), .val (.long q4), .second, .val (.int vr), .val (.int vc), .val (.int ve), .val (.long ((1 : Int64) <<< (ve.toInt64 &&& 63))), .second, .val (.int (q3 &&& (3 : Int32))), .val (.long col), .second, .val (.int (1 : Int32))] (hb hby at_112) rfl rfl ?_
        refine g_goto X0 hx 169 (hb hby at_114) (by decide) (by decide) ?_
        refine g_iload X0 hx 171 vr (hb hby at_169) rfl rfl ?_
        refine g_iload X0 hx 173 vc (hb hby at_171) rfl rfl ?_
        refine g_lload X0 hx 175 col (hb hby at_173) rfl rfl ?_
        obtain ⟨T_175, X_175, e_175, st_175⟩ := g_callSP X0 hx hZ (own := "com/example/evenfold/evenfold/randomization/LeftMatrixScrambleIsColumnPinLaw") (index := 10) (y := (⟨"com/example/evenfold/evenfold/randomization/LeftMatrixScramble", "isColumn", "(IIJ)Z"⟩ : MethodName)) (as' := [(.int vr), (.int vc), (.long col)]) (w := some (.int (b2i (XT.ushrL col ((vr - (1 : Int32)) - vc) = (1 : Int64))))) hown (hw _ (List.mem_of_getElem? (i := 1) rfl)) (hw _ (List.mem_of_getElem? (i := 2) rfl)) (hw _ (List.mem_of_getElem? (i := 3) rfl)) (hw _ (List.mem_of_getElem? (i := 4) rfl)) (by decide) e0 (rm_col l Z a0 hw vr vc col h0 ) pd_col rfl 0 (by decide) (by decide) (by decide) (by decide) rfl rfl (pc := 175) (pc' := 178) (Ls := #[.val (.int q1), .val (.int q2), .val (.int q3), .val (.long q4), .second, .val (.int vr), .val (.int vc), .val (.int ve), .val (.long ((1 : Int64) <<< (ve.toInt64 &&& 63))), .second, .val (.int (q3 &&& (3 : Int32))), .val (.long col), .second, .val (.int (1 : Int32))]) (rest := []) (st := [(.long col), (.int vc), (.int vr)]) (by rw [hml]; rfl) rfl (by decide) (hb hby at_175) rfl
        refine st_175 ?_
        show Go p e below _ (T_175.setTop (mkF m 178 #[.val (.int q1), .val (.int q2), .val (.int q3), .val (.long q4), .second, .val (.int vr), .val (.int vc), .val (.int ve), .val (.long ((1 : Int64) <<< (ve.toInt64 &&& 63))), .second, .val (.int (q3 &&& (3 : Int32))), .val (.long col), .second, .val (.int (1 : Int32))] [(.int (b2i (XT.ushrL col ((vr - (1 : Int32)) - vc) = (1 : Int64))))]))
        refine g_iload X_175 hx 180 (1 : Int32) (hb hby at_178) rfl rfl ?_
        refine g_icmpN X_175 hx 183 (hb hby at_180) (XT.ii_ne_f (b2i_t (by rw [hve]; exact (own_63 col c97).mpr c104))) rfl ?_
        refine g_iconst X_175 hx 184 (1 : Int32) (hb hby at_183) rfl rfl ?_
        refine g_goto X_175 hx 188 (hb hby at_184) (by decide) (by decide) ?_
        exact Go.ret X_175 hx hlk Bd.returns (hb hby at_188) rfl (Or.inl ⟨rfl, by decide, _, rfl⟩) (by decide) (by decide) ⟨rfl, Fr.nil _⟩
      ·
        refine g_ifY X0 hx 111 (hb hby at_104) (XT.ll_ge_t c104) (by decide) (by decide) ?_
        refine g_iconst X0 hx 112 (0 : Int32) (hb hby at_111) rfl rfl ?_
        refine g_istore X0 hx 114 #[.val (.int q1), .val (.int q2), .val (.int q3), .val (.long q4), .second, .val (.int vr), .val (.int vc), .val (.int ve), .val (.long ((1 : Int64) <<< (ve.toInt64 &&& 63))), .second, .val (.int (q3 &&& (3 : Int32))), .val (.long col), .second, .val (.int (0 : Int32))] (hb hby at_112) rfl rfl ?_
        refine g_goto X0 hx 169 (hb hby at_114) (by decide) (by decide) ?_
        refine g_iload X0 hx 171 vr (hb hby at_169) rfl rfl ?_
        refine g_iload X0 hx 173 vc (hb hby at_171) rfl rfl ?_
        refine g_lload X0 hx 175 col (hb hby at_173) rfl rfl ?_
        obtain ⟨T_175, X_175, e_175, st_175⟩ := g_callSP X0 hx hZ (own := "com/example/evenfold/evenfold/randomization/LeftMatrixScrambleIsColumnPinLaw") (index := 10) (y := (⟨"com/example/evenfold/evenfold/randomization/LeftMatrixScramble", "isColumn", "(IIJ)Z"⟩ : MethodName)) (as' := [(.int vr), (.int vc), (.long col)]) (w := some (.int (b2i (XT.ushrL col ((vr - (1 : Int32)) - vc) = (1 : Int64))))) hown (hw _ (List.mem_of_getElem? (i := 1) rfl)) (hw _ (List.mem_of_getElem? (i := 2) rfl)) (hw _ (List.mem_of_getElem? (i := 3) rfl)) (hw _ (List.mem_of_getElem? (i := 4) rfl)) (by decide) e0 (rm_col l Z a0 hw vr vc col h0 ) pd_col rfl 0 (by decide) (by decide) (by decide) (by decide) rfl rfl (pc := 175) (pc' := 178) (Ls := #[.val (.int q1), .val (.int q2), .val (.int q3), .val (.long q4), .second, .val (.int vr), .val (.int vc), .val (.int ve), .val (.long ((1 : Int64) <<< (ve.toInt64 &&& 63))), .second, .val (.int (q3 &&& (3 : Int32))), .val (.long col), .second, .val (.int (0 : Int32))]) (rest := []) (st := [(.long col), (.int vc), (.int vr)]) (by rw [hml]; rfl) rfl (by decide) (hb hby at_175) rfl
        refine st_175 ?_
        show Go p e below _ (T_175.setTop (mkF m 178 #[.val (.int q1), .val (.int q2), .val (.int q3), .val (.long q4), .second, .val (.int vr), .val (.int vc), .val (.int ve), .val (.long ((1 : Int64) <<< (ve.toInt64 &&& 63))), .second, .val (.int (q3 &&& (3 : Int32))), .val (.long col), .second, .val (.int (0 : Int32))] [(.int (b2i (XT.ushrL col ((vr - (1 : Int32)) - vc) = (1 : Int64))))]))
        refine g_iload X_175 hx 180 (0 : Int32) (hb hby at_178) rfl rfl ?_
        refine g_icmpN X_175 hx 183 (hb hby at_180) (XT.ii_ne_f (b2i_f (by rw [hve]; exact fun z => c104 ((own_63 col c97).mp z)))) rfl ?_
        refine g_iconst X_175 hx 184 (1 : Int32) (hb hby at_183) rfl rfl ?_
        refine g_goto X_175 hx 188 (hb hby at_184) (by decide) (by decide) ?_
        exact Go.ret X_175 hx hlk Bd.returns (hb hby at_188) rfl (Or.inl ⟨rfl, by decide, _, rfl⟩) (by decide) (by decide) ⟨rfl, Fr.nil _⟩
    ·
      refine g_icmpY X0 hx 117 (hb hby at_97) (XT.ii_ne_t c97) (by decide) (by decide) ?_
      refine g_iload X0 hx 119 ve (hb hby at_117) rfl rfl ?_
      refine g_bipush X0 hx 121 (62 : Int32) (hb hby at_119) rfl rfl ?_
      by_cases c121 : ve = (62 : Int32)
      ·
        refine g_icmpN X0 hx 124 (hb hby at_121) (XT.ii_ne_f c121) rfl ?_
        refine g_lload X0 hx 126 col (hb hby at_124) rfl rfl ?_
        refine g_lload X0 hx 128 ((1 : Int64) <<< (ve.toInt64 &&& 63)) (hb hby at_126) rfl rfl ?_
        refine g_lcmp X0 hx 129 (hb hby at_128) rfl ?_
        by_cases c129 : col < ((1 : Int64) <<< (ve.toInt64 &&& 63))
        ·
          refine g_ifY X0 hx 136 (hb hby at_129) (XT.ll_lt_t c129) (by decide) (by decide) ?_
          refine g_iconst X0 hx 137 (0 : Int32) (hb hby at_136) rfl rfl ?_
          refine g_istore X0 hx 139 #[.val (.int q1), .val (.int q2), .val (.int q3), .val (.long q4), .second, .val (.int vr), .val (.int vc), .val (.int ve), .val (.long ((1 : Int64) <<< (ve.toInt64 &&& 63))), .second, .val (.int (q3 &&& (3 : Int32))), .val (.long col), .second, .val (.int (0 : Int32))] (hb hby at_137) rfl rfl ?_
          refine g_goto X0 hx 169 (hb hby at_139) (by decide) (by decide) ?_
          refine g_iload X0 hx 171 vr (hb hby at_169) rfl rfl ?_
          refine g_iload X0 hx 173 vc (hb hby at_171) rfl rfl ?_
          refine g_lload X0 hx 175 col (hb hby at_173) rfl rfl ?_
          obtain ⟨T_175, X_175, e_175, st_175⟩ := g_callSP X0 hx hZ (own := "com/example/evenfold/evenfold/randomization/LeftMatrixScrambleIsColumnPinLaw") (index := 10) (y := (⟨"com/example/evenfold/evenfold/randomization/LeftMatrixScramble", "isColumn", "(IIJ)Z"⟩ : MethodName)) (as' := [(.int vr), (.int vc), (.long col)]) (w := some (.int (b2i (XT.ushrL col ((vr - (1 : Int32)) - vc) = (1 : Int64))))) hown (hw _ (List.mem_of_getElem? (i := 1) rfl)) (hw _ (List.mem_of_getElem? (i := 2) rfl)) (hw _ (List.mem_of_getElem? (i := 3) rfl)) (hw _ (List.mem_of_getElem? (i := 4) rfl)) (by decide) e0 (rm_col l Z a0 hw vr vc col h0 ) pd_col rfl 0 (by decide) (by decide) (by decide) (by decide) rfl rfl (pc := 175) (pc' := 178) (Ls := #[.val (.int q1), .val (.int q2), .val (.int q3), .val (.long q4), .second, .val (.int vr), .val (.int vc), .val (.int ve), .val (.long ((1 : Int64) <<< (ve.toInt64 &&& 63))), .second, .val (.int (q3 &&& (3 : Int32))), .val (.long col), .second, .val (.int (0 : Int32))]) (rest := []) (st := [(.long col), (.int vc), (.int vr)]) (by rw [hml]; rfl) rfl (by decide) (hb hby at_175) rfl
          refine st_175 ?_
          show Go p e below _ (T_175.setTop (mkF m 178 #[.val (.int q1), .val (.int q2), .val (.int q3), .val (.long q4), .second, .val (.int vr), .val (.int vc), .val (.int ve), .val (.long ((1 : Int64) <<< (ve.toInt64 &&& 63))), .second, .val (.int (q3 &&& (3 : Int32))), .val (.long col), .second, .val (.int (0 : Int32))] [(.int (b2i (XT.ushrL col ((vr - (1 : Int32)) - vc) = (1 : Int64))))]))
          refine g_iload X_175 hx 180 (0 : Int32) (hb hby at_178) rfl rfl ?_
          refine g_icmpN X_175 hx 183 (hb hby at_180) (XT.ii_ne_f (b2i_f (by rw [hve]; exact fun z => (fun q => q c129) ((own_62 col c121).mp z)))) rfl ?_
          refine g_iconst X_175 hx 184 (1 : Int32) (hb hby at_183) rfl rfl ?_
          refine g_goto X_175 hx 188 (hb hby at_184) (by decide) (by decide) ?_
          exact Go.ret X_175 hx hlk Bd.returns (hb hby at_188) rfl (Or.inl ⟨rfl, by decide, _, rfl⟩) (by decide) (by decide) ⟨rfl, Fr.nil _⟩
        ·
          refine g_ifN X0 hx 132 (hb hby at_129) (XT.ll_lt_f c129) rfl ?_
          refine g_iconst X0 hx 133 (1 : Int32) (hb hby at_132) rfl rfl ?_
          refine g_goto X0 hx 137 (hb hby at_133) (by decide) (by decide) ?_
          refine g_istore X0 hx 139 #[.val (.int q1), .val (.int q2), .val (.int q3), .val (.long q4), .second, .val (.int vr), .val (.int vc), .val (.int ve), .val (.long ((1 : Int64) <<< (ve.toInt64 &&& 63))), .second, .val (.int (q3 &&& (3 : Int32))), .val (.long col), .second, .val (.int (1 : Int32))] (hb hby at_137) rfl rfl ?_
          refine g_goto X0 hx 169 (hb hby at_139) (by decide) (by decide) ?_
          refine g_iload X0 hx 171 vr (hb hby at_169) rfl rfl ?_
          refine g_iload X0 hx 173 vc (hb hby at_171) rfl rfl ?_
          refine g_lload X0 hx 175 col (hb hby at_173) rfl rfl ?_
          obtain ⟨T_175, X_175, e_175, st_175⟩ := g_callSP X0 hx hZ (own := "com/example/evenfold/evenfold/randomization/LeftMatrixScrambleIsColumnPinLaw") (index := 10) (y := (⟨"com/example/evenfold/evenfold/randomization/LeftMatrixScramble", "isColumn", "(IIJ)Z"⟩ : MethodName)) (as' := [(.int vr), (.int vc), (.long col)]) (w := some (.int (b2i (XT.ushrL col ((vr - (1 : Int32)) - vc) = (1 : Int64))))) hown (hw _ (List.mem_of_getElem? (i := 1) rfl)) (hw _ (List.mem_of_getElem? (i := 2) rfl)) (hw _ (List.mem_of_getElem? (i := 3) rfl)) (hw _ (List.mem_of_getElem? (i := 4) rfl)) (by decide) e0 (rm_col l Z a0 hw vr vc col h0 ) pd_col rfl 0 (by decide) (by decide) (by decide) (by decide) rfl rfl (pc := 175) (pc' := 178) (Ls := #[.val (.int q1), .val (.int q2), .val (.int q3), .val (.long q4), .second, .val (.int vr), .val (.int vc), .val (.int ve), .val (.long ((1 : Int64) <<< (ve.toInt64 &&& 63))), .second, .val (.int (q3 &&& (3 : Int32))), .val (.long col), .second, .val (.int (1 : Int32))]) (rest := []) (st := [(.long col), (.int vc), (.int vr)]) (by rw [hml]; rfl) rfl (by decide) (hb hby at_175) rfl
          refine st_175 ?_
          show Go p e below _ (T_175.setTop (mkF m 178 #[.val (.int q1), .val (.int q2), .val (.int q3), .val (.long q4), .second, .val (.int vr), .val (.int vc), .val (.int ve), .val (.long ((1 : Int64) <<< (ve.toInt64 &&& 63))), .second, .val (.int (q3 &&& (3 : Int32))), .val (.long col), .second, .val (.int (1 : Int32))] [(.int (b2i (XT.ushrL col ((vr - (1 : Int32)) - vc) = (1 : Int64))))]))
          refine g_iload X_175 hx 180 (1 : Int32) (hb hby at_178) rfl rfl ?_
          refine g_icmpN X_175 hx 183 (hb hby at_180) (XT.ii_ne_f (b2i_t (by rw [hve]; exact (own_62 col c121).mpr c129))) rfl ?_
          refine g_iconst X_175 hx 184 (1 : Int32) (hb hby at_183) rfl rfl ?_
          refine g_goto X_175 hx 188 (hb hby at_184) (by decide) (by decide) ?_
          exact Go.ret X_175 hx hlk Bd.returns (hb hby at_188) rfl (Or.inl ⟨rfl, by decide, _, rfl⟩) (by decide) (by decide) ⟨rfl, Fr.nil _⟩
      ·
        refine g_icmpY X0 hx 142 (hb hby at_121) (XT.ii_ne_t c121) (by decide) (by decide) ?_
        refine g_lload X0 hx 144 col (hb hby at_142) rfl rfl ?_
        refine g_lload X0 hx 146 ((1 : Int64) <<< (ve.toInt64 &&& 63)) (hb hby at_144) rfl rfl ?_
        refine g_lcmp X0 hx 147 (hb hby at_146) rfl ?_
        by_cases c147 : col < ((1 : Int64) <<< (ve.toInt64 &&& 63))
        ·
          refine g_ifY X0 hx 166 (hb hby at_147) (XT.ll_lt_t c147) (by decide) (by decide) ?_
          refine g_iconst X0 hx 167 (0 : Int32) (hb hby at_166) rfl rfl ?_
          refine g_istore X0 hx 169 #[.val (.int q1), .val (.int q2), .val (.int q3), .val (.long q4), .second, .val (.int vr), .val (.int vc), .val (.int ve), .val (.long ((1 : Int64) <<< (ve.toInt64 &&& 63))), .second, .val (.int (q3 &&& (3 : Int32))), .val (.long col), .second, .val (.int (0 : Int32))] (hb hby at_167) rfl rfl ?_
          refine g_iload X0 hx 171 vr (hb hby at_169) rfl rfl ?_
          refine g_iload X0 hx 173 vc (hb hby at_171) rfl rfl ?_
          refine g_lload X0 hx 175 col (hb hby at_173) rfl rfl ?_
          obtain ⟨T_175, X_175, e_175, st_175⟩ := g_callSP X0 hx hZ (own := "com/example/evenfold/evenfold/randomization/LeftMatrixScrambleIsColumnPinLaw") (index := 10) (y := (⟨"com/example/evenfold/evenfold/randomization/LeftMatrixScramble", "isColumn", "(IIJ)Z"⟩ : MethodName)) (as' := [(.int vr), (.int vc), (.long col)]) (w := some (.int (b2i (XT.ushrL col ((vr - (1 : Int32)) - vc) = (1 : Int64))))) hown (hw _ (List.mem_of_getElem? (i := 1) rfl)) (hw _ (List.mem_of_getElem? (i := 2) rfl)) (hw _ (List.mem_of_getElem? (i := 3) rfl)) (hw _ (List.mem_of_getElem? (i := 4) rfl)) (by decide) e0 (rm_col l Z a0 hw vr vc col h0 ) pd_col rfl 0 (by decide) (by decide) (by decide) (by decide) rfl rfl (pc := 175) (pc' := 178) (Ls := #[.val (.int q1), .val (.int q2), .val (.int q3), .val (.long q4), .second, .val (.int vr), .val (.int vc), .val (.int ve), .val (.long ((1 : Int64) <<< (ve.toInt64 &&& 63))), .second, .val (.int (q3 &&& (3 : Int32))), .val (.long col), .second, .val (.int (0 : Int32))]) (rest := []) (st := [(.long col), (.int vc), (.int vr)]) (by rw [hml]; rfl) rfl (by decide) (hb hby at_175) rfl
          refine st_175 ?_
          show Go p e below _ (T_175.setTop (mkF m 178 #[.val (.int q1), .val (.int q2), .val (.int q3), .val (.long q4), .second, .val (.int vr), .val (.int vc), .val (.int ve), .val (.long ((1 : Int64) <<< (ve.toInt64 &&& 63))), .second, .val (.int (q3 &&& (3 : Int32))), .val (.long col), .second, .val (.int (0 : Int32))] [(.int (b2i (XT.ushrL col ((vr - (1 : Int32)) - vc) = (1 : Int64))))]))
          refine g_iload X_175 hx 180 (0 : Int32) (hb hby at_178) rfl rfl ?_
          refine g_icmpN X_175 hx 183 (hb hby at_180) (XT.ii_ne_f (b2i_f (by rw [hve]; exact fun z => (fun q => q.1 c147) ((own_61 col be.1 be.2 c97 c121).mp z)))) rfl ?_
          refine g_iconst X_175 hx 184 (1 : Int32) (hb hby at_183) rfl rfl ?_
          refine g_goto X_175 hx 188 (hb hby at_184) (by decide) (by decide) ?_
          exact Go.ret X_175 hx hlk Bd.returns (hb hby at_188) rfl (Or.inl ⟨rfl, by decide, _, rfl⟩) (by decide) (by decide) ⟨rfl, Fr.nil _⟩
        ·
          refine g_ifN X0 hx 150 (hb hby at_147) (XT.ll_lt_f c147) rfl ?_
          refine g_lload X0 hx 152 col (hb hby at_150) rfl rfl ?_
          refine g_lload X0 hx 154 ((1 : Int64) <<< (ve.toInt64 &&& 63)) (hb hby at_152) rfl rfl ?_
          refine g_ldc2_w X0 hx 157 (hb hby at_154) hown (mvT hZ (hw _ (List.mem_of_getElem? (i := 5) rfl))) rfl ?_
          refine g_lmul X0 hx 158 (hb hby at_157) rfl ?_
          refine g_lcmp X0 hx 159 (hb hby at_158) rfl ?_
          by_cases c159 : col < (((1 : Int64) <<< (ve.toInt64 &&& 63)) * (2 : Int64))
          ·
            refine g_ifN X0 hx 162 (hb hby at_159) (XT.ll_ge_f c159) rfl ?_
            refine g_iconst X0 hx 163 (1 : Int32) (hb hby at_162) rfl rfl ?_
            refine g_goto X0 hx 167 (hb hby at_163) (by decide) (by decide) ?_
            refine g_istore X0 hx 169 #[.val (.int q1), .val (.int q2), .val (.int q3), .val (.long q4), .second, .val (.int vr), .val (.int vc), .val (.int ve), .val (.long ((1 : Int64) <<< (ve.toInt64 &&& 63))), .second, .val (.int (q3 &&& (3 : Int32))), .val (.long col), .second, .val (.int (1 : Int32))] (hb hby at_167) rfl rfl ?_
            refine g_iload X0 hx 171 vr (hb hby at_169) rfl rfl ?_
            refine g_iload X0 hx 173 vc (hb hby at_171) rfl rfl ?_
            refine g_lload X0 hx 175 col (hb hby at_173) rfl rfl ?_
            obtain ⟨T_175, X_175, e_175, st_175⟩ := g_callSP X0 hx hZ (own := "com/example/evenfold/evenfold/randomization/LeftMatrixScrambleIsColumnPinLaw") (index := 10) (y := (⟨"com/example/evenfold/evenfold/randomization/LeftMatrixScramble", "isColumn", "(IIJ)Z"⟩ : MethodName)) (as' := [(.int vr), (.int vc), (.long col)]) (w := some (.int (b2i (XT.ushrL col ((vr - (1 : Int32)) - vc) = (1 : Int64))))) hown (hw _ (List.mem_of_getElem? (i := 1) rfl)) (hw _ (List.mem_of_getElem? (i := 2) rfl)) (hw _ (List.mem_of_getElem? (i := 3) rfl)) (hw _ (List.mem_of_getElem? (i := 4) rfl)) (by decide) e0 (rm_col l Z a0 hw vr vc col h0 ) pd_col rfl 0 (by decide) (by decide) (by decide) (by decide) rfl rfl (pc := 175) (pc' := 178) (Ls := #[.val (.int q1), .val (.int q2), .val (.int q3), .val (.long q4), .second, .val (.int vr), .val (.int vc), .val (.int ve), .val (.long ((1 : Int64) <<< (ve.toInt64 &&& 63))), .second, .val (.int (q3 &&& (3 : Int32))), .val (.long col), .second, .val (.int (1 : Int32))]) (rest := []) (st := [(.long col), (.int vc), (.int vr)]) (by rw [hml]; rfl) rfl (by decide) (hb hby at_175) rfl
            refine st_175 ?_
            show Go p e below _ (T_175.setTop (mkF m 178 #[.val (.int q1), .val (.int q2), .val (.int q3), .val (.long q4), .second, .val (.int vr), .val (.int vc), .val (.int ve), .val (.long ((1 : Int64) <<< (ve.toInt64 &&& 63))), .second, .val (.int (q3 &&& (3 : Int32))), .val (.long col), .second, .val (.int (1 : Int32))] [(.int (b2i (XT.ushrL col ((vr - (1 : Int32)) - vc) = (1 : Int64))))]))
            refine g_iload X_175 hx 180 (1 : Int32) (hb hby at_178) rfl rfl ?_
            refine g_icmpN X_175 hx 183 (hb hby at_180) (XT.ii_ne_f (b2i_t (by rw [hve]; exact (own_61 col be.1 be.2 c97 c121).mpr ⟨c147, c159⟩))) rfl ?_
            refine g_iconst X_175 hx 184 (1 : Int32) (hb hby at_183) rfl rfl ?_
            refine g_goto X_175 hx 188 (hb hby at_184) (by decide) (by decide) ?_
            exact Go.ret X_175 hx hlk Bd.returns (hb hby at_188) rfl (Or.inl ⟨rfl, by decide, _, rfl⟩) (by decide) (by decide) ⟨rfl, Fr.nil _⟩
          ·
            refine g_ifY X0 hx 166 (hb hby at_159) (XT.ll_ge_t c159) (by decide) (by decide) ?_
            refine g_iconst X0 hx 167 (0 : Int32) (hb hby at_166) rfl rfl ?_
            refine g_istore X0 hx 169 #[.val (.int q1), .val (.int q2), .val (.int q3), .val (.long q4), .second, .val (.int vr), .val (.int vc), .val (.int ve), .val (.long ((1 : Int64) <<< (ve.toInt64 &&& 63))), .second, .val (.int (q3 &&& (3 : Int32))), .val (.long col), .second, .val (.int (0 : Int32))] (hb hby at_167) rfl rfl ?_
            refine g_iload X0 hx 171 vr (hb hby at_169) rfl rfl ?_
            refine g_iload X0 hx 173 vc (hb hby at_171) rfl rfl ?_
            refine g_lload X0 hx 175 col (hb hby at_173) rfl rfl ?_
            obtain ⟨T_175, X_175, e_175, st_175⟩ := g_callSP X0 hx hZ (own := "com/example/evenfold/evenfold/randomization/LeftMatrixScrambleIsColumnPinLaw") (index := 10) (y := (⟨"com/example/evenfold/evenfold/randomization/LeftMatrixScramble", "isColumn", "(IIJ)Z"⟩ : MethodName)) (as' := [(.int vr), (.int vc), (.long col)]) (w := some (.int (b2i (XT.ushrL col ((vr - (1 : Int32)) - vc) = (1 : Int64))))) hown (hw _ (List.mem_of_getElem? (i := 1) rfl)) (hw _ (List.mem_of_getElem? (i := 2) rfl)) (hw _ (List.mem_of_getElem? (i := 3) rfl)) (hw _ (List.mem_of_getElem? (i := 4) rfl)) (by decide) e0 (rm_col l Z a0 hw vr vc col h0 ) pd_col rfl 0 (by decide) (by decide) (by decide) (by decide) rfl rfl (pc := 175) (pc' := 178) (Ls := #[.val (.int q1), .val (.int q2), .val (.int q3), .val (.long q4), .second, .val (.int vr), .val (.int vc), .val (.int ve), .val (.long ((1 : Int64) <<< (ve.toInt64 &&& 63))), .second, .val (.int (q3 &&& (3 : Int32))), .val (.long col), .second, .val (.int (0 : Int32))]) (rest := []) (st := [(.long col), (.int vc), (.int vr)]) (by rw [hml]; rfl) rfl (by decide) (hb hby at_175) rfl
            refine st_175 ?_
            show Go p e below _ (T_175.setTop (mkF m 178 #[.val (.int q1), .val (.int q2), .val (.int q3), .val (.long q4), .second, .val (.int vr), .val (.int vc), .val (.int ve), .val (.long ((1 : Int64) <<< (ve.toInt64 &&& 63))), .second, .val (.int (q3 &&& (3 : Int32))), .val (.long col), .second, .val (.int (0 : Int32))] [(.int (b2i (XT.ushrL col ((vr - (1 : Int32)) - vc) = (1 : Int64))))]))
            refine g_iload X_175 hx 180 (0 : Int32) (hb hby at_178) rfl rfl ?_
            refine g_icmpN X_175 hx 183 (hb hby at_180) (XT.ii_ne_f (b2i_f (by rw [hve]; exact fun z => (fun q => c159 q.2) ((own_61 col be.1 be.2 c97 c121).mp z)))) rfl ?_
            refine g_iconst X_175 hx 184 (1 : Int32) (hb hby at_183) rfl rfl ?_
            refine g_goto X_175 hx 188 (hb hby at_184) (by decide) (by decide) ?_
            exact Go.ret X_175 hx hlk Bd.returns (hb hby at_188) rfl (Or.inl ⟨rfl, by decide, _, rfl⟩) (by decide) (by decide) ⟨rfl, Fr.nil _⟩
  refine g_iload X0 hx 39 (q3 &&& (3 : Int32)) (hb hby at_37) rfl rfl ?_
  by_cases c39 : (q3 &&& (3 : Int32)) = (0 : Int32)
  ·
    refine g_ifN X0 hx 42 (hb hby at_39) (XT.i0_ne_f c39) rfl ?_
    refine g_lload_n X0 hx 43 q4 (hb hby at_42) rfl rfl ?_
    refine g_lstore X0 hx 45 #[.val (.int q1), .val (.int q2), .val (.int q3), .val (.long q4), .second, .val (.int vr), .val (.int vc), .val (.int ve), .val (.long ((1 : Int64) <<< (ve.toInt64 &&& 63))), .second, .val (.int (q3 &&& (3 : Int32))), .val (.long q4), .second, .unset] (hb hby at_43) rfl rfl ?_
    refine g_goto X0 hx 93 (hb hby at_45) (by decide) (by decide) ?_
    exact J93 _
  ·
    refine g_ifY X0 hx 48 (hb hby at_39) (XT.i0_ne_t c39) (by decide) (by decide) ?_
    refine g_iload X0 hx 50 (q3 &&& (3 : Int32)) (hb hby at_48) rfl rfl ?_
    refine g_iconst X0 hx 51 (1 : Int32) (hb hby at_50) rfl rfl ?_
    by_cases c51 : (q3 &&& (3 : Int32)) = (1 : Int32)
    ·
      refine g_icmpN X0 hx 54 (hb hby at_51) (XT.ii_ne_f c51) rfl ?_
      refine g_lload X0 hx 56 ((1 : Int64) <<< (ve.toInt64 &&& 63)) (hb hby at_54) rfl rfl ?_
      refine g_lload_n X0 hx 57 q4 (hb hby at_56) rfl rfl ?_
      refine g_lload X0 hx 59 ((1 : Int64) <<< (ve.toInt64 &&& 63)) (hb hby at_57) rfl rfl ?_
      refine g_lconst X0 hx 60 (1 : Int64) (hb hby at_59) rfl rfl ?_
      refine g_lsub X0 hx 61 (hb hby at_60) rfl ?_
      refine g_land X0 hx 62 (hb hby at_61) rfl ?_
      refine g_lor X0 hx 63 (hb hby at_62) rfl ?_
      refine g_lstore X0 hx 65 #[.val (.int q1), .val (.int q2), .val (.int q3), .val (.long q4), .second, .val (.int vr), .val (.int vc), .val (.int ve), .val (.long ((1 : Int64) <<< (ve.toInt64 &&& 63))), .second, .val (.int (q3 &&& (3 : Int32))), .val (.long (((1 : Int64) <<< (ve.toInt64 &&& 63)) ||| (q4 &&& (((1 : Int64) <<< (ve.toInt64 &&& 63)) - (1 : Int64))))), .second, .unset] (hb hby at_63) rfl rfl ?_
      refine g_goto X0 hx 93 (hb hby at_65) (by decide) (by decide) ?_
      exact J93 _
    ·
      refine g_icmpY X0 hx 68 (hb hby at_51) (XT.ii_ne_t c51) (by decide) (by decide) ?_
      refine g_iload X0 hx 70 (q3 &&& (3 : Int32)) (hb hby at_68) rfl rfl ?_
      refine g_iconst X0 hx 71 (2 : Int32) (hb hby at_70) rfl rfl ?_
      by_cases c71 : (q3 &&& (3 : Int32)) = (2 : Int32)
      ·
        refine g_icmpN X0 hx 74 (hb hby at_71) (XT.ii_ne_f c71) rfl ?_
        refine g_lload_n X0 hx 75 q4 (hb hby at_74) rfl rfl ?_
        refine g_lload X0 hx 77 ((1 : Int64) <<< (ve.toInt64 &&& 63)) (hb hby at_75) rfl rfl ?_
        refine g_lconst X0 hx 78 (1 : Int64) (hb hby at_77) rfl rfl ?_
        refine g_lsub X0 hx 79 (hb hby at_78) rfl ?_
        refine g_land X0 hx 80 (hb hby at_79) rfl ?_
        refine g_lstore X0 hx 82 #[.val (.int q1), .val (.int q2), .val (.int q3), .val (.long q4), .second, .val (.int vr), .val (.int vc), .val (.int ve), .val (.long ((1 : Int64) <<< (ve.toInt64 &&& 63))), .second, .val (.int (q3 &&& (3 : Int32))), .val (.long (q4 &&& (((1 : Int64) <<< (ve.toInt64 &&& 63)) - (1 : Int64)))), .second, .unset] (hb hby at_80) rfl rfl ?_
        refine g_goto X0 hx 93 (hb hby at_82) (by decide) (by decide) ?_
        exact J93 _
      ·
        refine g_icmpY X0 hx 85 (hb hby at_71) (XT.ii_ne_t c71) (by decide) (by decide) ?_
        refine g_lload_n X0 hx 86 q4 (hb hby at_85) rfl rfl ?_
        refine g_lload X0 hx 88 ((1 : Int64) <<< (ve.toInt64 &&& 63)) (hb hby at_86) rfl rfl ?_
        refine g_iconst X0 hx 89 (1 : Int32) (hb hby at_88) rfl rfl ?_
        refine g_lshl X0 hx 90 (hb hby at_89) rfl ?_
        refine g_lor X0 hx 91 (hb hby at_90) rfl ?_
        refine g_lstore X0 hx 93 #[.val (.int q1), .val (.int q2), .val (.int q3), .val (.long q4), .second, .val (.int vr), .val (.int vc), .val (.int ve), .val (.long ((1 : Int64) <<< (ve.toInt64 &&& 63))), .second, .val (.int (q3 &&& (3 : Int32))), .val (.long (q4 ||| (((1 : Int64) <<< (ve.toInt64 &&& 63)) <<< ((1 : Int32).toInt64 &&& 63)))), .second, .unset] (hb hby at_91) rfl rfl ?_
        exact J93 _
set_option maxRecDepth 65536 in
set_option maxHeartbeats 40000000 in
theorem comes_1 {Post : Tables → Env → Array Value → State → Outcome → State → Prop} (hpost : ∀ tb e args s v u, (limb_1_1.after args s (.returned v) u = true ∧ limb_1_2.after args s (.returned v) u = true ∧ True) → FrameEnd s (.returned v) u (Jvm.fieldLocs frame_1_writes args s ++ Jvm.arrayLocs frame_1_arrays args s ++ Jvm.staticLocs frame_1_statics s) 0 0 → Post tb e args s (.returned v) u) :
    ArmFor flags0 classFile x code maxLocals ret World_1 tables_1 room_1 Calls_1 rest_1 Pre_1 Post := by
  intro l hfl _ _ p e ha hc hk s m args below hf hA hF happ hP
  obtain ⟨hcalls, hrest, hpre⟩ := hP
  obtain ⟨-, -, -, hnamed, -, -, -, hat⟩ := (Spec.applies_iff hf).mp happ
  obtain ⟨hg, hn⟩ := and_e (Cond.before_iff.mp (show (Jvm.Cond.and given_1 narrow_1).before args s = true from hpre))
  obtain ⟨h1, g_0⟩ := and_e hg
  obtain ⟨k0, g_1⟩ := and_e g_0
  obtain ⟨k1, g_2⟩ := and_e g_1
  obtain ⟨k2, g_3⟩ := and_e g_2
  obtain ⟨w0, w1, w2, w3, rfl⟩ : ∃ w0 w1 w2 w3 : Value, args = #[w0, w1, w2, w3] := by
    have hs : args.size = 4 := by simpa [Cond.value, given_1] using h1
    obtain ⟨L⟩ := args
    match L, hs with
    | [w0, w1, w2, w3], _ => exact ⟨w0, w1, w2, w3, rfl⟩
  have hw := fun d (hd : d ∈ tables_1) => atoms_spec (ws := Jvm.Cond.code x code maxLocals ret :: tables_1) hat d (List.mem_cons_of_mem _ hd)
  obtain ⟨i0, e_0⟩ := is_v k0
  obtain rfl : w0 = (.int i0) := Option.some.inj e_0
  obtain ⟨i1, e_1⟩ := is_v k1
  obtain rfl : w1 = (.int i1) := Option.some.inj e_1
  obtain ⟨i2, e_2⟩ := is_v k2
  obtain rfl : w2 = (.int i2) := Option.some.inj e_2
  obtain ⟨i3, e_3⟩ := isL_v g_3
  obtain rfl : w3 = (.long i3) := Option.some.inj e_3
  obtain ⟨n, o, h1, h2, h3, _, L, rfl, ⟨rfl, N⟩, hq⟩ := rm_law l s _ hw tables_1 i0 i1 i2 i3 s.heap  p e ha hc hk s m _ below hf ((Spec.applies_iff_loose hf).mp happ).1 ⟨rfl, State.Warmed39.refl s, rfl⟩ trivial
  refine ⟨n, _, h1, h2, h3, hpost _ _ _ _ _ _ ⟨Cond.after_iff.mpr rfl, Cond.after_iff.mpr (eq_i res_at (Term.int_eval (1)) rfl), trivial⟩ ⟨hq.1, hq.2.1, (hq.2.2.sift fun y hy => Or.inr (N y hy)).mono (by decide) (by decide)⟩⟩
theorem main_1_1 : Claimed_1_1 := comes_1 fun _ _ _ _ _ _ h hF => ⟨h.1, hF⟩
theorem main_1_2 : Claimed_1_2 := comes_1 fun _ _ _ _ _ _ h hF => ⟨h.2.1, hF⟩
end Jvm.Pilot.@@N@@
namespace Jvm.Pilot.@@N@@
open Jvm Jvm.ClassFile Sem Op Lib Jvm.Free Jvm.Stand Jvm.Pilot.@@N@@.Jvm.D
/-! MADE BY PROGRAM (witnessworld.py) out of the Statement's table words and the real class files: 10 classes; the members and pool entries that the words name. The judged class is class 1, her method 1. -/
namespace start1
open Jvm.ClassFile
def u (s : String) : CpInfo := .utf8 (stringToUtf16 s)
/-- a pool by its gaps: so many unusable entries, then the entry; so many at the end -/
def gap : Nat → List CpInfo → List CpInfo
  | 0, r => r
  | n + 1, r => .unusable :: gap n r
def poolList (es : List (Nat × CpInfo)) (last : Nat) : List CpInfo := es.foldr (fun e r => gap e.1 (e.2 :: r)) (gap last [])
def pool (es : List (Nat × CpInfo)) (last : Nat) : Array CpInfo := ⟨poolList es last⟩
def fileOf (pool : Array CpInfo) (this : Nat) (attrs : Array Attribute := #[]) (ms : Array MethodInfo := #[]) (fl : Nat := 33) (sup : Nat := 0) (ifs : Array Nat := #[]) (fds : Array FieldInfo := #[]) : ClassFile where
  minorVersion := 0
  majorVersion := 65
  constantPool := pool
  accessFlags := fl
  thisClass := this
  superClass := sup
  interfaces := ifs
  fields := fds
  methods := ms
  attributes := attrs
def plain (name : String) (sup : Option ClassId) : Class where
  name := name
  kind := .ordinary
  loader := none
  accessFlags := 33
  super := sup
  interfaces := #[]
  cf := none
  fields := #[]
  methods := #[]
  instanceTypes := #[]
  staticTypes := #[]
  resolved := #[]
  callSites := []
  init := .initialized
  statics := none
  mirror := none

def pool0 : Array CpInfo := pool [(5, u "<init>"), (0, u "()V"), (1, .class_ 10), (1, u "java/lang/Object")] 113

def k0m0 : Method := { name := "<init>", desc := "()V", sig := { parameters := [], returnType := none }, accessFlags := 1, code := none }
/-- java/lang/Object -/
def k0 : Class := { plain "java/lang/Object" none with
  accessFlags := 33
  interfaces := #[]
  cf := some (fileOf pool0 8 #[] #[{ accessFlags := 1, nameIndex := 5, descriptorIndex := 6, attributes := #[] }] 33 0 #[] #[])
  fields := #[]
  methods := #[k0m0]
  instanceTypes := #[]
  staticTypes := #[]
  resolved := Array.replicate 124 none
  statics := none }

def pool1 : Array CpInfo := pool [(2, .class_ 4), (1, u "java/lang/Object"), (0, u "<init>"), (0, u "()V"), (0, .integer 2147483647), (0, .long 2), (1, .methodref 11 12), (0, .class_ 13), (0, .nameAndType 14 15), (0, u "com/example/evenfold/evenfold/randomization/LeftMatrixScramble"), (0, u "isColumn"), (0, u "(IIJ)Z"), (0, .class_ 17), (0, u "com/example/evenfold/evenfold/randomization/LeftMatrixScrambleIsColumnPinLaw"), (2, u "law"), (0, u "(IIIJ)Z")] 3

def k1m0 : Method := { name := "<init>", desc := "()V", sig := { parameters := [], returnType := none }, accessFlags := 2, code := none }
def k1c1 : Code := { maxStack := 8, maxLocals := 14, code := code, exceptionTable := #[], attributes := #[] }
def k1m1 : Method := { name := "law", desc := "(IIIJ)Z", sig := { parameters := [.int, .int, .int, .long], returnType := some .boolean }, accessFlags := 9, code := some k1c1 }
/-- com/example/evenfold/evenfold/randomization/LeftMatrixScrambleIsColumnPinLaw -/
def k1 : Class := { plain "com/example/evenfold/evenfold/randomization/LeftMatrixScrambleIsColumnPinLaw" (some 0) with
  accessFlags := 49
  interfaces := #[]
  cf := some (fileOf pool1 16 #[] #[{ accessFlags := 2, nameIndex := 5, descriptorIndex := 6, attributes := #[] }, { accessFlags := 9, nameIndex := 20, descriptorIndex := 21, attributes := #[] }] 49 2 #[] #[])
  fields := #[]
  methods := #[k1m0, k1m1]
  instanceTypes := #[]
  staticTypes := #[]
  resolved := Array.replicate 25 none
  statics := none }

def pool2 : Array CpInfo := pool [(1, .class_ 2), (0, u "com/example/evenfold/evenfold/randomization/Randomization"), (0, .class_ 4), (0, u "java/lang/Object")] 8

/-- com/example/evenfold/evenfold/randomization/Randomization -/
def k2 : Class := { plain "com/example/evenfold/evenfold/randomization/Randomization" (some 0) with
  accessFlags := 1537
  interfaces := #[]
  cf := some (fileOf pool2 1 #[] #[] 1537 3 #[] #[])
  fields := #[]
  methods := #[]
  instanceTypes := #[]
  staticTypes := #[]
  resolved := Array.replicate 13 none
  statics := none }

def pool3 : Array CpInfo := pool [(4, .class_ 6), (1, u "java/lang/Object"), (16, .class_ 25), (1, u "com/example/evenfold/evenfold/randomization/LeftMatrixScramble"), (0, u "isColumn"), (0, u "(IIJ)Z"), (10, u "rows"), (0, u "I"), (4, u "matrices"), (0, u "[[J"), (84, .class_ 131), (0, u "com/example/evenfold/evenfold/randomization/Randomization"), (0, u "RANDOM_ROWS")] 36

def k3c0 : Code := { maxStack := 4, maxLocals := 4, code := prog_89_method_3_code, exceptionTable := #[], attributes := #[] }
def k3m0 : Method := { name := "isColumn", desc := "(IIJ)Z", sig := { parameters := [.int, .int, .long], returnType := some .boolean }, accessFlags := 9, code := some k3c0 }
/-- com/example/evenfold/evenfold/randomization/LeftMatrixScramble -/
def k3 : Class := { plain "com/example/evenfold/evenfold/randomization/LeftMatrixScramble" (some 0) with
  accessFlags := 49
  interfaces := #[2]
  cf := some (fileOf pool3 23 #[] #[{ accessFlags := 9, nameIndex := 26, descriptorIndex := 27, attributes := #[] }] 49 4 #[130] #[{ accessFlags := 25, nameIndex := 132, descriptorIndex := 39, attributes := #[] }, { accessFlags := 18, nameIndex := 38, descriptorIndex := 39, attributes := #[] }, { accessFlags := 18, nameIndex := 44, descriptorIndex := 45, attributes := #[] }])
  fields := #[{ name := "RANDOM_ROWS", type := .int, accessFlags := 25, slot := 0, constantValue := 0 }, { name := "rows", type := .int, accessFlags := 18, slot := 0, constantValue := 0 }, { name := "matrices", type := (.array (.array .long)), accessFlags := 18, slot := 1, constantValue := 0 }]
  methods := #[k3m0]
  instanceTypes := #[.int, (.array (.array .long))]
  staticTypes := #[.int]
  resolved := Array.replicate 169 none
  statics := none }

def pool4 : Array CpInfo := pool [(1, u "java/lang/Cloneable"), (0, .class_ 1), (0, u "java/lang/Object"), (0, .class_ 3)] 3

/-- java/lang/Cloneable -/
def k4 : Class := { plain "java/lang/Cloneable" (some 0) with
  accessFlags := 1537
  interfaces := #[]
  cf := some (fileOf pool4 2 #[] #[] 1537 4 #[] #[])
  fields := #[]
  methods := #[]
  instanceTypes := #[]
  staticTypes := #[]
  resolved := Array.replicate 8 none
  statics := none }

def pool5 : Array CpInfo := pool [(1, u "java/io/Serializable"), (0, .class_ 1), (0, u "java/lang/Object"), (0, .class_ 3)] 3

/-- java/io/Serializable -/
def k5 : Class := { plain "java/io/Serializable" (some 0) with
  accessFlags := 1537
  interfaces := #[]
  cf := some (fileOf pool5 2 #[] #[] 1537 4 #[] #[])
  fields := #[]
  methods := #[]
  instanceTypes := #[]
  staticTypes := #[]
  resolved := Array.replicate 8 none
  statics := none }

/-- the primitive byte -/
def k6 : Class := { plain "byte" none with kind := .primitive 'B', accessFlags := 0x411 }
/-- [B -/
def k7 : Class := { plain "[B" (some 0) with kind := .array 6 .byte, interfaces := #[4, 5], accessFlags := 1041 }

/-- the primitive int -/
def k8 : Class := { plain "int" none with kind := .primitive 'I', accessFlags := 0x411 }
/-- [I -/
def k9 : Class := { plain "[I" (some 0) with kind := .array 8 .int, interfaces := #[4, 5], accessFlags := 1041 }

def heap : Heap := #[]
def classes : Array Class := #[k0, k1, k2, k3, k4, k5, k6, k7, k8, k9]
def interned : List (Array UInt16 × Addr) := []
def slotsUsed : Nat := 0
def theMethod : MethodId := ⟨1, 1⟩
def args0 : Array Value := #[.int 5, .int 3, .int 1, .long 9]
def aboutOver (below : List Frame) : State where
  vm := { classes := classes, interned := interned.toArray }
  heap := heap
  slotsUsed := slotsUsed
  threads := #[{ frames := .invoking theMethod args0 :: below }]
def below0 : List Frame := [.native { method := ⟨0, 0⟩, args := #[] }]
def about1 : State := aboutOver below0
def p0 : Program := .bare "" "" ""
def e0 : Env := launch0.env 0 0 0
theorem w_frames : about1.frames = Frame.invoking theMethod args0 :: below0 := rfl
set_option maxRecDepth 65536 in
theorem w_args : argsFit about1.vm theMethod args0 = true := by decide +kernel
set_option maxRecDepth 65536 in
theorem w_heap : heapFits about1 = true := by decide +kernel
set_option maxRecDepth 65536 in
theorem w_runnable : about1.curStatus? = some .runnable := by decide +kernel
set_option maxRecDepth 65536 in
theorem w_alone : about1.alone = true := by decide +kernel
set_option maxRecDepth 65536 in
theorem w_named : about1.methodNamed? x = some theMethod := by decide +kernel
set_option maxRecDepth 65536 in
theorem w_hears : about1.hears theMethod below0 = true := by decide +kernel
set_option maxRecDepth 65536 in
theorem w_ripe : about1.ripe theMethod args0 below0 = true := by decide +kernel
theorem w_running : about1.status = .running := rfl
set_option maxRecDepth 65536 in
theorem w_room : about1.hasRoom e0.platform room_1 = true :=
  launch0.hasRoom_least _ room_1 (by decide +kernel) (by decide +kernel) (by decide +kernel) (by decide +kernel) (by decide +kernel) (by decide +kernel)
theorem allAtoms_all (ts : List Jvm.Cond) (a : Array Jvm.Value) (st : Jvm.State) : (allAtoms ts).before a st = ts.all (fun c => c.before a st) := by
  induction ts with
  | nil => rfl
  | cons c t ih =>
    show (Jvm.Cond.and c (allAtoms t)).before a st = _
    rw [Jvm.Cond.before_and, ih, List.all_cons]
def words1 : List Jvm.Cond := Jvm.Cond.code x code maxLocals ret :: tables_1
/-- a 'code' word, met by the world's own term for the bytes: nothing is compared byte by byte -/
theorem code_word {y : MethodName} {bytes : ByteArray} {mx : Nat} {rt : Option FieldType} {a : Array Value} {s : State} {m : MethodId} {meth : Method} {c : Code} (h1 : s.methodNamed? y = some m) (h2 : s.vm.method? m = some meth) (h3 : meth.code = some c) (h4 : c.code = bytes)
    (h5 : (c.maxLocals == mx && c.exceptionTable.isEmpty && decide (c.maxStack ≤ mostOperands) && decide (meth.sig.returnType = rt) && !meth.locks && decide (parseMethodDescriptor y.desc = some meth.sig)) = true) : (Jvm.Cond.code y bytes mx rt).before a s = true := by
  simp only [Bool.and_eq_true, beq_iff_eq, Bool.not_eq_true', decide_eq_true_eq] at h5
  obtain ⟨⟨⟨⟨⟨g1, g2⟩, g3⟩, g4⟩, g5⟩, g6⟩ := h5
  simp [Cond.before, Cond.holds, Cond.value, h1, h2, h3, h4, g1, g2, g3, g4, g5, g6]
def isCode : Jvm.Cond → Bool
  | .code _ _ _ _ => true
  | _ => false
theorem all_split {L : List Jvm.Cond} {P : Jvm.Cond → Bool} (h1 : L.all (fun c => isCode c || P c) = true) (h2 : ∀ c ∈ L.filter isCode, P c = true) : L.all P = true := by
  refine List.all_eq_true.mpr fun c hc => ?_
  have h := List.all_eq_true.mp h1 c hc
  rcases Bool.eq_false_or_eq_true (isCode c) with hi | hi
  · exact h2 c (List.mem_filter.mpr ⟨hc, hi⟩)
  · simpa [hi] using h
set_option maxRecDepth 65536 in
theorem w_c0 : (Jvm.Cond.code x code maxLocals ret).before args0 about1 = true := code_word (m := ⟨1, 1⟩) (meth := k1m1) (c := k1c1) (by decide +kernel) rfl rfl rfl (by decide +kernel)
set_option maxRecDepth 65536 in
theorem w_c1 : (Jvm.Cond.code ({ cls := "com/example/evenfold/evenfold/randomization/LeftMatrixScramble", name := "isColumn", desc := "(IIJ)Z" } : Jvm.MethodName) prog_89_method_3_code (4 : Nat) (Option.some Jvm.ClassFile.FieldType.boolean)).before args0 about1 = true := code_word (m := ⟨3, 0⟩) (meth := k3m0) (c := k3c0) (by decide +kernel) rfl rfl rfl (by decide +kernel)
def codes1 : List Jvm.Cond := [Jvm.Cond.code x code maxLocals ret, Jvm.Cond.code ({ cls := "com/example/evenfold/evenfold/randomization/LeftMatrixScramble", name := "isColumn", desc := "(IIJ)Z" } : Jvm.MethodName) prog_89_method_3_code (4 : Nat) (Option.some Jvm.ClassFile.FieldType.boolean)]
set_option maxRecDepth 65536 in
theorem codes_eq : words1.filter isCode = codes1 := rfl
theorem w_codes : ∀ c ∈ words1.filter isCode, c.before args0 about1 = true := by
  rw [codes_eq]
  intro c hc
  simp only [codes1, List.mem_cons, List.not_mem_nil, or_false] at hc
  rcases hc with rfl | rfl
  · exact w_c0
  · exact w_c1
set_option maxRecDepth 65536 in
theorem w_t1 : words1.all (fun c => isCode c || c.before args0 about1) = true := by decide +kernel
theorem w_tables : (allAtoms (Jvm.Cond.code x code maxLocals ret :: tables_1)).before args0 about1 = true := by
  rw [allAtoms_all]
  show words1.all (fun c => c.before args0 about1) = true
  refine all_split ?_ w_codes
  rw [w_t1]
set_option maxRecDepth 65536 in
theorem w_case : (Jvm.Cond.and given_1 narrow_1).before args0 about1 = true := by decide +kernel
theorem w_applies : (headSpec (Jvm.Cond.code x code maxLocals ret :: tables_1) room_1).applies x e0.platform about1 = true :=
  (Spec.applies_iff w_frames).mpr ⟨w_running, w_runnable, w_alone, w_named, w_hears, w_ripe, w_room, w_tables⟩
theorem atStart : AtStart classFile x code maxLocals ret World_1 tables_1 room_1 Calls_1 rest_1 Pre_1 launch0 p0 e0 about1 theMethod args0 below0 :=
  ⟨lists_1, trivial, launch0.admits_env _ _ _, launch0.least_env, fairChoices_fair.cas, fairChoices_fair.clock, w_frames, w_args, w_heap, w_applies, trivial, trivial, w_case⟩
end start1
theorem witness_1 : WitnessClaimed_1 := ⟨start1.p0, start1.e0, start1.about1, start1.theMethod, start1.args0, start1.below0, start1.atStart⟩
end Jvm.Pilot.@@N@@
