import JvmDerived
import JvmDerived.Pilot.@@N@@Statement
import JvmDerived.Pilot.@@N@@Code
set_option linter.unusedVariables false
set_option linter.unusedSimpArgs false
@@BLOCK:NumsL.lean.txt@@
namespace Jvm.Pilot.@@N@@
open Jvm Jvm.ClassFile Sem Op Lib Jvm.Free Jvm.Stand Jvm.LawKit Jvm.RoadKit Bundle Jvm.Pilot.@@N@@.Jvm.D
section Own
variable {p : Program} {l : Launch} {e : Env} {R : Room} {s : State} {m : MethodId} {args : Array Value} {below : List Frame} {meth : Method} {c : Code} {T : State} {locs : List Loc} {cells slots : Nat} {Z : State} {a0 : Array Value} {h : Heap} {Q : Option Value → Heap → List Loc → Prop} {kc ks : Nat} {P : State → Outcome → Prop}
/-- from s₀ the run comes to an end at which P holds -/
def Go (p : Program) (e : Env) (below : List Frame) (P : State → Outcome → Prop) (s₀ : State) : Prop := ∃ s₂ o, Steps p.tables e below s₀ s₂ ∧ P s₂ o
/-- the method's end: Q holds of what it returns and leaves -/
def EndN (below : List Frame) (s : State) (Q : Option Value → Heap → List Loc → Prop) (kc ks : Nat) (s₂ : State) (o : Outcome) : Prop := s₂.status = .running ∧ Ended s₂ below o ∧ ∃ v L, o = .returned v ∧ Q v s₂.heap L ∧ FrameEnd s o s₂ L kc ks
theorem Go.of {P : State → Outcome → Prop} {s₀ s₁ : State} (G : Go p e below P s₁) (f : ∀ t, Steps p.tables e below s₁ t → Steps p.tables e below s₀ t) : Go p e below P s₀ := by
  obtain ⟨a, b, c1, d⟩ := G; exact ⟨a, b, f _ c1, d⟩
theorem Go.ret (X : Stand p l e R s m args below meth c T locs cells slots) (hx : p.tables.exec = Jvm.exec) (hlk : meth.locks = false) {pc : Nat} {Ls : Array Slot} {w : Value} {t : FieldType} {i : Instr} {rest : List Value} (hret : meth.sig.returnType = some t) (hd : decode c.code pc = .ok (i, 1)) (hn : narrow t w = w)
    (hi : (i = .ireturn ∧ (t = .int ∨ t = .boolean ∨ t = .byte ∨ t = .char ∨ t = .short) ∧ ∃ z, w = .int z) ∨ (i = .lreturn ∧ t = .long ∧ ∃ z, w = .long z) ∨ (i = .dreturn ∧ t = .double ∧ ∃ z, w = .double z) ∨ (i = .freturn ∧ t = .float ∧ ∃ z, w = .float z) ∨ (i = .areturn ∧ t.isReference = true ∧ w.isRef = true))
    (hc : cells ≤ kc) (hs : slots ≤ ks) (hQ : Q (some w) T.heap locs) : Go p e below (EndN below s Q kc ks) (T.setTop (mkF m pc Ls (w :: rest))) := by
  obtain ⟨fs, hr, hrun, hended, hW, hsame⟩ := X.leave (v := some w) (fun h => by rw [hret] at h; cases h) hlk
  exact ⟨_, _, retOut X hx hret hn hi hd hr, hrun, hended, _, _, rfl, hQ, ⟨_, rfl⟩, hW, hsame.mono hc hs⟩
theorem Go.retV (X : Stand p l e R s m args below meth c T locs cells slots) (hx : p.tables.exec = Jvm.exec) (hlk : meth.locks = false) {pc : Nat} {Ls : Array Slot} (hret : meth.sig.returnType = none) (hd : decode c.code pc = .ok (.return_, 1))
    (hc : cells ≤ kc) (hs : slots ≤ ks) (hQ : Q none T.heap locs) : Go p e below (EndN below s Q kc ks) (T.setTop (mkF m pc Ls [])) := by
  obtain ⟨fs, hr, hrun, hended, hW, hsame⟩ := X.leave (v := none) (fun _ => rfl) hlk
  exact ⟨_, _, X.returnOut hx hret hd hr, hrun, hended, _, _, rfl, hQ, ⟨_, rfl⟩, hW, hsame.mono hc hs⟩
theorem Go.retI (X : Stand p l e R s m args below meth c T locs cells slots) (hx : p.tables.exec = Jvm.exec) (hlk : meth.locks = false) {pc : Nat} {Ls : Array Slot} {z : Int32} {rest : List Value} (hret : meth.sig.returnType = some .int) (hd : decode c.code pc = .ok (.ireturn, 1))
    (hc : cells ≤ kc) (hs : slots ≤ ks) (hQ : Q (some (.int z)) T.heap locs) : Go p e below (EndN below s Q kc ks) (T.setTop (mkF m pc Ls (.int z :: rest))) :=
  Go.ret X hx hlk hret hd rfl (Or.inl ⟨rfl, Or.inl rfl, z, rfl⟩) hc hs hQ
theorem Go.retL (X : Stand p l e R s m args below meth c T locs cells slots) (hx : p.tables.exec = Jvm.exec) (hlk : meth.locks = false) {pc : Nat} {Ls : Array Slot} {z : Int64} {rest : List Value} (hret : meth.sig.returnType = some .long) (hd : decode c.code pc = .ok (.lreturn, 1))
    (hc : cells ≤ kc) (hs : slots ≤ ks) (hQ : Q (some (.long z)) T.heap locs) : Go p e below (EndN below s Q kc ks) (T.setTop (mkF m pc Ls (.long z :: rest))) :=
  Go.ret X hx hlk hret hd rfl (Or.inr (Or.inl ⟨rfl, rfl, z, rfl⟩)) hc hs hQ
theorem Go.retA (X : Stand p l e R s m args below meth c T locs cells slots) (hx : p.tables.exec = Jvm.exec) (hlk : meth.locks = false) {pc : Nat} {Ls : Array Slot} {w : Value} {t : FieldType} {rest : List Value} (hret : meth.sig.returnType = some t) (ht : t.isReference = true) (hw : w.isRef = true) (hd : decode c.code pc = .ok (.areturn, 1))
    (hc : cells ≤ kc) (hs : slots ≤ ks) (hQ : Q (some w) T.heap locs) : Go p e below (EndN below s Q kc ks) (T.setTop (mkF m pc Ls (w :: rest))) :=
  Go.ret X hx hlk hret hd (by cases t <;> first | (cases ht; done) | rfl) (Or.inr (Or.inr (Or.inr (Or.inr ⟨rfl, ht, hw⟩)))) hc hs hQ
theorem Go.retZ (X : Stand p l e R s m args below meth c T locs cells slots) (hx : p.tables.exec = Jvm.exec) (hlk : meth.locks = false) {pc : Nat} {Ls : Array Slot} {z : Int32} {t : FieldType} {rest : List Value} (hret : meth.sig.returnType = some t) (ht : t = .boolean ∨ t = .byte ∨ t = .char ∨ t = .short) (hd : decode c.code pc = .ok (.ireturn, 1))
    (hc : cells ≤ kc) (hs : slots ≤ ks) (hQ : Q (some (.int (nar t z))) T.heap locs) : Go p e below (EndN below s Q kc ks) (T.setTop (mkF m pc Ls (.int z :: rest))) := by
  obtain ⟨fs, hr, hrun, hended, hW, hsame⟩ := X.leave (v := some (.int (nar t z))) (fun h => by rw [hret] at h; cases h) hlk
  exact ⟨_, _, retN X hx hret ht hd hr, hrun, hended, _, _, rfl, hQ, ⟨_, rfl⟩, hW, hsame.mono hc hs⟩

theorem g_iconst (X : Stand p l e R s m args below meth c T locs cells slots) (hx : p.tables.exec = Jvm.exec) {pc : Nat} (pc' : Nat) {Ls : Array Slot} {st : List Value} {i : Int} (v : Int32) (hd : decode c.code pc = .ok (.iconst i, 1)) (hv : Int32.ofInt i = v) (hp : pc + 1 = pc') (G : Go p e below P (T.setTop (mkF m pc' Ls (.int v :: st)))) : Go p e below P (T.setTop (mkF m pc Ls (st))) := by
  subst hp; exact Go.of G fun _ q => XT.iconstV X.here hx rfl v hd hv q
theorem g_bipush (X : Stand p l e R s m args below meth c T locs cells slots) (hx : p.tables.exec = Jvm.exec) {pc : Nat} (pc' : Nat) {Ls : Array Slot} {st : List Value} {i : Int} (v : Int32) (hd : decode c.code pc = .ok (.bipush i, 2)) (hv : (Int8.ofInt i).toInt32 = v) (hp : pc + 2 = pc') (G : Go p e below P (T.setTop (mkF m pc' Ls (.int v :: st)))) : Go p e below P (T.setTop (mkF m pc Ls (st))) := by
  subst hp; exact Go.of G fun _ q => XT.bipushV X.here hx rfl v hd hv q
theorem g_sipush (X : Stand p l e R s m args below meth c T locs cells slots) (hx : p.tables.exec = Jvm.exec) {pc : Nat} (pc' : Nat) {Ls : Array Slot} {st : List Value} {i : Int} (v : Int32) (hd : decode c.code pc = .ok (.sipush i, 3)) (hv : (Int16.ofInt i).toInt32 = v) (hp : pc + 3 = pc') (G : Go p e below P (T.setTop (mkF m pc' Ls (.int v :: st)))) : Go p e below P (T.setTop (mkF m pc Ls (st))) := by
  subst hp; exact Go.of G fun _ q => XT.sipushV X.here hx rfl v hd hv q
theorem g_lconst (X : Stand p l e R s m args below meth c T locs cells slots) (hx : p.tables.exec = Jvm.exec) {pc : Nat} (pc' : Nat) {Ls : Array Slot} {st : List Value} {i : Fin 2} (v : Int64) (hd : decode c.code pc = .ok (.lconst i, 1)) (hv : Int64.ofNat i = v) (hp : pc + 1 = pc') (G : Go p e below P (T.setTop (mkF m pc' Ls (.long v :: st)))) : Go p e below P (T.setTop (mkF m pc Ls (st))) := by
  subst hp; exact Go.of G fun _ q => XT.lconstV X.here hx rfl v hd hv q
theorem g_aconst_null (X : Stand p l e R s m args below meth c T locs cells slots) (hx : p.tables.exec = Jvm.exec) {pc : Nat} (pc' : Nat) {Ls : Array Slot} {st : List Value}  (hd : decode c.code pc = .ok (.aconst_null, 1))  (hp : pc + 1 = pc') (G : Go p e below P (T.setTop (mkF m pc' Ls (.null :: st)))) : Go p e below P (T.setTop (mkF m pc Ls (st))) := by
  subst hp; exact Go.of G fun _ q => XS.aconstNull X.here hx rfl hd q
theorem g_iload_n (X : Stand p l e R s m args below meth c T locs cells slots) (hx : p.tables.exec = Jvm.exec) {pc : Nat} (pc' : Nat) {Ls : Array Slot} {st : List Value} {i : Fin 4} (v : Int32) (hd : decode c.code pc = .ok (.iload_n i, 1)) (hv : Ls[i.val]? = some (.val (.int v))) (hp : pc + 1 = pc') (G : Go p e below P (T.setTop (mkF m pc' Ls (.int v :: st)))) : Go p e below P (T.setTop (mkF m pc Ls (st))) := by
  subst hp; exact Go.of G fun _ q => XS.iloadN X.here hx rfl hd hv q
theorem g_iload (X : Stand p l e R s m args below meth c T locs cells slots) (hx : p.tables.exec = Jvm.exec) {pc : Nat} (pc' : Nat) {Ls : Array Slot} {st : List Value} {i : Nat} (v : Int32) (hd : decode c.code pc = .ok (.iload i, 2)) (hv : Ls[i]? = some (.val (.int v))) (hp : pc + 2 = pc') (G : Go p e below P (T.setTop (mkF m pc' Ls (.int v :: st)))) : Go p e below P (T.setTop (mkF m pc Ls (st))) := by
  subst hp; exact Go.of G fun _ q => XS.iload X.here hx rfl hd hv q
theorem g_lload_n (X : Stand p l e R s m args below meth c T locs cells slots) (hx : p.tables.exec = Jvm.exec) {pc : Nat} (pc' : Nat) {Ls : Array Slot} {st : List Value} {i : Fin 4} (v : Int64) (hd : decode c.code pc = .ok (.lload_n i, 1)) (hv : Ls[i.val]? = some (.val (.long v))) (hp : pc + 1 = pc') (G : Go p e below P (T.setTop (mkF m pc' Ls (.long v :: st)))) : Go p e below P (T.setTop (mkF m pc Ls (st))) := by
  subst hp; exact Go.of G fun _ q => XT.lloadN X.here hx rfl hd hv q
theorem g_lload (X : Stand p l e R s m args below meth c T locs cells slots) (hx : p.tables.exec = Jvm.exec) {pc : Nat} (pc' : Nat) {Ls : Array Slot} {st : List Value} {i : Nat} (v : Int64) (hd : decode c.code pc = .ok (.lload i, 2)) (hv : Ls[i]? = some (.val (.long v))) (hp : pc + 2 = pc') (G : Go p e below P (T.setTop (mkF m pc' Ls (.long v :: st)))) : Go p e below P (T.setTop (mkF m pc Ls (st))) := by
  subst hp; exact Go.of G fun _ q => XT.lload X.here hx rfl hd hv q
theorem g_aload_n (X : Stand p l e R s m args below meth c T locs cells slots) (hx : p.tables.exec = Jvm.exec) {pc : Nat} (pc' : Nat) {Ls : Array Slot} {st : List Value} {i : Fin 4} (v : Value) (hd : decode c.code pc = .ok (.aload_n i, 1)) (hv : Ls[i.val]? = some (.val v)) (hr : v.isRef = true) (hp : pc + 1 = pc') (G : Go p e below P (T.setTop (mkF m pc' Ls (v :: st)))) : Go p e below P (T.setTop (mkF m pc Ls (st))) := by
  subst hp; exact Go.of G fun _ q => XS.aloadN X.here hx rfl hd hv hr q
theorem g_aload (X : Stand p l e R s m args below meth c T locs cells slots) (hx : p.tables.exec = Jvm.exec) {pc : Nat} (pc' : Nat) {Ls : Array Slot} {st : List Value} {i : Nat} (v : Value) (hd : decode c.code pc = .ok (.aload i, 2)) (hv : Ls[i]? = some (.val v)) (hr : v.isRef = true) (hp : pc + 2 = pc') (G : Go p e below P (T.setTop (mkF m pc' Ls (v :: st)))) : Go p e below P (T.setTop (mkF m pc Ls (st))) := by
  subst hp; exact Go.of G fun _ q => XS.aload X.here hx rfl hd hv hr q
theorem g_istore_n (X : Stand p l e R s m args below meth c T locs cells slots) (hx : p.tables.exec = Jvm.exec) {pc : Nat} (pc' : Nat) {Ls : Array Slot} {st : List Value} {i : Fin 4} {v : Int32} (Ls' : Array Slot) (hd : decode c.code pc = .ok (.istore_n i, 1)) (hv : storeLocals Ls i.val (.int v) = some Ls') (hp : pc + 1 = pc') (G : Go p e below P (T.setTop (mkF m pc' Ls' (st)))) : Go p e below P (T.setTop (mkF m pc Ls (.int v :: st))) := by
  subst hp; exact Go.of G fun _ q => XS.istoreN X.here hx rfl hd rfl hv q
theorem g_istore (X : Stand p l e R s m args below meth c T locs cells slots) (hx : p.tables.exec = Jvm.exec) {pc : Nat} (pc' : Nat) {Ls : Array Slot} {st : List Value} {i : Nat} {v : Int32} (Ls' : Array Slot) (hd : decode c.code pc = .ok (.istore i, 2)) (hv : storeLocals Ls i (.int v) = some Ls') (hp : pc + 2 = pc') (G : Go p e below P (T.setTop (mkF m pc' Ls' (st)))) : Go p e below P (T.setTop (mkF m pc Ls (.int v :: st))) := by
  subst hp; exact Go.of G fun _ q => XS.istore X.here hx rfl hd rfl hv q
theorem g_lstore_n (X : Stand p l e R s m args below meth c T locs cells slots) (hx : p.tables.exec = Jvm.exec) {pc : Nat} (pc' : Nat) {Ls : Array Slot} {st : List Value} {i : Fin 4} {v : Int64} (Ls' : Array Slot) (hd : decode c.code pc = .ok (.lstore_n i, 1)) (hv : storeLocals Ls i.val (.long v) = some Ls') (hp : pc + 1 = pc') (G : Go p e below P (T.setTop (mkF m pc' Ls' (st)))) : Go p e below P (T.setTop (mkF m pc Ls (.long v :: st))) := by
  subst hp; exact Go.of G fun _ q => XT.lstoreN X.here hx rfl hd rfl hv q
theorem g_lstore (X : Stand p l e R s m args below meth c T locs cells slots) (hx : p.tables.exec = Jvm.exec) {pc : Nat} (pc' : Nat) {Ls : Array Slot} {st : List Value} {i : Nat} {v : Int64} (Ls' : Array Slot) (hd : decode c.code pc = .ok (.lstore i, 2)) (hv : storeLocals Ls i (.long v) = some Ls') (hp : pc + 2 = pc') (G : Go p e below P (T.setTop (mkF m pc' Ls' (st)))) : Go p e below P (T.setTop (mkF m pc Ls (.long v :: st))) := by
  subst hp; exact Go.of G fun _ q => XT.lstore X.here hx rfl hd rfl hv q
theorem g_astore_n (X : Stand p l e R s m args below meth c T locs cells slots) (hx : p.tables.exec = Jvm.exec) {pc : Nat} (pc' : Nat) {Ls : Array Slot} {st : List Value} {i : Fin 4} {v : Value} (Ls' : Array Slot) (hd : decode c.code pc = .ok (.astore_n i, 1)) (hr : v.isRef = true) (hv : storeLocals Ls i.val v = some Ls') (hp : pc + 1 = pc') (G : Go p e below P (T.setTop (mkF m pc' Ls' (st)))) : Go p e below P (T.setTop (mkF m pc Ls (v :: st))) := by
  subst hp; exact Go.of G fun _ q => XS.astoreN X.here hx rfl hd rfl hr hv q
theorem g_astore (X : Stand p l e R s m args below meth c T locs cells slots) (hx : p.tables.exec = Jvm.exec) {pc : Nat} (pc' : Nat) {Ls : Array Slot} {st : List Value} {i : Nat} {v : Value} (Ls' : Array Slot) (hd : decode c.code pc = .ok (.astore i, 2)) (hr : v.isRef = true) (hv : storeLocals Ls i v = some Ls') (hp : pc + 2 = pc') (G : Go p e below P (T.setTop (mkF m pc' Ls' (st)))) : Go p e below P (T.setTop (mkF m pc Ls (v :: st))) := by
  subst hp; exact Go.of G fun _ q => XS.astore X.here hx rfl hd rfl hr hv q
theorem g_iinc (X : Stand p l e R s m args below meth c T locs cells slots) (hx : p.tables.exec = Jvm.exec) {pc : Nat} (pc' : Nat) {Ls : Array Slot} {st : List Value} {i : Nat} {k : Int} {x : Int32} (v : Int32) (Ls' : Array Slot) (hd : decode c.code pc = .ok (.iinc i k, 3)) (hk : Int32.ofInt k = v) (hv : Ls[i]? = some (.val (.int x))) (hl : storeLocals Ls i (.int (x + v)) = some Ls') (hp : pc + 3 = pc') (G : Go p e below P (T.setTop (mkF m pc' Ls' (st)))) : Go p e below P (T.setTop (mkF m pc Ls (st))) := by
  subst hp; exact Go.of G fun _ q => XT.iincV X.here hx rfl v hd hk hv hl q
theorem g_iadd (X : Stand p l e R s m args below meth c T locs cells slots) (hx : p.tables.exec = Jvm.exec) {pc : Nat} (pc' : Nat) {Ls : Array Slot} {st : List Value} {x y : Int32} (hd : decode c.code pc = .ok (.iadd, 1))  (hp : pc + 1 = pc') (G : Go p e below P (T.setTop (mkF m pc' Ls (.int (x + y) :: st)))) : Go p e below P (T.setTop (mkF m pc Ls (.int y :: .int x :: st))) := by
  subst hp; exact Go.of G fun _ q => XS.iadd X.here hx rfl hd rfl q
theorem g_isub (X : Stand p l e R s m args below meth c T locs cells slots) (hx : p.tables.exec = Jvm.exec) {pc : Nat} (pc' : Nat) {Ls : Array Slot} {st : List Value} {x y : Int32} (hd : decode c.code pc = .ok (.isub, 1))  (hp : pc + 1 = pc') (G : Go p e below P (T.setTop (mkF m pc' Ls (.int (x - y) :: st)))) : Go p e below P (T.setTop (mkF m pc Ls (.int y :: .int x :: st))) := by
  subst hp; exact Go.of G fun _ q => XS.isub X.here hx rfl hd rfl q
theorem g_iand (X : Stand p l e R s m args below meth c T locs cells slots) (hx : p.tables.exec = Jvm.exec) {pc : Nat} (pc' : Nat) {Ls : Array Slot} {st : List Value} {x y : Int32} (hd : decode c.code pc = .ok (.iand, 1))  (hp : pc + 1 = pc') (G : Go p e below P (T.setTop (mkF m pc' Ls (.int (x &&& y) :: st)))) : Go p e below P (T.setTop (mkF m pc Ls (.int y :: .int x :: st))) := by
  subst hp; exact Go.of G fun _ q => XS.iand X.here hx rfl hd rfl q
theorem g_imul (X : Stand p l e R s m args below meth c T locs cells slots) (hx : p.tables.exec = Jvm.exec) {pc : Nat} (pc' : Nat) {Ls : Array Slot} {st : List Value} {x y : Int32} (hd : decode c.code pc = .ok (.imul, 1))  (hp : pc + 1 = pc') (G : Go p e below P (T.setTop (mkF m pc' Ls (.int (x * y) :: st)))) : Go p e below P (T.setTop (mkF m pc Ls (.int y :: .int x :: st))) := by
  subst hp; exact Go.of G fun _ q => XS.imul X.here hx rfl hd rfl q
theorem g_ior (X : Stand p l e R s m args below meth c T locs cells slots) (hx : p.tables.exec = Jvm.exec) {pc : Nat} (pc' : Nat) {Ls : Array Slot} {st : List Value} {x y : Int32} (hd : decode c.code pc = .ok (.ior, 1))  (hp : pc + 1 = pc') (G : Go p e below P (T.setTop (mkF m pc' Ls (.int (x ||| y) :: st)))) : Go p e below P (T.setTop (mkF m pc Ls (.int y :: .int x :: st))) := by
  subst hp; exact Go.of G fun _ q => XT.ior X.here hx rfl hd rfl q
theorem g_ixor (X : Stand p l e R s m args below meth c T locs cells slots) (hx : p.tables.exec = Jvm.exec) {pc : Nat} (pc' : Nat) {Ls : Array Slot} {st : List Value} {x y : Int32} (hd : decode c.code pc = .ok (.ixor, 1))  (hp : pc + 1 = pc') (G : Go p e below P (T.setTop (mkF m pc' Ls (.int (x ^^^ y) :: st)))) : Go p e below P (T.setTop (mkF m pc Ls (.int y :: .int x :: st))) := by
  subst hp; exact Go.of G fun _ q => XT.ixor X.here hx rfl hd rfl q
theorem g_ishl (X : Stand p l e R s m args below meth c T locs cells slots) (hx : p.tables.exec = Jvm.exec) {pc : Nat} (pc' : Nat) {Ls : Array Slot} {st : List Value} {x y : Int32} (hd : decode c.code pc = .ok (.ishl, 1))  (hp : pc + 1 = pc') (G : Go p e below P (T.setTop (mkF m pc' Ls (.int (x <<< (y &&& 31)) :: st)))) : Go p e below P (T.setTop (mkF m pc Ls (.int y :: .int x :: st))) := by
  subst hp; exact Go.of G fun _ q => XT.ishl X.here hx rfl hd rfl q
theorem g_ishr (X : Stand p l e R s m args below meth c T locs cells slots) (hx : p.tables.exec = Jvm.exec) {pc : Nat} (pc' : Nat) {Ls : Array Slot} {st : List Value} {x y : Int32} (hd : decode c.code pc = .ok (.ishr, 1))  (hp : pc + 1 = pc') (G : Go p e below P (T.setTop (mkF m pc' Ls (.int (x >>> (y &&& 31)) :: st)))) : Go p e below P (T.setTop (mkF m pc Ls (.int y :: .int x :: st))) := by
  subst hp; exact Go.of G fun _ q => XT.ishr X.here hx rfl hd rfl q
theorem g_iushr (X : Stand p l e R s m args below meth c T locs cells slots) (hx : p.tables.exec = Jvm.exec) {pc : Nat} (pc' : Nat) {Ls : Array Slot} {st : List Value} {x y : Int32} (hd : decode c.code pc = .ok (.iushr, 1))  (hp : pc + 1 = pc') (G : Go p e below P (T.setTop (mkF m pc' Ls (.int (XT.ushr x y) :: st)))) : Go p e below P (T.setTop (mkF m pc Ls (.int y :: .int x :: st))) := by
  subst hp; exact Go.of G fun _ q => XT.iushr X.here hx rfl hd rfl q
theorem g_idiv (X : Stand p l e R s m args below meth c T locs cells slots) (hx : p.tables.exec = Jvm.exec) {pc : Nat} (pc' : Nat) {Ls : Array Slot} {st : List Value} {x y : Int32} (hd : decode c.code pc = .ok (.idiv, 1)) (hy : y ≠ 0) (hp : pc + 1 = pc') (G : Go p e below P (T.setTop (mkF m pc' Ls (.int (x / y) :: st)))) : Go p e below P (T.setTop (mkF m pc Ls (.int y :: .int x :: st))) := by
  subst hp; exact Go.of G fun _ q => XS.idiv X.here hx rfl hd rfl hy q
theorem g_irem (X : Stand p l e R s m args below meth c T locs cells slots) (hx : p.tables.exec = Jvm.exec) {pc : Nat} (pc' : Nat) {Ls : Array Slot} {st : List Value} {x y : Int32} (hd : decode c.code pc = .ok (.irem, 1)) (hy : y ≠ 0) (hp : pc + 1 = pc') (G : Go p e below P (T.setTop (mkF m pc' Ls (.int (x % y) :: st)))) : Go p e below P (T.setTop (mkF m pc Ls (.int y :: .int x :: st))) := by
  subst hp; exact Go.of G fun _ q => iremM X hx rfl hd rfl hy q
theorem g_ineg (X : Stand p l e R s m args below meth c T locs cells slots) (hx : p.tables.exec = Jvm.exec) {pc : Nat} (pc' : Nat) {Ls : Array Slot} {st : List Value} {x : Int32} (hd : decode c.code pc = .ok (.ineg, 1))  (hp : pc + 1 = pc') (G : Go p e below P (T.setTop (mkF m pc' Ls (.int (-x) :: st)))) : Go p e below P (T.setTop (mkF m pc Ls (.int x :: st))) := by
  subst hp; exact Go.of G fun _ q => XS.ineg X.here hx rfl hd rfl q
theorem g_ladd (X : Stand p l e R s m args below meth c T locs cells slots) (hx : p.tables.exec = Jvm.exec) {pc : Nat} (pc' : Nat) {Ls : Array Slot} {st : List Value} {x y : Int64} (hd : decode c.code pc = .ok (.ladd, 1))  (hp : pc + 1 = pc') (G : Go p e below P (T.setTop (mkF m pc' Ls (.long (x + y) :: st)))) : Go p e below P (T.setTop (mkF m pc Ls (.long y :: .long x :: st))) := by
  subst hp; exact Go.of G fun _ q => XT.ladd X.here hx rfl hd rfl q
theorem g_lsub (X : Stand p l e R s m args below meth c T locs cells slots) (hx : p.tables.exec = Jvm.exec) {pc : Nat} (pc' : Nat) {Ls : Array Slot} {st : List Value} {x y : Int64} (hd : decode c.code pc = .ok (.lsub, 1))  (hp : pc + 1 = pc') (G : Go p e below P (T.setTop (mkF m pc' Ls (.long (x - y) :: st)))) : Go p e below P (T.setTop (mkF m pc Ls (.long y :: .long x :: st))) := by
  subst hp; exact Go.of G fun _ q => XT.lsub X.here hx rfl hd rfl q
theorem g_lmul (X : Stand p l e R s m args below meth c T locs cells slots) (hx : p.tables.exec = Jvm.exec) {pc : Nat} (pc' : Nat) {Ls : Array Slot} {st : List Value} {x y : Int64} (hd : decode c.code pc = .ok (.lmul, 1))  (hp : pc + 1 = pc') (G : Go p e below P (T.setTop (mkF m pc' Ls (.long (x * y) :: st)))) : Go p e below P (T.setTop (mkF m pc Ls (.long y :: .long x :: st))) := by
  subst hp; exact Go.of G fun _ q => XT.lmul X.here hx rfl hd rfl q
theorem g_land (X : Stand p l e R s m args below meth c T locs cells slots) (hx : p.tables.exec = Jvm.exec) {pc : Nat} (pc' : Nat) {Ls : Array Slot} {st : List Value} {x y : Int64} (hd : decode c.code pc = .ok (.land, 1))  (hp : pc + 1 = pc') (G : Go p e below P (T.setTop (mkF m pc' Ls (.long (x &&& y) :: st)))) : Go p e below P (T.setTop (mkF m pc Ls (.long y :: .long x :: st))) := by
  subst hp; exact Go.of G fun _ q => XT.land X.here hx rfl hd rfl q
theorem g_lor (X : Stand p l e R s m args below meth c T locs cells slots) (hx : p.tables.exec = Jvm.exec) {pc : Nat} (pc' : Nat) {Ls : Array Slot} {st : List Value} {x y : Int64} (hd : decode c.code pc = .ok (.lor, 1))  (hp : pc + 1 = pc') (G : Go p e below P (T.setTop (mkF m pc' Ls (.long (x ||| y) :: st)))) : Go p e below P (T.setTop (mkF m pc Ls (.long y :: .long x :: st))) := by
  subst hp; exact Go.of G fun _ q => XT.lor X.here hx rfl hd rfl q
theorem g_lxor (X : Stand p l e R s m args below meth c T locs cells slots) (hx : p.tables.exec = Jvm.exec) {pc : Nat} (pc' : Nat) {Ls : Array Slot} {st : List Value} {x y : Int64} (hd : decode c.code pc = .ok (.lxor, 1))  (hp : pc + 1 = pc') (G : Go p e below P (T.setTop (mkF m pc' Ls (.long (x ^^^ y) :: st)))) : Go p e below P (T.setTop (mkF m pc Ls (.long y :: .long x :: st))) := by
  subst hp; exact Go.of G fun _ q => XT.lxor X.here hx rfl hd rfl q
theorem g_ldiv (X : Stand p l e R s m args below meth c T locs cells slots) (hx : p.tables.exec = Jvm.exec) {pc : Nat} (pc' : Nat) {Ls : Array Slot} {st : List Value} {x y : Int64} (hd : decode c.code pc = .ok (.ldiv, 1)) (hy : y ≠ 0) (hp : pc + 1 = pc') (G : Go p e below P (T.setTop (mkF m pc' Ls (.long (x / y) :: st)))) : Go p e below P (T.setTop (mkF m pc Ls (.long y :: .long x :: st))) := by
  subst hp; exact Go.of G fun _ q => XT.ldiv X.here hx rfl hd rfl hy q
theorem g_lrem (X : Stand p l e R s m args below meth c T locs cells slots) (hx : p.tables.exec = Jvm.exec) {pc : Nat} (pc' : Nat) {Ls : Array Slot} {st : List Value} {x y : Int64} (hd : decode c.code pc = .ok (.lrem, 1)) (hy : y ≠ 0) (hp : pc + 1 = pc') (G : Go p e below P (T.setTop (mkF m pc' Ls (.long (x % y) :: st)))) : Go p e below P (T.setTop (mkF m pc Ls (.long y :: .long x :: st))) := by
  subst hp; exact Go.of G fun _ q => XT.lrem X.here hx rfl hd rfl hy (by rw [Jvm.RoadKit.lrem_mod]; exact q)
theorem g_lneg (X : Stand p l e R s m args below meth c T locs cells slots) (hx : p.tables.exec = Jvm.exec) {pc : Nat} (pc' : Nat) {Ls : Array Slot} {st : List Value} {x : Int64} (hd : decode c.code pc = .ok (.lneg, 1))  (hp : pc + 1 = pc') (G : Go p e below P (T.setTop (mkF m pc' Ls (.long (-x) :: st)))) : Go p e below P (T.setTop (mkF m pc Ls (.long x :: st))) := by
  subst hp; exact Go.of G fun _ q => XT.lneg X.here hx rfl hd rfl q
theorem g_lshl (X : Stand p l e R s m args below meth c T locs cells slots) (hx : p.tables.exec = Jvm.exec) {pc : Nat} (pc' : Nat) {Ls : Array Slot} {st : List Value} {x : Int64} {y : Int32} (hd : decode c.code pc = .ok (.lshl, 1))  (hp : pc + 1 = pc') (G : Go p e below P (T.setTop (mkF m pc' Ls (.long (x <<< (y.toInt64 &&& 63)) :: st)))) : Go p e below P (T.setTop (mkF m pc Ls (.int y :: .long x :: st))) := by
  subst hp; exact Go.of G fun _ q => XT.lshl X.here hx rfl hd rfl q
theorem g_lshr (X : Stand p l e R s m args below meth c T locs cells slots) (hx : p.tables.exec = Jvm.exec) {pc : Nat} (pc' : Nat) {Ls : Array Slot} {st : List Value} {x : Int64} {y : Int32} (hd : decode c.code pc = .ok (.lshr, 1))  (hp : pc + 1 = pc') (G : Go p e below P (T.setTop (mkF m pc' Ls (.long (x >>> (y.toInt64 &&& 63)) :: st)))) : Go p e below P (T.setTop (mkF m pc Ls (.int y :: .long x :: st))) := by
  subst hp; exact Go.of G fun _ q => XT.lshr X.here hx rfl hd rfl q
theorem g_lushr (X : Stand p l e R s m args below meth c T locs cells slots) (hx : p.tables.exec = Jvm.exec) {pc : Nat} (pc' : Nat) {Ls : Array Slot} {st : List Value} {x : Int64} {y : Int32} (hd : decode c.code pc = .ok (.lushr, 1))  (hp : pc + 1 = pc') (G : Go p e below P (T.setTop (mkF m pc' Ls (.long (XT.ushrL x y) :: st)))) : Go p e below P (T.setTop (mkF m pc Ls (.int y :: .long x :: st))) := by
  subst hp; exact Go.of G fun _ q => XT.lushr X.here hx rfl hd rfl q
theorem g_lcmp (X : Stand p l e R s m args below meth c T locs cells slots) (hx : p.tables.exec = Jvm.exec) {pc : Nat} (pc' : Nat) {Ls : Array Slot} {st : List Value} {x y : Int64} (hd : decode c.code pc = .ok (.lcmp, 1))  (hp : pc + 1 = pc') (G : Go p e below P (T.setTop (mkF m pc' Ls (.int (XT.cmpL x y) :: st)))) : Go p e below P (T.setTop (mkF m pc Ls (.long y :: .long x :: st))) := by
  subst hp; exact Go.of G fun _ q => XT.lcmp X.here hx rfl hd rfl q
theorem g_i2l (X : Stand p l e R s m args below meth c T locs cells slots) (hx : p.tables.exec = Jvm.exec) {pc : Nat} (pc' : Nat) {Ls : Array Slot} {st : List Value} {x : Int32} (hd : decode c.code pc = .ok (.i2l, 1))  (hp : pc + 1 = pc') (G : Go p e below P (T.setTop (mkF m pc' Ls (.long (x.toInt64) :: st)))) : Go p e below P (T.setTop (mkF m pc Ls (.int x :: st))) := by
  subst hp; exact Go.of G fun _ q => XT.i2l X.here hx rfl hd rfl q
theorem g_l2i (X : Stand p l e R s m args below meth c T locs cells slots) (hx : p.tables.exec = Jvm.exec) {pc : Nat} (pc' : Nat) {Ls : Array Slot} {st : List Value} {x : Int64} (hd : decode c.code pc = .ok (.l2i, 1))  (hp : pc + 1 = pc') (G : Go p e below P (T.setTop (mkF m pc' Ls (.int (x.toInt32) :: st)))) : Go p e below P (T.setTop (mkF m pc Ls (.long x :: st))) := by
  subst hp; exact Go.of G fun _ q => XT.l2i X.here hx rfl hd rfl q
theorem g_i2b (X : Stand p l e R s m args below meth c T locs cells slots) (hx : p.tables.exec = Jvm.exec) {pc : Nat} (pc' : Nat) {Ls : Array Slot} {st : List Value} {x : Int32} (hd : decode c.code pc = .ok (.i2b, 1))  (hp : pc + 1 = pc') (G : Go p e below P (T.setTop (mkF m pc' Ls (.int (x.toInt8.toInt32) :: st)))) : Go p e below P (T.setTop (mkF m pc Ls (.int x :: st))) := by
  subst hp; exact Go.of G fun _ q => XT.i2b X.here hx rfl hd rfl q
theorem g_i2c (X : Stand p l e R s m args below meth c T locs cells slots) (hx : p.tables.exec = Jvm.exec) {pc : Nat} (pc' : Nat) {Ls : Array Slot} {st : List Value} {x : Int32} (hd : decode c.code pc = .ok (.i2c, 1))  (hp : pc + 1 = pc') (G : Go p e below P (T.setTop (mkF m pc' Ls (.int (x.toUInt32.toUInt16.toUInt32.toInt32) :: st)))) : Go p e below P (T.setTop (mkF m pc Ls (.int x :: st))) := by
  subst hp; exact Go.of G fun _ q => XT.i2c X.here hx rfl hd rfl q
theorem g_i2s (X : Stand p l e R s m args below meth c T locs cells slots) (hx : p.tables.exec = Jvm.exec) {pc : Nat} (pc' : Nat) {Ls : Array Slot} {st : List Value} {x : Int32} (hd : decode c.code pc = .ok (.i2s, 1))  (hp : pc + 1 = pc') (G : Go p e below P (T.setTop (mkF m pc' Ls (.int (x.toInt16.toInt32) :: st)))) : Go p e below P (T.setTop (mkF m pc Ls (.int x :: st))) := by
  subst hp; exact Go.of G fun _ q => XT.i2s X.here hx rfl hd rfl q
theorem g_dup (X : Stand p l e R s m args below meth c T locs cells slots) (hx : p.tables.exec = Jvm.exec) {pc : Nat} (pc' : Nat) {Ls : Array Slot} {st : List Value} {x : Value} (hd : decode c.code pc = .ok (.dup, 1)) (hc : x.category = 1) (hp : pc + 1 = pc') (G : Go p e below P (T.setTop (mkF m pc' Ls (x :: x :: st)))) : Go p e below P (T.setTop (mkF m pc Ls (x :: st))) := by
  subst hp; exact Go.of G fun _ q => XS.dup X.here hx rfl hd rfl hc q
theorem g_pop (X : Stand p l e R s m args below meth c T locs cells slots) (hx : p.tables.exec = Jvm.exec) {pc : Nat} (pc' : Nat) {Ls : Array Slot} {st : List Value} {x : Value} (hd : decode c.code pc = .ok (.pop, 1)) (hc : x.category = 1) (hp : pc + 1 = pc') (G : Go p e below P (T.setTop (mkF m pc' Ls (st)))) : Go p e below P (T.setTop (mkF m pc Ls (x :: st))) := by
  subst hp; exact Go.of G fun _ q => XT.pop X.here hx rfl hd rfl hc q
theorem g_dup_x1 (X : Stand p l e R s m args below meth c T locs cells slots) (hx : p.tables.exec = Jvm.exec) {pc : Nat} (pc' : Nat) {Ls : Array Slot} {st : List Value} {x y : Value} (hd : decode c.code pc = .ok (.dup_x1, 1)) (hc : x.category = 1) (hc' : y.category = 1) (hp : pc + 1 = pc') (G : Go p e below P (T.setTop (mkF m pc' Ls (x :: y :: x :: st)))) : Go p e below P (T.setTop (mkF m pc Ls (x :: y :: st))) := by
  subst hp; exact Go.of G fun _ q => XT.dupX1 X.here hx rfl hd rfl hc hc' q
theorem g_dup2 (X : Stand p l e R s m args below meth c T locs cells slots) (hx : p.tables.exec = Jvm.exec) {pc : Nat} (pc' : Nat) {Ls : Array Slot} {st : List Value} {x y : Value} (hd : decode c.code pc = .ok (.dup2, 1)) (hc : x.category = 1) (hc' : y.category = 1) (hp : pc + 1 = pc') (G : Go p e below P (T.setTop (mkF m pc' Ls (x :: y :: x :: y :: st)))) : Go p e below P (T.setTop (mkF m pc Ls (x :: y :: st))) := by
  subst hp; exact Go.of G fun _ q => XT.dup2 X.here hx rfl hd rfl hc hc' q
theorem g_ldc (X : Stand p l e R s m args below meth c T locs cells slots) (hx : p.tables.exec = Jvm.exec) {pc : Nat} (pc' : Nat) {Ls : Array Slot} {st : List Value} {own : String} {i : Nat} {v : Int32} (hd : decode c.code pc = .ok (.ldc i, 2)) (hown : s.vm.findClass own = some m.cls) (hw : (Jvm.Cond.constant own i v).before args s = true) (hp : pc + 2 = pc') (G : Go p e below P (T.setTop (mkF m pc' Ls (.int v :: st)))) : Go p e below P (T.setTop (mkF m pc Ls (st))) := by
  subst hp; exact Go.of G fun _ q => X.ldcI hx hown hw rfl hd q
theorem g_ldc2_w (X : Stand p l e R s m args below meth c T locs cells slots) (hx : p.tables.exec = Jvm.exec) {pc : Nat} (pc' : Nat) {Ls : Array Slot} {st : List Value} {own : String} {i : Nat} {v : Int64} (hd : decode c.code pc = .ok (.ldc2_w i, 3)) (hown : s.vm.findClass own = some m.cls) (hw : (Jvm.Cond.constantLong own i v).before args s = true) (hp : pc + 3 = pc') (G : Go p e below P (T.setTop (mkF m pc' Ls (.long v :: st)))) : Go p e below P (T.setTop (mkF m pc Ls (st))) := by
  subst hp; exact Go.of G fun _ q => X.ldc2J hx hown hw rfl hd q
theorem g_ifN (X : Stand p l e R s m args below meth c T locs cells slots) (hx : p.tables.exec = Jvm.exec) {pc : Nat} (pc' : Nat) {Ls : Array Slot} {st : List Value} {cd : ClassFile.Cond} {o : Int} {x : Int32} (hd : decode c.code pc = .ok (.ifCond cd o, 3)) (hc : ifCond.holds cd x = false) (hp : pc + 3 = pc') (G : Go p e below P (T.setTop (mkF m pc' Ls (st)))) : Go p e below P (T.setTop (mkF m pc Ls (.int x :: st))) := by
  subst hp; exact Go.of G fun _ q => XS.ifNo X.here hx rfl hd rfl hc q
theorem g_icmpN (X : Stand p l e R s m args below meth c T locs cells slots) (hx : p.tables.exec = Jvm.exec) {pc : Nat} (pc' : Nat) {Ls : Array Slot} {st : List Value} {cd : ClassFile.Cond} {o : Int} {x y : Int32} (hd : decode c.code pc = .ok (.if_icmp cd o, 3)) (hc : if_icmp.holds cd x y = false) (hp : pc + 3 = pc') (G : Go p e below P (T.setTop (mkF m pc' Ls (st)))) : Go p e below P (T.setTop (mkF m pc Ls (.int y :: .int x :: st))) := by
  subst hp; exact Go.of G fun _ q => XS.icmpNo X.here hx rfl hd rfl hc q
theorem g_acmpN (X : Stand p l e R s m args below meth c T locs cells slots) (hx : p.tables.exec = Jvm.exec) {pc : Nat} (pc' : Nat) {Ls : Array Slot} {st : List Value} {cd : ClassFile.ACond} {o : Int} {x y : Value} (hd : decode c.code pc = .ok (.if_acmp cd o, 3)) (hx' : x.isRef = true) (hy' : y.isRef = true) (hc : XT.acmp cd x y = false) (hp : pc + 3 = pc') (G : Go p e below P (T.setTop (mkF m pc' Ls (st)))) : Go p e below P (T.setTop (mkF m pc Ls (y :: x :: st))) := by
  subst hp; exact Go.of G fun _ q => XT.acmpNo X.here hx rfl hd rfl hx' hy' hc q
theorem g_ifnullN (X : Stand p l e R s m args below meth c T locs cells slots) (hx : p.tables.exec = Jvm.exec) {pc : Nat} (pc' : Nat) {Ls : Array Slot} {st : List Value} {o : Int} {b : Addr} (hd : decode c.code pc = .ok (.ifnull o, 3))  (hp : pc + 3 = pc') (G : Go p e below P (T.setTop (mkF m pc' Ls (st)))) : Go p e below P (T.setTop (mkF m pc Ls (.ref b :: st))) := by
  subst hp; exact Go.of G fun _ q => XS.ifnullNo X.here hx rfl hd rfl q
theorem g_ifnonnullN (X : Stand p l e R s m args below meth c T locs cells slots) (hx : p.tables.exec = Jvm.exec) {pc : Nat} (pc' : Nat) {Ls : Array Slot} {st : List Value} {o : Int} (hd : decode c.code pc = .ok (.ifnonnull o, 3))  (hp : pc + 3 = pc') (G : Go p e below P (T.setTop (mkF m pc' Ls (st)))) : Go p e below P (T.setTop (mkF m pc Ls (.null :: st))) := by
  subst hp; exact Go.of G fun _ q => XT.ifnonnullNo X.here hx rfl hd rfl q
theorem g_dload_n (X : Stand p l e R s m args below meth c T locs cells slots) (hx : p.tables.exec = Jvm.exec) {pc : Nat} (pc' : Nat) {Ls : Array Slot} {st : List Value} {i : Fin 4} (v : UInt64) (hd : decode c.code pc = .ok (.dload_n i, 1)) (hv : Ls[i.val]? = some (.val (.double v))) (hp : pc + 1 = pc') (G : Go p e below P (T.setTop (mkF m pc' Ls (.double v :: st)))) : Go p e below P (T.setTop (mkF m pc Ls (st))) := by
  subst hp; exact Go.of G fun _ q => XS.dloadN X.here hx rfl hd hv q
theorem g_dload (X : Stand p l e R s m args below meth c T locs cells slots) (hx : p.tables.exec = Jvm.exec) {pc : Nat} (pc' : Nat) {Ls : Array Slot} {st : List Value} {i : Nat} (v : UInt64) (hd : decode c.code pc = .ok (.dload i, 2)) (hv : Ls[i]? = some (.val (.double v))) (hp : pc + 2 = pc') (G : Go p e below P (T.setTop (mkF m pc' Ls (.double v :: st)))) : Go p e below P (T.setTop (mkF m pc Ls (st))) := by
  subst hp; exact Go.of G fun _ q => XS.dload X.here hx rfl hd hv q
theorem g_dstore_n (X : Stand p l e R s m args below meth c T locs cells slots) (hx : p.tables.exec = Jvm.exec) {pc : Nat} (pc' : Nat) {Ls : Array Slot} {st : List Value} {i : Fin 4} {v : UInt64} (Ls' : Array Slot) (hd : decode c.code pc = .ok (.dstore_n i, 1)) (hv : storeLocals Ls i.val (.double v) = some Ls') (hp : pc + 1 = pc') (G : Go p e below P (T.setTop (mkF m pc' Ls' (st)))) : Go p e below P (T.setTop (mkF m pc Ls (.double v :: st))) := by
  subst hp; exact Go.of G fun _ q => XS.dstoreN X.here hx rfl hd rfl hv q
theorem g_dstore (X : Stand p l e R s m args below meth c T locs cells slots) (hx : p.tables.exec = Jvm.exec) {pc : Nat} (pc' : Nat) {Ls : Array Slot} {st : List Value} {i : Nat} {v : UInt64} (Ls' : Array Slot) (hd : decode c.code pc = .ok (.dstore i, 2)) (hv : storeLocals Ls i (.double v) = some Ls') (hp : pc + 2 = pc') (G : Go p e below P (T.setTop (mkF m pc' Ls' (st)))) : Go p e below P (T.setTop (mkF m pc Ls (.double v :: st))) := by
  subst hp; exact Go.of G fun _ q => XS.dstore X.here hx rfl hd rfl hv q
theorem g_dconst0 (X : Stand p l e R s m args below meth c T locs cells slots) (hx : p.tables.exec = Jvm.exec) {pc : Nat} (pc' : Nat) {Ls : Array Slot} {st : List Value} (v : UInt64) (hd : decode c.code pc = .ok (.dconst 0, 1)) (hv : FP.dconst0 = v) (hp : pc + 1 = pc') (G : Go p e below P (T.setTop (mkF m pc' Ls (.double v :: st)))) : Go p e below P (T.setTop (mkF m pc Ls (st))) := by
  subst hp; exact Go.of G fun _ q => XS.dconst0 X.here hx rfl hd hv q
theorem g_i2d (X : Stand p l e R s m args below meth c T locs cells slots) (hx : p.tables.exec = Jvm.exec) {pc : Nat} (pc' : Nat) {Ls : Array Slot} {st : List Value} {x : Int32} (hd : decode c.code pc = .ok (.i2d, 1))  (hp : pc + 1 = pc') (G : Go p e below P (T.setTop (mkF m pc' Ls (.double (FP.i2d x) :: st)))) : Go p e below P (T.setTop (mkF m pc Ls (.int x :: st))) := by
  subst hp; exact Go.of G fun _ q => XS.i2dS X.here hx rfl hd rfl rfl q
theorem g_l2d (X : Stand p l e R s m args below meth c T locs cells slots) (hx : p.tables.exec = Jvm.exec) {pc : Nat} (pc' : Nat) {Ls : Array Slot} {st : List Value} {x : Int64} (hd : decode c.code pc = .ok (.l2d, 1))  (hp : pc + 1 = pc') (G : Go p e below P (T.setTop (mkF m pc' Ls (.double (FP.l2d x) :: st)))) : Go p e below P (T.setTop (mkF m pc Ls (.long x :: st))) := by
  subst hp; exact Go.of G fun _ q => XS.l2dS X.here hx rfl hd rfl rfl q
theorem g_ddiv (X : Stand p l e R s m args below meth c T locs cells slots) (hx : p.tables.exec = Jvm.exec) {pc : Nat} (pc' : Nat) {Ls : Array Slot} {st : List Value} {x y : UInt64} (hd : decode c.code pc = .ok (.ddiv, 1)) (hn : Jvm.Free.Fl.NoNaN64 (FP.ddiv x y)) (hp : pc + 1 = pc') (G : Go p e below P (T.setTop (mkF m pc' Ls (.double (FP.ddiv x y) :: st)))) : Go p e below P (T.setTop (mkF m pc Ls (.double y :: .double x :: st))) := by
  subst hp; exact Go.of G fun _ q => XS.ddivS X.here hx rfl hd rfl hn rfl q
theorem g_dmul (X : Stand p l e R s m args below meth c T locs cells slots) (hx : p.tables.exec = Jvm.exec) {pc : Nat} (pc' : Nat) {Ls : Array Slot} {st : List Value} {x y : UInt64} (hd : decode c.code pc = .ok (.dmul, 1)) (hn : Jvm.Free.Fl.NoNaN64 (FP.dmul x y)) (hp : pc + 1 = pc') (G : Go p e below P (T.setTop (mkF m pc' Ls (.double (FP.dmul x y) :: st)))) : Go p e below P (T.setTop (mkF m pc Ls (.double y :: .double x :: st))) := by
  subst hp; exact Go.of G fun _ q => XS.dmulS X.here hx rfl hd rfl hn rfl q
theorem g_dcmp (X : Stand p l e R s m args below meth c T locs cells slots) (hx : p.tables.exec = Jvm.exec) {pc : Nat} (pc' : Nat) {Ls : Array Slot} {st : List Value} {o : CmpOp} {x y : UInt64} (hd : decode c.code pc = .ok (.dcmp o, 1))  (hp : pc + 1 = pc') (G : Go p e below P (T.setTop (mkF m pc' Ls (.int (cmpValue (FP.dcmp x y) o) :: st)))) : Go p e below P (T.setTop (mkF m pc Ls (.double y :: .double x :: st))) := by
  subst hp; exact Go.of G fun _ q => XS.dcmpS X.here hx rfl hd rfl rfl q
theorem g_ldc2_wD (X : Stand p l e R s m args below meth c T locs cells slots) (hx : p.tables.exec = Jvm.exec) {pc : Nat} (pc' : Nat) {Ls : Array Slot} {st : List Value} {own : String} {i : Nat} {v : UInt64} (hd : decode c.code pc = .ok (.ldc2_w i, 3)) (hown : s.vm.findClass own = some m.cls) (hw : (Jvm.Cond.constantDouble own i v).before args s = true) (hp : pc + 3 = pc') (G : Go p e below P (T.setTop (mkF m pc' Ls (.double v :: st)))) : Go p e below P (T.setTop (mkF m pc Ls (st))) := by
  subst hp; exact Go.of G fun _ q => X.ldc2DoubleC hx hown hw (g := mkF m pc Ls st) rfl hd _ q
theorem g_goto (X : Stand p l e R s m args below meth c T locs cells slots) (hx : p.tables.exec = Jvm.exec) {pc : Nat} (pc' : Nat) {o : Int} {Ls : Array Slot} {st : List Value}  (hd : decode c.code pc = .ok (.goto o, 3))  (ho : 0 ≤ (pc : Int) + o) (hp : ((pc : Int) + o).toNat = pc') (G : Go p e below P (T.setTop (mkF m pc' Ls st))) : Go p e below P (T.setTop (mkF m pc Ls (st))) :=
  Go.of G fun _ q => XS.goto X.here hx rfl (pc0 := pc) rfl hd ho hp q
theorem g_ifY (X : Stand p l e R s m args below meth c T locs cells slots) (hx : p.tables.exec = Jvm.exec) {pc : Nat} (pc' : Nat) {o : Int} {Ls : Array Slot} {st : List Value} {cd : ClassFile.Cond} {x : Int32} (hd : decode c.code pc = .ok (.ifCond cd o, 3)) (hc : ifCond.holds cd x = true) (ho : 0 ≤ (pc : Int) + o) (hp : ((pc : Int) + o).toNat = pc') (G : Go p e below P (T.setTop (mkF m pc' Ls st))) : Go p e below P (T.setTop (mkF m pc Ls (.int x :: st))) :=
  Go.of G fun _ q => XS.ifYes X.here hx rfl (pc0 := pc) rfl hd rfl hc ho hp q
theorem g_icmpY (X : Stand p l e R s m args below meth c T locs cells slots) (hx : p.tables.exec = Jvm.exec) {pc : Nat} (pc' : Nat) {o : Int} {Ls : Array Slot} {st : List Value} {cd : ClassFile.Cond} {x y : Int32} (hd : decode c.code pc = .ok (.if_icmp cd o, 3)) (hc : if_icmp.holds cd x y = true) (ho : 0 ≤ (pc : Int) + o) (hp : ((pc : Int) + o).toNat = pc') (G : Go p e below P (T.setTop (mkF m pc' Ls st))) : Go p e below P (T.setTop (mkF m pc Ls (.int y :: .int x :: st))) :=
  Go.of G fun _ q => XS.icmpYes X.here hx rfl (pc0 := pc) rfl hd rfl hc ho hp q
theorem g_acmpY (X : Stand p l e R s m args below meth c T locs cells slots) (hx : p.tables.exec = Jvm.exec) {pc : Nat} (pc' : Nat) {o : Int} {Ls : Array Slot} {st : List Value} {cd : ClassFile.ACond} {x y : Value} (hd : decode c.code pc = .ok (.if_acmp cd o, 3)) (hx' : x.isRef = true) (hy' : y.isRef = true) (hc : XT.acmp cd x y = true) (ho : 0 ≤ (pc : Int) + o) (hp : ((pc : Int) + o).toNat = pc') (G : Go p e below P (T.setTop (mkF m pc' Ls st))) : Go p e below P (T.setTop (mkF m pc Ls (y :: x :: st))) :=
  Go.of G fun _ q => XT.acmpYes X.here hx rfl (pc0 := pc) rfl hd rfl hx' hy' hc ho hp q
theorem g_ifnullY (X : Stand p l e R s m args below meth c T locs cells slots) (hx : p.tables.exec = Jvm.exec) {pc : Nat} (pc' : Nat) {o : Int} {Ls : Array Slot} {st : List Value}  (hd : decode c.code pc = .ok (.ifnull o, 3))  (ho : 0 ≤ (pc : Int) + o) (hp : ((pc : Int) + o).toNat = pc') (G : Go p e below P (T.setTop (mkF m pc' Ls st))) : Go p e below P (T.setTop (mkF m pc Ls (.null :: st))) :=
  Go.of G fun _ q => XS.ifnullYes X.here hx rfl (pc0 := pc) rfl hd rfl ho hp q
theorem g_ifnonnullY (X : Stand p l e R s m args below meth c T locs cells slots) (hx : p.tables.exec = Jvm.exec) {pc : Nat} (pc' : Nat) {o : Int} {Ls : Array Slot} {st : List Value} {b : Addr} (hd : decode c.code pc = .ok (.ifnonnull o, 3))  (ho : 0 ≤ (pc : Int) + o) (hp : ((pc : Int) + o).toNat = pc') (G : Go p e below P (T.setTop (mkF m pc' Ls st))) : Go p e below P (T.setTop (mkF m pc Ls (.ref b :: st))) :=
  Go.of G fun _ q => XT.ifnonnullYes X.here hx rfl (pc0 := pc) rfl hd rfl ho hp q

theorem g_callS (X : Stand p l e R s m args below meth c T locs cells slots) (hx : p.tables.exec = Jvm.exec) (hZ : Z.Warmed39 s.vm) {own : String} {index : Nat} {y : MethodName} {bytes : ByteArray} {maxL : Nat} {ret : Option FieldType} {rm : Room} {as' : List Value} {Q' : Option Value → Heap → List Loc → Prop}
    (hown : s.vm.findClass own = some m.cls) (w1 : (Jvm.Cond.methodLink own index y).before a0 Z = true) (w2 : (Jvm.Cond.static y).before a0 Z = true) (w3 : (Jvm.Cond.initialized y.cls).before a0 Z = true) (w4 : (Jvm.Cond.code y bytes maxL ret).before a0 Z = true)
    (np : y.cls ≠ "java/lang/invoke/MethodHandle" ∧ y.cls ≠ "java/lang/invoke/VarHandle") (eT : T.heap = h)
    (hM : MetFree l y (head1 [Jvm.Cond.code y bytes maxL ret] rm) (fun a U => a = as'.toArray ∧ Z.Warmed39 U.vm ∧ U.heap = h) (fun _ _ _ _ _ => True) (fun _ U o U' => ∃ v L, o = .returned v ∧ Q' v U'.heap L ∧ FrameEnd U o U' L rm.cells rm.slots))
    {ps : List FieldType} {rt : Option FieldType} (pd : parseMethodDescriptor y.desc = some ⟨ps, rt⟩) (hlen : as'.length = ps.length)
    (W : Nat) (hf : rm.frames + 1 ≤ R.frames) (hl : W + (maxL + 11) + rm.locals ≤ R.locals) (hc : cells + rm.cells ≤ R.cells) (hs : slots + rm.slots ≤ R.slots)
    {pc : Nat} {Ls : Array Slot} {rest st : List Value} (hsz : Ls.size = c.maxLocals) (hst : st = as'.reverse ++ rest) (hW : (rest.map fun v => v.category).sum ≤ W) (hd : decode c.code pc = .ok (.invokestatic index, 3)) :
    ∃ v T' L, Stand p l e R s m args below meth c T' (locs ++ L) (cells + rm.cells) (slots + rm.slots) ∧ Q' v T'.heap L ∧ ∀ t, Steps p.tables e below (T'.setTop (mkF m (pc + 3) Ls (v.toList ++ rest))) t → Steps p.tables e below (T.setTop (mkF m pc Ls st)) t := by
  obtain ⟨v, _, ⟨T', L', k', n'⟩, -, X', ⟨L, hQ, l1, y1, z1⟩, st'⟩ := Jvm.LawKit.callS X hx (y := y) hown (mvT hZ w1) (mvT hZ w2) (mvT hZ w3) (mvT hZ w4) np (backOf (W := W) hM hZ w4 w3 hf hl) (g := mkF m pc Ls st) rfl hsz (argsL := as') (rest := rest) (lenOf pd hlen) hst (by show 2 * 0 + _ ≤ _; omega) hd (fun _ _ => ⟨rfl, eT, hc, hs⟩)
  dsimp only [Pt.U, Pt.locs, Pt.cells, Pt.slots] at X' l1 y1 z1 st' hQ
  subst l1 y1 z1
  exact ⟨v, T', L, X', hQ, st'⟩
/-- a callee that only answers -/
def Pur (w : Option Value) (h0 : Heap) (v : Option Value) (h : Heap) (L : List Loc) : Prop := v = w ∧ L = [] ∧ h = h0
theorem g_callSP (X : Stand p l e R s m args below meth c T locs cells slots) (hx : p.tables.exec = Jvm.exec) (hZ : Z.Warmed39 s.vm) {own : String} {index : Nat} {y : MethodName} {bytes : ByteArray} {maxL : Nat} {ret : Option FieldType} {rm : Room} {as' : List Value} {w : Option Value}
    (hown : s.vm.findClass own = some m.cls) (w1 : (Jvm.Cond.methodLink own index y).before a0 Z = true) (w2 : (Jvm.Cond.static y).before a0 Z = true) (w3 : (Jvm.Cond.initialized y.cls).before a0 Z = true) (w4 : (Jvm.Cond.code y bytes maxL ret).before a0 Z = true)
    (np : y.cls ≠ "java/lang/invoke/MethodHandle" ∧ y.cls ≠ "java/lang/invoke/VarHandle") (eT : T.heap = h)
    (hM : MetFree l y (head1 [Jvm.Cond.code y bytes maxL ret] rm) (fun a U => a = as'.toArray ∧ Z.Warmed39 U.vm ∧ U.heap = h) (fun _ _ _ _ _ => True) (fun _ U o U' => ∃ v L, o = .returned v ∧ Pur w h v U'.heap L ∧ FrameEnd U o U' L rm.cells rm.slots))
    {ps : List FieldType} {rt : Option FieldType} (pd : parseMethodDescriptor y.desc = some ⟨ps, rt⟩) (hlen : as'.length = ps.length)
    (W : Nat) (hf : rm.frames + 1 ≤ R.frames) (hl : W + (maxL + 11) + rm.locals ≤ R.locals) (hc : cells + rm.cells ≤ R.cells) (hs : slots + rm.slots ≤ R.slots) (h0 : rm.cells = 0) (h1 : rm.slots = 0)
    {pc pc' : Nat} {Ls : Array Slot} {rest st : List Value} (hsz : Ls.size = c.maxLocals) (hst : st = as'.reverse ++ rest) (hW : (rest.map fun v => v.category).sum ≤ W) (hd : decode c.code pc = .ok (.invokestatic index, 3)) (hp : pc + 3 = pc') :
    ∃ T', Stand p l e R s m args below meth c T' locs cells slots ∧ T'.heap = h ∧ ∀ {P : State → Outcome → Prop}, Go p e below P (T'.setTop (mkF m pc' Ls (w.toList ++ rest))) → Go p e below P (T.setTop (mkF m pc Ls st)) := by
  obtain ⟨v, T', L, X', ⟨rfl, rfl, e1⟩, st'⟩ := g_callS X hx hZ hown w1 w2 w3 w4 np eT hM pd hlen W hf hl hc hs hsz hst hW hd
  subst hp
  rw [h0, h1, List.append_nil] at X'
  exact ⟨T', X', e1, fun G => Go.of G st'⟩


theorem g_getF (X : Stand p l e R s m args below meth c T locs cells slots) (hx : p.tables.exec = Jvm.exec) (hZ : Z.Warmed39 s.vm) {own R0 O n d : String} {index : Nat} (hown : s.vm.findClass own = some m.cls) (w : (Jvm.Cond.fieldLink own index R0 n d).before a0 Z = true) (via : Via Z R0 O n d) (eT : T.heap = h) {a : Addr} {v : Value} (F : Fld Z h a O n d v)
    {pc : Nat} (pc' : Nat) {Ls : Array Slot} {st : List Value} (hd : decode c.code pc = .ok (.getfield index, 3)) (hp : pc + 3 = pc') :
    ∃ T', Stand p l e R s m args below meth c T' locs cells slots ∧ T'.heap = h ∧ ∀ {P : State → Outcome → Prop}, Go p e below P (T'.setTop (mkF m pc' Ls (v :: st))) → Go p e below P (T.setTop (mkF m pc Ls (.ref a :: st))) := by
  subst hp
  obtain ⟨T', X', e', f⟩ := getF X hx hZ hown (host := "") (Or.inl w) via eT F (g := mkF m pc Ls (.ref a :: st)) rfl rfl hd
  exact ⟨T', X', e', fun G => Go.of G f⟩
theorem g_getS (X : Stand p l e R s m args below meth c T locs cells slots) (hx : p.tables.exec = Jvm.exec) (hZ : Z.Warmed39 s.vm) {own O n d : String} {index : Nat} (hown : s.vm.findClass own = some m.cls) (w : (Jvm.Cond.fieldLink own index O n d).before a0 Z = true) (eT : T.heap = h) {v : Value} (F : Sta Z h O n d v)
    {pc : Nat} (pc' : Nat) {Ls : Array Slot} {st : List Value} (hd : decode c.code pc = .ok (.getstatic index, 3)) (hp : pc + 3 = pc') :
    ∃ T', Stand p l e R s m args below meth c T' locs cells slots ∧ T'.heap = h ∧ ∀ {P : State → Outcome → Prop}, Go p e below P (T'.setTop (mkF m pc' Ls (v :: st))) → Go p e below P (T.setTop (mkF m pc Ls st)) := by
  subst hp
  obtain ⟨T', X', e', f⟩ := getS X hx hZ hown (host := "") w Via.refl eT F (g := mkF m pc Ls st) rfl hd
  exact ⟨T', X', e', fun G => Go.of G f⟩
theorem g_putF (X : Stand p l e R s m args below meth c T locs cells slots) (hx : p.tables.exec = Jvm.exec) (hZ : Z.Warmed39 s.vm) {own R0 O n d C : String} {index kk : Nat} {ty : FieldType} (hown : s.vm.findClass own = some m.cls) (w : (Jvm.Cond.fieldLink own index R0 n d).before a0 Z = true) (via : Via Z R0 O n d) (eT : T.heap = h) {a : Addr} {v old : Value} (F : Fld Z h a O n d old) (E : Exa Z h a C)
    (L : (Jvm.Cond.lays C O n d).before a0 Z = true ∨ ((Jvm.Cond.laysFinal C O n d).before a0 Z = true ∧ own = O ∧ meth.name = "<init>")) (wi : (Jvm.Cond.instantiable C kk).before a0 Z = true) (hty : parseFieldDescriptor d = some ty) (hn : narrow ty v = v) (hf : fits ty v = true)
    {pc : Nat} (pc' : Nat) {Ls : Array Slot} {st : List Value} (hd : decode c.code pc = .ok (.putfield index, 3)) (hp : pc + 3 = pc') :
    ∃ T' h', Stand p l e R s m args below meth c T' (locs ++ [⟨a, Jvm.RoadKit.slotOf Z O n d⟩]) cells slots ∧ T'.heap = h' ∧ Wr h h' a (Jvm.RoadKit.slotOf Z O n d) v ∧ ∀ {P : State → Outcome → Prop}, Go p e below P (T'.setTop (mkF m pc' Ls st)) → Go p e below P (T.setTop (mkF m pc Ls (v :: .ref a :: st))) := by
  subst hp
  obtain ⟨T', h', X', e', W, f⟩ := putF X hx hZ hown (host := "") (Or.inl w) via eT F E L wi hty hn hf (g := mkF m pc Ls (v :: .ref a :: st)) rfl rfl hd
  exact ⟨T', h', X', e', W, fun G => Go.of G f⟩
theorem g_newO (X : Stand p l e R s m args below meth c T locs cells slots) (hx : p.tables.exec = Jvm.exec) (hZ : Z.Warmed39 s.vm) {own C : String} {index n : Nat} (hown : s.vm.findClass own = some m.cls) (w : (Jvm.Cond.classLink own index C).before a0 Z = true) (wi : (Jvm.Cond.instantiable C n).before a0 Z = true) (wz : (Jvm.Cond.initialized C).before a0 Z = true) (eT : T.heap = h)
    {pc : Nat} (pc' : Nat) {Ls : Array Slot} {st : List Value} (hd : decode c.code pc = .ok (.new index, 3)) (hp : pc + 3 = pc') (hc : cells + 1 ≤ R.cells) (hl : slots + n ≤ R.slots) :
    ∃ T' h' a, Stand p l e R s m args below meth c T' locs (cells + 1) (slots + n) ∧ T'.heap = h' ∧ a = h.size ∧ Ext h h' ∧ Exa Z h' a C ∧ (∀ {O nm d : String} {ty : FieldType}, Laid Z a0 C O nm d → parseFieldDescriptor d = some ty → Fld Z h' a O nm d (defaultValue ty)) ∧
      ∀ {P : State → Outcome → Prop}, Go p e below P (T'.setTop (mkF m pc' Ls (.ref a :: st))) → Go p e below P (T.setTop (mkF m pc Ls st)) := by
  subst hp
  obtain ⟨T', h', X', e', E, A, D, -, f⟩ := newO X hx hZ hown w wi wz eT (g := mkF m pc Ls st) rfl hd hc hl
  exact ⟨T', h', _, X', e', rfl, E, A, D, fun G => Go.of G f⟩
theorem g_initO (X : Stand p l e R s m args below meth c T locs cells slots) (hx : p.tables.exec = Jvm.exec) (hZ : Z.Warmed39 s.vm) {own : String} {idx : Nat} (hown : s.vm.findClass own = some m.cls) (w1 : (Jvm.Cond.methodLink own idx Lib.objectInit).before a0 Z = true) (w2 : (Jvm.Cond.instanceMethod Lib.objectInit).before a0 Z = true)
    (w3 : (Jvm.Cond.code Lib.objectInit ⟨#[0xb1]⟩ 1 none).before a0 Z = true) (eT : T.heap = h) (W : Nat) (hf : 1 ≤ R.frames) (hl : W + 12 ≤ R.locals) {a : Addr} {pc : Nat} (pc' : Nat) {Ls : Array Slot} {st : List Value} (hsz : Ls.size = c.maxLocals) (hW : (st.map fun v => v.category).sum ≤ W) (hd : decode c.code pc = .ok (.invokespecial idx, 3)) (hp : pc + 3 = pc') :
    ∃ T', Stand p l e R s m args below meth c T' locs cells slots ∧ T'.heap = h ∧ ∀ {P : State → Outcome → Prop}, Go p e below P (T'.setTop (mkF m pc' Ls st)) → Go p e below P (T.setTop (mkF m pc Ls (.ref a :: st))) := by
  subst hp
  obtain ⟨T', X', e', f⟩ := initO X hx hZ hown w1 w2 w3 eT (g := mkF m pc Ls (.ref a :: st)) rfl hsz rfl hd hf (W := W) (by show 2 * 0 + _ ≤ _; omega) hl
  exact ⟨T', X', e', fun G => Go.of G f⟩
theorem g_newP (X : Stand p l e R s m args below meth c T locs cells slots) (hx : p.tables.exec = Jvm.exec) (hZ : Z.Warmed39 s.vm) {aty : ArrayType} (w : (Jvm.Cond.arrayClass (newarray.typeOf aty)).before a0 Z = true) (eT : T.heap = h) {n : Int32} (cap : Nat) (hn : ¬ n < 0) (hcap : n.toNatClampNeg ≤ cap) (hbig : cap * 8 ≤ 536870912) (hc : cells + 1 ≤ R.cells) (hl : slots + cap ≤ R.slots)
    {pc : Nat} (pc' : Nat) {Ls : Array Slot} {st : List Value} (hd : decode c.code pc = .ok (.newarray aty, 2)) (hp : pc + 2 = pc') :
    ∃ T' h' a cA, Stand p l e R s m args below meth c T' locs (cells + 1) (slots + cap) ∧ T'.heap = h' ∧ a = h.size ∧ Ext h h' ∧ Arr Z h' a (newA cA (newarray.typeOf aty) n) (newarray.typeOf aty) ∧
      ∀ {P : State → Outcome → Prop}, Go p e below P (T'.setTop (mkF m pc' Ls (.ref a :: st))) → Go p e below P (T.setTop (mkF m pc Ls (.int n :: st))) := by
  subst hp
  obtain ⟨T', h', cA, X', e', E, A, f⟩ := newP X hx hZ w eT (g := mkF m pc Ls (.int n :: st)) rfl hd rfl hn hcap hbig hc hl
  exact ⟨T', h', _, cA, X', e', rfl, E, A, fun G => Go.of G f⟩
theorem g_callI (X : Stand p l e R s m args below meth c T locs cells slots) (hx : p.tables.exec = Jvm.exec) (hZ : Z.Warmed39 s.vm) {own : String} {index : Nat} {y : MethodName} {bytes : ByteArray} {maxL : Nat} {rm : Room} {a : Addr} {as' : List Value} {Q' : Option Value → Heap → List Loc → Prop} (hy1 : y.name = "<init>")
    (hown : s.vm.findClass own = some m.cls) (w1 : (Jvm.Cond.methodLink own index y).before a0 Z = true) (w2 : (Jvm.Cond.instanceMethod y).before a0 Z = true) (w3 : (Jvm.Cond.initialized y.cls).before a0 Z = true) (w4 : (Jvm.Cond.code y bytes maxL none).before a0 Z = true)
    (np : y.cls ≠ "java/lang/invoke/MethodHandle" ∧ y.cls ≠ "java/lang/invoke/VarHandle") (eT : T.heap = h)
    (hM : MetFree l y (head1 [Jvm.Cond.code y bytes maxL none] rm) (fun b U => b = (.ref a :: as').toArray ∧ Z.Warmed39 U.vm ∧ U.heap = h) (fun _ _ _ _ _ => True) (fun _ U o U' => ∃ v L, o = .returned v ∧ Q' v U'.heap L ∧ FrameEnd U o U' L rm.cells rm.slots))
    {ps : List FieldType} {rt : Option FieldType} (pd : parseMethodDescriptor y.desc = some ⟨ps, rt⟩) (hlen : as'.length = ps.length)
    (W : Nat) (hf : rm.frames + 1 ≤ R.frames) (hl : W + (maxL + 11) + rm.locals ≤ R.locals) (hc : cells + rm.cells ≤ R.cells) (hs : slots + rm.slots ≤ R.slots)
    {pc : Nat} {Ls : Array Slot} {rest st : List Value} (hsz : Ls.size = c.maxLocals) (hst : st = as'.reverse ++ .ref a :: rest) (hW : (rest.map fun v => v.category).sum ≤ W) (hd : decode c.code pc = .ok (.invokespecial index, 3)) :
    ∃ v T' L, Stand p l e R s m args below meth c T' (locs ++ L) (cells + rm.cells) (slots + rm.slots) ∧ Q' v T'.heap L ∧ ∀ {P : State → Outcome → Prop}, Go p e below P (T'.setTop (mkF m (pc + 3) Ls (v.toList ++ rest))) → Go p e below P (T.setTop (mkF m pc Ls st)) := by
  obtain ⟨v, _, ⟨T', L', k', n'⟩, -, X', ⟨L, hQ, l1, y1, z1⟩, st'⟩ := X.specialBack hx (y := y) hy1 hown (mvT hZ w1) (mvT hZ w2) (mvT hZ w4) np (backOf (W := W) hM hZ w4 w3 hf hl) (g := mkF m pc Ls st) rfl hsz (Steps.refl _) (a := a) (argsL := as') (rest := rest) (lenOf pd hlen) hst (by show 2 * 0 + _ ≤ _; omega) hd (fun _ _ => ⟨rfl, eT, hc, hs⟩)
  dsimp only [Pt.U, Pt.locs, Pt.cells, Pt.slots] at X' l1 y1 z1 st' hQ
  subst l1 y1 z1
  exact ⟨v, T', L, X', hQ, fun G => Go.of G fun _ q => st'.trans q⟩
theorem g_callV (X : Stand p l e R s m args below meth c T locs cells slots) (hx : p.tables.exec = Jvm.exec) (hZ : Z.Warmed39 s.vm) {own C : String} {index : Nat} {y z : MethodName} {bytes : ByteArray} {maxL : Nat} {ret : Option FieldType} {rm : Room} {a : Addr} {as' : List Value} {Q' : Option Value → Heap → List Loc → Prop}
    (hown : s.vm.findClass own = some m.cls) (w1 : (Jvm.Cond.methodLink own index y).before a0 Z = true) (w2 : (Jvm.Cond.declares y).before a0 Z = true) (w5 : (Jvm.Cond.selects y.cls y y).before a0 Z = true) (w6 : (Jvm.Cond.selects C y z).before a0 Z = true) (w7 : (Jvm.Cond.instanceMethod z).before a0 Z = true) (w3 : (Jvm.Cond.initialized z.cls).before a0 Z = true) (w4 : (Jvm.Cond.code z bytes maxL ret).before a0 Z = true)
    (np : y.cls ≠ "java/lang/invoke/MethodHandle" ∧ y.cls ≠ "java/lang/invoke/VarHandle") (eT : T.heap = h) (E : Exa Z h a C)
    (hM : MetFree l z (head1 [Jvm.Cond.code z bytes maxL ret] rm) (fun b U => b = (.ref a :: as').toArray ∧ Z.Warmed39 U.vm ∧ U.heap = h) (fun _ _ _ _ _ => True) (fun _ U o U' => ∃ v L, o = .returned v ∧ Q' v U'.heap L ∧ FrameEnd U o U' L rm.cells rm.slots))
    {ps : List FieldType} {rt : Option FieldType} (pd : parseMethodDescriptor y.desc = some ⟨ps, rt⟩) (hlen : as'.length = ps.length)
    (W : Nat) (hf : rm.frames + 1 ≤ R.frames) (hl : W + (maxL + 11) + rm.locals ≤ R.locals) (hc : cells + rm.cells ≤ R.cells) (hs : slots + rm.slots ≤ R.slots)
    {pc : Nat} {Ls : Array Slot} {rest st : List Value} (hsz : Ls.size = c.maxLocals) (hst : st = as'.reverse ++ .ref a :: rest) (hW : (rest.map fun v => v.category).sum ≤ W) (hd : decode c.code pc = .ok (.invokevirtual index, 3)) :
    ∃ v T' L, Stand p l e R s m args below meth c T' (locs ++ L) (cells + rm.cells) (slots + rm.slots) ∧ Q' v T'.heap L ∧ ∀ {P : State → Outcome → Prop}, Go p e below P (T'.setTop (mkF m (pc + 3) Ls (v.toList ++ rest))) → Go p e below P (T.setTop (mkF m pc Ls st)) := by
  obtain ⟨cq, kq, qa, qb, qc⟩ := isOf hZ eT E
  obtain ⟨v, _, ⟨T', L', k', n'⟩, -, X', ⟨L, hQ, l1, y1, z1⟩, st'⟩ := X.virtualBack hx (y := y) (z := z) hown (mvT hZ w1) (mvT hZ w2) (notFace_of_selects (args := #[]) (mvT hZ w5)) (mvT hZ w6) (mvT hZ w7) np (backOf (W := W) hM hZ w4 w3 hf hl) qa qc (g := mkF m pc Ls st) rfl hsz (Steps.refl _) (argsL := as') (rest := rest) (lenOf pd hlen) hst (by show 2 * 0 + _ ≤ _; omega) hd (fun _ _ => ⟨rfl, eT, hc, hs⟩)
  dsimp only [Pt.U, Pt.locs, Pt.cells, Pt.slots] at X' l1 y1 z1 st' hQ
  subst l1 y1 z1
  exact ⟨v, T', L, X', hQ, fun G => Go.of G fun _ q => st'.trans q⟩
theorem g_callVP (X : Stand p l e R s m args below meth c T locs cells slots) (hx : p.tables.exec = Jvm.exec) (hZ : Z.Warmed39 s.vm) {own C : String} {index : Nat} {y z : MethodName} {bytes : ByteArray} {maxL : Nat} {ret : Option FieldType} {rm : Room} {a : Addr} {as' : List Value} {w : Option Value}
    (hown : s.vm.findClass own = some m.cls) (w1 : (Jvm.Cond.methodLink own index y).before a0 Z = true) (w2 : (Jvm.Cond.declares y).before a0 Z = true) (w5 : (Jvm.Cond.selects y.cls y y).before a0 Z = true) (w6 : (Jvm.Cond.selects C y z).before a0 Z = true) (w7 : (Jvm.Cond.instanceMethod z).before a0 Z = true) (w3 : (Jvm.Cond.initialized z.cls).before a0 Z = true) (w4 : (Jvm.Cond.code z bytes maxL ret).before a0 Z = true)
    (np : y.cls ≠ "java/lang/invoke/MethodHandle" ∧ y.cls ≠ "java/lang/invoke/VarHandle") (eT : T.heap = h) (E : Exa Z h a C)
    (hM : MetFree l z (head1 [Jvm.Cond.code z bytes maxL ret] rm) (fun b U => b = (.ref a :: as').toArray ∧ Z.Warmed39 U.vm ∧ U.heap = h) (fun _ _ _ _ _ => True) (fun _ U o U' => ∃ v L, o = .returned v ∧ Pur w h v U'.heap L ∧ FrameEnd U o U' L rm.cells rm.slots))
    {ps : List FieldType} {rt : Option FieldType} (pd : parseMethodDescriptor y.desc = some ⟨ps, rt⟩) (hlen : as'.length = ps.length)
    (W : Nat) (hf : rm.frames + 1 ≤ R.frames) (hl : W + (maxL + 11) + rm.locals ≤ R.locals) (hc : cells + rm.cells ≤ R.cells) (hs : slots + rm.slots ≤ R.slots) (h0 : rm.cells = 0) (h1 : rm.slots = 0)
    {pc pc' : Nat} {Ls : Array Slot} {rest st : List Value} (hsz : Ls.size = c.maxLocals) (hst : st = as'.reverse ++ .ref a :: rest) (hW : (rest.map fun v => v.category).sum ≤ W) (hd : decode c.code pc = .ok (.invokevirtual index, 3)) (hp : pc + 3 = pc') :
    ∃ T', Stand p l e R s m args below meth c T' locs cells slots ∧ T'.heap = h ∧ ∀ {P : State → Outcome → Prop}, Go p e below P (T'.setTop (mkF m pc' Ls (w.toList ++ rest))) → Go p e below P (T.setTop (mkF m pc Ls st)) := by
  obtain ⟨v, T', L, X', ⟨rfl, rfl, e1⟩, st'⟩ := g_callV X hx hZ hown w1 w2 w5 w6 w7 w3 w4 np eT E hM pd hlen W hf hl hc hs hsz hst hW hd
  subst hp
  rw [h0, h1, List.append_nil] at X'
  exact ⟨T', X', e1, st'⟩

end Own
theorem own_pw {a b : Nat} (h : a = b) : 2 ^ a = 2 ^ b := by rw [h]
/-- u's value is m / 2^k -/
def Vq (u : UInt64) (m k : Nat) : Prop := ∃ (c : Nat) (q : Int), FP.Core.val64 u = .fin false c q ∧ c * 2 ^ (q + k).toNat = m * 2 ^ (-(q + k)).toNat
theorem own_exact {m k : Nat} (hm : m < 9007199254740992) (hk : k ≤ 100) : ∃ (c : Nat) (q : Int), FP.Core.round FP.Core.b64 (.fin false m (-(k : Int))) = .fin false c q ∧ c * 2 ^ (q + k).toNat = m * 2 ^ (-(q + k)).toNat := by
  by_cases h0 : m = 0
  · subst h0
    refine ⟨0, FP.Core.b64.qmin, ?_, by simp⟩
    show FP.Core.roundRatio FP.Core.b64 false 0 1 _ = _
    exact if_pos rfl
  have l1 : 2 ^ m.log2 ≤ m := Nat.log2_self_le h0
  have l2 : m < 2 ^ (m.log2 + 1) := Nat.lt_log2_self
  have l3 : m.log2 < 53 := (Nat.pow_lt_pow_iff_right (by decide : 1 < 2)).mp (Nat.lt_of_le_of_lt l1 (show m < 2 ^ 53 by omega))
  generalize m.log2 = L at l1 l2 l3
  have hq1 : FP.Core.b64.qmin = -1074 := by decide
  have hq2 : FP.Core.b64.qmax = 971 := by decide
  refine ⟨m * 2 ^ (52 - L), (L : Int) - 52 - k, ?_, ?_⟩
  · show FP.Core.roundRatio FP.Core.b64 false m 1 _ = _
    refine FP.Core.roundRatio_exact FP.Core.good_b64 (by decide) ⟨?_, by rw [hq1]; omega, by rw [hq2]; omega, .inr ?_⟩ ?_
    · calc m * 2 ^ (52 - L) < 2 ^ (L + 1) * 2 ^ (52 - L) := Nat.mul_lt_mul_of_pos_right l2 (Nat.two_pow_pos _)
        _ = 2 ^ 53 := by rw [← Nat.pow_add]; exact own_pw (by omega)
    · calc FP.Core.b64.tails = 2 ^ L * 2 ^ (52 - L) := by rw [← Nat.pow_add]; exact own_pw (show 52 = _ by omega)
        _ ≤ m * 2 ^ (52 - L) := Nat.mul_le_mul_right _ l1
    · rw [show (-(k : Int) - ((L : Int) - 52 - k)).toNat = 52 - L by omega, show ((L : Int) - 52 - k - -(k : Int)).toNat = 0 by omega]; simp
  · rw [show ((L : Int) - 52 - k + k).toNat = 0 by omega, show (-((L : Int) - 52 - k + k)).toNat = 52 - L by omega]; simp
theorem own_vq {u : UInt64} {m k : Nat} (h : FP.Core.val64 u = FP.Core.round FP.Core.b64 (.fin false m (-(k : Int)))) (hm : m < 9007199254740992) (hk : k ≤ 100) : Vq u m k := by
  obtain ⟨c, q, h1, h2⟩ := own_exact hm hk
  exact ⟨c, q, h.trans h1, h2⟩
theorem own_l2d {x : Int64} {m : Nat} (h : x.toInt = (m : Int)) : FP.Core.val64 (FP.Core.l2d x) = FP.Core.round FP.Core.b64 (.fin false m (-((0 : Nat) : Int))) := by
  rw [FP.Core.val64_l2d, h]
  show FP.Core.round FP.Core.b64 (.fin (decide ((m : Int) < 0)) (m : Int).natAbs 0) = _
  rw [show decide ((m : Int) < 0) = false from decide_eq_false (Int.not_lt.mpr (Int.natCast_nonneg _))]; rfl
theorem own_div {a b : UInt64} {m1 k1 m2 k2 m k : Nat} (ha : Vq a m1 k1) (hb : Vq b m2 k2) (h2 : m2 ≠ 0) (h : m1 * 2 ^ k2 * 2 ^ k = m * m2 * 2 ^ k1) : FP.Core.val64 (FP.Core.ddiv a b) = FP.Core.round FP.Core.b64 (.fin false m (-(k : Int))) := by
  obtain ⟨c, q, ea, va⟩ := ha
  obtain ⟨d, r, eb, vb⟩ := hb
  rw [FP.Core.val64_ddiv, ea, eb]
  have hd : d ≠ 0 := by
    rintro rfl
    rw [Nat.zero_mul] at vb
    exact absurd vb.symm (Nat.ne_of_gt (Nat.mul_pos (Nat.pos_of_ne_zero h2) (Nat.two_pow_pos _)))
  show (if d = 0 then _ else FP.Core.roundRatio FP.Core.b64 (false != false) c d (q - r)) = FP.Core.roundRatio FP.Core.b64 false m 1 (-(k : Int))
  rw [if_neg hd]
  refine FP.Core.roundRatio_congr (Nat.pos_of_ne_zero hd) (by decide) ?_
  have e1 : 2 ^ (-(q + k1)).toNat * 2 ^ (q - r - -(k : Int)).toNat * 2 ^ (r + k2).toNat * 2 ^ k1 = 2 ^ (-(r + k2)).toNat * 2 ^ (-(k : Int) - (q - r)).toNat * 2 ^ (q + k1).toNat * (2 ^ k2 * 2 ^ k) := by
    simp only [← Nat.pow_add]; exact own_pw (by omega)
  have p1 := Nat.two_pow_pos (q + k1).toNat
  have p2 := Nat.two_pow_pos (r + k2).toNat
  have p3 := Nat.two_pow_pos k2
  have p4 := Nat.two_pow_pos k
  refine Nat.eq_of_mul_eq_mul_right (Nat.mul_pos (Nat.mul_pos p1 p2) (Nat.mul_pos p3 p4)) ?_
  generalize 2 ^ (-(q + k1)).toNat = x1 at *
  generalize 2 ^ (q + k1).toNat = x2 at *
  generalize 2 ^ (-(r + k2)).toNat = x3 at *
  generalize 2 ^ (r + k2).toNat = x4 at *
  generalize 2 ^ (q - r - -(k : Int)).toNat = x5 at *
  generalize 2 ^ (-(k : Int) - (q - r)).toNat = x6 at *
  generalize 2 ^ k1 = y1 at *
  generalize 2 ^ k2 = y2 at *
  generalize 2 ^ k = y3 at *
  clear ea eb hd p1 p2 p3 p4 h2
  grind
theorem own_mul {a b : UInt64} {m1 k1 m2 k2 m k : Nat} (ha : Vq a m1 k1) (hb : Vq b m2 k2) (h : m1 * m2 = m) (hk : k1 + k2 = k) : FP.Core.val64 (FP.Core.dmul a b) = FP.Core.round FP.Core.b64 (.fin false m (-(k : Int))) := by
  obtain ⟨c, q, ea, va⟩ := ha
  obtain ⟨d, r, eb, vb⟩ := hb
  subst h hk
  rw [FP.Core.val64_dmul, ea, eb]
  show FP.Core.roundRatio FP.Core.b64 (false != false) (c * d) 1 (q + r) = FP.Core.roundRatio FP.Core.b64 false (m1 * m2) 1 (-((k1 + k2 : Nat) : Int))
  refine FP.Core.roundRatio_congr (by decide) (by decide) ?_
  have e1 : 2 ^ (-(q + k1)).toNat * 2 ^ (-(r + k2)).toNat * 2 ^ (q + r - -((k1 + k2 : Nat) : Int)).toNat = 2 ^ (q + k1).toNat * 2 ^ (r + k2).toNat * 2 ^ (-((k1 + k2 : Nat) : Int) - (q + r)).toNat := by
    simp only [← Nat.pow_add]; exact own_pw (by omega)
  have p1 := Nat.two_pow_pos (q + k1).toNat
  have p2 := Nat.two_pow_pos (r + k2).toNat
  refine Nat.eq_of_mul_eq_mul_right (Nat.mul_pos p1 p2) ?_
  generalize 2 ^ (-(q + k1)).toNat = x1 at *
  generalize 2 ^ (q + k1).toNat = x2 at *
  generalize 2 ^ (-(r + k2)).toNat = x3 at *
  generalize 2 ^ (r + k2).toNat = x4 at *
  generalize 2 ^ (q + r - -((k1 + k2 : Nat) : Int)).toNat = x5 at *
  generalize 2 ^ (-((k1 + k2 : Nat) : Int) - (q + r)).toNat = x6 at *
  clear ea eb p1 p2
  grind

theorem own_zero : FP.Core.val64 0 = .fin false 0 FP.Core.b64.qmin := by decide
theorem own_inf : FP.Core.val64 9218868437227405312 = .inf false := by decide
theorem own_v0 {u : UInt64} {m k : Nat} (h : Vq u m k) : FP.Core.val64 u ≠ .nan := by
  obtain ⟨c, q, e, -⟩ := h
  rw [e]; intro z; cases z
theorem own_vnz {u : UInt64} {m k : Nat} (h : Vq u m k) (hm : m ≠ 0) : ∃ (c : Nat) (q : Int), FP.Core.val64 u = .fin false c q ∧ c ≠ 0 := by
  obtain ⟨c, q, e, v⟩ := h
  refine ⟨c, q, e, ?_⟩
  rintro rfl
  rw [Nat.zero_mul] at v
  exact absurd v.symm (Nat.ne_of_gt (Nat.mul_pos (Nat.pos_of_ne_zero hm) (Nat.two_pow_pos _)))
/-- a number times zero -/
theorem own_mul0 {u : UInt64} {m k : Nat} (h : Vq u m k) : FP.Core.dmul u 0 = 0 := by
  obtain ⟨c, q, e, -⟩ := h
  have e1 : FP.Core.val64 (FP.Core.dmul u 0) = .fin false 0 FP.Core.b64.qmin := by
    rw [FP.Core.val64_dmul, e, own_zero]
    show FP.Core.roundRatio FP.Core.b64 (false != false) (c * 0) 1 (q + FP.Core.b64.qmin) = _
    rw [Nat.mul_zero]; exact if_pos rfl
  exact FP.Core.val64_inj (by rw [e1]; intro z; cases z) (e1.trans own_zero.symm)
/-- a positive number over zero -/
theorem own_div0 {u : UInt64} {m k : Nat} (h : Vq u m k) (hm : m ≠ 0) : FP.Core.ddiv u 0 = 9218868437227405312 := by
  obtain ⟨c, q, e, hc⟩ := own_vnz h hm
  have e1 : FP.Core.val64 (FP.Core.ddiv u 0) = .inf false := by
    rw [FP.Core.val64_ddiv, e, own_zero]
    show (if (0 : Nat) = 0 then (if c = 0 then FP.Core.Datum.nan else FP.Core.Datum.inf (false != false)) else FP.Core.roundRatio FP.Core.b64 (false != false) c 0 (q - FP.Core.b64.qmin)) = FP.Core.Datum.inf false
    rw [if_pos rfl, if_neg hc]; rfl
  exact FP.Core.val64_inj (by rw [e1]; intro z; cases z) (e1.trans own_inf.symm)
theorem own_vl {x : Int64} {m : Nat} (h : x.toInt = (m : Int)) (hm : m < 9007199254740992) : Vq (FP.Core.l2d x) m 0 := own_vq (own_l2d h) hm (by decide)
/-- the law's double arithmetic is exact -/
theorem own_num {n v a pr : Int64} {vc : UInt64} {N V A s : Nat} (hn : n.toInt = (N : Int)) (n1 : 1 ≤ N) (n2 : N ≤ 1048576) (hv : v.toInt = (V : Int)) (v1 : 1 ≤ V) (v2 : V ≤ 1048576) (ha : a.toInt = (A : Int)) (a2 : A ≤ 4095) (hp : pr.toInt = ((A * N * V : Nat) : Int)) (hc : Vq vc (2 ^ s) 0) (hs : s ≤ 15) :
    Vq (FP.Core.ddiv (FP.Core.l2d v) vc) V s ∧ Vq (FP.Core.ddiv (FP.Core.l2d pr) vc) (A * N * V) s ∧ Vq (FP.Core.dmul (FP.Core.l2d n) (FP.Core.ddiv (FP.Core.l2d v) vc)) (N * V) s ∧ FP.Core.ddiv (FP.Core.ddiv (FP.Core.l2d pr) vc) (FP.Core.dmul (FP.Core.l2d n) (FP.Core.ddiv (FP.Core.l2d v) vc)) = FP.Core.l2d a := by
  have b1 : N * V ≤ 1048576 * 1048576 := Nat.mul_le_mul n2 v2
  have b2 : A * (N * V) ≤ 4095 * (1048576 * 1048576) := Nat.mul_le_mul a2 b1
  have b3 : A * N * V < 9007199254740992 := by rw [Nat.mul_assoc]; omega
  have hz : (2 : Nat) ^ s ≠ 0 := Nat.ne_of_gt (Nat.two_pow_pos s)
  have q1 : Vq (FP.Core.ddiv (FP.Core.l2d v) vc) V s := own_vq (own_div (own_vl hv (by omega)) hc hz (by simp)) (by omega) (by omega)
  have q2 : Vq (FP.Core.ddiv (FP.Core.l2d pr) vc) (A * N * V) s := own_vq (own_div (own_vl hp b3) hc hz (by simp)) b3 (by omega)
  have q3 : Vq (FP.Core.dmul (FP.Core.l2d n) (FP.Core.ddiv (FP.Core.l2d v) vc)) (N * V) s := own_vq (own_mul (own_vl hn (by omega)) q1 rfl (by omega)) (by omega) (by omega)
  refine ⟨q1, q2, q3, ?_⟩
  have e1 : FP.Core.val64 (FP.Core.ddiv (FP.Core.ddiv (FP.Core.l2d pr) vc) (FP.Core.dmul (FP.Core.l2d n) (FP.Core.ddiv (FP.Core.l2d v) vc))) = FP.Core.val64 (FP.Core.l2d a) := by
    rw [own_div (m := A) (k := 0) q2 q3 (Nat.ne_of_gt (Nat.mul_pos n1 v1)) (by simp [Nat.mul_assoc]), own_l2d ha]
  exact FP.Core.val64_inj (by rw [e1]; exact own_v0 (own_vl ha (by omega))) e1

theorem own_n {x : Int32} {n : Int64} (h : (x &&& (1048575 : Int32)).toInt64 + (1 : Int64) = n) : ∃ N : Nat, n.toInt = (N : Int) ∧ 1 ≤ N ∧ N ≤ 1048576 := by
  have m1 := Jvm.Kit.i32_mask x (1048575 : Int32) (k := 20) (by decide) (by decide)
  have e1 := Jvm.Kit.i64_of_i32 (x &&& (1048575 : Int32))
  have e2 : (1 : Int64).toInt = 1 := rfl
  have b1 := Int.emod_nonneg x.toInt (b := 2 ^ 20) (by decide)
  have b2 := Int.emod_lt_of_pos x.toInt (b := 2 ^ 20) (by decide)
  rw [m1] at e1
  refine ⟨(x.toInt % 2 ^ 20).toNat + 1, ?_, by omega, by omega⟩
  rw [← h, Jvm.Kit.i64_add (by rw [e1, e2]; omega) (by rw [e1, e2]; omega), e1, e2]; omega
theorem own_a {x : Int32} {a : Int64} (h : (x &&& (4095 : Int32)).toInt64 = a) : ∃ A : Nat, a.toInt = (A : Int) ∧ A ≤ 4095 := by
  have m1 := Jvm.Kit.i32_mask x (4095 : Int32) (k := 12) (by decide) (by decide)
  have e1 := Jvm.Kit.i64_of_i32 (x &&& (4095 : Int32))
  have b1 := Int.emod_nonneg x.toInt (b := 2 ^ 12) (by decide)
  have b2 := Int.emod_lt_of_pos x.toInt (b := 2 ^ 12) (by decide)
  rw [m1] at e1
  refine ⟨(x.toInt % 2 ^ 12).toNat, ?_, by omega⟩
  rw [← h, e1]; omega
theorem own_a1 {a : Int64} {A : Nat} (h : a.toInt = (A : Int)) (hA : A ≤ 4095) : (a + (1 : Int64)).toInt = ((A + 1 : Nat) : Int) := by
  have e2 : (1 : Int64).toInt = 1 := rfl
  rw [Jvm.Kit.i64_add (by rw [h, e2]; omega) (by rw [h, e2]; omega), h, e2]; omega
theorem own_sh : ∀ s : Fin 16, ((1 : Int32) <<< (Int32.ofNat s.val &&& 31)).toInt = ((2 ^ s.val : Nat) : Int) := by decide
theorem own_sc {x vs : Int32} {vc : UInt64} (h : x &&& (15 : Int32) = vs) (hc : FP.Core.i2d ((1 : Int32) <<< (vs &&& 31)) = vc) : ∃ s : Nat, s ≤ 15 ∧ Vq vc (2 ^ s) 0 := by
  have m1 := Jvm.Kit.i32_mask x (15 : Int32) (k := 4) (by decide) (by decide)
  have b1 := Int.emod_nonneg x.toInt (b := 2 ^ 4) (by decide)
  have b2 := Int.emod_lt_of_pos x.toInt (b := 2 ^ 4) (by decide)
  rw [h] at m1
  have e : vs = Int32.ofNat vs.toInt.toNat := by
    rw [← Int32.toInt_inj, Int32.toInt_ofNat_of_lt (by omega)]; omega
  have hlt : vs.toInt.toNat < 16 := by omega
  have q := own_sh ⟨vs.toInt.toNat, hlt⟩
  simp only [← e] at q
  refine ⟨vs.toInt.toNat, by omega, ?_⟩
  have b3 : 2 ^ vs.toInt.toNat ≤ 2 ^ 15 := Nat.pow_le_pow_right (by decide) (by omega)
  rw [← hc]
  refine own_vq (k := 0) ?_ (by omega) (by decide)
  show FP.Core.val64 (FP.Core.i2d _) = _
  rw [FP.Core.val64_i2d, q]
  show FP.Core.round FP.Core.b64 (.fin (decide (((2 ^ vs.toInt.toNat : Nat) : Int) < 0)) ((2 ^ vs.toInt.toNat : Nat) : Int).natAbs 0) = _
  rw [show decide (((2 ^ vs.toInt.toNat : Nat) : Int) < 0) = false from decide_eq_false (Int.not_lt.mpr (Int.natCast_nonneg _))]; rfl
theorem own_pr {n v a : Int64} {N V A : Nat} (hn : n.toInt = (N : Int)) (n2 : N ≤ 1048576) (hv : v.toInt = (V : Int)) (v2 : V ≤ 1048576) (ha : a.toInt = (A : Int)) (a2 : A ≤ 4095) : (a * n * v).toInt = ((A * N * V : Nat) : Int) := by
  have b0 : A * N ≤ 4095 * 1048576 := Nat.mul_le_mul a2 n2
  have b1 : A * N * V ≤ 4095 * 1048576 * 1048576 := Nat.mul_le_mul b0 v2
  have e1 : (a * n).toInt = ((A * N : Nat) : Int) := by
    rw [Jvm.Kit.i64_mul (by rw [ha, hn, ← Int.natCast_mul]; omega) (by rw [ha, hn, ← Int.natCast_mul]; omega), ha, hn, ← Int.natCast_mul]
  rw [Jvm.Kit.i64_mul (by rw [e1, hv, ← Int.natCast_mul]; omega) (by rw [e1, hv, ← Int.natCast_mul]; omega), e1, hv, ← Int.natCast_mul]
theorem own_nn {u : UInt64} {m k : Nat} (h : Vq u m k) : Jvm.Free.Fl.NoNaN64 u := Jvm.Free.Fl.noNaN64_no.mpr ((FP.Core.notNaN_iff u).mpr (own_v0 h))
theorem own_nne {u v : UInt64} (h : u = v) (n : Jvm.Free.Fl.NoNaN64 v) : Jvm.Free.Fl.NoNaN64 u := h ▸ n
theorem own_nn0 : Jvm.Free.Fl.NoNaN64 0 := by
  show (0 : UInt64) &&& 0x7fffffffffffffff ≤ 0x7ff0000000000000
  decide
theorem own_nni : Jvm.Free.Fl.NoNaN64 9218868437227405312 := by
  show (9218868437227405312 : UInt64) &&& 0x7fffffffffffffff ≤ 0x7ff0000000000000
  decide
theorem own_finm : Jvm.Free.Fl.Fin64 9218868437227405311 := by
  show (9218868437227405311 : UInt64) &&& 0x7fffffffffffffff < 0x7ff0000000000000
  decide

def LQ (h0 : Heap) (v : Option Value) (h : Heap) (L : List Loc) : Prop := v = some (.int 1) ∧ Fr h0.size L
def IQ (Z : State) (a : Addr) (q1 : Int64) (q4 : UInt64) (h0 : Heap) (n0 : Nat) (v : Option Value) (h : Heap) (L : List Loc) : Prop := v = none ∧ Fr n0 L ∧ Keep h0 h [a] ∧ Fld Z h a "com/example/evenfold/evenfold/experiment/RqmcEstimate" "numPoints" "J" (.long q1) ∧ Fld Z h a "com/example/evenfold/evenfold/experiment/RqmcEstimate" "variance" "D" (.double q4)
theorem rec_0 : decode jdk_30_method_1_code 0 = .ok (.aload_n 0, 1) := by decide +kernel
theorem rec_1 : decode jdk_30_method_1_code 1 = .ok (.invokespecial 1, 3) := by decide +kernel
theorem rec_4 : decode jdk_30_method_1_code 4 = .ok (.return_, 1) := by decide +kernel
theorem pn_rec : plainFor (⟨"java/lang/Record", "<init>", "()V"⟩ : MethodName) = true := by first | exact plainFor_of_name (by first | (simp [plainName, overriddenIn]; done) | decide +kernel) | decide +kernel
theorem ef_rec (m : MethodId) (qa : Addr)  : entryFrame m #[(.ref qa)] 1 = mkF m 0 #[.val (.ref qa)] [] := by first | (simp [entryFrame, mkF, argsToLocals, Value.category, maxLocals]; done) | rfl
theorem pd_rec : parseMethodDescriptor "()V" = some ⟨[], none⟩ := by decide +kernel
set_option maxRecDepth 65536 in
set_option maxHeartbeats 40000000 in
theorem rm_rec (l : Launch) (Z : State) (a0 : Array Value) (hw : ∀ d ∈ tables_1, d.before a0 Z = true)  (qa : Addr) (h0 : Heap)  :
    MetFree l (⟨"java/lang/Record", "<init>", "()V"⟩ : MethodName) (head1 [Jvm.Cond.code (⟨"java/lang/Record", "<init>", "()V"⟩ : MethodName) jdk_30_method_1_code 1 none] ({ frames := 1, cells := 0, slots := 0, locals := 12 } : Room)) (fun a U => a = #[(.ref qa)] ∧ Z.Warmed39 U.vm ∧ U.heap = h0) (fun _ _ _ _ _ => True) (fun _ U o U' => ∃ v L, o = .returned v ∧ Pur none h0 v U'.heap L ∧ FrameEnd U o U' L ({ frames := 1, cells := 0, slots := 0, locals := 12 } : Room).cells ({ frames := 1, cells := 0, slots := 0, locals := 12 } : Room).slots) := by
  refine MetFree.of_bodySF pn_rec hisR ?_
  intro p e s m args below meth c s₁ Bd hml0 hP hK
  obtain ⟨rfl, hZ, hh⟩ := hP
  have hx := Bd.exec
  have hby := Bd.bytes
  have hml : c.maxLocals = 1 := hml0
  have hown : s.vm.findClass "java/lang/Record" = some m.cls := findClass_of_methodNamed Bd.named
  have hnm := (name_of_methodNamed Bd.named Bd.method).1
  have hlk : meth.locks = false := BodyLoose.notSynchronized Bd
  have X0 : Stand p l e ({ frames := 1, cells := 0, slots := 0, locals := 12 } : Room) s m #[(.ref qa)] below meth c s₁ [] 0 0 := Stand.of_body Bd
  have e0 : s₁.heap = h0 := by rw [← hh, Bd.state]; rfl
  show Go p e below (EndN below s (Pur none h0) ({ frames := 1, cells := 0, slots := 0, locals := 12 } : Room).cells ({ frames := 1, cells := 0, slots := 0, locals := 12 } : Room).slots) (s₁.setTop (entryFrame m #[(.ref qa)] 1))
  rw [ef_rec]
  refine g_aload_n X0 hx 1 (.ref qa) (hb hby rec_0) rfl rfl rfl ?_
  obtain ⟨T_1, X_1, e_1, st_1⟩ := g_initO X0 hx hZ hown (hw _ (List.mem_of_getElem? (i := 13) rfl)) (hw _ (List.mem_of_getElem? (i := 14) rfl)) (hw _ (List.mem_of_getElem? (i := 15) rfl)) e0 0 (by decide) (by decide) 4 (a := qa) (Ls := #[.val (.ref qa)]) (st := []) (by rw [hml]; rfl) (Nat.le_of_eq rfl) (hb hby rec_1) rfl
  refine st_1 ?_
  exact Go.retV X_1 hx hlk Bd.returns (hb hby rec_4) (by decide) (by decide) ⟨rfl, rfl, e_1⟩
theorem init_0 : decode prog_26_method_1_code 0 = .ok (.aload_n 0, 1) := by decide +kernel
theorem init_1 : decode prog_26_method_1_code 1 = .ok (.invokespecial 1, 3) := by decide +kernel
theorem init_4 : decode prog_26_method_1_code 4 = .ok (.aload_n 0, 1) := by decide +kernel
theorem init_5 : decode prog_26_method_1_code 5 = .ok (.lload_n 1, 1) := by decide +kernel
theorem init_6 : decode prog_26_method_1_code 6 = .ok (.putfield 7, 3) := by decide +kernel
theorem init_9 : decode prog_26_method_1_code 9 = .ok (.aload_n 0, 1) := by decide +kernel
theorem init_10 : decode prog_26_method_1_code 10 = .ok (.lload_n 3, 1) := by decide +kernel
theorem init_11 : decode prog_26_method_1_code 11 = .ok (.putfield 13, 3) := by decide +kernel
theorem init_14 : decode prog_26_method_1_code 14 = .ok (.aload_n 0, 1) := by decide +kernel
theorem init_15 : decode prog_26_method_1_code 15 = .ok (.dload 5, 2) := by decide +kernel
theorem init_17 : decode prog_26_method_1_code 17 = .ok (.putfield 16, 3) := by decide +kernel
theorem init_20 : decode prog_26_method_1_code 20 = .ok (.aload_n 0, 1) := by decide +kernel
theorem init_21 : decode prog_26_method_1_code 21 = .ok (.dload 7, 2) := by decide +kernel
theorem init_23 : decode prog_26_method_1_code 23 = .ok (.putfield 20, 3) := by decide +kernel
theorem init_26 : decode prog_26_method_1_code 26 = .ok (.return_, 1) := by decide +kernel
theorem pn_init : plainFor (⟨"com/example/evenfold/evenfold/experiment/RqmcEstimate", "<init>", "(JJDD)V"⟩ : MethodName) = true := by first | exact plainFor_of_name (by first | (simp [plainName, overriddenIn]; done) | decide +kernel) | decide +kernel
theorem ef_init (m : MethodId) (qa : Addr) (q1 : Int64) (q2 : Int64) (q3 : UInt64) (q4 : UInt64)  : entryFrame m #[(.ref qa), (.long q1), (.long q2), (.double q3), (.double q4)] 9 = mkF m 0 #[.val (.ref qa), .val (.long q1), .second, .val (.long q2), .second, .val (.double q3), .second, .val (.double q4), .second] [] := by first | (simp [entryFrame, mkF, argsToLocals, Value.category, maxLocals]; done) | rfl
theorem pd_init : parseMethodDescriptor "(JJDD)V" = some ⟨[.long, .long, .double, .double], none⟩ := by decide +kernel
set_option maxRecDepth 65536 in
set_option maxHeartbeats 40000000 in
theorem rm_init (l : Launch) (Z : State) (a0 : Array Value) (hw : ∀ d ∈ tables_1, d.before a0 Z = true)  (qa : Addr) (q1 : Int64) (q2 : Int64) (q3 : UInt64) (q4 : UInt64) (h0 : Heap) (n0 : Nat) (ga : n0 ≤ qa) (F1 : Fld Z h0 qa "com/example/evenfold/evenfold/experiment/RqmcEstimate" "numPoints" "J" (.long (0 : Int64))) (F2 : Fld Z h0 qa "com/example/evenfold/evenfold/experiment/RqmcEstimate" "replications" "J" (.long (0 : Int64))) (F3 : Fld Z h0 qa "com/example/evenfold/evenfold/experiment/RqmcEstimate" "mean" "D" (.double (0 : UInt64))) (F4 : Fld Z h0 qa "com/example/evenfold/evenfold/experiment/RqmcEstimate" "variance" "D" (.double (0 : UInt64))) (E1 : Exa Z h0 qa "com/example/evenfold/evenfold/experiment/RqmcEstimate") :
    MetFree l (⟨"com/example/evenfold/evenfold/experiment/RqmcEstimate", "<init>", "(JJDD)V"⟩ : MethodName) (head1 [Jvm.Cond.code (⟨"com/example/evenfold/evenfold/experiment/RqmcEstimate", "<init>", "(JJDD)V"⟩ : MethodName) prog_26_method_1_code 9 none] ({ frames := 2, cells := 0, slots := 0, locals := 24 } : Room)) (fun a U => a = #[(.ref qa), (.long q1), (.long q2), (.double q3), (.double q4)] ∧ Z.Warmed39 U.vm ∧ U.heap = h0) (fun _ _ _ _ _ => True) (fun _ U o U' => ∃ v L, o = .returned v ∧ IQ Z qa q1 q4 h0 n0 v U'.heap L ∧ FrameEnd U o U' L ({ frames := 2, cells := 0, slots := 0, locals := 24 } : Room).cells ({ frames := 2, cells := 0, slots := 0, locals := 24 } : Room).slots) := by
  refine MetFree.of_bodySF pn_init hisR ?_
  intro p e s m args below meth c s₁ Bd hml0 hP hK
  obtain ⟨rfl, hZ, hh⟩ := hP
  have hx := Bd.exec
  have hby := Bd.bytes
  have hml : c.maxLocals = 9 := hml0
  have hown : s.vm.findClass "com/example/evenfold/evenfold/experiment/RqmcEstimate" = some m.cls := findClass_of_methodNamed Bd.named
  have hnm := (name_of_methodNamed Bd.named Bd.method).1
  have hlk : meth.locks = false := BodyLoose.notSynchronized Bd
  have X0 : Stand p l e ({ frames := 2, cells := 0, slots := 0, locals := 24 } : Room) s m #[(.ref qa), (.long q1), (.long q2), (.double q3), (.double q4)] below meth c s₁ [] 0 0 := Stand.of_body Bd
  have e0 : s₁.heap = h0 := by rw [← hh, Bd.state]; rfl
  show Go p e below (EndN below s (IQ Z qa q1 q4 h0 n0) ({ frames := 2, cells := 0, slots := 0, locals := 24 } : Room).cells ({ frames := 2, cells := 0, slots := 0, locals := 24 } : Room).slots) (s₁.setTop (entryFrame m #[(.ref qa), (.long q1), (.long q2), (.double q3), (.double q4)] 9))
  rw [ef_init]
  refine g_aload_n X0 hx 1 (.ref qa) (hb hby init_0) rfl rfl rfl ?_
  obtain ⟨_, T_1, L_1, X_1, ⟨rfl, rfl, eR⟩, st_1⟩ := g_callI X0 hx hZ (own := "com/example/evenfold/evenfold/experiment/RqmcEstimate") (index := 1) (y := (⟨"java/lang/Record", "<init>", "()V"⟩ : MethodName)) (a := qa) (as' := []) rfl hown (hw _ (List.mem_of_getElem? (i := 8) rfl)) (hw _ (List.mem_of_getElem? (i := 9) rfl)) (hw _ (List.mem_of_getElem? (i := 11) rfl)) (hw _ (List.mem_of_getElem? (i := 12) rfl)) (by decide) e0 (rm_rec l Z a0 hw qa h0) pd_rec rfl 0 (by decide) (by decide) (by decide) (by decide) (pc := 1) (Ls := #[.val (.ref qa), .val (.long q1), .second, .val (.long q2), .second, .val (.double q3), .second, .val (.double q4), .second]) (rest := []) (st := [(.ref qa)]) (by rw [hml]; rfl) rfl (Nat.le_of_eq rfl) (hb hby init_1)
  refine st_1 ?_
  rw [List.append_nil] at X_1
  show Go p e below _ (T_1.setTop (mkF m 4 #[.val (.ref qa), .val (.long q1), .second, .val (.long q2), .second, .val (.double q3), .second, .val (.double q4), .second] []))
  refine g_aload_n X_1 hx 5 (.ref qa) (hb hby init_4) rfl rfl rfl ?_
  refine g_lload_n X_1 hx 6 q1 (hb hby init_5) rfl rfl ?_
  obtain ⟨T_6, h_6, X_6, e_6, W_6, st_6⟩ := g_putF X_1 hx hZ hown (hw _ (List.mem_of_getElem? (i := 16) rfl)) Via.refl eR F1 E1 (Or.inr ⟨hw _ (List.mem_of_getElem? (i := 17) rfl), rfl, hnm⟩) (hw _ (List.mem_of_getElem? (i := 3) rfl)) (ty := .long) (v := (.long q1)) (by decide) rfl rfl 9 (hb hby init_6) rfl
  refine st_6 ?_
  have F_6_0 : Fld Z h_6 qa "com/example/evenfold/evenfold/experiment/RqmcEstimate" "numPoints" "J" (.long q1) := (F1.same W_6)
  have F_6_1 : Fld Z h_6 qa "com/example/evenfold/evenfold/experiment/RqmcEstimate" "replications" "J" (.long (0 : Int64)) := (F2.other W_6 (Or.inr (Jvm.RoadKit.slot_ne (Or.inr (hw _ (List.mem_of_getElem? (i := 19) rfl))) (Or.inr (hw _ (List.mem_of_getElem? (i := 17) rfl))) (by decide) (t := .long) (t' := .long) (by decide) (by decide))))
  have F_6_2 : Fld Z h_6 qa "com/example/evenfold/evenfold/experiment/RqmcEstimate" "mean" "D" (.double (0 : UInt64)) := (F3.other W_6 (Or.inr (Jvm.RoadKit.slot_ne (Or.inr (hw _ (List.mem_of_getElem? (i := 21) rfl))) (Or.inr (hw _ (List.mem_of_getElem? (i := 17) rfl))) (by decide) (t := .double) (t' := .long) (by decide) (by decide))))
  have F_6_3 : Fld Z h_6 qa "com/example/evenfold/evenfold/experiment/RqmcEstimate" "variance" "D" (.double (0 : UInt64)) := (F4.other W_6 (Or.inr (Jvm.RoadKit.slot_ne (Or.inr (hw _ (List.mem_of_getElem? (i := 23) rfl))) (Or.inr (hw _ (List.mem_of_getElem? (i := 17) rfl))) (by decide) (t := .double) (t' := .long) (by decide) (by decide))))
  have N_6 := Fr.snoc X_6 (Fr.nil _) ga
  have Z_6 : h0.size ≤ h_6.size := by rw [W_6.size]; exact (Nat.le_refl _)
  refine g_aload_n X_6 hx 10 (.ref qa) (hb hby init_9) rfl rfl rfl ?_
  refine g_lload_n X_6 hx 11 q2 (hb hby init_10) rfl rfl ?_
  obtain ⟨T_11, h_11, X_11, e_11, W_11, st_11⟩ := g_putF X_6 hx hZ hown (hw _ (List.mem_of_getElem? (i := 18) rfl)) Via.refl e_6 F_6_1 (E1.wr W_6) (Or.inr ⟨hw _ (List.mem_of_getElem? (i := 19) rfl), rfl, hnm⟩) (hw _ (List.mem_of_getElem? (i := 3) rfl)) (ty := .long) (v := (.long q2)) (by decide) rfl rfl 14 (hb hby init_11) rfl
  refine st_11 ?_
  have F_11_0 : Fld Z h_11 qa "com/example/evenfold/evenfold/experiment/RqmcEstimate" "numPoints" "J" (.long q1) := (F_6_0.other W_11 (Or.inr (Jvm.RoadKit.slot_ne (Or.inr (hw _ (List.mem_of_getElem? (i := 17) rfl))) (Or.inr (hw _ (List.mem_of_getElem? (i := 19) rfl))) (by decide) (t := .long) (t' := .long) (by decide) (by decide))))
  have F_11_1 : Fld Z h_11 qa "com/example/evenfold/evenfold/experiment/RqmcEstimate" "replications" "J" (.long q2) := (F_6_1.same W_11)
  have F_11_2 : Fld Z h_11 qa "com/example/evenfold/evenfold/experiment/RqmcEstimate" "mean" "D" (.double (0 : UInt64)) := (F_6_2.other W_11 (Or.inr (Jvm.RoadKit.slot_ne (Or.inr (hw _ (List.mem_of_getElem? (i := 21) rfl))) (Or.inr (hw _ (List.mem_of_getElem? (i := 19) rfl))) (by decide) (t := .double) (t' := .long) (by decide) (by decide))))
  have F_11_3 : Fld Z h_11 qa "com/example/evenfold/evenfold/experiment/RqmcEstimate" "variance" "D" (.double (0 : UInt64)) := (F_6_3.other W_11 (Or.inr (Jvm.RoadKit.slot_ne (Or.inr (hw _ (List.mem_of_getElem? (i := 23) rfl))) (Or.inr (hw _ (List.mem_of_getElem? (i := 19) rfl))) (by decide) (t := .double) (t' := .long) (by decide) (by decide))))
  have N_11 := Fr.snoc X_11 N_6 ga
  have Z_11 : h0.size ≤ h_11.size := by rw [W_11.size]; exact Z_6
  refine g_aload_n X_11 hx 15 (.ref qa) (hb hby init_14) rfl rfl rfl ?_
  refine g_dload X_11 hx 17 q3 (hb hby init_15) rfl rfl ?_
  obtain ⟨T_17, h_17, X_17, e_17, W_17, st_17⟩ := g_putF X_11 hx hZ hown (hw _ (List.mem_of_getElem? (i := 20) rfl)) Via.refl e_11 F_11_2 ((E1.wr W_6).wr W_11) (Or.inr ⟨hw _ (List.mem_of_getElem? (i := 21) rfl), rfl, hnm⟩) (hw _ (List.mem_of_getElem? (i := 3) rfl)) (ty := .double) (v := (.double q3)) (by decide) rfl rfl 20 (hb hby init_17) rfl
  refine st_17 ?_
  have F_17_0 : Fld Z h_17 qa "com/example/evenfold/evenfold/experiment/RqmcEstimate" "numPoints" "J" (.long q1) := (F_11_0.other W_17 (Or.inr (Jvm.RoadKit.slot_ne (Or.inr (hw _ (List.mem_of_getElem? (i := 17) rfl))) (Or.inr (hw _ (List.mem_of_getElem? (i := 21) rfl))) (by decide) (t := .long) (t' := .double) (by decide) (by decide))))
  have F_17_1 : Fld Z h_17 qa "com/example/evenfold/evenfold/experiment/RqmcEstimate" "replications" "J" (.long q2) := (F_11_1.other W_17 (Or.inr (Jvm.RoadKit.slot_ne (Or.inr (hw _ (List.mem_of_getElem? (i := 19) rfl))) (Or.inr (hw _ (List.mem_of_getElem? (i := 21) rfl))) (by decide) (t := .long) (t' := .double) (by decide) (by decide))))
  have F_17_2 : Fld Z h_17 qa "com/example/evenfold/evenfold/experiment/RqmcEstimate" "mean" "D" (.double q3) := (F_11_2.same W_17)
  have F_17_3 : Fld Z h_17 qa "com/example/evenfold/evenfold/experiment/RqmcEstimate" "variance" "D" (.double (0 : UInt64)) := (F_11_3.other W_17 (Or.inr (Jvm.RoadKit.slot_ne (Or.inr (hw _ (List.mem_of_getElem? (i := 23) rfl))) (Or.inr (hw _ (List.mem_of_getElem? (i := 21) rfl))) (by decide) (t := .double) (t' := .double) (by decide) (by decide))))
  have N_17 := Fr.snoc X_17 N_11 ga
  have Z_17 : h0.size ≤ h_17.size := by rw [W_17.size]; exact Z_11
  refine g_aload_n X_17 hx 21 (.ref qa) (hb hby init_20) rfl rfl rfl ?_
  refine g_dload X_17 hx 23 q4 (hb hby init_21) rfl rfl ?_
  obtain ⟨T_23, h_23, X_23, e_23, W_23, st_23⟩ := g_putF X_17 hx hZ hown (hw _ (List.mem_of_getElem? (i := 22) rfl)) Via.refl e_17 F_17_3 (((E1.wr W_6).wr W_11).wr W_17) (Or.inr ⟨hw _ (List.mem_of_getElem? (i := 23) rfl), rfl, hnm⟩) (hw _ (List.mem_of_getElem? (i := 3) rfl)) (ty := .double) (v := (.double q4)) (by decide) rfl rfl 26 (hb hby init_23) rfl
  refine st_23 ?_
  have F_23_0 : Fld Z h_23 qa "com/example/evenfold/evenfold/experiment/RqmcEstimate" "numPoints" "J" (.long q1) := (F_17_0.other W_23 (Or.inr (Jvm.RoadKit.slot_ne (Or.inr (hw _ (List.mem_of_getElem? (i := 17) rfl))) (Or.inr (hw _ (List.mem_of_getElem? (i := 23) rfl))) (by decide) (t := .long) (t' := .double) (by decide) (by decide))))
  have F_23_1 : Fld Z h_23 qa "com/example/evenfold/evenfold/experiment/RqmcEstimate" "replications" "J" (.long q2) := (F_17_1.other W_23 (Or.inr (Jvm.RoadKit.slot_ne (Or.inr (hw _ (List.mem_of_getElem? (i := 19) rfl))) (Or.inr (hw _ (List.mem_of_getElem? (i := 23) rfl))) (by decide) (t := .long) (t' := .double) (by decide) (by decide))))
  have F_23_2 : Fld Z h_23 qa "com/example/evenfold/evenfold/experiment/RqmcEstimate" "mean" "D" (.double q3) := (F_17_2.other W_23 (Or.inr (Jvm.RoadKit.slot_ne (Or.inr (hw _ (List.mem_of_getElem? (i := 21) rfl))) (Or.inr (hw _ (List.mem_of_getElem? (i := 23) rfl))) (by decide) (t := .double) (t' := .double) (by decide) (by decide))))
  have F_23_3 : Fld Z h_23 qa "com/example/evenfold/evenfold/experiment/RqmcEstimate" "variance" "D" (.double q4) := (F_17_3.same W_23)
  have N_23 := Fr.snoc X_23 N_17 ga
  have Z_23 : h0.size ≤ h_23.size := by rw [W_23.size]; exact Z_17
  refine Go.retV X_23 hx hlk Bd.returns (hb hby init_26) (by decide) (by decide) ⟨rfl, N_23, ?_, ?_, ?_⟩
  · rw [e_23]; exact (((((Keep.refl _ _).wr W_6 (Or.inl (by simp))).wr W_11 (Or.inl (by simp))).wr W_17 (Or.inl (by simp))).wr W_23 (Or.inl (by simp)))
  · rw [e_23]; exact F_23_0
  · rw [e_23]; exact F_23_3
theorem vrd_0 : decode prog_26_method_3_code 0 = .ok (.dload_n 1, 1) := by decide +kernel
theorem vrd_1 : decode prog_26_method_3_code 1 = .ok (.aload_n 0, 1) := by decide +kernel
theorem vrd_2 : decode prog_26_method_3_code 2 = .ok (.getfield 7, 3) := by decide +kernel
theorem vrd_5 : decode prog_26_method_3_code 5 = .ok (.l2d, 1) := by decide +kernel
theorem vrd_6 : decode prog_26_method_3_code 6 = .ok (.aload_n 0, 1) := by decide +kernel
theorem vrd_7 : decode prog_26_method_3_code 7 = .ok (.getfield 20, 3) := by decide +kernel
theorem vrd_10 : decode prog_26_method_3_code 10 = .ok (.dmul, 1) := by decide +kernel
theorem vrd_11 : decode prog_26_method_3_code 11 = .ok (.ddiv, 1) := by decide +kernel
theorem vrd_12 : decode prog_26_method_3_code 12 = .ok (.dreturn, 1) := by decide +kernel
theorem pn_vrd : plainFor (⟨"com/example/evenfold/evenfold/experiment/RqmcEstimate", "varianceReduction", "(D)D"⟩ : MethodName) = true := by first | exact plainFor_of_name (by first | (simp [plainName, overriddenIn]; done) | decide +kernel) | decide +kernel
theorem ef_vrd (m : MethodId) (qa : Addr) (q1 : UInt64)  : entryFrame m #[(.ref qa), (.double q1)] 3 = mkF m 0 #[.val (.ref qa), .val (.double q1), .second] [] := by first | (simp [entryFrame, mkF, argsToLocals, Value.category, maxLocals]; done) | rfl
theorem pd_vrd : parseMethodDescriptor "(D)D" = some ⟨[.double], some (.double)⟩ := by decide +kernel
set_option maxRecDepth 65536 in
set_option maxHeartbeats 40000000 in
theorem rm_vrd (l : Launch) (Z : State) (a0 : Array Value) (hw : ∀ d ∈ tables_1, d.before a0 Z = true)  (qa : Addr) (q1 : UInt64) (h0 : Heap) (q2 : Int64) (q3 : UInt64) (hm1 : Jvm.Free.Fl.NoNaN64 (FP.dmul (FP.l2d q2) q3)) (hm2 : Jvm.Free.Fl.NoNaN64 (FP.ddiv q1 (FP.dmul (FP.l2d q2) q3))) (F1 : Fld Z h0 qa "com/example/evenfold/evenfold/experiment/RqmcEstimate" "numPoints" "J" (.long q2)) (F2 : Fld Z h0 qa "com/example/evenfold/evenfold/experiment/RqmcEstimate" "variance" "D" (.double q3)) :
    MetFree l (⟨"com/example/evenfold/evenfold/experiment/RqmcEstimate", "varianceReduction", "(D)D"⟩ : MethodName) (head1 [Jvm.Cond.code (⟨"com/example/evenfold/evenfold/experiment/RqmcEstimate", "varianceReduction", "(D)D"⟩ : MethodName) prog_26_method_3_code 3 (some Jvm.ClassFile.FieldType.double)] ({ frames := 0, cells := 0, slots := 0, locals := 0 } : Room)) (fun a U => a = #[(.ref qa), (.double q1)] ∧ Z.Warmed39 U.vm ∧ U.heap = h0) (fun _ _ _ _ _ => True) (fun _ U o U' => ∃ v L, o = .returned v ∧ Pur (some (.double (FP.ddiv q1 (FP.dmul (FP.l2d q2) q3)))) h0 v U'.heap L ∧ FrameEnd U o U' L ({ frames := 0, cells := 0, slots := 0, locals := 0 } : Room).cells ({ frames := 0, cells := 0, slots := 0, locals := 0 } : Room).slots) := by
  refine MetFree.of_bodySF pn_vrd hisR ?_
  intro p e s m args below meth c s₁ Bd hml0 hP hK
  obtain ⟨rfl, hZ, hh⟩ := hP
  have hx := Bd.exec
  have hby := Bd.bytes
  have hml : c.maxLocals = 3 := hml0
  have hown : s.vm.findClass "com/example/evenfold/evenfold/experiment/RqmcEstimate" = some m.cls := findClass_of_methodNamed Bd.named
  have hnm := (name_of_methodNamed Bd.named Bd.method).1
  have hlk : meth.locks = false := BodyLoose.notSynchronized Bd
  have X0 : Stand p l e ({ frames := 0, cells := 0, slots := 0, locals := 0 } : Room) s m #[(.ref qa), (.double q1)] below meth c s₁ [] 0 0 := Stand.of_body Bd
  have e0 : s₁.heap = h0 := by rw [← hh, Bd.state]; rfl
  show Go p e below (EndN below s (Pur (some (.double (FP.ddiv q1 (FP.dmul (FP.l2d q2) q3)))) h0) ({ frames := 0, cells := 0, slots := 0, locals := 0 } : Room).cells ({ frames := 0, cells := 0, slots := 0, locals := 0 } : Room).slots) (s₁.setTop (entryFrame m #[(.ref qa), (.double q1)] 3))
  rw [ef_vrd]
  refine g_dload_n X0 hx 1 q1 (hb hby vrd_0) rfl rfl ?_
  refine g_aload_n X0 hx 2 (.ref qa) (hb hby vrd_1) rfl rfl rfl ?_
  obtain ⟨T_2, X_2, e_2, st_2⟩ := g_getF X0 hx hZ hown (hw _ (List.mem_of_getElem? (i := 16) rfl)) Via.refl e0 F1 5 (hb hby vrd_2) rfl
  refine st_2 ?_
  refine g_l2d X_2 hx 6 (hb hby vrd_5) rfl ?_
  refine g_aload_n X_2 hx 7 (.ref qa) (hb hby vrd_6) rfl rfl rfl ?_
  obtain ⟨T_7, X_7, e_7, st_7⟩ := g_getF X_2 hx hZ hown (hw _ (List.mem_of_getElem? (i := 22) rfl)) Via.refl e_2 F2 10 (hb hby vrd_7) rfl
  refine st_7 ?_
  refine g_dmul X_7 hx 11 (hb hby vrd_10) hm1 rfl ?_
  refine g_ddiv X_7 hx 12 (hb hby vrd_11) hm2 rfl ?_
  exact Go.ret X_7 hx hlk Bd.returns (hb hby vrd_12) rfl (Or.inr (Or.inr (Or.inl ⟨rfl, rfl, _, rfl⟩))) (by decide) (by decide) ⟨rfl, rfl, e_7⟩
theorem pn_law : plainFor x = true := by first | exact plainFor_of_name (by first | (simp [plainName, overriddenIn]; done) | decide +kernel) | decide +kernel
theorem ef_law (m : MethodId) (q1 : Int32) (q2 : Int32) (q3 : Int32) (q4 : Int32)  : entryFrame m #[(.int q1), (.int q2), (.int q3), (.int q4)] maxLocals = mkF m 0 #[.val (.int q1), .val (.int q2), .val (.int q3), .val (.int q4), .unset, .unset, .unset, .unset, .unset, .unset, .unset, .unset, .unset, .unset, .unset, .unset, .unset, .unset, .unset, .unset, .unset, .unset, .unset, .unset] [] := by first | (simp [entryFrame, mkF, argsToLocals, Value.category, maxLocals]; done) | rfl
theorem pd_law : parseMethodDescriptor "(IIII)Z" = some ⟨[.int, .int, .int, .int], some (.boolean)⟩ := by decide +kernel
set_option maxRecDepth 65536 in
set_option maxHeartbeats 40000000 in
theorem rm_law (l : Launch) (Z : State) (a0 : Array Value) (hw : ∀ d ∈ tables_1, d.before a0 Z = true) (ws : List Jvm.Cond) (q1 : Int32) (q2 : Int32) (q3 : Int32) (q4 : Int32) (h0 : Heap)  :
    MetFree l x (head1 (Jvm.Cond.code x code maxLocals ret :: ws) room_1) (fun a U => a = #[(.int q1), (.int q2), (.int q3), (.int q4)] ∧ Z.Warmed39 U.vm ∧ U.heap = h0) (fun _ _ _ _ _ => True) (fun _ U o U' => ∃ v L, o = .returned v ∧ LQ h0 v U'.heap L ∧ FrameEnd U o U' L 16 128) := by
  refine MetFree.of_bodySF pn_law hisR ?_
  intro p e s m args below meth c s₁ Bd hml0 hP hK
  obtain ⟨rfl, hZ, hh⟩ := hP
  have hx := Bd.exec
  have hby := Bd.bytes
  have hml : c.maxLocals = 24 := hml0
  have hown : s.vm.findClass "com/example/evenfold/evenfold/experiment/RqmcEstimateVarianceReductionPinLaw" = some m.cls := findClass_of_methodNamed Bd.named
  have hnm := (name_of_methodNamed Bd.named Bd.method).1
  have hlk : meth.locks = false := BodyLoose.notSynchronized Bd
  have X0 : Stand p l e room_1 s m #[(.int q1), (.int q2), (.int q3), (.int q4)] below meth c s₁ [] 0 0 := Stand.of_body Bd
  have e0 : s₁.heap = h0 := by rw [← hh, Bd.state]; rfl
  show Go p e below (EndN below s (LQ h0) 16 128) (s₁.setTop (entryFrame m #[(.int q1), (.int q2), (.int q3), (.int q4)] maxLocals))
  rw [ef_law]
  refine g_iload_n X0 hx 1 q1 (hb hby at_0) rfl rfl ?_
  refine g_ldc X0 hx 3 (hb hby at_1) hown (mvT hZ (hw _ (List.mem_of_getElem? (i := 0) rfl))) rfl ?_
  refine g_iand X0 hx 4 (hb hby at_3) rfl ?_
  refine g_i2l X0 hx 5 (hb hby at_4) rfl ?_
  refine g_lconst X0 hx 6 (1 : Int64) (hb hby at_5) rfl rfl ?_
  refine g_ladd X0 hx 7 (hb hby at_6) rfl ?_
  refine g_lstore X0 hx 9 #[.val (.int q1), .val (.int q2), .val (.int q3), .val (.int q4), .val (.long (((q1 &&& (1048575 : Int32)).toInt64) + (1 : Int64))), .second, .unset, .unset, .unset, .unset, .unset, .unset, .unset, .unset, .unset, .unset, .unset, .unset, .unset, .unset, .unset, .unset, .unset, .unset] (hb hby at_7) rfl rfl ?_
  generalize hvn : (((q1 &&& (1048575 : Int32)).toInt64) + (1 : Int64)) = vn
  refine g_iload_n X0 hx 10 q2 (hb hby at_9) rfl rfl ?_
  refine g_ldc X0 hx 12 (hb hby at_10) hown (mvT hZ (hw _ (List.mem_of_getElem? (i := 0) rfl))) rfl ?_
  refine g_iand X0 hx 13 (hb hby at_12) rfl ?_
  refine g_i2l X0 hx 14 (hb hby at_13) rfl ?_
  refine g_lconst X0 hx 15 (1 : Int64) (hb hby at_14) rfl rfl ?_
  refine g_ladd X0 hx 16 (hb hby at_15) rfl ?_
  refine g_lstore X0 hx 18 #[.val (.int q1), .val (.int q2), .val (.int q3), .val (.int q4), .val (.long vn), .second, .val (.long (((q2 &&& (1048575 : Int32)).toInt64) + (1 : Int64))), .second, .unset, .unset, .unset, .unset, .unset, .unset, .unset, .unset, .unset, .unset, .unset, .unset, .unset, .unset, .unset, .unset] (hb hby at_16) rfl rfl ?_
  generalize hvv : (((q2 &&& (1048575 : Int32)).toInt64) + (1 : Int64)) = vv
  refine g_iload_n X0 hx 19 q3 (hb hby at_18) rfl rfl ?_
  refine g_iconst X0 hx 20 (2 : Int32) (hb hby at_19) rfl rfl ?_
  refine g_iushr X0 hx 21 (hb hby at_20) rfl ?_
  refine g_bipush X0 hx 23 (15 : Int32) (hb hby at_21) rfl rfl ?_
  refine g_iand X0 hx 24 (hb hby at_23) rfl ?_
  refine g_istore X0 hx 26 #[.val (.int q1), .val (.int q2), .val (.int q3), .val (.int q4), .val (.long vn), .second, .val (.long vv), .second, .val (.int ((XT.ushr q3 (2 : Int32)) &&& (15 : Int32))), .unset, .unset, .unset, .unset, .unset, .unset, .unset, .unset, .unset, .unset, .unset, .unset, .unset, .unset, .unset] (hb hby at_24) rfl rfl ?_
  generalize hvs : ((XT.ushr q3 (2 : Int32)) &&& (15 : Int32)) = vs
  refine g_iload_n X0 hx 27 q4 (hb hby at_26) rfl rfl ?_
  refine g_sipush X0 hx 30 (4095 : Int32) (hb hby at_27) rfl rfl ?_
  refine g_iand X0 hx 31 (hb hby at_30) rfl ?_
  refine g_i2l X0 hx 32 (hb hby at_31) rfl ?_
  refine g_lstore X0 hx 34 #[.val (.int q1), .val (.int q2), .val (.int q3), .val (.int q4), .val (.long vn), .second, .val (.long vv), .second, .val (.int vs), .val (.long ((q4 &&& (4095 : Int32)).toInt64)), .second, .unset, .unset, .unset, .unset, .unset, .unset, .unset, .unset, .unset, .unset, .unset, .unset, .unset] (hb hby at_32) rfl rfl ?_
  generalize hva : ((q4 &&& (4095 : Int32)).toInt64) = va
  refine g_iload_n X0 hx 35 q4 (hb hby at_34) rfl rfl ?_
  refine g_bipush X0 hx 37 (12 : Int32) (hb hby at_35) rfl rfl ?_
  refine g_iushr X0 hx 38 (hb hby at_37) rfl ?_
  refine g_sipush X0 hx 41 (255 : Int32) (hb hby at_38) rfl rfl ?_
  refine g_iand X0 hx 42 (hb hby at_41) rfl ?_
  refine g_i2l X0 hx 43 (hb hby at_42) rfl ?_
  refine g_ldc2_w X0 hx 46 (hb hby at_43) hown (mvT hZ (hw _ (List.mem_of_getElem? (i := 1) rfl))) rfl ?_
  refine g_ladd X0 hx 47 (hb hby at_46) rfl ?_
  refine g_lstore X0 hx 49 #[.val (.int q1), .val (.int q2), .val (.int q3), .val (.int q4), .val (.long vn), .second, .val (.long vv), .second, .val (.int vs), .val (.long va), .second, .val (.long ((((XT.ushr q4 (12 : Int32)) &&& (255 : Int32)).toInt64) + (2 : Int64))), .second, .unset, .unset, .unset, .unset, .unset, .unset, .unset, .unset, .unset, .unset, .unset] (hb hby at_47) rfl rfl ?_
  generalize hvm : ((((XT.ushr q4 (12 : Int32)) &&& (255 : Int32)).toInt64) + (2 : Int64)) = vm
  refine g_iload_n X0 hx 50 q3 (hb hby at_49) rfl rfl ?_
  refine g_bipush X0 hx 52 (8 : Int32) (hb hby at_50) rfl rfl ?_
  refine g_ishr X0 hx 53 (hb hby at_52) rfl ?_
  refine g_i2d X0 hx 54 (hb hby at_53) rfl ?_
  refine g_dstore X0 hx 56 #[.val (.int q1), .val (.int q2), .val (.int q3), .val (.int q4), .val (.long vn), .second, .val (.long vv), .second, .val (.int vs), .val (.long va), .second, .val (.long vm), .second, .val (.double (FP.i2d (q3 >>> ((8 : Int32) &&& 31)))), .second, .unset, .unset, .unset, .unset, .unset, .unset, .unset, .unset, .unset] (hb hby at_54) rfl rfl ?_
  generalize hvd : (FP.i2d (q3 >>> ((8 : Int32) &&& 31))) = vd
  refine g_iconst X0 hx 57 (1 : Int32) (hb hby at_56) rfl rfl ?_
  refine g_iload X0 hx 59 vs (hb hby at_57) rfl rfl ?_
  refine g_ishl X0 hx 60 (hb hby at_59) rfl ?_
  refine g_i2d X0 hx 61 (hb hby at_60) rfl ?_
  refine g_dstore X0 hx 63 #[.val (.int q1), .val (.int q2), .val (.int q3), .val (.int q4), .val (.long vn), .second, .val (.long vv), .second, .val (.int vs), .val (.long va), .second, .val (.long vm), .second, .val (.double vd), .second, .val (.double (FP.i2d ((1 : Int32) <<< (vs &&& 31)))), .second, .unset, .unset, .unset, .unset, .unset, .unset, .unset] (hb hby at_61) rfl rfl ?_
  generalize hvc : (FP.i2d ((1 : Int32) <<< (vs &&& 31))) = vc
  obtain ⟨kn, hn0, hn1, hn2⟩ := own_n hvn
  obtain ⟨kv, hv0, hv1, hv2⟩ := own_n hvv
  obtain ⟨ka, ha0, ha1⟩ := own_a hva
  obtain ⟨ks, hs1, hs0⟩ := own_sc hvs hvc
  have hvN := own_vl hn0 (by omega)
  refine g_iload_n X0 hx 64 q3 (hb hby at_63) rfl rfl ?_
  refine g_iconst X0 hx 65 (3 : Int32) (hb hby at_64) rfl rfl ?_
  refine g_iand X0 hx 66 (hb hby at_65) rfl ?_
  by_cases c66 : (q3 &&& (3 : Int32)) = (0 : Int32)
  ·
    refine g_ifN X0 hx 69 (hb hby at_66) (XT.i0_ne_f c66) rfl ?_
    have hz0 : FP.dmul (FP.l2d vn) (0 : UInt64) = 0 := own_mul0 hvN
    have hz1 : Jvm.Free.Fl.NoNaN64 (FP.dmul (FP.l2d vn) (0 : UInt64)) := own_nne hz0 own_nn0
    have hz2 : FP.ddiv (FP.l2d (va + (1 : Int64))) (FP.dmul (FP.l2d vn) (0 : UInt64)) = 9218868437227405312 := by rw [hz0]; exact own_div0 (own_vl (own_a1 ha0 ha1) (by omega)) (by omega)
    have hz3 : Jvm.Free.Fl.NoNaN64 (FP.ddiv (FP.l2d (va + (1 : Int64))) (FP.dmul (FP.l2d vn) (0 : UInt64))) := own_nne hz2 own_nni
    obtain ⟨T_69, h_69, a_69, X_69, e_69, ga_69, E_69, A_69, D_69, st_69⟩ := g_newO X0 hx hZ hown (hw _ (List.mem_of_getElem? (i := 2) rfl)) (hw _ (List.mem_of_getElem? (i := 3) rfl)) (hw _ (List.mem_of_getElem? (i := 4) rfl)) e0 72 (hb hby at_69) rfl (by decide) (by decide)
    refine st_69 ?_
    have g_69 : h0.size ≤ a_69 := by rw [ga_69]; exact (Nat.le_refl _)
    have Z_69 : h0.size ≤ h_69.size := Nat.le_trans (Nat.le_refl _) E_69.1
    have F_69_numPoints : Fld Z h_69 a_69 "com/example/evenfold/evenfold/experiment/RqmcEstimate" "numPoints" "J" (.long (0 : Int64)) := D_69 (Or.inr (hw _ (List.mem_of_getElem? (i := 17) rfl))) (ty := .long) (by decide)
    have F_69_replications : Fld Z h_69 a_69 "com/example/evenfold/evenfold/experiment/RqmcEstimate" "replications" "J" (.long (0 : Int64)) := D_69 (Or.inr (hw _ (List.mem_of_getElem? (i := 19) rfl))) (ty := .long) (by decide)
    have F_69_mean : Fld Z h_69 a_69 "com/example/evenfold/evenfold/experiment/RqmcEstimate" "mean" "D" (.double (0 : UInt64)) := D_69 (Or.inr (hw _ (List.mem_of_getElem? (i := 21) rfl))) (ty := .double) (by decide)
    have F_69_variance : Fld Z h_69 a_69 "com/example/evenfold/evenfold/experiment/RqmcEstimate" "variance" "D" (.double (0 : UInt64)) := D_69 (Or.inr (hw _ (List.mem_of_getElem? (i := 23) rfl))) (ty := .double) (by decide)
    refine g_dup X_69 hx 73 (hb hby at_72) rfl rfl ?_
    refine g_lload X_69 hx 75 vn (hb hby at_73) rfl rfl ?_
    refine g_lload X_69 hx 77 vm (hb hby at_75) rfl rfl ?_
    refine g_dload X_69 hx 79 vd (hb hby at_77) rfl rfl ?_
    refine g_dconst0 X_69 hx 80 (0 : UInt64) (hb hby at_79) rfl rfl ?_
    obtain ⟨_, T_80, L_80, X_80, ⟨rfl, NI, KI, FI1, FI2⟩, st_80⟩ := g_callI X_69 hx hZ (own := "com/example/evenfold/evenfold/experiment/RqmcEstimateVarianceReductionPinLaw") (index := 12) (y := (⟨"com/example/evenfold/evenfold/experiment/RqmcEstimate", "<init>", "(JJDD)V"⟩ : MethodName)) (a := a_69) (as' := [(.long vn), (.long vm), (.double vd), (.double (0 : UInt64))]) rfl hown (hw _ (List.mem_of_getElem? (i := 5) rfl)) (hw _ (List.mem_of_getElem? (i := 6) rfl)) (hw _ (List.mem_of_getElem? (i := 4) rfl)) (hw _ (List.mem_of_getElem? (i := 7) rfl)) (by decide) e_69 (rm_init l Z a0 hw a_69 vn vm vd (0 : UInt64) h_69 h0.size g_69 F_69_numPoints F_69_replications F_69_mean F_69_variance A_69) pd_init rfl 1 (by decide) (by decide) (by decide) (by decide) (pc := 80) (Ls := #[.val (.int q1), .val (.int q2), .val (.int q3), .val (.int q4), .val (.long vn), .second, .val (.long vv), .second, .val (.int vs), .val (.long va), .second, .val (.long vm), .second, .val (.double vd), .second, .val (.double vc), .second, .unset, .unset, .unset, .unset, .unset, .unset, .unset]) (rest := [(.ref a_69)]) (st := [(.double (0 : UInt64)), (.double vd), (.long vm), (.long vn), (.ref a_69), (.ref a_69)]) (by rw [hml]; rfl) rfl (Nat.le_of_eq rfl) (hb hby at_80)
    refine st_80 ?_
    have N_80 := Fr.app (Fr.nil _) NI
    have Z_80 : h0.size ≤ T_80.heap.size := Nat.le_trans Z_69 KI.1
    have E_80 := A_69.keep KI
    show Go p e below _ (T_80.setTop (mkF m 83 #[.val (.int q1), .val (.int q2), .val (.int q3), .val (.int q4), .val (.long vn), .second, .val (.long vv), .second, .val (.int vs), .val (.long va), .second, .val (.long vm), .second, .val (.double vd), .second, .val (.double vc), .second, .unset, .unset, .unset, .unset, .unset, .unset, .unset] [(.ref a_69)]))
    refine g_astore X_80 hx 85 #[.val (.int q1), .val (.int q2), .val (.int q3), .val (.int q4), .val (.long vn), .second, .val (.long vv), .second, .val (.int vs), .val (.long va), .second, .val (.long vm), .second, .val (.double vd), .second, .val (.double vc), .second, .val (.ref a_69), .unset, .unset, .unset, .unset, .unset, .unset] (hb hby at_83) rfl rfl rfl ?_
    refine g_aload X_80 hx 87 (.ref a_69) (hb hby at_85) rfl rfl rfl ?_
    refine g_lload X_80 hx 89 va (hb hby at_87) rfl rfl ?_
    refine g_lconst X_80 hx 90 (1 : Int64) (hb hby at_89) rfl rfl ?_
    refine g_ladd X_80 hx 91 (hb hby at_90) rfl ?_
    refine g_l2d X_80 hx 92 (hb hby at_91) rfl ?_
    obtain ⟨T_92, X_92, e_92, st_92⟩ := g_callVP X_80 hx hZ (own := "com/example/evenfold/evenfold/experiment/RqmcEstimateVarianceReductionPinLaw") (C := "com/example/evenfold/evenfold/experiment/RqmcEstimate") (index := 15) (y := (⟨"com/example/evenfold/evenfold/experiment/RqmcEstimate", "varianceReduction", "(D)D"⟩ : MethodName)) (z := (⟨"com/example/evenfold/evenfold/experiment/RqmcEstimate", "varianceReduction", "(D)D"⟩ : MethodName)) (a := a_69) (as' := [(.double (FP.l2d (va + (1 : Int64))))]) (w := (some (.double (FP.ddiv (FP.l2d (va + (1 : Int64))) (FP.dmul (FP.l2d vn) (0 : UInt64)))))) hown (hw _ (List.mem_of_getElem? (i := 24) rfl)) (hw _ (List.mem_of_getElem? (i := 25) rfl)) (hw _ (List.mem_of_getElem? (i := 27) rfl)) (hw _ (List.mem_of_getElem? (i := 27) rfl)) (hw _ (List.mem_of_getElem? (i := 26) rfl)) (hw _ (List.mem_of_getElem? (i := 4) rfl)) (hw _ (List.mem_of_getElem? (i := 28) rfl)) (by decide) rfl E_80 (rm_vrd l Z a0 hw a_69 (FP.l2d (va + (1 : Int64))) T_80.heap vn (0 : UInt64) hz1 hz3 FI1 FI2) pd_vrd rfl 0 (by decide) (by decide) (by decide) (by decide) rfl rfl (pc := 92) (pc' := 95) (Ls := #[.val (.int q1), .val (.int q2), .val (.int q3), .val (.int q4), .val (.long vn), .second, .val (.long vv), .second, .val (.int vs), .val (.long va), .second, .val (.long vm), .second, .val (.double vd), .second, .val (.double vc), .second, .val (.ref a_69), .unset, .unset, .unset, .unset, .unset, .unset]) (rest := []) (st := [(.double (FP.l2d (va + (1 : Int64)))), (.ref a_69)]) (by rw [hml]; rfl) rfl (Nat.le_of_eq rfl) (hb hby at_92) rfl
    refine st_92 ?_
    show Go p e below _ (T_92.setTop (mkF m 95 #[.val (.int q1), .val (.int q2), .val (.int q3), .val (.int q4), .val (.long vn), .second, .val (.long vv), .second, .val (.int vs), .val (.long va), .second, .val (.long vm), .second, .val (.double vd), .second, .val (.double vc), .second, .val (.ref a_69), .unset, .unset, .unset, .unset, .unset, .unset] [(.double (FP.ddiv (FP.l2d (va + (1 : Int64))) (FP.dmul (FP.l2d vn) (0 : UInt64))))]))
    refine g_dstore X_92 hx 97 #[.val (.int q1), .val (.int q2), .val (.int q3), .val (.int q4), .val (.long vn), .second, .val (.long vv), .second, .val (.int vs), .val (.long va), .second, .val (.long vm), .second, .val (.double vd), .second, .val (.double vc), .second, .val (.ref a_69), .val (.double (FP.ddiv (FP.l2d (va + (1 : Int64))) (FP.dmul (FP.l2d vn) (0 : UInt64)))), .second, .unset, .unset, .unset, .unset] (hb hby at_95) rfl rfl ?_
    refine g_dload X_92 hx 99 (FP.ddiv (FP.l2d (va + (1 : Int64))) (FP.dmul (FP.l2d vn) (0 : UInt64))) (hb hby at_97) rfl rfl ?_
    refine g_ldc2_wD X_92 hx 102 (hb hby at_99) hown (mvT hZ (hw _ (List.mem_of_getElem? (i := 29) rfl))) rfl ?_
    refine g_dcmp X_92 hx 103 (hb hby at_102) rfl ?_
    refine g_ifN X_92 hx 106 (hb hby at_103) (XT.i0_le_f (by rw [hz2, dcmp_pinf' own_finm]; decide)) rfl ?_
    refine g_iconst X_92 hx 107 (1 : Int32) (hb hby at_106) rfl rfl ?_
    refine g_goto X_92 hx 111 (hb hby at_107) (by decide) (by decide) ?_
    exact Go.ret X_92 hx hlk Bd.returns (hb hby at_111) rfl (Or.inl ⟨rfl, by decide, _, rfl⟩) (by decide) (by decide) ⟨rfl, N_80⟩
  ·
    refine g_ifY X0 hx 112 (hb hby at_66) (XT.i0_ne_t c66) (by decide) (by decide) ?_
    obtain ⟨hy1, hy2, hy3, hy4⟩ := own_num hn0 hn1 hn2 hv0 hv1 hv2 ha0 ha1 (own_pr hn0 hn2 hv0 hv2 ha0 ha1) hs0 hs1
    have hy5 : Jvm.Free.Fl.NoNaN64 (FP.l2d va) := own_nn (own_vl ha0 (by omega))
    refine g_lload X0 hx 114 vv (hb hby at_112) rfl rfl ?_
    refine g_l2d X0 hx 115 (hb hby at_114) rfl ?_
    refine g_dload X0 hx 117 vc (hb hby at_115) rfl rfl ?_
    refine g_ddiv X0 hx 118 (hb hby at_117) (own_nn hy1) rfl ?_
    refine g_dstore X0 hx 120 #[.val (.int q1), .val (.int q2), .val (.int q3), .val (.int q4), .val (.long vn), .second, .val (.long vv), .second, .val (.int vs), .val (.long va), .second, .val (.long vm), .second, .val (.double vd), .second, .val (.double vc), .second, .val (.double (FP.ddiv (FP.l2d vv) vc)), .second, .unset, .unset, .unset, .unset, .unset] (hb hby at_118) rfl rfl ?_
    refine g_lload X0 hx 122 va (hb hby at_120) rfl rfl ?_
    refine g_lload X0 hx 124 vn (hb hby at_122) rfl rfl ?_
    refine g_lmul X0 hx 125 (hb hby at_124) rfl ?_
    refine g_lload X0 hx 127 vv (hb hby at_125) rfl rfl ?_
    refine g_lmul X0 hx 128 (hb hby at_127) rfl ?_
    refine g_l2d X0 hx 129 (hb hby at_128) rfl ?_
    refine g_dload X0 hx 131 vc (hb hby at_129) rfl rfl ?_
    refine g_ddiv X0 hx 132 (hb hby at_131) (own_nn hy2) rfl ?_
    refine g_dstore X0 hx 134 #[.val (.int q1), .val (.int q2), .val (.int q3), .val (.int q4), .val (.long vn), .second, .val (.long vv), .second, .val (.int vs), .val (.long va), .second, .val (.long vm), .second, .val (.double vd), .second, .val (.double vc), .second, .val (.double (FP.ddiv (FP.l2d vv) vc)), .second, .val (.double (FP.ddiv (FP.l2d ((va * vn) * vv)) vc)), .second, .unset, .unset, .unset] (hb hby at_132) rfl rfl ?_
    obtain ⟨T_134, h_134, a_134, X_134, e_134, ga_134, E_134, A_134, D_134, st_134⟩ := g_newO X0 hx hZ hown (hw _ (List.mem_of_getElem? (i := 2) rfl)) (hw _ (List.mem_of_getElem? (i := 3) rfl)) (hw _ (List.mem_of_getElem? (i := 4) rfl)) e0 137 (hb hby at_134) rfl (by decide) (by decide)
    refine st_134 ?_
    have g_134 : h0.size ≤ a_134 := by rw [ga_134]; exact (Nat.le_refl _)
    have Z_134 : h0.size ≤ h_134.size := Nat.le_trans (Nat.le_refl _) E_134.1
    have F_134_numPoints : Fld Z h_134 a_134 "com/example/evenfold/evenfold/experiment/RqmcEstimate" "numPoints" "J" (.long (0 : Int64)) := D_134 (Or.inr (hw _ (List.mem_of_getElem? (i := 17) rfl))) (ty := .long) (by decide)
    have F_134_replications : Fld Z h_134 a_134 "com/example/evenfold/evenfold/experiment/RqmcEstimate" "replications" "J" (.long (0 : Int64)) := D_134 (Or.inr (hw _ (List.mem_of_getElem? (i := 19) rfl))) (ty := .long) (by decide)
    have F_134_mean : Fld Z h_134 a_134 "com/example/evenfold/evenfold/experiment/RqmcEstimate" "mean" "D" (.double (0 : UInt64)) := D_134 (Or.inr (hw _ (List.mem_of_getElem? (i := 21) rfl))) (ty := .double) (by decide)
    have F_134_variance : Fld Z h_134 a_134 "com/example/evenfold/evenfold/experiment/RqmcEstimate" "variance" "D" (.double (0 : UInt64)) := D_134 (Or.inr (hw _ (List.mem_of_getElem? (i := 23) rfl))) (ty := .double) (by decide)
    refine g_dup X_134 hx 138 (hb hby at_137) rfl rfl ?_
    refine g_lload X_134 hx 140 vn (hb hby at_138) rfl rfl ?_
    refine g_lload X_134 hx 142 vm (hb hby at_140) rfl rfl ?_
    refine g_dload X_134 hx 144 vd (hb hby at_142) rfl rfl ?_
    refine g_dload X_134 hx 146 (FP.ddiv (FP.l2d vv) vc) (hb hby at_144) rfl rfl ?_
    obtain ⟨_, T_146, L_146, X_146, ⟨rfl, NI, KI, FI1, FI2⟩, st_146⟩ := g_callI X_134 hx hZ (own := "com/example/evenfold/evenfold/experiment/RqmcEstimateVarianceReductionPinLaw") (index := 12) (y := (⟨"com/example/evenfold/evenfold/experiment/RqmcEstimate", "<init>", "(JJDD)V"⟩ : MethodName)) (a := a_134) (as' := [(.long vn), (.long vm), (.double vd), (.double (FP.ddiv (FP.l2d vv) vc))]) rfl hown (hw _ (List.mem_of_getElem? (i := 5) rfl)) (hw _ (List.mem_of_getElem? (i := 6) rfl)) (hw _ (List.mem_of_getElem? (i := 4) rfl)) (hw _ (List.mem_of_getElem? (i := 7) rfl)) (by decide) e_134 (rm_init l Z a0 hw a_134 vn vm vd (FP.ddiv (FP.l2d vv) vc) h_134 h0.size g_134 F_134_numPoints F_134_replications F_134_mean F_134_variance A_134) pd_init rfl 1 (by decide) (by decide) (by decide) (by decide) (pc := 146) (Ls := #[.val (.int q1), .val (.int q2), .val (.int q3), .val (.int q4), .val (.long vn), .second, .val (.long vv), .second, .val (.int vs), .val (.long va), .second, .val (.long vm), .second, .val (.double vd), .second, .val (.double vc), .second, .val (.double (FP.ddiv (FP.l2d vv) vc)), .second, .val (.double (FP.ddiv (FP.l2d ((va * vn) * vv)) vc)), .second, .unset, .unset, .unset]) (rest := [(.ref a_134)]) (st := [(.double (FP.ddiv (FP.l2d vv) vc)), (.double vd), (.long vm), (.long vn), (.ref a_134), (.ref a_134)]) (by rw [hml]; rfl) rfl (Nat.le_of_eq rfl) (hb hby at_146)
    refine st_146 ?_
    have N_146 := Fr.app (Fr.nil _) NI
    have Z_146 : h0.size ≤ T_146.heap.size := Nat.le_trans Z_134 KI.1
    have E_146 := A_134.keep KI
    show Go p e below _ (T_146.setTop (mkF m 149 #[.val (.int q1), .val (.int q2), .val (.int q3), .val (.int q4), .val (.long vn), .second, .val (.long vv), .second, .val (.int vs), .val (.long va), .second, .val (.long vm), .second, .val (.double vd), .second, .val (.double vc), .second, .val (.double (FP.ddiv (FP.l2d vv) vc)), .second, .val (.double (FP.ddiv (FP.l2d ((va * vn) * vv)) vc)), .second, .unset, .unset, .unset] [(.ref a_134)]))
    refine g_astore X_146 hx 151 #[.val (.int q1), .val (.int q2), .val (.int q3), .val (.int q4), .val (.long vn), .second, .val (.long vv), .second, .val (.int vs), .val (.long va), .second, .val (.long vm), .second, .val (.double vd), .second, .val (.double vc), .second, .val (.double (FP.ddiv (FP.l2d vv) vc)), .second, .val (.double (FP.ddiv (FP.l2d ((va * vn) * vv)) vc)), .second, .val (.ref a_134), .unset, .unset] (hb hby at_149) rfl rfl rfl ?_
    refine g_aload X_146 hx 153 (.ref a_134) (hb hby at_151) rfl rfl rfl ?_
    refine g_dload X_146 hx 155 (FP.ddiv (FP.l2d ((va * vn) * vv)) vc) (hb hby at_153) rfl rfl ?_
    obtain ⟨T_155, X_155, e_155, st_155⟩ := g_callVP X_146 hx hZ (own := "com/example/evenfold/evenfold/experiment/RqmcEstimateVarianceReductionPinLaw") (C := "com/example/evenfold/evenfold/experiment/RqmcEstimate") (index := 15) (y := (⟨"com/example/evenfold/evenfold/experiment/RqmcEstimate", "varianceReduction", "(D)D"⟩ : MethodName)) (z := (⟨"com/example/evenfold/evenfold/experiment/RqmcEstimate", "varianceReduction", "(D)D"⟩ : MethodName)) (a := a_134) (as' := [(.double (FP.ddiv (FP.l2d ((va * vn) * vv)) vc))]) (w := (some (.double (FP.ddiv (FP.ddiv (FP.l2d ((va * vn) * vv)) vc) (FP.dmul (FP.l2d vn) (FP.ddiv (FP.l2d vv) vc)))))) hown (hw _ (List.mem_of_getElem? (i := 24) rfl)) (hw _ (List.mem_of_getElem? (i := 25) rfl)) (hw _ (List.mem_of_getElem? (i := 27) rfl)) (hw _ (List.mem_of_getElem? (i := 27) rfl)) (hw _ (List.mem_of_getElem? (i := 26) rfl)) (hw _ (List.mem_of_getElem? (i := 4) rfl)) (hw _ (List.mem_of_getElem? (i := 28) rfl)) (by decide) rfl E_146 (rm_vrd l Z a0 hw a_134 (FP.ddiv (FP.l2d ((va * vn) * vv)) vc) T_146.heap vn (FP.ddiv (FP.l2d vv) vc) (own_nn hy3) (own_nne hy4 hy5) FI1 FI2) pd_vrd rfl 0 (by decide) (by decide) (by decide) (by decide) rfl rfl (pc := 155) (pc' := 158) (Ls := #[.val (.int q1), .val (.int q2), .val (.int q3), .val (.int q4), .val (.long vn), .second, .val (.long vv), .second, .val (.int vs), .val (.long va), .second, .val (.long vm), .second, .val (.double vd), .second, .val (.double vc), .second, .val (.double (FP.ddiv (FP.l2d vv) vc)), .second, .val (.double (FP.ddiv (FP.l2d ((va * vn) * vv)) vc)), .second, .val (.ref a_134), .unset, .unset]) (rest := []) (st := [(.double (FP.ddiv (FP.l2d ((va * vn) * vv)) vc)), (.ref a_134)]) (by rw [hml]; rfl) rfl (Nat.le_of_eq rfl) (hb hby at_155) rfl
    refine st_155 ?_
    show Go p e below _ (T_155.setTop (mkF m 158 #[.val (.int q1), .val (.int q2), .val (.int q3), .val (.int q4), .val (.long vn), .second, .val (.long vv), .second, .val (.int vs), .val (.long va), .second, .val (.long vm), .second, .val (.double vd), .second, .val (.double vc), .second, .val (.double (FP.ddiv (FP.l2d vv) vc)), .second, .val (.double (FP.ddiv (FP.l2d ((va * vn) * vv)) vc)), .second, .val (.ref a_134), .unset, .unset] [(.double (FP.ddiv (FP.ddiv (FP.l2d ((va * vn) * vv)) vc) (FP.dmul (FP.l2d vn) (FP.ddiv (FP.l2d vv) vc))))]))
    refine g_dstore X_155 hx 160 #[.val (.int q1), .val (.int q2), .val (.int q3), .val (.int q4), .val (.long vn), .second, .val (.long vv), .second, .val (.int vs), .val (.long va), .second, .val (.long vm), .second, .val (.double vd), .second, .val (.double vc), .second, .val (.double (FP.ddiv (FP.l2d vv) vc)), .second, .val (.double (FP.ddiv (FP.l2d ((va * vn) * vv)) vc)), .second, .val (.ref a_134), .val (.double (FP.ddiv (FP.ddiv (FP.l2d ((va * vn) * vv)) vc) (FP.dmul (FP.l2d vn) (FP.ddiv (FP.l2d vv) vc)))), .second] (hb hby at_158) rfl rfl ?_
    refine g_dload X_155 hx 162 (FP.ddiv (FP.ddiv (FP.l2d ((va * vn) * vv)) vc) (FP.dmul (FP.l2d vn) (FP.ddiv (FP.l2d vv) vc))) (hb hby at_160) rfl rfl ?_
    refine g_lload X_155 hx 164 va (hb hby at_162) rfl rfl ?_
    refine g_l2d X_155 hx 165 (hb hby at_164) rfl ?_
    refine g_dcmp X_155 hx 166 (hb hby at_165) rfl ?_
    refine g_ifN X_155 hx 169 (hb hby at_166) (XT.i0_ne_f (dcmpV_eq hy4 (own_nne hy4 hy5) _)) rfl ?_
    refine g_iconst X_155 hx 170 (1 : Int32) (hb hby at_169) rfl rfl ?_
    refine g_goto X_155 hx 174 (hb hby at_170) (by decide) (by decide) ?_
    exact Go.ret X_155 hx hlk Bd.returns (hb hby at_174) rfl (Or.inl ⟨rfl, by decide, _, rfl⟩) (by decide) (by decide) ⟨rfl, N_146⟩
set_option maxRecDepth 65536 in
set_option maxHeartbeats 40000000 in
theorem comes_1 {Post : Tables → Env → Array Value → State → Outcome → State → Prop} (hpost : ∀ tb e args s v u, (limb_1_1.after args s (.returned v) u = true ∧ limb_1_2.after args s (.returned v) u = true ∧ True) → FrameEnd s (.returned v) u (Jvm.fieldLocs frame_1_writes args s ++ Jvm.arrayLocs frame_1_arrays args s ++ Jvm.staticLocs frame_1_statics s) 16 128 → Post tb e args s (.returned v) u) :
    ArmFor flags0 classFile x code maxLocals ret World_1 tables_1 room_1 Calls_1 rest_1 Pre_1 Post := by
  intro l hfl _ _ p e ha hc hk s m args below hf hA hF happ hP
  obtain ⟨hcalls, hrest, hpre⟩ := hP
  obtain ⟨-, -, -, hnamed, -, -, -, hat⟩ := (Spec.applies_iff hf).mp happ
  obtain ⟨hg, hn⟩ := and_e (Cond.before_iff.mp (show (Jvm.Cond.and given_1 narrow_1).before args s = true from hpre))
  obtain ⟨h1, g_0⟩ := and_e hg
  obtain ⟨k0, g_1⟩ := and_e g_0
  obtain ⟨k1, g_2⟩ := and_e g_1
  obtain ⟨k2, g_3⟩ := and_e g_2
  obtain ⟨w0, w1, w2, w3, rfl⟩ : ∃ w0 w1 w2 w3 : Value, args = #[w0, w1, w2, w3] := by
    have hs : args.size = 4 := by simpa [Cond.value, given_1] using h1
    obtain ⟨L⟩ := args
    match L, hs with
    | [w0, w1, w2, w3], _ => exact ⟨w0, w1, w2, w3, rfl⟩
  have hw := fun d (hd : d ∈ tables_1) => atoms_spec (ws := Jvm.Cond.code x code maxLocals ret :: tables_1) hat d (List.mem_cons_of_mem _ hd)
  obtain ⟨i0, e_0⟩ := is_v k0
  obtain rfl : w0 = (.int i0) := Option.some.inj e_0
  obtain ⟨i1, e_1⟩ := is_v k1
  obtain rfl : w1 = (.int i1) := Option.some.inj e_1
  obtain ⟨i2, e_2⟩ := is_v k2
  obtain rfl : w2 = (.int i2) := Option.some.inj e_2
  obtain ⟨i3, e_3⟩ := is_v g_3
  obtain rfl : w3 = (.int i3) := Option.some.inj e_3
  obtain ⟨n, o, h1, h2, h3, _, L, rfl, ⟨rfl, N⟩, hq⟩ := rm_law l s _ hw tables_1 i0 i1 i2 i3 s.heap  p e ha hc hk s m _ below hf ((Spec.applies_iff_loose hf).mp happ).1 ⟨rfl, State.Warmed39.refl s, rfl⟩ trivial
  refine ⟨n, _, h1, h2, h3, hpost _ _ _ _ _ _ ⟨Cond.after_iff.mpr rfl, Cond.after_iff.mpr (eq_i res_at (Term.int_eval (1)) rfl), trivial⟩ ⟨hq.1, hq.2.1, (hq.2.2.sift fun y hy => Or.inr (N y hy)).mono (by decide) (by decide)⟩⟩
theorem main_1_1 : Claimed_1_1 := comes_1 fun _ _ _ _ _ _ h hF => ⟨h.1, hF⟩
theorem main_1_2 : Claimed_1_2 := comes_1 fun _ _ _ _ _ _ h hF => ⟨h.2.1, hF⟩
end Jvm.Pilot.@@N@@
namespace Jvm.Pilot.@@N@@
open Jvm Jvm.ClassFile Sem Op Lib Jvm.Free Jvm.Stand Jvm.Pilot.@@N@@.Jvm.D
/-! MADE BY PROGRAM (witnessworld.py) out of the Statement's table words and the real class files: 10 classes; the members and pool entries that the words name. The judged class is class 1, her method 1. -/
namespace start1
open Jvm.ClassFile
def u (s : String) : CpInfo := .utf8 (stringToUtf16 s)
/-- a pool by its gaps: so many unusable entries, then the entry; so many at the end -/
def gap : Nat → List CpInfo → List CpInfo
  | 0, r => r
  | n + 1, r => .unusable :: gap n r
def poolList (es : List (Nat × CpInfo)) (last : Nat) : List CpInfo := es.foldr (fun e r => gap e.1 (e.2 :: r)) (gap last [])
def pool (es : List (Nat × CpInfo)) (last : Nat) : Array CpInfo := ⟨poolList es last⟩
def fileOf (pool : Array CpInfo) (this : Nat) (attrs : Array Attribute := #[]) (ms : Array MethodInfo := #[]) (fl : Nat := 33) (sup : Nat := 0) (ifs : Array Nat := #[]) (fds : Array FieldInfo := #[]) : ClassFile where
  minorVersion := 0
  majorVersion := 65
  constantPool := pool
  accessFlags := fl
  thisClass := this
  superClass := sup
  interfaces := ifs
  fields := fds
  methods := ms
  attributes := attrs
def plain (name : String) (sup : Option ClassId) : Class where
  name := name
  kind := .ordinary
  loader := none
  accessFlags := 33
  super := sup
  interfaces := #[]
  cf := none
  fields := #[]
  methods := #[]
  instanceTypes := #[]
  staticTypes := #[]
  resolved := #[]
  callSites := []
  init := .initialized
  statics := none
  mirror := none

def pool0 : Array CpInfo := pool [(5, u "<init>"), (0, u "()V"), (1, .class_ 10), (1, u "java/lang/Object")] 113

def k0c0 : Code := { maxStack := 0, maxLocals := 1, code := object_method_1_code, exceptionTable := #[], attributes := #[] }
def k0m0 : Method := { name := "<init>", desc := "()V", sig := { parameters := [], returnType := none }, accessFlags := 1, code := some k0c0 }
/-- java/lang/Object -/
def k0 : Class := { plain "java/lang/Object" none with
  accessFlags := 33
  interfaces := #[]
  cf := some (fileOf pool0 8 #[] #[{ accessFlags := 1, nameIndex := 5, descriptorIndex := 6, attributes := #[] }] 33 0 #[] #[])
  fields := #[]
  methods := #[k0m0]
  instanceTypes := #[]
  staticTypes := #[]
  resolved := Array.replicate 124 none
  statics := none }

def pool1 : Array CpInfo := pool [(2, .class_ 4), (1, u "java/lang/Object"), (0, u "<init>"), (0, u "()V"), (0, .integer 1048575), (0, .long 2), (1, .class_ 11), (0, u "com/example/evenfold/evenfold/experiment/RqmcEstimate"), (0, .methodref 10 13), (0, .nameAndType 5 14), (0, u "(JJDD)V"), (0, .methodref 10 16), (0, .nameAndType 17 18), (0, u "varianceReduction"), (0, u "(D)D"), (0, .double 9218868437227405311), (1, .class_ 22), (0, u "com/example/evenfold/evenfold/experiment/RqmcEstimateVarianceReductionPinLaw"), (2, u "law"), (0, u "(IIII)Z")] 3

def k1m0 : Method := { name := "<init>", desc := "()V", sig := { parameters := [], returnType := none }, accessFlags := 1, code := none }
def k1c1 : Code := { maxStack := 10, maxLocals := 24, code := code, exceptionTable := #[], attributes := #[] }
def k1m1 : Method := { name := "law", desc := "(IIII)Z", sig := { parameters := [.int, .int, .int, .int], returnType := some .boolean }, accessFlags := 9, code := some k1c1 }
/-- com/example/evenfold/evenfold/experiment/RqmcEstimateVarianceReductionPinLaw -/
def k1 : Class := { plain "com/example/evenfold/evenfold/experiment/RqmcEstimateVarianceReductionPinLaw" (some 0) with
  accessFlags := 49
  interfaces := #[]
  cf := some (fileOf pool1 21 #[] #[{ accessFlags := 1, nameIndex := 5, descriptorIndex := 6, attributes := #[] }, { accessFlags := 9, nameIndex := 25, descriptorIndex := 26, attributes := #[] }] 49 2 #[] #[])
  fields := #[]
  methods := #[k1m0, k1m1]
  instanceTypes := #[]
  staticTypes := #[]
  resolved := Array.replicate 30 none
  statics := none }

def pool2 : Array CpInfo := pool [(1, .methodref 2 3), (0, .class_ 4), (0, .nameAndType 5 6), (0, u "java/lang/Object"), (0, u "<init>"), (0, u "()V"), (0, .class_ 8), (0, u "java/lang/Record")] 13

def k2c0 : Code := { maxStack := 1, maxLocals := 1, code := jdk_30_method_1_code, exceptionTable := #[], attributes := #[] }
def k2m0 : Method := { name := "<init>", desc := "()V", sig := { parameters := [], returnType := none }, accessFlags := 4, code := some k2c0 }
/-- java/lang/Record -/
def k2 : Class := { plain "java/lang/Record" (some 0) with
  accessFlags := 1057
  interfaces := #[]
  cf := some (fileOf pool2 7 #[] #[{ accessFlags := 4, nameIndex := 5, descriptorIndex := 6, attributes := #[] }] 1057 2 #[] #[])
  fields := #[]
  methods := #[k2m0]
  instanceTypes := #[]
  staticTypes := #[]
  resolved := Array.replicate 22 none
  statics := none }

def pool3 : Array CpInfo := pool [(1, .methodref 2 3), (0, .class_ 4), (0, .nameAndType 5 6), (0, u "java/lang/Record"), (0, u "<init>"), (0, u "()V"), (0, .fieldref 8 9), (0, .class_ 10), (0, .nameAndType 11 12), (0, u "com/example/evenfold/evenfold/experiment/RqmcEstimate"), (0, u "numPoints"), (0, u "J"), (0, .fieldref 8 14), (0, .nameAndType 15 12), (0, u "replications"), (0, .fieldref 8 17), (0, .nameAndType 18 19), (0, u "mean"), (0, u "D"), (0, .fieldref 8 21), (0, .nameAndType 22 19), (0, u "variance"), (5, u "(D)D"), (12, u "(JJDD)V"), (5, u "varianceReduction")] 27

def k3c0 : Code := { maxStack := 3, maxLocals := 9, code := prog_26_method_1_code, exceptionTable := #[], attributes := #[] }
def k3m0 : Method := { name := "<init>", desc := "(JJDD)V", sig := { parameters := [.long, .long, .double, .double], returnType := none }, accessFlags := 1, code := some k3c0 }
def k3c1 : Code := { maxStack := 6, maxLocals := 3, code := prog_26_method_3_code, exceptionTable := #[], attributes := #[] }
def k3m1 : Method := { name := "varianceReduction", desc := "(D)D", sig := { parameters := [.double], returnType := some .double }, accessFlags := 1, code := some k3c1 }
/-- com/example/evenfold/evenfold/experiment/RqmcEstimate -/
def k3 : Class := { plain "com/example/evenfold/evenfold/experiment/RqmcEstimate" (some 2) with
  accessFlags := 49
  interfaces := #[]
  cf := some (fileOf pool3 8 #[] #[{ accessFlags := 1, nameIndex := 5, descriptorIndex := 41, attributes := #[] }, { accessFlags := 1, nameIndex := 47, descriptorIndex := 28, attributes := #[] }] 49 2 #[] #[{ accessFlags := 18, nameIndex := 11, descriptorIndex := 12, attributes := #[] }, { accessFlags := 18, nameIndex := 15, descriptorIndex := 12, attributes := #[] }, { accessFlags := 18, nameIndex := 18, descriptorIndex := 19, attributes := #[] }, { accessFlags := 18, nameIndex := 22, descriptorIndex := 19, attributes := #[] }])
  fields := #[{ name := "numPoints", type := .long, accessFlags := 18, slot := 0, constantValue := 0 }, { name := "replications", type := .long, accessFlags := 18, slot := 1, constantValue := 0 }, { name := "mean", type := .double, accessFlags := 18, slot := 2, constantValue := 0 }, { name := "variance", type := .double, accessFlags := 18, slot := 3, constantValue := 0 }]
  methods := #[k3m0, k3m1]
  instanceTypes := #[.long, .long, .double, .double]
  staticTypes := #[]
  resolved := Array.replicate 75 none
  statics := none }

def pool4 : Array CpInfo := pool [(1, u "java/lang/Cloneable"), (0, .class_ 1), (0, u "java/lang/Object"), (0, .class_ 3)] 3

/-- java/lang/Cloneable -/
def k4 : Class := { plain "java/lang/Cloneable" (some 0) with
  accessFlags := 1537
  interfaces := #[]
  cf := some (fileOf pool4 2 #[] #[] 1537 4 #[] #[])
  fields := #[]
  methods := #[]
  instanceTypes := #[]
  staticTypes := #[]
  resolved := Array.replicate 8 none
  statics := none }

def pool5 : Array CpInfo := pool [(1, u "java/io/Serializable"), (0, .class_ 1), (0, u "java/lang/Object"), (0, .class_ 3)] 3

/-- java/io/Serializable -/
def k5 : Class := { plain "java/io/Serializable" (some 0) with
  accessFlags := 1537
  interfaces := #[]
  cf := some (fileOf pool5 2 #[] #[] 1537 4 #[] #[])
  fields := #[]
  methods := #[]
  instanceTypes := #[]
  staticTypes := #[]
  resolved := Array.replicate 8 none
  statics := none }

/-- the primitive byte -/
def k6 : Class := { plain "byte" none with kind := .primitive 'B', accessFlags := 0x411 }
/-- [B -/
def k7 : Class := { plain "[B" (some 0) with kind := .array 6 .byte, interfaces := #[4, 5], accessFlags := 1041 }

/-- the primitive int -/
def k8 : Class := { plain "int" none with kind := .primitive 'I', accessFlags := 0x411 }
/-- [I -/
def k9 : Class := { plain "[I" (some 0) with kind := .array 8 .int, interfaces := #[4, 5], accessFlags := 1041 }

def heap : Heap := #[]
def classes : Array Class := #[k0, k1, k2, k3, k4, k5, k6, k7, k8, k9]
def interned : List (Array UInt16 × Addr) := []
def slotsUsed : Nat := 0
def theMethod : MethodId := ⟨1, 1⟩
def args0 : Array Value := #[.int 5, .int 7, .int 9, .int 11]
def aboutOver (below : List Frame) : State where
  vm := { classes := classes, interned := interned.toArray }
  heap := heap
  slotsUsed := slotsUsed
  threads := #[{ frames := .invoking theMethod args0 :: below }]
def below0 : List Frame := [.native { method := ⟨0, 0⟩, args := #[] }]
def about1 : State := aboutOver below0
def p0 : Program := .bare "" "" ""
def e0 : Env := launch0.env 0 0 0
theorem w_frames : about1.frames = Frame.invoking theMethod args0 :: below0 := rfl
set_option maxRecDepth 65536 in
theorem w_args : argsFit about1.vm theMethod args0 = true := by decide +kernel
set_option maxRecDepth 65536 in
theorem w_heap : heapFits about1 = true := by decide +kernel
set_option maxRecDepth 65536 in
theorem w_runnable : about1.curStatus? = some .runnable := by decide +kernel
set_option maxRecDepth 65536 in
theorem w_alone : about1.alone = true := by decide +kernel
set_option maxRecDepth 65536 in
theorem w_named : about1.methodNamed? x = some theMethod := by decide +kernel
set_option maxRecDepth 65536 in
theorem w_hears : about1.hears theMethod below0 = true := by decide +kernel
set_option maxRecDepth 65536 in
theorem w_ripe : about1.ripe theMethod args0 below0 = true := by decide +kernel
theorem w_running : about1.status = .running := rfl
set_option maxRecDepth 65536 in
theorem w_room : about1.hasRoom e0.platform room_1 = true :=
  launch0.hasRoom_least _ room_1 (by decide +kernel) (by decide +kernel) (by decide +kernel) (by decide +kernel) (by decide +kernel) (by decide +kernel)
theorem allAtoms_all (ts : List Jvm.Cond) (a : Array Jvm.Value) (st : Jvm.State) : (allAtoms ts).before a st = ts.all (fun c => c.before a st) := by
  induction ts with
  | nil => rfl
  | cons c t ih =>
    show (Jvm.Cond.and c (allAtoms t)).before a st = _
    rw [Jvm.Cond.before_and, ih, List.all_cons]
def words1 : List Jvm.Cond := Jvm.Cond.code x code maxLocals ret :: tables_1
/-- a 'code' word, met by the world's own term for the bytes: nothing is compared byte by byte -/
theorem code_word {y : MethodName} {bytes : ByteArray} {mx : Nat} {rt : Option FieldType} {a : Array Value} {s : State} {m : MethodId} {meth : Method} {c : Code} (h1 : s.methodNamed? y = some m) (h2 : s.vm.method? m = some meth) (h3 : meth.code = some c) (h4 : c.code = bytes)
    (h5 : (c.maxLocals == mx && c.exceptionTable.isEmpty && decide (c.maxStack ≤ mostOperands) && decide (meth.sig.returnType = rt) && !meth.locks && decide (parseMethodDescriptor y.desc = some meth.sig)) = true) : (Jvm.Cond.code y bytes mx rt).before a s = true := by
  simp only [Bool.and_eq_true, beq_iff_eq, Bool.not_eq_true', decide_eq_true_eq] at h5
  obtain ⟨⟨⟨⟨⟨g1, g2⟩, g3⟩, g4⟩, g5⟩, g6⟩ := h5
  simp [Cond.before, Cond.holds, Cond.value, h1, h2, h3, h4, g1, g2, g3, g4, g5, g6]
def isCode : Jvm.Cond → Bool
  | .code _ _ _ _ => true
  | _ => false
theorem all_split {L : List Jvm.Cond} {P : Jvm.Cond → Bool} (h1 : L.all (fun c => isCode c || P c) = true) (h2 : ∀ c ∈ L.filter isCode, P c = true) : L.all P = true := by
  refine List.all_eq_true.mpr fun c hc => ?_
  have h := List.all_eq_true.mp h1 c hc
  rcases Bool.eq_false_or_eq_true (isCode c) with hi | hi
  · exact h2 c (List.mem_filter.mpr ⟨hc, hi⟩)
  · simpa [hi] using h
set_option maxRecDepth 65536 in
theorem w_c0 : (Jvm.Cond.code x code maxLocals ret).before args0 about1 = true := code_word (m := ⟨1, 1⟩) (meth := k1m1) (c := k1c1) (by decide +kernel) rfl rfl rfl (by decide +kernel)
set_option maxRecDepth 65536 in
theorem w_c1 : (Jvm.Cond.code ({ cls := "com/example/evenfold/evenfold/experiment/RqmcEstimate", name := "<init>", desc := "(JJDD)V" } : Jvm.MethodName) prog_26_method_1_code (9 : Nat) (Option.none : Option Jvm.ClassFile.FieldType)).before args0 about1 = true := code_word (m := ⟨3, 0⟩) (meth := k3m0) (c := k3c0) (by decide +kernel) rfl rfl rfl (by decide +kernel)
set_option maxRecDepth 65536 in
theorem w_c2 : (Jvm.Cond.code ({ cls := "java/lang/Record", name := "<init>", desc := "()V" } : Jvm.MethodName) jdk_30_method_1_code (1 : Nat) (Option.none : Option Jvm.ClassFile.FieldType)).before args0 about1 = true := code_word (m := ⟨2, 0⟩) (meth := k2m0) (c := k2c0) (by decide +kernel) rfl rfl rfl (by decide +kernel)
set_option maxRecDepth 65536 in
theorem w_c3 : (Jvm.Cond.code ({ cls := "java/lang/Object", name := "<init>", desc := "()V" } : Jvm.MethodName) object_method_1_code (1 : Nat) (Option.none : Option Jvm.ClassFile.FieldType)).before args0 about1 = true := code_word (m := ⟨0, 0⟩) (meth := k0m0) (c := k0c0) (by decide +kernel) rfl rfl rfl (by decide +kernel)
set_option maxRecDepth 65536 in
theorem w_c4 : (Jvm.Cond.code ({ cls := "com/example/evenfold/evenfold/experiment/RqmcEstimate", name := "varianceReduction", desc := "(D)D" } : Jvm.MethodName) prog_26_method_3_code (3 : Nat) (Option.some Jvm.ClassFile.FieldType.double)).before args0 about1 = true := code_word (m := ⟨3, 1⟩) (meth := k3m1) (c := k3c1) (by decide +kernel) rfl rfl rfl (by decide +kernel)
def codes1 : List Jvm.Cond := [Jvm.Cond.code x code maxLocals ret, Jvm.Cond.code ({ cls := "com/example/evenfold/evenfold/experiment/RqmcEstimate", name := "<init>", desc := "(JJDD)V" } : Jvm.MethodName) prog_26_method_1_code (9 : Nat) (Option.none : Option Jvm.ClassFile.FieldType), Jvm.Cond.code ({ cls := "java/lang/Record", name := "<init>", desc := "()V" } : Jvm.MethodName) jdk_30_method_1_code (1 : Nat) (Option.none : Option Jvm.ClassFile.FieldType), Jvm.Cond.code ({ cls := "java/lang/Object", name := "<init>", desc := "()V" } : Jvm.MethodName) object_method_1_code (1 : Nat) (Option.none : Option Jvm.ClassFile.FieldType), Jvm.Cond.code ({ cls := "com/example/evenfold/evenfold/experiment/RqmcEstimate", name := "varianceReduction", desc := "(D)D" } : Jvm.MethodName) prog_26_method_3_code (3 : Nat) (Option.some Jvm.ClassFile.FieldType.double)]
set_option maxRecDepth 65536 in
theorem codes_eq : words1.filter isCode = codes1 := rfl
theorem w_codes : ∀ c ∈ words1.filter isCode, c.before args0 about1 = true := by
  rw [codes_eq]
  intro c hc
  simp only [codes1, List.mem_cons, List.not_mem_nil, or_false] at hc
  rcases hc with rfl | rfl | rfl | rfl | rfl
  · exact w_c0
  · exact w_c1
  · exact w_c2
  · exact w_c3
  · exact w_c4
set_option maxRecDepth 65536 in
theorem w_t1 : (words1.take 24).all (fun c => isCode c || c.before args0 about1) = true := by decide +kernel
set_option maxRecDepth 65536 in
theorem w_t2 : (words1.drop 24).all (fun c => isCode c || c.before args0 about1) = true := by decide +kernel
theorem w_tables : (allAtoms (Jvm.Cond.code x code maxLocals ret :: tables_1)).before args0 about1 = true := by
  rw [allAtoms_all]
  show words1.all (fun c => c.before args0 about1) = true
  refine all_split ?_ w_codes
  rw [← List.take_append_drop 24 words1, List.all_append, w_t1, w_t2]
  rfl
set_option maxRecDepth 65536 in
theorem w_case : (Jvm.Cond.and given_1 narrow_1).before args0 about1 = true := by decide +kernel
theorem w_applies : (headSpec (Jvm.Cond.code x code maxLocals ret :: tables_1) room_1).applies x e0.platform about1 = true :=
  (Spec.applies_iff w_frames).mpr ⟨w_running, w_runnable, w_alone, w_named, w_hears, w_ripe, w_room, w_tables⟩
theorem atStart : AtStart classFile x code maxLocals ret World_1 tables_1 room_1 Calls_1 rest_1 Pre_1 launch0 p0 e0 about1 theMethod args0 below0 :=
  ⟨lists_1, trivial, launch0.admits_env _ _ _, launch0.least_env, fairChoices_fair.cas, fairChoices_fair.clock, w_frames, w_args, w_heap, w_applies, trivial, trivial, w_case⟩
end start1
theorem witness_1 : WitnessClaimed_1 := ⟨start1.p0, start1.e0, start1.about1, start1.theMethod, start1.args0, start1.below0, start1.atStart⟩
end Jvm.Pilot.@@N@@
