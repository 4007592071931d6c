import JvmDerived
import JvmDerived.Pilot.@@N@@Statement
import JvmDerived.Pilot.@@N@@Code
set_option linter.unusedVariables false
set_option linter.unusedSimpArgs false
@@BLOCK:NumsL.lean.txt@@
namespace Jvm.Pilot.@@N@@
open Jvm Jvm.ClassFile Sem Op Lib Jvm.Free Jvm.Stand Jvm.LawKit Jvm.RoadKit Bundle Jvm.Pilot.@@N@@.Jvm.D
section Own
variable {p : Program} {l : Launch} {e : Env} {R : Room} {s : State} {m : MethodId} {args : Array Value} {below : List Frame} {meth : Method} {c : Code} {T : State} {locs : List Loc} {cells slots : Nat} {Z : State} {a0 : Array Value} {h : Heap} {Q : Option Value → Heap → List Loc → Prop} {kc ks : Nat} {P : State → Outcome → Prop}
/-- from s₀ the run comes to an end at which P holds -/
def Go (p : Program) (e : Env) (below : List Frame) (P : State → Outcome → Prop) (s₀ : State) : Prop := ∃ s₂ o, Steps p.tables e below s₀ s₂ ∧ P s₂ o
/-- the method's end: Q holds of what it returns and leaves -/
def EndN (below : List Frame) (s : State) (Q : Option Value → Heap → List Loc → Prop) (kc ks : Nat) (s₂ : State) (o : Outcome) : Prop := s₂.status = .running ∧ Ended s₂ below o ∧ ∃ v L, o = .returned v ∧ Q v s₂.heap L ∧ FrameEnd s o s₂ L kc ks
theorem Go.of {P : State → Outcome → Prop} {s₀ s₁ : State} (G : Go p e below P s₁) (f : ∀ t, Steps p.tables e below s₁ t → Steps p.tables e below s₀ t) : Go p e below P s₀ := by
  obtain ⟨a, b, c1, d⟩ := G; exact ⟨a, b, f _ c1, d⟩
theorem Go.ret (X : Stand p l e R s m args below meth c T locs cells slots) (hx : p.tables.exec = Jvm.exec) (hlk : meth.locks = false) {pc : Nat} {Ls : Array Slot} {w : Value} {t : FieldType} {i : Instr} {rest : List Value} (hret : meth.sig.returnType = some t) (hd : decode c.code pc = .ok (i, 1)) (hn : narrow t w = w)
    (hi : (i = .ireturn ∧ (t = .int ∨ t = .boolean ∨ t = .byte ∨ t = .char ∨ t = .short) ∧ ∃ z, w = .int z) ∨ (i = .lreturn ∧ t = .long ∧ ∃ z, w = .long z) ∨ (i = .dreturn ∧ t = .double ∧ ∃ z, w = .double z) ∨ (i = .freturn ∧ t = .float ∧ ∃ z, w = .float z) ∨ (i = .areturn ∧ t.isReference = true ∧ w.isRef = true))
    (hc : cells ≤ kc) (hs : slots ≤ ks) (hQ : Q (some w) T.heap locs) : Go p e below (EndN below s Q kc ks) (T.setTop (mkF m pc Ls (w :: rest))) := by
  obtain ⟨fs, hr, hrun, hended, hW, hsame⟩ := X.leave (v := some w) (fun h => by rw [hret] at h; cases h) hlk
  exact ⟨_, _, retOut X hx hret hn hi hd hr, hrun, hended, _, _, rfl, hQ, ⟨_, rfl⟩, hW, hsame.mono hc hs⟩
theorem Go.retV (X : Stand p l e R s m args below meth c T locs cells slots) (hx : p.tables.exec = Jvm.exec) (hlk : meth.locks = false) {pc : Nat} {Ls : Array Slot} (hret : meth.sig.returnType = none) (hd : decode c.code pc = .ok (.return_, 1))
    (hc : cells ≤ kc) (hs : slots ≤ ks) (hQ : Q none T.heap locs) : Go p e below (EndN below s Q kc ks) (T.setTop (mkF m pc Ls [])) := by
  obtain ⟨fs, hr, hrun, hended, hW, hsame⟩ := X.leave (v := none) (fun _ => rfl) hlk
  exact ⟨_, _, X.returnOut hx hret hd hr, hrun, hended, _, _, rfl, hQ, ⟨_, rfl⟩, hW, hsame.mono hc hs⟩
theorem Go.retI (X : Stand p l e R s m args below meth c T locs cells slots) (hx : p.tables.exec = Jvm.exec) (hlk : meth.locks = false) {pc : Nat} {Ls : Array Slot} {z : Int32} {rest : List Value} (hret : meth.sig.returnType = some .int) (hd : decode c.code pc = .ok (.ireturn, 1))
    (hc : cells ≤ kc) (hs : slots ≤ ks) (hQ : Q (some (.int z)) T.heap locs) : Go p e below (EndN below s Q kc ks) (T.setTop (mkF m pc Ls (.int z :: rest))) :=
  Go.ret X hx hlk hret hd rfl (Or.inl ⟨rfl, Or.inl rfl, z, rfl⟩) hc hs hQ
theorem Go.retL (X : Stand p l e R s m args below meth c T locs cells slots) (hx : p.tables.exec = Jvm.exec) (hlk : meth.locks = false) {pc : Nat} {Ls : Array Slot} {z : Int64} {rest : List Value} (hret : meth.sig.returnType = some .long) (hd : decode c.code pc = .ok (.lreturn, 1))
    (hc : cells ≤ kc) (hs : slots ≤ ks) (hQ : Q (some (.long z)) T.heap locs) : Go p e below (EndN below s Q kc ks) (T.setTop (mkF m pc Ls (.long z :: rest))) :=
  Go.ret X hx hlk hret hd rfl (Or.inr (Or.inl ⟨rfl, rfl, z, rfl⟩)) hc hs hQ
theorem Go.retA (X : Stand p l e R s m args below meth c T locs cells slots) (hx : p.tables.exec = Jvm.exec) (hlk : meth.locks = false) {pc : Nat} {Ls : Array Slot} {w : Value} {t : FieldType} {rest : List Value} (hret : meth.sig.returnType = some t) (ht : t.isReference = true) (hw : w.isRef = true) (hd : decode c.code pc = .ok (.areturn, 1))
    (hc : cells ≤ kc) (hs : slots ≤ ks) (hQ : Q (some w) T.heap locs) : Go p e below (EndN below s Q kc ks) (T.setTop (mkF m pc Ls (w :: rest))) :=
  Go.ret X hx hlk hret hd (by cases t <;> first | (cases ht; done) | rfl) (Or.inr (Or.inr (Or.inr (Or.inr ⟨rfl, ht, hw⟩)))) hc hs hQ
theorem Go.retZ (X : Stand p l e R s m args below meth c T locs cells slots) (hx : p.tables.exec = Jvm.exec) (hlk : meth.locks = false) {pc : Nat} {Ls : Array Slot} {z : Int32} {t : FieldType} {rest : List Value} (hret : meth.sig.returnType = some t) (ht : t = .boolean ∨ t = .byte ∨ t = .char ∨ t = .short) (hd : decode c.code pc = .ok (.ireturn, 1))
    (hc : cells ≤ kc) (hs : slots ≤ ks) (hQ : Q (some (.int (nar t z))) T.heap locs) : Go p e below (EndN below s Q kc ks) (T.setTop (mkF m pc Ls (.int z :: rest))) := by
  obtain ⟨fs, hr, hrun, hended, hW, hsame⟩ := X.leave (v := some (.int (nar t z))) (fun h => by rw [hret] at h; cases h) hlk
  exact ⟨_, _, retN X hx hret ht hd hr, hrun, hended, _, _, rfl, hQ, ⟨_, rfl⟩, hW, hsame.mono hc hs⟩

theorem g_iconst (X : Stand p l e R s m args below meth c T locs cells slots) (hx : p.tables.exec = Jvm.exec) {pc : Nat} (pc' : Nat) {Ls : Array Slot} {st : List Value} {i : Int} (v : Int32) (hd : decode c.code pc = .ok (.iconst i, 1)) (hv : Int32.ofInt i = v) (hp : pc + 1 = pc') (G : Go p e below P (T.setTop (mkF m pc' Ls (.int v :: st)))) : Go p e below P (T.setTop (mkF m pc Ls (st))) := by
  subst hp; exact Go.of G fun _ q => XT.iconstV X.here hx rfl v hd hv q
theorem g_bipush (X : Stand p l e R s m args below meth c T locs cells slots) (hx : p.tables.exec = Jvm.exec) {pc : Nat} (pc' : Nat) {Ls : Array Slot} {st : List Value} {i : Int} (v : Int32) (hd : decode c.code pc = .ok (.bipush i, 2)) (hv : (Int8.ofInt i).toInt32 = v) (hp : pc + 2 = pc') (G : Go p e below P (T.setTop (mkF m pc' Ls (.int v :: st)))) : Go p e below P (T.setTop (mkF m pc Ls (st))) := by
  subst hp; exact Go.of G fun _ q => XT.bipushV X.here hx rfl v hd hv q
theorem g_sipush (X : Stand p l e R s m args below meth c T locs cells slots) (hx : p.tables.exec = Jvm.exec) {pc : Nat} (pc' : Nat) {Ls : Array Slot} {st : List Value} {i : Int} (v : Int32) (hd : decode c.code pc = .ok (.sipush i, 3)) (hv : (Int16.ofInt i).toInt32 = v) (hp : pc + 3 = pc') (G : Go p e below P (T.setTop (mkF m pc' Ls (.int v :: st)))) : Go p e below P (T.setTop (mkF m pc Ls (st))) := by
  subst hp; exact Go.of G fun _ q => XT.sipushV X.here hx rfl v hd hv q
theorem g_lconst (X : Stand p l e R s m args below meth c T locs cells slots) (hx : p.tables.exec = Jvm.exec) {pc : Nat} (pc' : Nat) {Ls : Array Slot} {st : List Value} {i : Fin 2} (v : Int64) (hd : decode c.code pc = .ok (.lconst i, 1)) (hv : Int64.ofNat i = v) (hp : pc + 1 = pc') (G : Go p e below P (T.setTop (mkF m pc' Ls (.long v :: st)))) : Go p e below P (T.setTop (mkF m pc Ls (st))) := by
  subst hp; exact Go.of G fun _ q => XT.lconstV X.here hx rfl v hd hv q
theorem g_aconst_null (X : Stand p l e R s m args below meth c T locs cells slots) (hx : p.tables.exec = Jvm.exec) {pc : Nat} (pc' : Nat) {Ls : Array Slot} {st : List Value}  (hd : decode c.code pc = .ok (.aconst_null, 1))  (hp : pc + 1 = pc') (G : Go p e below P (T.setTop (mkF m pc' Ls (.null :: st)))) : Go p e below P (T.setTop (mkF m pc Ls (st))) := by
  subst hp; exact Go.of G fun _ q => XS.aconstNull X.here hx rfl hd q
theorem g_iload_n (X : Stand p l e R s m args below meth c T locs cells slots) (hx : p.tables.exec = Jvm.exec) {pc : Nat} (pc' : Nat) {Ls : Array Slot} {st : List Value} {i : Fin 4} (v : Int32) (hd : decode c.code pc = .ok (.iload_n i, 1)) (hv : Ls[i.val]? = some (.val (.int v))) (hp : pc + 1 = pc') (G : Go p e below P (T.setTop (mkF m pc' Ls (.int v :: st)))) : Go p e below P (T.setTop (mkF m pc Ls (st))) := by
  subst hp; exact Go.of G fun _ q => XS.iloadN X.here hx rfl hd hv q
theorem g_iload (X : Stand p l e R s m args below meth c T locs cells slots) (hx : p.tables.exec = Jvm.exec) {pc : Nat} (pc' : Nat) {Ls : Array Slot} {st : List Value} {i : Nat} (v : Int32) (hd : decode c.code pc = .ok (.iload i, 2)) (hv : Ls[i]? = some (.val (.int v))) (hp : pc + 2 = pc') (G : Go p e below P (T.setTop (mkF m pc' Ls (.int v :: st)))) : Go p e below P (T.setTop (mkF m pc Ls (st))) := by
  subst hp; exact Go.of G fun _ q => XS.iload X.here hx rfl hd hv q
theorem g_lload_n (X : Stand p l e R s m args below meth c T locs cells slots) (hx : p.tables.exec = Jvm.exec) {pc : Nat} (pc' : Nat) {Ls : Array Slot} {st : List Value} {i : Fin 4} (v : Int64) (hd : decode c.code pc = .ok (.lload_n i, 1)) (hv : Ls[i.val]? = some (.val (.long v))) (hp : pc + 1 = pc') (G : Go p e below P (T.setTop (mkF m pc' Ls (.long v :: st)))) : Go p e below P (T.setTop (mkF m pc Ls (st))) := by
  subst hp; exact Go.of G fun _ q => XT.lloadN X.here hx rfl hd hv q
theorem g_lload (X : Stand p l e R s m args below meth c T locs cells slots) (hx : p.tables.exec = Jvm.exec) {pc : Nat} (pc' : Nat) {Ls : Array Slot} {st : List Value} {i : Nat} (v : Int64) (hd : decode c.code pc = .ok (.lload i, 2)) (hv : Ls[i]? = some (.val (.long v))) (hp : pc + 2 = pc') (G : Go p e below P (T.setTop (mkF m pc' Ls (.long v :: st)))) : Go p e below P (T.setTop (mkF m pc Ls (st))) := by
  subst hp; exact Go.of G fun _ q => XT.lload X.here hx rfl hd hv q
theorem g_aload_n (X : Stand p l e R s m args below meth c T locs cells slots) (hx : p.tables.exec = Jvm.exec) {pc : Nat} (pc' : Nat) {Ls : Array Slot} {st : List Value} {i : Fin 4} (v : Value) (hd : decode c.code pc = .ok (.aload_n i, 1)) (hv : Ls[i.val]? = some (.val v)) (hr : v.isRef = true) (hp : pc + 1 = pc') (G : Go p e below P (T.setTop (mkF m pc' Ls (v :: st)))) : Go p e below P (T.setTop (mkF m pc Ls (st))) := by
  subst hp; exact Go.of G fun _ q => XS.aloadN X.here hx rfl hd hv hr q
theorem g_aload (X : Stand p l e R s m args below meth c T locs cells slots) (hx : p.tables.exec = Jvm.exec) {pc : Nat} (pc' : Nat) {Ls : Array Slot} {st : List Value} {i : Nat} (v : Value) (hd : decode c.code pc = .ok (.aload i, 2)) (hv : Ls[i]? = some (.val v)) (hr : v.isRef = true) (hp : pc + 2 = pc') (G : Go p e below P (T.setTop (mkF m pc' Ls (v :: st)))) : Go p e below P (T.setTop (mkF m pc Ls (st))) := by
  subst hp; exact Go.of G fun _ q => XS.aload X.here hx rfl hd hv hr q
theorem g_istore_n (X : Stand p l e R s m args below meth c T locs cells slots) (hx : p.tables.exec = Jvm.exec) {pc : Nat} (pc' : Nat) {Ls : Array Slot} {st : List Value} {i : Fin 4} {v : Int32} (Ls' : Array Slot) (hd : decode c.code pc = .ok (.istore_n i, 1)) (hv : storeLocals Ls i.val (.int v) = some Ls') (hp : pc + 1 = pc') (G : Go p e below P (T.setTop (mkF m pc' Ls' (st)))) : Go p e below P (T.setTop (mkF m pc Ls (.int v :: st))) := by
  subst hp; exact Go.of G fun _ q => XS.istoreN X.here hx rfl hd rfl hv q
theorem g_istore (X : Stand p l e R s m args below meth c T locs cells slots) (hx : p.tables.exec = Jvm.exec) {pc : Nat} (pc' : Nat) {Ls : Array Slot} {st : List Value} {i : Nat} {v : Int32} (Ls' : Array Slot) (hd : decode c.code pc = .ok (.istore i, 2)) (hv : storeLocals Ls i (.int v) = some Ls') (hp : pc + 2 = pc') (G : Go p e below P (T.setTop (mkF m pc' Ls' (st)))) : Go p e below P (T.setTop (mkF m pc Ls (.int v :: st))) := by
  subst hp; exact Go.of G fun _ q => XS.istore X.here hx rfl hd rfl hv q
theorem g_lstore_n (X : Stand p l e R s m args below meth c T locs cells slots) (hx : p.tables.exec = Jvm.exec) {pc : Nat} (pc' : Nat) {Ls : Array Slot} {st : List Value} {i : Fin 4} {v : Int64} (Ls' : Array Slot) (hd : decode c.code pc = .ok (.lstore_n i, 1)) (hv : storeLocals Ls i.val (.long v) = some Ls') (hp : pc + 1 = pc') (G : Go p e below P (T.setTop (mkF m pc' Ls' (st)))) : Go p e below P (T.setTop (mkF m pc Ls (.long v :: st))) := by
  subst hp; exact Go.of G fun _ q => XT.lstoreN X.here hx rfl hd rfl hv q
theorem g_lstore (X : Stand p l e R s m args below meth c T locs cells slots) (hx : p.tables.exec = Jvm.exec) {pc : Nat} (pc' : Nat) {Ls : Array Slot} {st : List Value} {i : Nat} {v : Int64} (Ls' : Array Slot) (hd : decode c.code pc = .ok (.lstore i, 2)) (hv : storeLocals Ls i (.long v) = some Ls') (hp : pc + 2 = pc') (G : Go p e below P (T.setTop (mkF m pc' Ls' (st)))) : Go p e below P (T.setTop (mkF m pc Ls (.long v :: st))) := by
  subst hp; exact Go.of G fun _ q => XT.lstore X.here hx rfl hd rfl hv q
theorem g_astore_n (X : Stand p l e R s m args below meth c T locs cells slots) (hx : p.tables.exec = Jvm.exec) {pc : Nat} (pc' : Nat) {Ls : Array Slot} {st : List Value} {i : Fin 4} {v : Value} (Ls' : Array Slot) (hd : decode c.code pc = .ok (.astore_n i, 1)) (hr : v.isRef = true) (hv : storeLocals Ls i.val v = some Ls') (hp : pc + 1 = pc') (G : Go p e below P (T.setTop (mkF m pc' Ls' (st)))) : Go p e below P (T.setTop (mkF m pc Ls (v :: st))) := by
  subst hp; exact Go.of G fun _ q => XS.astoreN X.here hx rfl hd rfl hr hv q
theorem g_astore (X : Stand p l e R s m args below meth c T locs cells slots) (hx : p.tables.exec = Jvm.exec) {pc : Nat} (pc' : Nat) {Ls : Array Slot} {st : List Value} {i : Nat} {v : Value} (Ls' : Array Slot) (hd : decode c.code pc = .ok (.astore i, 2)) (hr : v.isRef = true) (hv : storeLocals Ls i v = some Ls') (hp : pc + 2 = pc') (G : Go p e below P (T.setTop (mkF m pc' Ls' (st)))) : Go p e below P (T.setTop (mkF m pc Ls (v :: st))) := by
  subst hp; exact Go.of G fun _ q => XS.astore X.here hx rfl hd rfl hr hv q
theorem g_iinc (X : Stand p l e R s m args below meth c T locs cells slots) (hx : p.tables.exec = Jvm.exec) {pc : Nat} (pc' : Nat) {Ls : Array Slot} {st : List Value} {i : Nat} {k : Int} {x : Int32} (v : Int32) (Ls' : Array Slot) (hd : decode c.code pc = .ok (.iinc i k, 3)) (hk : Int32.ofInt k = v) (hv : Ls[i]? = some (.val (.int x))) (hl : storeLocals Ls i (.int (x + v)) = some Ls') (hp : pc + 3 = pc') (G : Go p e below P (T.setTop (mkF m pc' Ls' (st)))) : Go p e below P (T.setTop (mkF m pc Ls (st))) := by
  subst hp; exact Go.of G fun _ q => XT.iincV X.here hx rfl v hd hk hv hl q
theorem g_iadd (X : Stand p l e R s m args below meth c T locs cells slots) (hx : p.tables.exec = Jvm.exec) {pc : Nat} (pc' : Nat) {Ls : Array Slot} {st : List Value} {x y : Int32} (hd : decode c.code pc = .ok (.iadd, 1))  (hp : pc + 1 = pc') (G : Go p e below P (T.setTop (mkF m pc' Ls (.int (x + y) :: st)))) : Go p e below P (T.setTop (mkF m pc Ls (.int y :: .int x :: st))) := by
  subst hp; exact Go.of G fun _ q => XS.iadd X.here hx rfl hd rfl q
theorem g_isub (X : Stand p l e R s m args below meth c T locs cells slots) (hx : p.tables.exec = Jvm.exec) {pc : Nat} (pc' : Nat) {Ls : Array Slot} {st : List Value} {x y : Int32} (hd : decode c.code pc = .ok (.isub, 1))  (hp : pc + 1 = pc') (G : Go p e below P (T.setTop (mkF m pc' Ls (.int (x - y) :: st)))) : Go p e below P (T.setTop (mkF m pc Ls (.int y :: .int x :: st))) := by
  subst hp; exact Go.of G fun _ q => XS.isub X.here hx rfl hd rfl q
theorem g_iand (X : Stand p l e R s m args below meth c T locs cells slots) (hx : p.tables.exec = Jvm.exec) {pc : Nat} (pc' : Nat) {Ls : Array Slot} {st : List Value} {x y : Int32} (hd : decode c.code pc = .ok (.iand, 1))  (hp : pc + 1 = pc') (G : Go p e below P (T.setTop (mkF m pc' Ls (.int (x &&& y) :: st)))) : Go p e below P (T.setTop (mkF m pc Ls (.int y :: .int x :: st))) := by
  subst hp; exact Go.of G fun _ q => XS.iand X.here hx rfl hd rfl q
theorem g_imul (X : Stand p l e R s m args below meth c T locs cells slots) (hx : p.tables.exec = Jvm.exec) {pc : Nat} (pc' : Nat) {Ls : Array Slot} {st : List Value} {x y : Int32} (hd : decode c.code pc = .ok (.imul, 1))  (hp : pc + 1 = pc') (G : Go p e below P (T.setTop (mkF m pc' Ls (.int (x * y) :: st)))) : Go p e below P (T.setTop (mkF m pc Ls (.int y :: .int x :: st))) := by
  subst hp; exact Go.of G fun _ q => XS.imul X.here hx rfl hd rfl q
theorem g_ior (X : Stand p l e R s m args below meth c T locs cells slots) (hx : p.tables.exec = Jvm.exec) {pc : Nat} (pc' : Nat) {Ls : Array Slot} {st : List Value} {x y : Int32} (hd : decode c.code pc = .ok (.ior, 1))  (hp : pc + 1 = pc') (G : Go p e below P (T.setTop (mkF m pc' Ls (.int (x ||| y) :: st)))) : Go p e below P (T.setTop (mkF m pc Ls (.int y :: .int x :: st))) := by
  subst hp; exact Go.of G fun _ q => XT.ior X.here hx rfl hd rfl q
theorem g_ixor (X : Stand p l e R s m args below meth c T locs cells slots) (hx : p.tables.exec = Jvm.exec) {pc : Nat} (pc' : Nat) {Ls : Array Slot} {st : List Value} {x y : Int32} (hd : decode c.code pc = .ok (.ixor, 1))  (hp : pc + 1 = pc') (G : Go p e below P (T.setTop (mkF m pc' Ls (.int (x ^^^ y) :: st)))) : Go p e below P (T.setTop (mkF m pc Ls (.int y :: .int x :: st))) := by
  subst hp; exact Go.of G fun _ q => XT.ixor X.here hx rfl hd rfl q
theorem g_ishl (X : Stand p l e R s m args below meth c T locs cells slots) (hx : p.tables.exec = Jvm.exec) {pc : Nat} (pc' : Nat) {Ls : Array Slot} {st : List Value} {x y : Int32} (hd : decode c.code pc = .ok (.ishl, 1))  (hp : pc + 1 = pc') (G : Go p e below P (T.setTop (mkF m pc' Ls (.int (x <<< (y &&& 31)) :: st)))) : Go p e below P (T.setTop (mkF m pc Ls (.int y :: .int x :: st))) := by
  subst hp; exact Go.of G fun _ q => XT.ishl X.here hx rfl hd rfl q
theorem g_ishr (X : Stand p l e R s m args below meth c T locs cells slots) (hx : p.tables.exec = Jvm.exec) {pc : Nat} (pc' : Nat) {Ls : Array Slot} {st : List Value} {x y : Int32} (hd : decode c.code pc = .ok (.ishr, 1))  (hp : pc + 1 = pc') (G : Go p e below P (T.setTop (mkF m pc' Ls (.int (x >>> (y &&& 31)) :: st)))) : Go p e below P (T.setTop (mkF m pc Ls (.int y :: .int x :: st))) := by
  subst hp; exact Go.of G fun _ q => XT.ishr X.here hx rfl hd rfl q
theorem g_iushr (X : Stand p l e R s m args below meth c T locs cells slots) (hx : p.tables.exec = Jvm.exec) {pc : Nat} (pc' : Nat) {Ls : Array Slot} {st : List Value} {x y : Int32} (hd : decode c.code pc = .ok (.iushr, 1))  (hp : pc + 1 = pc') (G : Go p e below P (T.setTop (mkF m pc' Ls (.int (XT.ushr x y) :: st)))) : Go p e below P (T.setTop (mkF m pc Ls (.int y :: .int x :: st))) := by
  subst hp; exact Go.of G fun _ q => XT.iushr X.here hx rfl hd rfl q
theorem g_idiv (X : Stand p l e R s m args below meth c T locs cells slots) (hx : p.tables.exec = Jvm.exec) {pc : Nat} (pc' : Nat) {Ls : Array Slot} {st : List Value} {x y : Int32} (hd : decode c.code pc = .ok (.idiv, 1)) (hy : y ≠ 0) (hp : pc + 1 = pc') (G : Go p e below P (T.setTop (mkF m pc' Ls (.int (x / y) :: st)))) : Go p e below P (T.setTop (mkF m pc Ls (.int y :: .int x :: st))) := by
  subst hp; exact Go.of G fun _ q => XS.idiv X.here hx rfl hd rfl hy q
theorem g_irem (X : Stand p l e R s m args below meth c T locs cells slots) (hx : p.tables.exec = Jvm.exec) {pc : Nat} (pc' : Nat) {Ls : Array Slot} {st : List Value} {x y : Int32} (hd : decode c.code pc = .ok (.irem, 1)) (hy : y ≠ 0) (hp : pc + 1 = pc') (G : Go p e below P (T.setTop (mkF m pc' Ls (.int (x % y) :: st)))) : Go p e below P (T.setTop (mkF m pc Ls (.int y :: .int x :: st))) := by
  subst hp; exact Go.of G fun _ q => iremM X hx rfl hd rfl hy q
theorem g_ineg (X : Stand p l e R s m args below meth c T locs cells slots) (hx : p.tables.exec = Jvm.exec) {pc : Nat} (pc' : Nat) {Ls : Array Slot} {st : List Value} {x : Int32} (hd : decode c.code pc = .ok (.ineg, 1))  (hp : pc + 1 = pc') (G : Go p e below P (T.setTop (mkF m pc' Ls (.int (-x) :: st)))) : Go p e below P (T.setTop (mkF m pc Ls (.int x :: st))) := by
  subst hp; exact Go.of G fun _ q => XS.ineg X.here hx rfl hd rfl q
theorem g_ladd (X : Stand p l e R s m args below meth c T locs cells slots) (hx : p.tables.exec = Jvm.exec) {pc : Nat} (pc' : Nat) {Ls : Array Slot} {st : List Value} {x y : Int64} (hd : decode c.code pc = .ok (.ladd, 1))  (hp : pc + 1 = pc') (G : Go p e below P (T.setTop (mkF m pc' Ls (.long (x + y) :: st)))) : Go p e below P (T.setTop (mkF m pc Ls (.long y :: .long x :: st))) := by
  subst hp; exact Go.of G fun _ q => XT.ladd X.here hx rfl hd rfl q
theorem g_lsub (X : Stand p l e R s m args below meth c T locs cells slots) (hx : p.tables.exec = Jvm.exec) {pc : Nat} (pc' : Nat) {Ls : Array Slot} {st : List Value} {x y : Int64} (hd : decode c.code pc = .ok (.lsub, 1))  (hp : pc + 1 = pc') (G : Go p e below P (T.setTop (mkF m pc' Ls (.long (x - y) :: st)))) : Go p e below P (T.setTop (mkF m pc Ls (.long y :: .long x :: st))) := by
  subst hp; exact Go.of G fun _ q => XT.lsub X.here hx rfl hd rfl q
theorem g_lmul (X : Stand p l e R s m args below meth c T locs cells slots) (hx : p.tables.exec = Jvm.exec) {pc : Nat} (pc' : Nat) {Ls : Array Slot} {st : List Value} {x y : Int64} (hd : decode c.code pc = .ok (.lmul, 1))  (hp : pc + 1 = pc') (G : Go p e below P (T.setTop (mkF m pc' Ls (.long (x * y) :: st)))) : Go p e below P (T.setTop (mkF m pc Ls (.long y :: .long x :: st))) := by
  subst hp; exact Go.of G fun _ q => XT.lmul X.here hx rfl hd rfl q
theorem g_land (X : Stand p l e R s m args below meth c T locs cells slots) (hx : p.tables.exec = Jvm.exec) {pc : Nat} (pc' : Nat) {Ls : Array Slot} {st : List Value} {x y : Int64} (hd : decode c.code pc = .ok (.land, 1))  (hp : pc + 1 = pc') (G : Go p e below P (T.setTop (mkF m pc' Ls (.long (x &&& y) :: st)))) : Go p e below P (T.setTop (mkF m pc Ls (.long y :: .long x :: st))) := by
  subst hp; exact Go.of G fun _ q => XT.land X.here hx rfl hd rfl q
theorem g_lor (X : Stand p l e R s m args below meth c T locs cells slots) (hx : p.tables.exec = Jvm.exec) {pc : Nat} (pc' : Nat) {Ls : Array Slot} {st : List Value} {x y : Int64} (hd : decode c.code pc = .ok (.lor, 1))  (hp : pc + 1 = pc') (G : Go p e below P (T.setTop (mkF m pc' Ls (.long (x ||| y) :: st)))) : Go p e below P (T.setTop (mkF m pc Ls (.long y :: .long x :: st))) := by
  subst hp; exact Go.of G fun _ q => XT.lor X.here hx rfl hd rfl q
theorem g_lxor (X : Stand p l e R s m args below meth c T locs cells slots) (hx : p.tables.exec = Jvm.exec) {pc : Nat} (pc' : Nat) {Ls : Array Slot} {st : List Value} {x y : Int64} (hd : decode c.code pc = .ok (.lxor, 1))  (hp : pc + 1 = pc') (G : Go p e below P (T.setTop (mkF m pc' Ls (.long (x ^^^ y) :: st)))) : Go p e below P (T.setTop (mkF m pc Ls (.long y :: .long x :: st))) := by
  subst hp; exact Go.of G fun _ q => XT.lxor X.here hx rfl hd rfl q
theorem g_ldiv (X : Stand p l e R s m args below meth c T locs cells slots) (hx : p.tables.exec = Jvm.exec) {pc : Nat} (pc' : Nat) {Ls : Array Slot} {st : List Value} {x y : Int64} (hd : decode c.code pc = .ok (.ldiv, 1)) (hy : y ≠ 0) (hp : pc + 1 = pc') (G : Go p e below P (T.setTop (mkF m pc' Ls (.long (x / y) :: st)))) : Go p e below P (T.setTop (mkF m pc Ls (.long y :: .long x :: st))) := by
  subst hp; exact Go.of G fun _ q => XT.ldiv X.here hx rfl hd rfl hy q
theorem g_lrem (X : Stand p l e R s m args below meth c T locs cells slots) (hx : p.tables.exec = Jvm.exec) {pc : Nat} (pc' : Nat) {Ls : Array Slot} {st : List Value} {x y : Int64} (hd : decode c.code pc = .ok (.lrem, 1)) (hy : y ≠ 0) (hp : pc + 1 = pc') (G : Go p e below P (T.setTop (mkF m pc' Ls (.long (x % y) :: st)))) : Go p e below P (T.setTop (mkF m pc Ls (.long y :: .long x :: st))) := by
  subst hp; exact Go.of G fun _ q => XT.lrem X.here hx rfl hd rfl hy (by rw [Jvm.RoadKit.lrem_mod]; exact q)
theorem g_lneg (X : Stand p l e R s m args below meth c T locs cells slots) (hx : p.tables.exec = Jvm.exec) {pc : Nat} (pc' : Nat) {Ls : Array Slot} {st : List Value} {x : Int64} (hd : decode c.code pc = .ok (.lneg, 1))  (hp : pc + 1 = pc') (G : Go p e below P (T.setTop (mkF m pc' Ls (.long (-x) :: st)))) : Go p e below P (T.setTop (mkF m pc Ls (.long x :: st))) := by
  subst hp; exact Go.of G fun _ q => XT.lneg X.here hx rfl hd rfl q
theorem g_lshl (X : Stand p l e R s m args below meth c T locs cells slots) (hx : p.tables.exec = Jvm.exec) {pc : Nat} (pc' : Nat) {Ls : Array Slot} {st : List Value} {x : Int64} {y : Int32} (hd : decode c.code pc = .ok (.lshl, 1))  (hp : pc + 1 = pc') (G : Go p e below P (T.setTop (mkF m pc' Ls (.long (x <<< (y.toInt64 &&& 63)) :: st)))) : Go p e below P (T.setTop (mkF m pc Ls (.int y :: .long x :: st))) := by
  subst hp; exact Go.of G fun _ q => XT.lshl X.here hx rfl hd rfl q
theorem g_lshr (X : Stand p l e R s m args below meth c T locs cells slots) (hx : p.tables.exec = Jvm.exec) {pc : Nat} (pc' : Nat) {Ls : Array Slot} {st : List Value} {x : Int64} {y : Int32} (hd : decode c.code pc = .ok (.lshr, 1))  (hp : pc + 1 = pc') (G : Go p e below P (T.setTop (mkF m pc' Ls (.long (x >>> (y.toInt64 &&& 63)) :: st)))) : Go p e below P (T.setTop (mkF m pc Ls (.int y :: .long x :: st))) := by
  subst hp; exact Go.of G fun _ q => XT.lshr X.here hx rfl hd rfl q
theorem g_lushr (X : Stand p l e R s m args below meth c T locs cells slots) (hx : p.tables.exec = Jvm.exec) {pc : Nat} (pc' : Nat) {Ls : Array Slot} {st : List Value} {x : Int64} {y : Int32} (hd : decode c.code pc = .ok (.lushr, 1))  (hp : pc + 1 = pc') (G : Go p e below P (T.setTop (mkF m pc' Ls (.long (XT.ushrL x y) :: st)))) : Go p e below P (T.setTop (mkF m pc Ls (.int y :: .long x :: st))) := by
  subst hp; exact Go.of G fun _ q => XT.lushr X.here hx rfl hd rfl q
theorem g_lcmp (X : Stand p l e R s m args below meth c T locs cells slots) (hx : p.tables.exec = Jvm.exec) {pc : Nat} (pc' : Nat) {Ls : Array Slot} {st : List Value} {x y : Int64} (hd : decode c.code pc = .ok (.lcmp, 1))  (hp : pc + 1 = pc') (G : Go p e below P (T.setTop (mkF m pc' Ls (.int (XT.cmpL x y) :: st)))) : Go p e below P (T.setTop (mkF m pc Ls (.long y :: .long x :: st))) := by
  subst hp; exact Go.of G fun _ q => XT.lcmp X.here hx rfl hd rfl q
theorem g_i2l (X : Stand p l e R s m args below meth c T locs cells slots) (hx : p.tables.exec = Jvm.exec) {pc : Nat} (pc' : Nat) {Ls : Array Slot} {st : List Value} {x : Int32} (hd : decode c.code pc = .ok (.i2l, 1))  (hp : pc + 1 = pc') (G : Go p e below P (T.setTop (mkF m pc' Ls (.long (x.toInt64) :: st)))) : Go p e below P (T.setTop (mkF m pc Ls (.int x :: st))) := by
  subst hp; exact Go.of G fun _ q => XT.i2l X.here hx rfl hd rfl q
theorem g_l2i (X : Stand p l e R s m args below meth c T locs cells slots) (hx : p.tables.exec = Jvm.exec) {pc : Nat} (pc' : Nat) {Ls : Array Slot} {st : List Value} {x : Int64} (hd : decode c.code pc = .ok (.l2i, 1))  (hp : pc + 1 = pc') (G : Go p e below P (T.setTop (mkF m pc' Ls (.int (x.toInt32) :: st)))) : Go p e below P (T.setTop (mkF m pc Ls (.long x :: st))) := by
  subst hp; exact Go.of G fun _ q => XT.l2i X.here hx rfl hd rfl q
theorem g_i2b (X : Stand p l e R s m args below meth c T locs cells slots) (hx : p.tables.exec = Jvm.exec) {pc : Nat} (pc' : Nat) {Ls : Array Slot} {st : List Value} {x : Int32} (hd : decode c.code pc = .ok (.i2b, 1))  (hp : pc + 1 = pc') (G : Go p e below P (T.setTop (mkF m pc' Ls (.int (x.toInt8.toInt32) :: st)))) : Go p e below P (T.setTop (mkF m pc Ls (.int x :: st))) := by
  subst hp; exact Go.of G fun _ q => XT.i2b X.here hx rfl hd rfl q
theorem g_i2c (X : Stand p l e R s m args below meth c T locs cells slots) (hx : p.tables.exec = Jvm.exec) {pc : Nat} (pc' : Nat) {Ls : Array Slot} {st : List Value} {x : Int32} (hd : decode c.code pc = .ok (.i2c, 1))  (hp : pc + 1 = pc') (G : Go p e below P (T.setTop (mkF m pc' Ls (.int (x.toUInt32.toUInt16.toUInt32.toInt32) :: st)))) : Go p e below P (T.setTop (mkF m pc Ls (.int x :: st))) := by
  subst hp; exact Go.of G fun _ q => XT.i2c X.here hx rfl hd rfl q
theorem g_i2s (X : Stand p l e R s m args below meth c T locs cells slots) (hx : p.tables.exec = Jvm.exec) {pc : Nat} (pc' : Nat) {Ls : Array Slot} {st : List Value} {x : Int32} (hd : decode c.code pc = .ok (.i2s, 1))  (hp : pc + 1 = pc') (G : Go p e below P (T.setTop (mkF m pc' Ls (.int (x.toInt16.toInt32) :: st)))) : Go p e below P (T.setTop (mkF m pc Ls (.int x :: st))) := by
  subst hp; exact Go.of G fun _ q => XT.i2s X.here hx rfl hd rfl q
theorem g_dup (X : Stand p l e R s m args below meth c T locs cells slots) (hx : p.tables.exec = Jvm.exec) {pc : Nat} (pc' : Nat) {Ls : Array Slot} {st : List Value} {x : Value} (hd : decode c.code pc = .ok (.dup, 1)) (hc : x.category = 1) (hp : pc + 1 = pc') (G : Go p e below P (T.setTop (mkF m pc' Ls (x :: x :: st)))) : Go p e below P (T.setTop (mkF m pc Ls (x :: st))) := by
  subst hp; exact Go.of G fun _ q => XS.dup X.here hx rfl hd rfl hc q
theorem g_pop (X : Stand p l e R s m args below meth c T locs cells slots) (hx : p.tables.exec = Jvm.exec) {pc : Nat} (pc' : Nat) {Ls : Array Slot} {st : List Value} {x : Value} (hd : decode c.code pc = .ok (.pop, 1)) (hc : x.category = 1) (hp : pc + 1 = pc') (G : Go p e below P (T.setTop (mkF m pc' Ls (st)))) : Go p e below P (T.setTop (mkF m pc Ls (x :: st))) := by
  subst hp; exact Go.of G fun _ q => XT.pop X.here hx rfl hd rfl hc q
theorem g_dup_x1 (X : Stand p l e R s m args below meth c T locs cells slots) (hx : p.tables.exec = Jvm.exec) {pc : Nat} (pc' : Nat) {Ls : Array Slot} {st : List Value} {x y : Value} (hd : decode c.code pc = .ok (.dup_x1, 1)) (hc : x.category = 1) (hc' : y.category = 1) (hp : pc + 1 = pc') (G : Go p e below P (T.setTop (mkF m pc' Ls (x :: y :: x :: st)))) : Go p e below P (T.setTop (mkF m pc Ls (x :: y :: st))) := by
  subst hp; exact Go.of G fun _ q => XT.dupX1 X.here hx rfl hd rfl hc hc' q
theorem g_dup2 (X : Stand p l e R s m args below meth c T locs cells slots) (hx : p.tables.exec = Jvm.exec) {pc : Nat} (pc' : Nat) {Ls : Array Slot} {st : List Value} {x y : Value} (hd : decode c.code pc = .ok (.dup2, 1)) (hc : x.category = 1) (hc' : y.category = 1) (hp : pc + 1 = pc') (G : Go p e below P (T.setTop (mkF m pc' Ls (x :: y :: x :: y :: st)))) : Go p e below P (T.setTop (mkF m pc Ls (x :: y :: st))) := by
  subst hp; exact Go.of G fun _ q => XT.dup2 X.here hx rfl hd rfl hc hc' q
theorem g_ldc (X : Stand p l e R s m args below meth c T locs cells slots) (hx : p.tables.exec = Jvm.exec) {pc : Nat} (pc' : Nat) {Ls : Array Slot} {st : List Value} {own : String} {i : Nat} {v : Int32} (hd : decode c.code pc = .ok (.ldc i, 2)) (hown : s.vm.findClass own = some m.cls) (hw : (Jvm.Cond.constant own i v).before args s = true) (hp : pc + 2 = pc') (G : Go p e below P (T.setTop (mkF m pc' Ls (.int v :: st)))) : Go p e below P (T.setTop (mkF m pc Ls (st))) := by
  subst hp; exact Go.of G fun _ q => X.ldcI hx hown hw rfl hd q
theorem g_ldc2_w (X : Stand p l e R s m args below meth c T locs cells slots) (hx : p.tables.exec = Jvm.exec) {pc : Nat} (pc' : Nat) {Ls : Array Slot} {st : List Value} {own : String} {i : Nat} {v : Int64} (hd : decode c.code pc = .ok (.ldc2_w i, 3)) (hown : s.vm.findClass own = some m.cls) (hw : (Jvm.Cond.constantLong own i v).before args s = true) (hp : pc + 3 = pc') (G : Go p e below P (T.setTop (mkF m pc' Ls (.long v :: st)))) : Go p e below P (T.setTop (mkF m pc Ls (st))) := by
  subst hp; exact Go.of G fun _ q => X.ldc2J hx hown hw rfl hd q
theorem g_ifN (X : Stand p l e R s m args below meth c T locs cells slots) (hx : p.tables.exec = Jvm.exec) {pc : Nat} (pc' : Nat) {Ls : Array Slot} {st : List Value} {cd : ClassFile.Cond} {o : Int} {x : Int32} (hd : decode c.code pc = .ok (.ifCond cd o, 3)) (hc : ifCond.holds cd x = false) (hp : pc + 3 = pc') (G : Go p e below P (T.setTop (mkF m pc' Ls (st)))) : Go p e below P (T.setTop (mkF m pc Ls (.int x :: st))) := by
  subst hp; exact Go.of G fun _ q => XS.ifNo X.here hx rfl hd rfl hc q
theorem g_icmpN (X : Stand p l e R s m args below meth c T locs cells slots) (hx : p.tables.exec = Jvm.exec) {pc : Nat} (pc' : Nat) {Ls : Array Slot} {st : List Value} {cd : ClassFile.Cond} {o : Int} {x y : Int32} (hd : decode c.code pc = .ok (.if_icmp cd o, 3)) (hc : if_icmp.holds cd x y = false) (hp : pc + 3 = pc') (G : Go p e below P (T.setTop (mkF m pc' Ls (st)))) : Go p e below P (T.setTop (mkF m pc Ls (.int y :: .int x :: st))) := by
  subst hp; exact Go.of G fun _ q => XS.icmpNo X.here hx rfl hd rfl hc q
theorem g_acmpN (X : Stand p l e R s m args below meth c T locs cells slots) (hx : p.tables.exec = Jvm.exec) {pc : Nat} (pc' : Nat) {Ls : Array Slot} {st : List Value} {cd : ClassFile.ACond} {o : Int} {x y : Value} (hd : decode c.code pc = .ok (.if_acmp cd o, 3)) (hx' : x.isRef = true) (hy' : y.isRef = true) (hc : XT.acmp cd x y = false) (hp : pc + 3 = pc') (G : Go p e below P (T.setTop (mkF m pc' Ls (st)))) : Go p e below P (T.setTop (mkF m pc Ls (y :: x :: st))) := by
  subst hp; exact Go.of G fun _ q => XT.acmpNo X.here hx rfl hd rfl hx' hy' hc q
theorem g_ifnullN (X : Stand p l e R s m args below meth c T locs cells slots) (hx : p.tables.exec = Jvm.exec) {pc : Nat} (pc' : Nat) {Ls : Array Slot} {st : List Value} {o : Int} {b : Addr} (hd : decode c.code pc = .ok (.ifnull o, 3))  (hp : pc + 3 = pc') (G : Go p e below P (T.setTop (mkF m pc' Ls (st)))) : Go p e below P (T.setTop (mkF m pc Ls (.ref b :: st))) := by
  subst hp; exact Go.of G fun _ q => XS.ifnullNo X.here hx rfl hd rfl q
theorem g_ifnonnullN (X : Stand p l e R s m args below meth c T locs cells slots) (hx : p.tables.exec = Jvm.exec) {pc : Nat} (pc' : Nat) {Ls : Array Slot} {st : List Value} {o : Int} (hd : decode c.code pc = .ok (.ifnonnull o, 3))  (hp : pc + 3 = pc') (G : Go p e below P (T.setTop (mkF m pc' Ls (st)))) : Go p e below P (T.setTop (mkF m pc Ls (.null :: st))) := by
  subst hp; exact Go.of G fun _ q => XT.ifnonnullNo X.here hx rfl hd rfl q
theorem g_goto (X : Stand p l e R s m args below meth c T locs cells slots) (hx : p.tables.exec = Jvm.exec) {pc : Nat} (pc' : Nat) {o : Int} {Ls : Array Slot} {st : List Value}  (hd : decode c.code pc = .ok (.goto o, 3))  (ho : 0 ≤ (pc : Int) + o) (hp : ((pc : Int) + o).toNat = pc') (G : Go p e below P (T.setTop (mkF m pc' Ls st))) : Go p e below P (T.setTop (mkF m pc Ls (st))) :=
  Go.of G fun _ q => XS.goto X.here hx rfl (pc0 := pc) rfl hd ho hp q
theorem g_ifY (X : Stand p l e R s m args below meth c T locs cells slots) (hx : p.tables.exec = Jvm.exec) {pc : Nat} (pc' : Nat) {o : Int} {Ls : Array Slot} {st : List Value} {cd : ClassFile.Cond} {x : Int32} (hd : decode c.code pc = .ok (.ifCond cd o, 3)) (hc : ifCond.holds cd x = true) (ho : 0 ≤ (pc : Int) + o) (hp : ((pc : Int) + o).toNat = pc') (G : Go p e below P (T.setTop (mkF m pc' Ls st))) : Go p e below P (T.setTop (mkF m pc Ls (.int x :: st))) :=
  Go.of G fun _ q => XS.ifYes X.here hx rfl (pc0 := pc) rfl hd rfl hc ho hp q
theorem g_icmpY (X : Stand p l e R s m args below meth c T locs cells slots) (hx : p.tables.exec = Jvm.exec) {pc : Nat} (pc' : Nat) {o : Int} {Ls : Array Slot} {st : List Value} {cd : ClassFile.Cond} {x y : Int32} (hd : decode c.code pc = .ok (.if_icmp cd o, 3)) (hc : if_icmp.holds cd x y = true) (ho : 0 ≤ (pc : Int) + o) (hp : ((pc : Int) + o).toNat = pc') (G : Go p e below P (T.setTop (mkF m pc' Ls st))) : Go p e below P (T.setTop (mkF m pc Ls (.int y :: .int x :: st))) :=
  Go.of G fun _ q => XS.icmpYes X.here hx rfl (pc0 := pc) rfl hd rfl hc ho hp q
theorem g_acmpY (X : Stand p l e R s m args below meth c T locs cells slots) (hx : p.tables.exec = Jvm.exec) {pc : Nat} (pc' : Nat) {o : Int} {Ls : Array Slot} {st : List Value} {cd : ClassFile.ACond} {x y : Value} (hd : decode c.code pc = .ok (.if_acmp cd o, 3)) (hx' : x.isRef = true) (hy' : y.isRef = true) (hc : XT.acmp cd x y = true) (ho : 0 ≤ (pc : Int) + o) (hp : ((pc : Int) + o).toNat = pc') (G : Go p e below P (T.setTop (mkF m pc' Ls st))) : Go p e below P (T.setTop (mkF m pc Ls (y :: x :: st))) :=
  Go.of G fun _ q => XT.acmpYes X.here hx rfl (pc0 := pc) rfl hd rfl hx' hy' hc ho hp q
theorem g_ifnullY (X : Stand p l e R s m args below meth c T locs cells slots) (hx : p.tables.exec = Jvm.exec) {pc : Nat} (pc' : Nat) {o : Int} {Ls : Array Slot} {st : List Value}  (hd : decode c.code pc = .ok (.ifnull o, 3))  (ho : 0 ≤ (pc : Int) + o) (hp : ((pc : Int) + o).toNat = pc') (G : Go p e below P (T.setTop (mkF m pc' Ls st))) : Go p e below P (T.setTop (mkF m pc Ls (.null :: st))) :=
  Go.of G fun _ q => XS.ifnullYes X.here hx rfl (pc0 := pc) rfl hd rfl ho hp q
theorem g_ifnonnullY (X : Stand p l e R s m args below meth c T locs cells slots) (hx : p.tables.exec = Jvm.exec) {pc : Nat} (pc' : Nat) {o : Int} {Ls : Array Slot} {st : List Value} {b : Addr} (hd : decode c.code pc = .ok (.ifnonnull o, 3))  (ho : 0 ≤ (pc : Int) + o) (hp : ((pc : Int) + o).toNat = pc') (G : Go p e below P (T.setTop (mkF m pc' Ls st))) : Go p e below P (T.setTop (mkF m pc Ls (.ref b :: st))) :=
  Go.of G fun _ q => XT.ifnonnullYes X.here hx rfl (pc0 := pc) rfl hd rfl ho hp q

theorem g_callS (X : Stand p l e R s m args below meth c T locs cells slots) (hx : p.tables.exec = Jvm.exec) (hZ : Z.Warmed39 s.vm) {own : String} {index : Nat} {y : MethodName} {bytes : ByteArray} {maxL : Nat} {ret : Option FieldType} {rm : Room} {as' : List Value} {Q' : Option Value → Heap → List Loc → Prop}
    (hown : s.vm.findClass own = some m.cls) (w1 : (Jvm.Cond.methodLink own index y).before a0 Z = true) (w2 : (Jvm.Cond.static y).before a0 Z = true) (w3 : (Jvm.Cond.initialized y.cls).before a0 Z = true) (w4 : (Jvm.Cond.code y bytes maxL ret).before a0 Z = true)
    (np : y.cls ≠ "java/lang/invoke/MethodHandle" ∧ y.cls ≠ "java/lang/invoke/VarHandle") (eT : T.heap = h)
    (hM : MetFree l y (head1 [Jvm.Cond.code y bytes maxL ret] rm) (fun a U => a = as'.toArray ∧ Z.Warmed39 U.vm ∧ U.heap = h) (fun _ _ _ _ _ => True) (fun _ U o U' => ∃ v L, o = .returned v ∧ Q' v U'.heap L ∧ FrameEnd U o U' L rm.cells rm.slots))
    {ps : List FieldType} {rt : Option FieldType} (pd : parseMethodDescriptor y.desc = some ⟨ps, rt⟩) (hlen : as'.length = ps.length)
    (W : Nat) (hf : rm.frames + 1 ≤ R.frames) (hl : W + (maxL + 11) + rm.locals ≤ R.locals) (hc : cells + rm.cells ≤ R.cells) (hs : slots + rm.slots ≤ R.slots)
    {pc : Nat} {Ls : Array Slot} {rest st : List Value} (hsz : Ls.size = c.maxLocals) (hst : st = as'.reverse ++ rest) (hW : (rest.map fun v => v.category).sum ≤ W) (hd : decode c.code pc = .ok (.invokestatic index, 3)) :
    ∃ v T' L, Stand p l e R s m args below meth c T' (locs ++ L) (cells + rm.cells) (slots + rm.slots) ∧ Q' v T'.heap L ∧ ∀ t, Steps p.tables e below (T'.setTop (mkF m (pc + 3) Ls (v.toList ++ rest))) t → Steps p.tables e below (T.setTop (mkF m pc Ls st)) t := by
  obtain ⟨v, _, ⟨T', L', k', n'⟩, -, X', ⟨L, hQ, l1, y1, z1⟩, st'⟩ := Jvm.LawKit.callS X hx (y := y) hown (mvT hZ w1) (mvT hZ w2) (mvT hZ w3) (mvT hZ w4) np (backOf (W := W) hM hZ w4 w3 hf hl) (g := mkF m pc Ls st) rfl hsz (argsL := as') (rest := rest) (lenOf pd hlen) hst (by show 2 * 0 + _ ≤ _; omega) hd (fun _ _ => ⟨rfl, eT, hc, hs⟩)
  dsimp only [Pt.U, Pt.locs, Pt.cells, Pt.slots] at X' l1 y1 z1 st' hQ
  subst l1 y1 z1
  exact ⟨v, T', L, X', hQ, st'⟩
/-- a callee that only answers -/
def Pur (w : Option Value) (h0 : Heap) (v : Option Value) (h : Heap) (L : List Loc) : Prop := v = w ∧ L = [] ∧ h = h0
theorem g_callSP (X : Stand p l e R s m args below meth c T locs cells slots) (hx : p.tables.exec = Jvm.exec) (hZ : Z.Warmed39 s.vm) {own : String} {index : Nat} {y : MethodName} {bytes : ByteArray} {maxL : Nat} {ret : Option FieldType} {rm : Room} {as' : List Value} {w : Option Value}
    (hown : s.vm.findClass own = some m.cls) (w1 : (Jvm.Cond.methodLink own index y).before a0 Z = true) (w2 : (Jvm.Cond.static y).before a0 Z = true) (w3 : (Jvm.Cond.initialized y.cls).before a0 Z = true) (w4 : (Jvm.Cond.code y bytes maxL ret).before a0 Z = true)
    (np : y.cls ≠ "java/lang/invoke/MethodHandle" ∧ y.cls ≠ "java/lang/invoke/VarHandle") (eT : T.heap = h)
    (hM : MetFree l y (head1 [Jvm.Cond.code y bytes maxL ret] rm) (fun a U => a = as'.toArray ∧ Z.Warmed39 U.vm ∧ U.heap = h) (fun _ _ _ _ _ => True) (fun _ U o U' => ∃ v L, o = .returned v ∧ Pur w h v U'.heap L ∧ FrameEnd U o U' L rm.cells rm.slots))
    {ps : List FieldType} {rt : Option FieldType} (pd : parseMethodDescriptor y.desc = some ⟨ps, rt⟩) (hlen : as'.length = ps.length)
    (W : Nat) (hf : rm.frames + 1 ≤ R.frames) (hl : W + (maxL + 11) + rm.locals ≤ R.locals) (hc : cells + rm.cells ≤ R.cells) (hs : slots + rm.slots ≤ R.slots) (h0 : rm.cells = 0) (h1 : rm.slots = 0)
    {pc pc' : Nat} {Ls : Array Slot} {rest st : List Value} (hsz : Ls.size = c.maxLocals) (hst : st = as'.reverse ++ rest) (hW : (rest.map fun v => v.category).sum ≤ W) (hd : decode c.code pc = .ok (.invokestatic index, 3)) (hp : pc + 3 = pc') :
    ∃ T', Stand p l e R s m args below meth c T' locs cells slots ∧ T'.heap = h ∧ ∀ {P : State → Outcome → Prop}, Go p e below P (T'.setTop (mkF m pc' Ls (w.toList ++ rest))) → Go p e below P (T.setTop (mkF m pc Ls st)) := by
  obtain ⟨v, T', L, X', ⟨rfl, rfl, e1⟩, st'⟩ := g_callS X hx hZ hown w1 w2 w3 w4 np eT hM pd hlen W hf hl hc hs hsz hst hW hd
  subst hp
  rw [h0, h1, List.append_nil] at X'
  exact ⟨T', X', e1, fun G => Go.of G st'⟩


theorem g_getF (X : Stand p l e R s m args below meth c T locs cells slots) (hx : p.tables.exec = Jvm.exec) (hZ : Z.Warmed39 s.vm) {own R0 O n d : String} {index : Nat} (hown : s.vm.findClass own = some m.cls) (w : (Jvm.Cond.fieldLink own index R0 n d).before a0 Z = true) (via : Via Z R0 O n d) (eT : T.heap = h) {a : Addr} {v : Value} (F : Fld Z h a O n d v)
    {pc : Nat} (pc' : Nat) {Ls : Array Slot} {st : List Value} (hd : decode c.code pc = .ok (.getfield index, 3)) (hp : pc + 3 = pc') :
    ∃ T', Stand p l e R s m args below meth c T' locs cells slots ∧ T'.heap = h ∧ ∀ {P : State → Outcome → Prop}, Go p e below P (T'.setTop (mkF m pc' Ls (v :: st))) → Go p e below P (T.setTop (mkF m pc Ls (.ref a :: st))) := by
  subst hp
  obtain ⟨T', X', e', f⟩ := getF X hx hZ hown (host := "") (Or.inl w) via eT F (g := mkF m pc Ls (.ref a :: st)) rfl rfl hd
  exact ⟨T', X', e', fun G => Go.of G f⟩
theorem g_getS (X : Stand p l e R s m args below meth c T locs cells slots) (hx : p.tables.exec = Jvm.exec) (hZ : Z.Warmed39 s.vm) {own O n d : String} {index : Nat} (hown : s.vm.findClass own = some m.cls) (w : (Jvm.Cond.fieldLink own index O n d).before a0 Z = true) (eT : T.heap = h) {v : Value} (F : Sta Z h O n d v)
    {pc : Nat} (pc' : Nat) {Ls : Array Slot} {st : List Value} (hd : decode c.code pc = .ok (.getstatic index, 3)) (hp : pc + 3 = pc') :
    ∃ T', Stand p l e R s m args below meth c T' locs cells slots ∧ T'.heap = h ∧ ∀ {P : State → Outcome → Prop}, Go p e below P (T'.setTop (mkF m pc' Ls (v :: st))) → Go p e below P (T.setTop (mkF m pc Ls st)) := by
  subst hp
  obtain ⟨T', X', e', f⟩ := getS X hx hZ hown (host := "") w Via.refl eT F (g := mkF m pc Ls st) rfl hd
  exact ⟨T', X', e', fun G => Go.of G f⟩
theorem g_putF (X : Stand p l e R s m args below meth c T locs cells slots) (hx : p.tables.exec = Jvm.exec) (hZ : Z.Warmed39 s.vm) {own R0 O n d C : String} {index kk : Nat} {ty : FieldType} (hown : s.vm.findClass own = some m.cls) (w : (Jvm.Cond.fieldLink own index R0 n d).before a0 Z = true) (via : Via Z R0 O n d) (eT : T.heap = h) {a : Addr} {v old : Value} (F : Fld Z h a O n d old) (E : Exa Z h a C)
    (L : (Jvm.Cond.lays C O n d).before a0 Z = true ∨ ((Jvm.Cond.laysFinal C O n d).before a0 Z = true ∧ own = O ∧ meth.name = "<init>")) (wi : (Jvm.Cond.instantiable C kk).before a0 Z = true) (hty : parseFieldDescriptor d = some ty) (hn : narrow ty v = v) (hf : fits ty v = true)
    {pc : Nat} (pc' : Nat) {Ls : Array Slot} {st : List Value} (hd : decode c.code pc = .ok (.putfield index, 3)) (hp : pc + 3 = pc') :
    ∃ T' h', Stand p l e R s m args below meth c T' (locs ++ [⟨a, Jvm.RoadKit.slotOf Z O n d⟩]) cells slots ∧ T'.heap = h' ∧ Wr h h' a (Jvm.RoadKit.slotOf Z O n d) v ∧ ∀ {P : State → Outcome → Prop}, Go p e below P (T'.setTop (mkF m pc' Ls st)) → Go p e below P (T.setTop (mkF m pc Ls (v :: .ref a :: st))) := by
  subst hp
  obtain ⟨T', h', X', e', W, f⟩ := putF X hx hZ hown (host := "") (Or.inl w) via eT F E L wi hty hn hf (g := mkF m pc Ls (v :: .ref a :: st)) rfl rfl hd
  exact ⟨T', h', X', e', W, fun G => Go.of G f⟩
theorem g_newO (X : Stand p l e R s m args below meth c T locs cells slots) (hx : p.tables.exec = Jvm.exec) (hZ : Z.Warmed39 s.vm) {own C : String} {index n : Nat} (hown : s.vm.findClass own = some m.cls) (w : (Jvm.Cond.classLink own index C).before a0 Z = true) (wi : (Jvm.Cond.instantiable C n).before a0 Z = true) (wz : (Jvm.Cond.initialized C).before a0 Z = true) (eT : T.heap = h)
    {pc : Nat} (pc' : Nat) {Ls : Array Slot} {st : List Value} (hd : decode c.code pc = .ok (.new index, 3)) (hp : pc + 3 = pc') (hc : cells + 1 ≤ R.cells) (hl : slots + n ≤ R.slots) :
    ∃ T' h' a, Stand p l e R s m args below meth c T' locs (cells + 1) (slots + n) ∧ T'.heap = h' ∧ a = h.size ∧ Ext h h' ∧ Exa Z h' a C ∧ (∀ {O nm d : String} {ty : FieldType}, Laid Z a0 C O nm d → parseFieldDescriptor d = some ty → Fld Z h' a O nm d (defaultValue ty)) ∧
      ∀ {P : State → Outcome → Prop}, Go p e below P (T'.setTop (mkF m pc' Ls (.ref a :: st))) → Go p e below P (T.setTop (mkF m pc Ls st)) := by
  subst hp
  obtain ⟨T', h', X', e', E, A, D, -, f⟩ := newO X hx hZ hown w wi wz eT (g := mkF m pc Ls st) rfl hd hc hl
  exact ⟨T', h', _, X', e', rfl, E, A, D, fun G => Go.of G f⟩
theorem g_initO (X : Stand p l e R s m args below meth c T locs cells slots) (hx : p.tables.exec = Jvm.exec) (hZ : Z.Warmed39 s.vm) {own : String} {idx : Nat} (hown : s.vm.findClass own = some m.cls) (w1 : (Jvm.Cond.methodLink own idx Lib.objectInit).before a0 Z = true) (w2 : (Jvm.Cond.instanceMethod Lib.objectInit).before a0 Z = true)
    (w3 : (Jvm.Cond.code Lib.objectInit ⟨#[0xb1]⟩ 1 none).before a0 Z = true) (eT : T.heap = h) (W : Nat) (hf : 1 ≤ R.frames) (hl : W + 12 ≤ R.locals) {a : Addr} {pc : Nat} (pc' : Nat) {Ls : Array Slot} {st : List Value} (hsz : Ls.size = c.maxLocals) (hW : (st.map fun v => v.category).sum ≤ W) (hd : decode c.code pc = .ok (.invokespecial idx, 3)) (hp : pc + 3 = pc') :
    ∃ T', Stand p l e R s m args below meth c T' locs cells slots ∧ T'.heap = h ∧ ∀ {P : State → Outcome → Prop}, Go p e below P (T'.setTop (mkF m pc' Ls st)) → Go p e below P (T.setTop (mkF m pc Ls (.ref a :: st))) := by
  subst hp
  obtain ⟨T', X', e', f⟩ := initO X hx hZ hown w1 w2 w3 eT (g := mkF m pc Ls (.ref a :: st)) rfl hsz rfl hd hf (W := W) (by show 2 * 0 + _ ≤ _; omega) hl
  exact ⟨T', X', e', fun G => Go.of G f⟩
theorem g_newP (X : Stand p l e R s m args below meth c T locs cells slots) (hx : p.tables.exec = Jvm.exec) (hZ : Z.Warmed39 s.vm) {aty : ArrayType} (w : (Jvm.Cond.arrayClass (newarray.typeOf aty)).before a0 Z = true) (eT : T.heap = h) {n : Int32} (cap : Nat) (hn : ¬ n < 0) (hcap : n.toNatClampNeg ≤ cap) (hbig : cap * 8 ≤ 536870912) (hc : cells + 1 ≤ R.cells) (hl : slots + cap ≤ R.slots)
    {pc : Nat} (pc' : Nat) {Ls : Array Slot} {st : List Value} (hd : decode c.code pc = .ok (.newarray aty, 2)) (hp : pc + 2 = pc') :
    ∃ T' h' a cA, Stand p l e R s m args below meth c T' locs (cells + 1) (slots + cap) ∧ T'.heap = h' ∧ a = h.size ∧ Ext h h' ∧ Arr Z h' a (newA cA (newarray.typeOf aty) n) (newarray.typeOf aty) ∧
      ∀ {P : State → Outcome → Prop}, Go p e below P (T'.setTop (mkF m pc' Ls (.ref a :: st))) → Go p e below P (T.setTop (mkF m pc Ls (.int n :: st))) := by
  subst hp
  obtain ⟨T', h', cA, X', e', E, A, f⟩ := newP X hx hZ w eT (g := mkF m pc Ls (.int n :: st)) rfl hd rfl hn hcap hbig hc hl
  exact ⟨T', h', _, cA, X', e', rfl, E, A, fun G => Go.of G f⟩
theorem g_callI (X : Stand p l e R s m args below meth c T locs cells slots) (hx : p.tables.exec = Jvm.exec) (hZ : Z.Warmed39 s.vm) {own : String} {index : Nat} {y : MethodName} {bytes : ByteArray} {maxL : Nat} {rm : Room} {a : Addr} {as' : List Value} {Q' : Option Value → Heap → List Loc → Prop} (hy1 : y.name = "<init>")
    (hown : s.vm.findClass own = some m.cls) (w1 : (Jvm.Cond.methodLink own index y).before a0 Z = true) (w2 : (Jvm.Cond.instanceMethod y).before a0 Z = true) (w3 : (Jvm.Cond.initialized y.cls).before a0 Z = true) (w4 : (Jvm.Cond.code y bytes maxL none).before a0 Z = true)
    (np : y.cls ≠ "java/lang/invoke/MethodHandle" ∧ y.cls ≠ "java/lang/invoke/VarHandle") (eT : T.heap = h)
    (hM : MetFree l y (head1 [Jvm.Cond.code y bytes maxL none] rm) (fun b U => b = (.ref a :: as').toArray ∧ Z.Warmed39 U.vm ∧ U.heap = h) (fun _ _ _ _ _ => True) (fun _ U o U' => ∃ v L, o = .returned v ∧ Q' v U'.heap L ∧ FrameEnd U o U' L rm.cells rm.slots))
    {ps : List FieldType} {rt : Option FieldType} (pd : parseMethodDescriptor y.desc = some ⟨ps, rt⟩) (hlen : as'.length = ps.length)
    (W : Nat) (hf : rm.frames + 1 ≤ R.frames) (hl : W + (maxL + 11) + rm.locals ≤ R.locals) (hc : cells + rm.cells ≤ R.cells) (hs : slots + rm.slots ≤ R.slots)
    {pc : Nat} {Ls : Array Slot} {rest st : List Value} (hsz : Ls.size = c.maxLocals) (hst : st = as'.reverse ++ .ref a :: rest) (hW : (rest.map fun v => v.category).sum ≤ W) (hd : decode c.code pc = .ok (.invokespecial index, 3)) :
    ∃ v T' L, Stand p l e R s m args below meth c T' (locs ++ L) (cells + rm.cells) (slots + rm.slots) ∧ Q' v T'.heap L ∧ ∀ {P : State → Outcome → Prop}, Go p e below P (T'.setTop (mkF m (pc + 3) Ls (v.toList ++ rest))) → Go p e below P (T.setTop (mkF m pc Ls st)) := by
  obtain ⟨v, _, ⟨T', L', k', n'⟩, -, X', ⟨L, hQ, l1, y1, z1⟩, st'⟩ := X.specialBack hx (y := y) hy1 hown (mvT hZ w1) (mvT hZ w2) (mvT hZ w4) np (backOf (W := W) hM hZ w4 w3 hf hl) (g := mkF m pc Ls st) rfl hsz (Steps.refl _) (a := a) (argsL := as') (rest := rest) (lenOf pd hlen) hst (by show 2 * 0 + _ ≤ _; omega) hd (fun _ _ => ⟨rfl, eT, hc, hs⟩)
  dsimp only [Pt.U, Pt.locs, Pt.cells, Pt.slots] at X' l1 y1 z1 st' hQ
  subst l1 y1 z1
  exact ⟨v, T', L, X', hQ, fun G => Go.of G fun _ q => st'.trans q⟩
theorem g_callV (X : Stand p l e R s m args below meth c T locs cells slots) (hx : p.tables.exec = Jvm.exec) (hZ : Z.Warmed39 s.vm) {own C : String} {index : Nat} {y z : MethodName} {bytes : ByteArray} {maxL : Nat} {ret : Option FieldType} {rm : Room} {a : Addr} {as' : List Value} {Q' : Option Value → Heap → List Loc → Prop}
    (hown : s.vm.findClass own = some m.cls) (w1 : (Jvm.Cond.methodLink own index y).before a0 Z = true) (w2 : (Jvm.Cond.declares y).before a0 Z = true) (w5 : (Jvm.Cond.selects y.cls y y).before a0 Z = true) (w6 : (Jvm.Cond.selects C y z).before a0 Z = true) (w7 : (Jvm.Cond.instanceMethod z).before a0 Z = true) (w3 : (Jvm.Cond.initialized z.cls).before a0 Z = true) (w4 : (Jvm.Cond.code z bytes maxL ret).before a0 Z = true)
    (np : y.cls ≠ "java/lang/invoke/MethodHandle" ∧ y.cls ≠ "java/lang/invoke/VarHandle") (eT : T.heap = h) (E : Exa Z h a C)
    (hM : MetFree l z (head1 [Jvm.Cond.code z bytes maxL ret] rm) (fun b U => b = (.ref a :: as').toArray ∧ Z.Warmed39 U.vm ∧ U.heap = h) (fun _ _ _ _ _ => True) (fun _ U o U' => ∃ v L, o = .returned v ∧ Q' v U'.heap L ∧ FrameEnd U o U' L rm.cells rm.slots))
    {ps : List FieldType} {rt : Option FieldType} (pd : parseMethodDescriptor y.desc = some ⟨ps, rt⟩) (hlen : as'.length = ps.length)
    (W : Nat) (hf : rm.frames + 1 ≤ R.frames) (hl : W + (maxL + 11) + rm.locals ≤ R.locals) (hc : cells + rm.cells ≤ R.cells) (hs : slots + rm.slots ≤ R.slots)
    {pc : Nat} {Ls : Array Slot} {rest st : List Value} (hsz : Ls.size = c.maxLocals) (hst : st = as'.reverse ++ .ref a :: rest) (hW : (rest.map fun v => v.category).sum ≤ W) (hd : decode c.code pc = .ok (.invokevirtual index, 3)) :
    ∃ v T' L, Stand p l e R s m args below meth c T' (locs ++ L) (cells + rm.cells) (slots + rm.slots) ∧ Q' v T'.heap L ∧ ∀ {P : State → Outcome → Prop}, Go p e below P (T'.setTop (mkF m (pc + 3) Ls (v.toList ++ rest))) → Go p e below P (T.setTop (mkF m pc Ls st)) := by
  obtain ⟨cq, kq, qa, qb, qc⟩ := isOf hZ eT E
  obtain ⟨v, _, ⟨T', L', k', n'⟩, -, X', ⟨L, hQ, l1, y1, z1⟩, st'⟩ := X.virtualBack hx (y := y) (z := z) hown (mvT hZ w1) (mvT hZ w2) (notFace_of_selects (args := #[]) (mvT hZ w5)) (mvT hZ w6) (mvT hZ w7) np (backOf (W := W) hM hZ w4 w3 hf hl) qa qc (g := mkF m pc Ls st) rfl hsz (Steps.refl _) (argsL := as') (rest := rest) (lenOf pd hlen) hst (by show 2 * 0 + _ ≤ _; omega) hd (fun _ _ => ⟨rfl, eT, hc, hs⟩)
  dsimp only [Pt.U, Pt.locs, Pt.cells, Pt.slots] at X' l1 y1 z1 st' hQ
  subst l1 y1 z1
  exact ⟨v, T', L, X', hQ, fun G => Go.of G fun _ q => st'.trans q⟩
theorem g_callVP (X : Stand p l e R s m args below meth c T locs cells slots) (hx : p.tables.exec = Jvm.exec) (hZ : Z.Warmed39 s.vm) {own C : String} {index : Nat} {y z : MethodName} {bytes : ByteArray} {maxL : Nat} {ret : Option FieldType} {rm : Room} {a : Addr} {as' : List Value} {w : Option Value}
    (hown : s.vm.findClass own = some m.cls) (w1 : (Jvm.Cond.methodLink own index y).before a0 Z = true) (w2 : (Jvm.Cond.declares y).before a0 Z = true) (w5 : (Jvm.Cond.selects y.cls y y).before a0 Z = true) (w6 : (Jvm.Cond.selects C y z).before a0 Z = true) (w7 : (Jvm.Cond.instanceMethod z).before a0 Z = true) (w3 : (Jvm.Cond.initialized z.cls).before a0 Z = true) (w4 : (Jvm.Cond.code z bytes maxL ret).before a0 Z = true)
    (np : y.cls ≠ "java/lang/invoke/MethodHandle" ∧ y.cls ≠ "java/lang/invoke/VarHandle") (eT : T.heap = h) (E : Exa Z h a C)
    (hM : MetFree l z (head1 [Jvm.Cond.code z bytes maxL ret] rm) (fun b U => b = (.ref a :: as').toArray ∧ Z.Warmed39 U.vm ∧ U.heap = h) (fun _ _ _ _ _ => True) (fun _ U o U' => ∃ v L, o = .returned v ∧ Pur w h v U'.heap L ∧ FrameEnd U o U' L rm.cells rm.slots))
    {ps : List FieldType} {rt : Option FieldType} (pd : parseMethodDescriptor y.desc = some ⟨ps, rt⟩) (hlen : as'.length = ps.length)
    (W : Nat) (hf : rm.frames + 1 ≤ R.frames) (hl : W + (maxL + 11) + rm.locals ≤ R.locals) (hc : cells + rm.cells ≤ R.cells) (hs : slots + rm.slots ≤ R.slots) (h0 : rm.cells = 0) (h1 : rm.slots = 0)
    {pc pc' : Nat} {Ls : Array Slot} {rest st : List Value} (hsz : Ls.size = c.maxLocals) (hst : st = as'.reverse ++ .ref a :: rest) (hW : (rest.map fun v => v.category).sum ≤ W) (hd : decode c.code pc = .ok (.invokevirtual index, 3)) (hp : pc + 3 = pc') :
    ∃ T', Stand p l e R s m args below meth c T' locs cells slots ∧ T'.heap = h ∧ ∀ {P : State → Outcome → Prop}, Go p e below P (T'.setTop (mkF m pc' Ls (w.toList ++ rest))) → Go p e below P (T.setTop (mkF m pc Ls st)) := by
  obtain ⟨v, T', L, X', ⟨rfl, rfl, e1⟩, st'⟩ := g_callV X hx hZ hown w1 w2 w5 w6 w7 w3 w4 np eT E hM pd hlen W hf hl hc hs hsz hst hW hd
  subst hp
  rw [h0, h1, List.append_nil] at X'
  exact ⟨T', X', e1, st'⟩


theorem own_clamp {j : Int32} {k : Nat} (hj : j.toInt = (k : Int)) : j.toNatClampNeg = k ∧ ¬ j < 0 := by
  refine ⟨by unfold Int32.toNatClampNeg; rw [hj]; rfl, ?_⟩
  rw [Int32.lt_iff_toInt_lt, hj]; have : (0 : Int32).toInt = 0 := rfl; omega
/-- at a lies an array of kind ty that holds just vs -/
def Arl (Z : State) (h : Heap) (a : Addr) (ty : FieldType) (vs : List Value) : Prop := ∃ cl : Cell, Arr Z h a cl ty ∧ cl.slots = vs.toArray
theorem Arl.new {a : Addr} {ty : FieldType} {cA : ClassId} {z : Int32} {n : Nat} (A : Arr Z h a (newA cA ty z) ty) (hz : z.toNatClampNeg = n) : Arl Z h a ty (List.replicate n (defaultValue ty)) :=
  ⟨_, A, by show Array.replicate z.toNatClampNeg (defaultValue ty) = _; rw [hz]; simp⟩
theorem Arl.ext {a : Addr} {ty : FieldType} {vs : List Value} {h' : Heap} (B : Arl Z h a ty vs) (E : Ext h h') : Arl Z h' a ty vs := by obtain ⟨cl, A, r⟩ := B; exact ⟨cl, A.ext E, r⟩
theorem Arl.keep {a : Addr} {ty : FieldType} {vs : List Value} {h' : Heap} {ws : List Addr} (B : Arl Z h a ty vs) (K : Keep h h' ws) (q : a ∉ ws) : Arl Z h' a ty vs := by obtain ⟨cl, A, r⟩ := B; exact ⟨cl, ⟨K.2.1 a cl A.1 q, A.2⟩, r⟩
theorem Arl.other {a b : Addr} {ty : FieldType} {vs : List Value} {h' : Heap} {sl : Nat} {v : Value} (B : Arl Z h b ty vs) (W : Wr h h' a sl v) (q : b ≠ a) : Arl Z h' b ty vs := by obtain ⟨cl, A, r⟩ := B; exact ⟨cl, A.other W q, r⟩
theorem Arl.lt {a : Addr} {ty : FieldType} {vs : List Value} (B : Arl Z h a ty vs) : a < h.size := by obtain ⟨cl, A, r⟩ := B; exact A.lt
theorem Arl.to {a : Addr} {ty : FieldType} {vs vs' : List Value} (B : Arl Z h a ty vs) (q : vs = vs') : Arl Z h a ty vs' := q ▸ B
theorem Arl.set {a : Addr} {ty : FieldType} {vs : List Value} {h' : Heap} {k : Nat} {v : Value} (B : Arl Z h a ty vs) (W : Wr h h' a k v) : Arl Z h' a ty (vs.set k v) := by
  obtain ⟨cl, A, r⟩ := B
  exact ⟨_, A.same W, by show cl.slots.setIfInBounds k v = _; rw [r]; simp⟩
theorem Arl.of_arv {a : Addr} {ty : FieldType} {k : ClassId} {z : Int32} {vs : List Value} {dv : Value} (B : Arv Z h a k ty z vs dv) (hl : z.toNatClampNeg = vs.length) : Arl Z h a ty vs := by
  obtain ⟨cl, A, -, S, -, H, -⟩ := B
  refine ⟨cl, A, Array.ext_getElem? fun i => ?_⟩
  by_cases hi : i < cl.slots.size
  · rw [H i hi]; rw [S, hl] at hi; simp [List.getD_eq_getElem?_getD, hi]
  · rw [Array.getElem?_eq_none (by omega), Array.getElem?_eq_none (by rw [S, hl] at hi; simpa using hi)]
theorem ne_exl {a b : Addr} {ty : FieldType} {vs : List Value} {C : String} {k : Nat} (F : Exa Z h a C) (wi : (Jvm.Cond.instantiable C k).before a0 Z = true) (G : Arl Z h b ty vs) : a ≠ b := by obtain ⟨cl, A, r⟩ := G; exact ne_arr F wi A
theorem g_alen (X : Stand p l e R s m args below meth c T locs cells slots) (hx : p.tables.exec = Jvm.exec) (hZ : Z.Warmed39 s.vm) (eT : T.heap = h) {a : Addr} {ty : FieldType} {vs : List Value} (B : Arl Z h a ty vs) (z : Int32) (hz : vs.length.toInt32 = z)
    {pc : Nat} (pc' : Nat) {Ls : Array Slot} {st : List Value} (hd : decode c.code pc = .ok (.arraylength, 1)) (hp : pc + 1 = pc') (G : Go p e below P (T.setTop (mkF m pc' Ls (.int z :: st)))) : Go p e below P (T.setTop (mkF m pc Ls (.ref a :: st))) := by
  subst hp
  obtain ⟨cl, A, r⟩ := B
  exact Go.of G fun _ k' => X.arraylength hx (by rw [eT]; exact A.1) (State.isArrayOf_alike hZ.alike A.2.1) (g := mkF m pc Ls (.ref a :: st)) rfl rfl hd _ (by rw [r, List.size_toArray, hz]; exact k')

theorem g_iaload (X : Stand p l e R s m args below meth c T locs cells slots) (hx : p.tables.exec = Jvm.exec) (hZ : Z.Warmed39 s.vm) (eT : T.heap = h) {a : Addr} {vs : List Value} (B : Arl Z h a .int vs) {j : Int32} {k : Nat} (hj : j.toInt = (k : Int)) (v : Value) (hv : vs[k]? = some v)
    {pc : Nat} (pc' : Nat) {Ls : Array Slot} {st : List Value} (hd : decode c.code pc = .ok (.iaload, 1)) (hp : pc + 1 = pc') (G : Go p e below P (T.setTop (mkF m pc' Ls (v :: st)))) : Go p e below P (T.setTop (mkF m pc Ls (.int j :: .ref a :: st))) := by
  subst hp
  obtain ⟨cl, A, r⟩ := B
  obtain ⟨c1, c2⟩ := own_clamp hj
  have hk := (List.getElem?_eq_some_iff.mp hv).1
  exact Go.of G fun _ k' => X.iaload hx (by rw [eT]; exact A.1) (State.isArrayOf_alike hZ.alike A.2.1) A.2.2 (by rw [c1, r, List.size_toArray]; intro z; rcases z with z | z; exact c2 z; omega) (by rw [c1, r, List.getElem?_toArray]; exact hv) (g := mkF m pc Ls (.int j :: .ref a :: st)) rfl rfl hd _ k'
theorem g_laload (X : Stand p l e R s m args below meth c T locs cells slots) (hx : p.tables.exec = Jvm.exec) (hZ : Z.Warmed39 s.vm) (eT : T.heap = h) {a : Addr} {vs : List Value} (B : Arl Z h a .long vs) {j : Int32} {k : Nat} (hj : j.toInt = (k : Int)) (v : Value) (hv : vs[k]? = some v)
    {pc : Nat} (pc' : Nat) {Ls : Array Slot} {st : List Value} (hd : decode c.code pc = .ok (.laload, 1)) (hp : pc + 1 = pc') (G : Go p e below P (T.setTop (mkF m pc' Ls (v :: st)))) : Go p e below P (T.setTop (mkF m pc Ls (.int j :: .ref a :: st))) := by
  subst hp
  obtain ⟨cl, A, r⟩ := B
  obtain ⟨c1, c2⟩ := own_clamp hj
  have hk := (List.getElem?_eq_some_iff.mp hv).1
  exact Go.of G fun _ k' => X.laload hx (by rw [eT]; exact A.1) (State.isArrayOf_alike hZ.alike A.2.1) A.2.2 (by rw [c1, r, List.size_toArray]; intro z; rcases z with z | z; exact c2 z; omega) (by rw [c1, r, List.getElem?_toArray]; exact hv) (g := mkF m pc Ls (.int j :: .ref a :: st)) rfl rfl hd _ k'
theorem g_caload (X : Stand p l e R s m args below meth c T locs cells slots) (hx : p.tables.exec = Jvm.exec) (hZ : Z.Warmed39 s.vm) (eT : T.heap = h) {a : Addr} {vs : List Value} (B : Arl Z h a .char vs) {j : Int32} {k : Nat} (hj : j.toInt = (k : Int)) (v : Value) (hv : vs[k]? = some v)
    {pc : Nat} (pc' : Nat) {Ls : Array Slot} {st : List Value} (hd : decode c.code pc = .ok (.caload, 1)) (hp : pc + 1 = pc') (G : Go p e below P (T.setTop (mkF m pc' Ls (v :: st)))) : Go p e below P (T.setTop (mkF m pc Ls (.int j :: .ref a :: st))) := by
  subst hp
  obtain ⟨cl, A, r⟩ := B
  obtain ⟨c1, c2⟩ := own_clamp hj
  have hk := (List.getElem?_eq_some_iff.mp hv).1
  exact Go.of G fun _ k' => X.caload hx (by rw [eT]; exact A.1) (State.isArrayOf_alike hZ.alike A.2.1) A.2.2 (by rw [c1, r, List.size_toArray]; intro z; rcases z with z | z; exact c2 z; omega) (by rw [c1, r, List.getElem?_toArray]; exact hv) (g := mkF m pc Ls (.int j :: .ref a :: st)) rfl rfl hd _ k'
theorem g_baload (X : Stand p l e R s m args below meth c T locs cells slots) (hx : p.tables.exec = Jvm.exec) (hZ : Z.Warmed39 s.vm) (eT : T.heap = h) {a : Addr} {vs : List Value} (B : Arl Z h a .byte vs) {j : Int32} {k : Nat} (hj : j.toInt = (k : Int)) (v : Value) (hv : vs[k]? = some v)
    {pc : Nat} (pc' : Nat) {Ls : Array Slot} {st : List Value} (hd : decode c.code pc = .ok (.baload, 1)) (hp : pc + 1 = pc') (G : Go p e below P (T.setTop (mkF m pc' Ls (v :: st)))) : Go p e below P (T.setTop (mkF m pc Ls (.int j :: .ref a :: st))) := by
  subst hp
  obtain ⟨cl, A, r⟩ := B
  obtain ⟨c1, c2⟩ := own_clamp hj
  have hk := (List.getElem?_eq_some_iff.mp hv).1
  exact Go.of G fun _ k' => X.baloadBytes hx (by rw [eT]; exact A.1) (State.isArrayOf_alike hZ.alike A.2.1) A.2.2 (by rw [c1, r, List.size_toArray]; intro z; rcases z with z | z; exact c2 z; omega) (by rw [c1, r, List.getElem?_toArray]; exact hv) (g := mkF m pc Ls (.int j :: .ref a :: st)) rfl rfl hd _ k'
theorem g_zaload (X : Stand p l e R s m args below meth c T locs cells slots) (hx : p.tables.exec = Jvm.exec) (hZ : Z.Warmed39 s.vm) (eT : T.heap = h) {a : Addr} {vs : List Value} (B : Arl Z h a .boolean vs) {j : Int32} {k : Nat} (hj : j.toInt = (k : Int)) (v : Value) (hv : vs[k]? = some v)
    {pc : Nat} (pc' : Nat) {Ls : Array Slot} {st : List Value} (hd : decode c.code pc = .ok (.baload, 1)) (hp : pc + 1 = pc') (G : Go p e below P (T.setTop (mkF m pc' Ls (v :: st)))) : Go p e below P (T.setTop (mkF m pc Ls (.int j :: .ref a :: st))) := by
  subst hp
  obtain ⟨cl, A, r⟩ := B
  obtain ⟨c1, c2⟩ := own_clamp hj
  have hk := (List.getElem?_eq_some_iff.mp hv).1
  exact Go.of G fun _ k' => X.baloadBooleans hx (by rw [eT]; exact A.1) (State.isArrayOf_alike hZ.alike A.2.1) A.2.2 (by rw [c1, r, List.size_toArray]; intro z; rcases z with z | z; exact c2 z; omega) (by rw [c1, r, List.getElem?_toArray]; exact hv) (g := mkF m pc Ls (.int j :: .ref a :: st)) rfl rfl hd _ k'
theorem g_iastore (X : Stand p l e R s m args below meth c T locs cells slots) (hx : p.tables.exec = Jvm.exec) (hZ : Z.Warmed39 s.vm) (eT : T.heap = h) {a : Addr} {vs : List Value} (B : Arl Z h a .int vs) {j : Int32} (x : Int32) {k : Nat} (hj : j.toInt = (k : Int)) (hk : k < vs.length)
    {pc : Nat} (pc' : Nat) {Ls : Array Slot} {st : List Value} (hd : decode c.code pc = .ok (.iastore, 1)) (hp : pc + 1 = pc') :
    ∃ T' h', Stand p l e R s m args below meth c T' (locs ++ [⟨a, k⟩]) cells slots ∧ T'.heap = h' ∧ Wr h h' a k (.int x) ∧ Arl Z h' a .int (vs.set k (.int x)) ∧
      ∀ {P : State → Outcome → Prop}, Go p e below P (T'.setTop (mkF m pc' Ls st)) → Go p e below P (T.setTop (mkF m pc Ls (.int x :: .int j :: .ref a :: st))) := by
  subst hp
  have B0 := B
  obtain ⟨cl, A, r⟩ := B
  obtain ⟨c1, c2⟩ := own_clamp hj
  obtain ⟨T', h', X', e', W, f'⟩ := stI X hx hZ eT A (j := j) (x := x) (by rw [c1, r, List.size_toArray]; intro z; rcases z with z | z; exact c2 z; omega) (g := mkF m pc Ls (.int x :: .int j :: .ref a :: st)) rfl rfl hd
  rw [c1] at X' W
  exact ⟨T', h', X', e', W, B0.set W, fun G => Go.of G f'⟩
theorem g_lastore (X : Stand p l e R s m args below meth c T locs cells slots) (hx : p.tables.exec = Jvm.exec) (hZ : Z.Warmed39 s.vm) (eT : T.heap = h) {a : Addr} {vs : List Value} (B : Arl Z h a .long vs) {j : Int32} (x : Int64) {k : Nat} (hj : j.toInt = (k : Int)) (hk : k < vs.length)
    {pc : Nat} (pc' : Nat) {Ls : Array Slot} {st : List Value} (hd : decode c.code pc = .ok (.lastore, 1)) (hp : pc + 1 = pc') :
    ∃ T' h', Stand p l e R s m args below meth c T' (locs ++ [⟨a, k⟩]) cells slots ∧ T'.heap = h' ∧ Wr h h' a k (.long x) ∧ Arl Z h' a .long (vs.set k (.long x)) ∧
      ∀ {P : State → Outcome → Prop}, Go p e below P (T'.setTop (mkF m pc' Ls st)) → Go p e below P (T.setTop (mkF m pc Ls (.long x :: .int j :: .ref a :: st))) := by
  subst hp
  have B0 := B
  obtain ⟨cl, A, r⟩ := B
  obtain ⟨c1, c2⟩ := own_clamp hj
  obtain ⟨T', h', X', e', W, f'⟩ := stJ X hx hZ eT A (j := j) (x := x) (by rw [c1, r, List.size_toArray]; intro z; rcases z with z | z; exact c2 z; omega) (g := mkF m pc Ls (.long x :: .int j :: .ref a :: st)) rfl rfl hd
  rw [c1] at X' W
  exact ⟨T', h', X', e', W, B0.set W, fun G => Go.of G f'⟩
theorem g_castore (X : Stand p l e R s m args below meth c T locs cells slots) (hx : p.tables.exec = Jvm.exec) (hZ : Z.Warmed39 s.vm) (eT : T.heap = h) {a : Addr} {vs : List Value} (B : Arl Z h a .char vs) {j : Int32} (x : Int32) {k : Nat} (hj : j.toInt = (k : Int)) (hk : k < vs.length)
    {pc : Nat} (pc' : Nat) {Ls : Array Slot} {st : List Value} (hd : decode c.code pc = .ok (.castore, 1)) (hp : pc + 1 = pc') :
    ∃ T' h', Stand p l e R s m args below meth c T' (locs ++ [⟨a, k⟩]) cells slots ∧ T'.heap = h' ∧ Wr h h' a k (.int (nar .char x)) ∧ Arl Z h' a .char (vs.set k (.int (nar .char x))) ∧
      ∀ {P : State → Outcome → Prop}, Go p e below P (T'.setTop (mkF m pc' Ls st)) → Go p e below P (T.setTop (mkF m pc Ls (.int x :: .int j :: .ref a :: st))) := by
  subst hp
  have B0 := B
  obtain ⟨cl, A, r⟩ := B
  obtain ⟨c1, c2⟩ := own_clamp hj
  obtain ⟨T', h', X', e', W, f'⟩ := stC X hx hZ eT A (j := j) (x := x) (by rw [c1, r, List.size_toArray]; intro z; rcases z with z | z; exact c2 z; omega) (g := mkF m pc Ls (.int x :: .int j :: .ref a :: st)) rfl rfl hd
  rw [c1] at X' W
  exact ⟨T', h', X', e', W, B0.set W, fun G => Go.of G f'⟩
theorem g_bastore (X : Stand p l e R s m args below meth c T locs cells slots) (hx : p.tables.exec = Jvm.exec) (hZ : Z.Warmed39 s.vm) (eT : T.heap = h) {a : Addr} {vs : List Value} (B : Arl Z h a .byte vs) {j : Int32} (x : Int32) {k : Nat} (hj : j.toInt = (k : Int)) (hk : k < vs.length)
    {pc : Nat} (pc' : Nat) {Ls : Array Slot} {st : List Value} (hd : decode c.code pc = .ok (.bastore, 1)) (hp : pc + 1 = pc') :
    ∃ T' h', Stand p l e R s m args below meth c T' (locs ++ [⟨a, k⟩]) cells slots ∧ T'.heap = h' ∧ Wr h h' a k (.int (nar .byte x)) ∧ Arl Z h' a .byte (vs.set k (.int (nar .byte x))) ∧
      ∀ {P : State → Outcome → Prop}, Go p e below P (T'.setTop (mkF m pc' Ls st)) → Go p e below P (T.setTop (mkF m pc Ls (.int x :: .int j :: .ref a :: st))) := by
  subst hp
  have B0 := B
  obtain ⟨cl, A, r⟩ := B
  obtain ⟨c1, c2⟩ := own_clamp hj
  obtain ⟨T', h', X', e', W, f'⟩ := stB X hx hZ eT A (j := j) (x := x) (by rw [c1, r, List.size_toArray]; intro z; rcases z with z | z; exact c2 z; omega) (g := mkF m pc Ls (.int x :: .int j :: .ref a :: st)) rfl rfl hd
  rw [c1] at X' W
  exact ⟨T', h', X', e', W, B0.set W, fun G => Go.of G f'⟩
theorem g_zastore (X : Stand p l e R s m args below meth c T locs cells slots) (hx : p.tables.exec = Jvm.exec) (hZ : Z.Warmed39 s.vm) (eT : T.heap = h) {a : Addr} {vs : List Value} (B : Arl Z h a .boolean vs) {j : Int32} (x : Int32) {k : Nat} (hj : j.toInt = (k : Int)) (hk : k < vs.length)
    {pc : Nat} (pc' : Nat) {Ls : Array Slot} {st : List Value} (hd : decode c.code pc = .ok (.bastore, 1)) (hp : pc + 1 = pc') :
    ∃ T' h', Stand p l e R s m args below meth c T' (locs ++ [⟨a, k⟩]) cells slots ∧ T'.heap = h' ∧ Wr h h' a k (.int (nar .boolean x)) ∧ Arl Z h' a .boolean (vs.set k (.int (nar .boolean x))) ∧
      ∀ {P : State → Outcome → Prop}, Go p e below P (T'.setTop (mkF m pc' Ls st)) → Go p e below P (T.setTop (mkF m pc Ls (.int x :: .int j :: .ref a :: st))) := by
  subst hp
  have B0 := B
  obtain ⟨cl, A, r⟩ := B
  obtain ⟨c1, c2⟩ := own_clamp hj
  obtain ⟨T', h', X', e', W, f'⟩ := stZ X hx hZ eT A (j := j) (x := x) (by rw [c1, r, List.size_toArray]; intro z; rcases z with z | z; exact c2 z; omega) (g := mkF m pc Ls (.int x :: .int j :: .ref a :: st)) rfl rfl hd
  rw [c1] at X' W
  exact ⟨T', h', X', e', W, B0.set W, fun G => Go.of G f'⟩

/-- the end of a method that may have loaded String constants for the first time -/
def EndW (below : List Frame) (s : State) (Q : Option Value → Vm → Heap → List Loc → Prop) (kc ks : Nat) (s₂ : State) (o : Outcome) : Prop := s₂.status = .running ∧ Ended s₂ below o ∧ ∃ v L, o = .returned v ∧ Q v s₂.vm s₂.heap L ∧ ReturnedEndW s o s₂ L kc ks
theorem endW_of {vm0 : Vm} {k0 : Nat} {Qw : Option Value → Vm → Heap → List Loc → Prop} (X : Stand p l e R (s.setVm vm0) m args below meth c T locs cells slots) (hS : s.Since vm0 k0) (hk : k0 ≤ T.heap.size) (hlk : meth.locks = false) {v : Option Value} (hv : meth.sig.returnType = none → v = none) (hc : cells ≤ kc) (hs : slots ≤ ks) (hQ : Qw v T.vm T.heap locs) {s₀ : State}
    (st : ∀ fs, (∀ (f : JFrame) (acts : List Action), f.method = m → f.locked = none → f.entered = [] → (doReturn e (T.setTop f) acts v).1 = T.setFrames fs) → Steps p.tables e below s₀ (T.setFrames fs)) : Go p e below (EndW below s Qw kc ks) s₀ := by
  obtain ⟨fs, hr, hrun, hended, hW⟩ := X.leaveW hS hk hv hlk
  exact ⟨_, _, st fs hr, hrun, hended, _, _, rfl, hQ, hW.1, hW.2.1, hW.2.2.1, hW.2.2.2.mono hc hs⟩
theorem GoW.ret {vm0 : Vm} {k0 : Nat} {Qw : Option Value → Vm → Heap → List Loc → Prop} (X : Stand p l e R (s.setVm vm0) m args below meth c T locs cells slots) (hS : s.Since vm0 k0) (hk : k0 ≤ T.heap.size) (hx : p.tables.exec = Jvm.exec) (hlk : meth.locks = false) {pc : Nat} {Ls : Array Slot} {w : Value} {t : FieldType} {i : Instr} {rest : List Value} (hret : meth.sig.returnType = some t) (hd : decode c.code pc = .ok (i, 1)) (hn : narrow t w = w)
    (hi : (i = .ireturn ∧ (t = .int ∨ t = .boolean ∨ t = .byte ∨ t = .char ∨ t = .short) ∧ ∃ z, w = .int z) ∨ (i = .lreturn ∧ t = .long ∧ ∃ z, w = .long z) ∨ (i = .dreturn ∧ t = .double ∧ ∃ z, w = .double z) ∨ (i = .freturn ∧ t = .float ∧ ∃ z, w = .float z) ∨ (i = .areturn ∧ t.isReference = true ∧ w.isRef = true))
    (hc : cells ≤ kc) (hs : slots ≤ ks) (hQ : Qw (some w) T.vm T.heap locs) : Go p e below (EndW below s Qw kc ks) (T.setTop (mkF m pc Ls (w :: rest))) :=
  endW_of X hS hk hlk (fun h => by rw [hret] at h; cases h) hc hs hQ fun fs hr => retOut X hx hret hn hi hd hr
theorem GoW.retV {vm0 : Vm} {k0 : Nat} {Qw : Option Value → Vm → Heap → List Loc → Prop} (X : Stand p l e R (s.setVm vm0) m args below meth c T locs cells slots) (hS : s.Since vm0 k0) (hk : k0 ≤ T.heap.size) (hx : p.tables.exec = Jvm.exec) (hlk : meth.locks = false) {pc : Nat} {Ls : Array Slot} (hret : meth.sig.returnType = none) (hd : decode c.code pc = .ok (.return_, 1))
    (hc : cells ≤ kc) (hs : slots ≤ ks) (hQ : Qw none T.vm T.heap locs) : Go p e below (EndW below s Qw kc ks) (T.setTop (mkF m pc Ls [])) :=
  endW_of X hS hk hlk (fun _ => rfl) hc hs hQ fun fs hr => X.returnOut hx hret hd hr
theorem GoW.retZ {vm0 : Vm} {k0 : Nat} {Qw : Option Value → Vm → Heap → List Loc → Prop} (X : Stand p l e R (s.setVm vm0) m args below meth c T locs cells slots) (hS : s.Since vm0 k0) (hk : k0 ≤ T.heap.size) (hx : p.tables.exec = Jvm.exec) (hlk : meth.locks = false) {pc : Nat} {Ls : Array Slot} {z : Int32} {t : FieldType} {rest : List Value} (hret : meth.sig.returnType = some t) (ht : t = .boolean ∨ t = .byte ∨ t = .char ∨ t = .short) (hd : decode c.code pc = .ok (.ireturn, 1))
    (hc : cells ≤ kc) (hs : slots ≤ ks) (hQ : Qw (some (.int (nar t z))) T.vm T.heap locs) : Go p e below (EndW below s Qw kc ks) (T.setTop (mkF m pc Ls (.int z :: rest))) :=
  endW_of X hS hk hlk (fun h => by rw [hret] at h; cases h) hc hs hQ fun fs hr => retN X hx hret ht hd hr
theorem GoW.retA {vm0 : Vm} {k0 : Nat} {Qw : Option Value → Vm → Heap → List Loc → Prop} (X : Stand p l e R (s.setVm vm0) m args below meth c T locs cells slots) (hS : s.Since vm0 k0) (hk : k0 ≤ T.heap.size) (hx : p.tables.exec = Jvm.exec) (hlk : meth.locks = false) {pc : Nat} {Ls : Array Slot} {w : Value} {t : FieldType} {rest : List Value} (hret : meth.sig.returnType = some t) (ht : t.isReference = true) (hw : w.isRef = true) (hd : decode c.code pc = .ok (.areturn, 1))
    (hc : cells ≤ kc) (hs : slots ≤ ks) (hQ : Qw (some w) T.vm T.heap locs) : Go p e below (EndW below s Qw kc ks) (T.setTop (mkF m pc Ls (w :: rest))) :=
  GoW.ret X hS hk hx hlk hret hd (by cases t <;> first | (cases ht; done) | rfl) (Or.inr (Or.inr (Or.inr (Or.inr ⟨rfl, ht, hw⟩)))) hc hs hQ
/-- a String: its coder, its array, the bytes -/
def Stl (Z : State) (h : Heap) (a b : Addr) (co : Int32) (vs : List Value) : Prop := Exa Z h a "java/lang/String" ∧ Fld Z h a "java/lang/String" "coder" "B" (.int co) ∧ Fld Z h a "java/lang/String" "value" "[B" (.ref b) ∧ Arl Z h b .byte vs
theorem Stl.ext {a b : Addr} {co : Int32} {vs : List Value} {h' : Heap} (F : Stl Z h a b co vs) (E : Ext h h') : Stl Z h' a b co vs := ⟨F.1.ext E, F.2.1.ext E, F.2.2.1.ext E, F.2.2.2.ext E⟩
theorem Stl.keep {a b : Addr} {co : Int32} {vs : List Value} {h' : Heap} {ws : List Addr} (F : Stl Z h a b co vs) (K : Keep h h' ws) (q : a ∉ ws) (r : b ∉ ws) : Stl Z h' a b co vs := ⟨F.1.keep K, F.2.1.keep K q, F.2.2.1.keep K q, F.2.2.2.keep K r⟩
theorem g_ldcC {vm0 : Vm} {k0 : Nat} (X : Stand p l e R (s.setVm vm0) m args below meth c T locs cells slots) (hx : p.tables.exec = Jvm.exec) (hZ : Z.Warmed39 vm0) {own text : String} {index : Nat} {Ts : List String} (hown : vm0.findClass own = some m.cls) (w : (Jvm.Cond.stringLink own index text).before a0 Z = true) (wS : ∀ a ∈ Bundle.stringAtoms, a.before a0 Z = true)
    (eT : T.heap = h) (hS : s.Since vm0 k0) (hk : k0 ≤ h.size) (N : Fr s.heap.size locs) (hkeep : ∀ (b : Addr) (cl : Cell), Z.heap[b]? = some cl → s.heap[b]? = some cl) (I : IB Z vm0 Ts) (hnot : text ∉ Ts) (hh : Jvm.Lit.constHeld Z own index) (hcw : Jvm.Lit.compactW.before a0 Z = true)
    (vs : List Value) (z : Int32) (ht : (∀ c ∈ text.toList, c.toNat < 256) ∧ text.toList.map (fun c => Value.int (Jvm.Lit.byteI c.toNat.toUInt16)) = vs) (hz : ¬ z < 0) (hl : z.toNatClampNeg = vs.length) (n : Nat) (hn : 4 * text.toList.length ≤ n) (hbig : n ≤ 536870912) (hc : cells + 2 ≤ R.cells) (hl' : slots + (n + 4) ≤ R.slots)
    {pc : Nat} (pc' : Nat) {Ls : Array Slot} {st : List Value} (hd : decode c.code pc = .ok (.ldc index, 2)) (hp : pc + 2 = pc') :
    ∃ (a : Addr) (T' : State) (h' : Heap) (k1 : Nat) (b : Addr), Stand p l e R (s.setVm T'.vm) m args below meth c T' locs (cells + 2) (slots + (n + 4)) ∧ T'.heap = h' ∧ Ext h h' ∧ s.Since T'.vm k1 ∧ k1 ≤ h'.size ∧ Z.Warmed39 (s.setVm T'.vm).vm ∧ (s.setVm T'.vm).vm.findClass own = some m.cls ∧
      Stl Z h' a b 0 vs ∧ IB Z T'.vm (text :: Ts) ∧ Lit (Z.setVm T'.vm) own index a ∧ ∀ {P : State → Outcome → Prop}, Go p e below P (T'.setTop (mkF m pc' Ls (.ref a :: st))) → Go p e below P (T.setTop (mkF m pc Ls st)) := by
  subst hp
  obtain ⟨a, T', h', k1, b, k, r1, r2, r3, r4, r5, r6, r7, r8, r9, r10, r11, -, -, r14, r15, r16⟩ := ldcSVL X hx hZ hown w wS eT hS hk N hkeep I hnot hh hcw ht hz hl (g := mkF m pc Ls st) rfl hd hn hbig hc hl'
  exact ⟨a, T', h', k1, b, r1, r2, r3, r4, r5, r6, r7, ⟨r8, r9, r10, Arl.of_arv r11 hl⟩, r14, r15, fun G => Go.of G r16⟩
/-- a constant that has been loaded already -/
theorem g_ldcA {vm0 : Vm} (X : Stand p l e R (s.setVm vm0) m args below meth c T locs cells slots) (hx : p.tables.exec = Jvm.exec) (hZ : Z.Warmed39 vm0) {own text : String} {index : Nat} (hown : vm0.findClass own = some m.cls) (w : (Jvm.Cond.stringLink own index text).before a0 Z = true) {a : Addr} (L : Lit (Z.setVm vm0) own index a)
    {pc : Nat} (pc' : Nat) {Ls : Array Slot} {st : List Value} (hd : decode c.code pc = .ok (.ldc index, 2)) (hp : pc + 2 = pc') (G : Go p e below P (T.setTop (mkF m pc' Ls (.ref a :: st)))) : Go p e below P (T.setTop (mkF m pc Ls st)) := by
  subst hp
  exact Go.of G (ldcAgain (s := s) X hx hZ hown w (a := a) L (g := mkF m pc Ls st) rfl hd)
theorem lit_warm {vm0 vm1 : Vm} {own : String} {index : Nat} {a : Addr} (L : Lit (Z.setVm vm0) own index a) (hW : (s.setVm vm0).Warmed39 vm1) : Lit (Z.setVm vm1) own index a := Lit.stays (s := s) (vm0 := vm0) L hW
theorem ib_warm {vm0 vm1 : Vm} {Ts : List String} (I : IB Z vm0 Ts) (hW : (s.setVm vm0).WarmedH vm1) : IB Z vm1 Ts := by
  obtain ⟨more, q, r⟩ := I
  exact ⟨more, hW.interned_eq.trans q, r⟩
theorem backOfSV {y : MethodName} {bytes : ByteArray} {maxL : Nat} {ret : Option FieldType} {rm : Room} {len W : Nat} {as' : Array Value} {P' : Vm → Prop} {Q' : Option Value → Vm → Heap → List Loc → Prop}
    (hM : MetFree l y (head1 [Jvm.Cond.code y bytes maxL ret] rm) (fun a U => a = as' ∧ Z.Warmed39 U.vm ∧ U.heap = h ∧ P' U.vm) (fun _ _ _ _ _ => True) (fun _ U o U' => ∃ v L, o = .returned v ∧ Q' v U'.vm U'.heap L ∧ ReturnedEndW U o U' L rm.cells rm.slots))
    (hZ : Z.Warmed39 s.vm) (wc : (Jvm.Cond.code y bytes maxL ret).before a0 Z = true) (wz : (Jvm.Cond.initialized y.cls).before a0 Z = true) (hf : rm.frames + 1 ≤ R.frames) (hl : W + (maxL + 11) + rm.locals ≤ R.locals) :
    BackS l R p e below s args y len W (fun A a => a = as' ∧ A.U.heap = h ∧ P' A.U.vm ∧ A.cells + rm.cells ≤ R.cells ∧ A.slots + rm.slots ≤ R.slots)
      (fun A _ v B => ∃ L, Q' v B.U.vm B.U.heap L ∧ B.locs = A.locs ++ L ∧ B.cells = A.cells + rm.cells ∧ B.slots = A.slots + rm.slots) :=
  BackS.of_freeW (bytes := bytes) (maxL := maxL) (ret := ret) (E := fun _ _ o t L k n => k = rm.cells ∧ n = rm.slots ∧ ∃ v, o = .returned v ∧ Q' v t.vm t.heap L) hM hf hl
    (fun m meth c A a Y hp => have hU : Z.Warmed39 A.U.vm := wtrans hZ Y.warmed
      ⟨by show (Jvm.Cond.and _ .tt).before a A.U = true; rw [Cond.before_and, mv hU wc]; rfl, mv hU wc, mv hU wz, hp.2.2.2.1, hp.2.2.2.2⟩)
    (fun m meth c A a g mk Y hp => ⟨hp.1, wtrans hZ Y.warmed, hp.2.1, hp.2.2.1⟩) (fun _ _ _ _ _ _ _ _ _ => trivial)
    (fun _ _ _ _ ⟨v, L, h1, h2, h3⟩ => ⟨L, _, _, h3, rfl, rfl, v, h1, h2⟩)
    (fun m meth c A a g mk v t L k n Y hp _ _ ⟨e1, e2, v', e3, e4⟩ => by cases e3; subst e1 e2; exact ⟨L, e4, rfl, rfl, rfl⟩)
/-- behind a callee that may have loaded constants: all said of the true start -/
theorem reb {vm0 vm1 : Vm} {k0 n1 n : Nat} {own : String} (hS : s.Since vm0 k0) (hk : k0 ≤ n1) (X : Stand p l e R ((s.setVm vm0).setVm vm1) m args below meth c T locs cells slots) (h2 : (s.setVm vm0).Since vm1 n) (g : n1 ≤ n) (hZ : Z.Warmed39 vm0) (hown : vm0.findClass own = some m.cls) :
    Stand p l e R (s.setVm vm1) m args below meth c T locs cells slots ∧ s.Since vm1 n ∧ Z.Warmed39 (s.setVm vm1).vm ∧ (s.setVm vm1).vm.findClass own = some m.cls := rebS hS hk X h2 g hZ hown
theorem g_callSW {vm0 : Vm} {k0 : Nat} (X : Stand p l e R (s.setVm vm0) m args below meth c T locs cells slots) (hx : p.tables.exec = Jvm.exec) (hZ : Z.Warmed39 vm0) (hS : s.Since vm0 k0) (hk : k0 ≤ h.size) {own : String} {index : Nat} {y : MethodName} {bytes : ByteArray} {maxL : Nat} {ret : Option FieldType} {rm : Room} {as' : List Value} {P' : Vm → Prop} {Q' : Option Value → Vm → Heap → List Loc → Prop}
    (hown : vm0.findClass own = some m.cls) (w1 : (Jvm.Cond.methodLink own index y).before a0 Z = true) (w2 : (Jvm.Cond.static y).before a0 Z = true) (w3 : (Jvm.Cond.initialized y.cls).before a0 Z = true) (w4 : (Jvm.Cond.code y bytes maxL ret).before a0 Z = true)
    (np : y.cls ≠ "java/lang/invoke/MethodHandle" ∧ y.cls ≠ "java/lang/invoke/VarHandle") (eT : T.heap = h) (hP' : ∀ vm₁, (s.setVm vm0).WarmedH vm₁ → P' vm₁)
    (hM : MetFree l y (head1 [Jvm.Cond.code y bytes maxL ret] rm) (fun a U => a = as'.toArray ∧ Z.Warmed39 U.vm ∧ U.heap = h ∧ P' U.vm) (fun _ _ _ _ _ => True) (fun _ U o U' => ∃ v L, o = .returned v ∧ Q' v U'.vm U'.heap L ∧ ReturnedEndW U o U' L rm.cells rm.slots))
    {ps : List FieldType} {rt : Option FieldType} (pd : parseMethodDescriptor y.desc = some ⟨ps, rt⟩) (hlen : as'.length = ps.length)
    (W : Nat) (hf : rm.frames + 1 ≤ R.frames) (hl : W + (maxL + 11) + rm.locals ≤ R.locals) (hc : cells + rm.cells ≤ R.cells) (hs : slots + rm.slots ≤ R.slots)
    {pc : Nat} {Ls : Array Slot} {rest st : List Value} (hsz : Ls.size = c.maxLocals) (hst : st = as'.reverse ++ rest) (hW : (rest.map fun v => v.category).sum ≤ W) (hd : decode c.code pc = .ok (.invokestatic index, 3)) :
    ∃ v T' L, Stand p l e R (s.setVm T'.vm) m args below meth c T' (locs ++ L) (cells + rm.cells) (slots + rm.slots) ∧ s.Since T'.vm T'.heap.size ∧ Z.Warmed39 (s.setVm T'.vm).vm ∧ (s.setVm T'.vm).vm.findClass own = some m.cls ∧ (s.setVm vm0).Warmed39 T'.vm ∧ Q' v T'.vm T'.heap L ∧
      ∀ {P : State → Outcome → Prop}, Go p e below P (T'.setTop (mkF m (pc + 3) Ls (v.toList ++ rest))) → Go p e below P (T.setTop (mkF m pc Ls st)) := by
  obtain ⟨v, _, ⟨T', L', k', n'⟩, -, X', hS', hg, ⟨L, hQ, l1, y1, z1⟩, st'⟩ := callSS X hx (y := y) (s := s.setVm vm0) hown (mvT (s := s.setVm vm0) hZ w1) (mvT (s := s.setVm vm0) hZ w2) (mvT (s := s.setVm vm0) hZ w3) (mvT (s := s.setVm vm0) hZ w4) np (backOfSV (s := s.setVm vm0) (W := W) hM hZ w4 w3 hf hl) (g := mkF m pc Ls st) rfl hsz (argsL := as') (rest := rest) (lenOf pd hlen) hst (by show 2 * 0 + _ ≤ _; omega) hd (fun vm₁ hw₁ => ⟨rfl, eT, hP' vm₁ hw₁, hc, hs⟩)
  dsimp only [Pt.U, Pt.locs, Pt.cells, Pt.slots] at X' l1 y1 z1 st' hQ hS' hg
  subst l1 y1 z1
  obtain ⟨X'', hS'', hZ'', ho''⟩ := reb hS (by rw [eT]; exact hk) X' hS' hg hZ hown
  exact ⟨v, T', L, X'', hS'', hZ'', ho'', hS'.1, hQ, fun G => Go.of G fun _ q => st'.trans q⟩
theorem g_callIW {vm0 : Vm} {k0 : Nat} (X : Stand p l e R (s.setVm vm0) m args below meth c T locs cells slots) (hx : p.tables.exec = Jvm.exec) (hZ : Z.Warmed39 vm0) (hS : s.Since vm0 k0) (hk : k0 ≤ h.size) {own : String} {index : Nat} {y : MethodName} {bytes : ByteArray} {maxL : Nat} {rm : Room} {a : Addr} {as' : List Value} {P' : Vm → Prop} {Q' : Option Value → Vm → Heap → List Loc → Prop} (hy1 : y.name = "<init>")
    (hown : vm0.findClass own = some m.cls) (w1 : (Jvm.Cond.methodLink own index y).before a0 Z = true) (w2 : (Jvm.Cond.instanceMethod y).before a0 Z = true) (w3 : (Jvm.Cond.initialized y.cls).before a0 Z = true) (w4 : (Jvm.Cond.code y bytes maxL none).before a0 Z = true)
    (np : y.cls ≠ "java/lang/invoke/MethodHandle" ∧ y.cls ≠ "java/lang/invoke/VarHandle") (eT : T.heap = h) (hP' : ∀ vm₁, (s.setVm vm0).WarmedH vm₁ → P' vm₁)
    (hM : MetFree l y (head1 [Jvm.Cond.code y bytes maxL none] rm) (fun b U => b = (.ref a :: as').toArray ∧ Z.Warmed39 U.vm ∧ U.heap = h ∧ P' U.vm) (fun _ _ _ _ _ => True) (fun _ U o U' => ∃ v L, o = .returned v ∧ Q' v U'.vm U'.heap L ∧ ReturnedEndW U o U' L rm.cells rm.slots))
    {ps : List FieldType} {rt : Option FieldType} (pd : parseMethodDescriptor y.desc = some ⟨ps, rt⟩) (hlen : as'.length = ps.length)
    (W : Nat) (hf : rm.frames + 1 ≤ R.frames) (hl : W + (maxL + 11) + rm.locals ≤ R.locals) (hc : cells + rm.cells ≤ R.cells) (hs : slots + rm.slots ≤ R.slots)
    {pc : Nat} {Ls : Array Slot} {rest st : List Value} (hsz : Ls.size = c.maxLocals) (hst : st = as'.reverse ++ .ref a :: rest) (hW : (rest.map fun v => v.category).sum ≤ W) (hd : decode c.code pc = .ok (.invokespecial index, 3)) :
    ∃ v T' L, Stand p l e R (s.setVm T'.vm) m args below meth c T' (locs ++ L) (cells + rm.cells) (slots + rm.slots) ∧ s.Since T'.vm T'.heap.size ∧ Z.Warmed39 (s.setVm T'.vm).vm ∧ (s.setVm T'.vm).vm.findClass own = some m.cls ∧ (s.setVm vm0).Warmed39 T'.vm ∧ Q' v T'.vm T'.heap L ∧
      ∀ {P : State → Outcome → Prop}, Go p e below P (T'.setTop (mkF m (pc + 3) Ls (v.toList ++ rest))) → Go p e below P (T.setTop (mkF m pc Ls st)) := by
  obtain ⟨v, _, ⟨T', L', k', n'⟩, -, X', hS', hg, ⟨L, hQ, l1, y1, z1⟩, st'⟩ := X.specialBackS hx (y := y) hy1 hown (mvT (s := s.setVm vm0) hZ w1) (mvT (s := s.setVm vm0) hZ w2) (mvT (s := s.setVm vm0) hZ w4) np (backOfSV (s := s.setVm vm0) (W := W) hM hZ w4 w3 hf hl) (g := mkF m pc Ls st) rfl hsz (Steps.refl _) (a := a) (argsL := as') (rest := rest) (lenOf pd hlen) hst (by show 2 * 0 + _ ≤ _; omega) hd (fun vm₁ hw₁ => ⟨rfl, eT, hP' vm₁ hw₁, hc, hs⟩)
  dsimp only [Pt.U, Pt.locs, Pt.cells, Pt.slots] at X' l1 y1 z1 st' hQ hS' hg
  subst l1 y1 z1
  obtain ⟨X'', hS'', hZ'', ho''⟩ := reb hS (by rw [eT]; exact hk) X' hS' hg hZ hown
  exact ⟨v, T', L, X'', hS'', hZ'', ho'', hS'.1, hQ, fun G => Go.of G fun _ q => st'.trans q⟩
theorem g_callVW {vm0 : Vm} {k0 : Nat} (X : Stand p l e R (s.setVm vm0) m args below meth c T locs cells slots) (hx : p.tables.exec = Jvm.exec) (hZ : Z.Warmed39 vm0) (hS : s.Since vm0 k0) (hk : k0 ≤ h.size) {own C : String} {index : Nat} {y z : MethodName} {bytes : ByteArray} {maxL : Nat} {ret : Option FieldType} {rm : Room} {a : Addr} {as' : List Value} {P' : Vm → Prop} {Q' : Option Value → Vm → Heap → List Loc → Prop}
    (hown : vm0.findClass own = some m.cls) (w1 : (Jvm.Cond.methodLink own index y).before a0 Z = true) (w2 : (Jvm.Cond.declares y).before a0 Z = true) (w5 : (Jvm.Cond.selects y.cls y y).before a0 Z = true) (w6 : (Jvm.Cond.selects C y z).before a0 Z = true) (w7 : (Jvm.Cond.instanceMethod z).before a0 Z = true) (w3 : (Jvm.Cond.initialized z.cls).before a0 Z = true) (w4 : (Jvm.Cond.code z bytes maxL ret).before a0 Z = true)
    (np : y.cls ≠ "java/lang/invoke/MethodHandle" ∧ y.cls ≠ "java/lang/invoke/VarHandle") (eT : T.heap = h) (E : Exa Z h a C) (hP' : ∀ vm₁, (s.setVm vm0).WarmedH vm₁ → P' vm₁)
    (hM : MetFree l z (head1 [Jvm.Cond.code z bytes maxL ret] rm) (fun b U => b = (.ref a :: as').toArray ∧ Z.Warmed39 U.vm ∧ U.heap = h ∧ P' U.vm) (fun _ _ _ _ _ => True) (fun _ U o U' => ∃ v L, o = .returned v ∧ Q' v U'.vm U'.heap L ∧ ReturnedEndW U o U' L rm.cells rm.slots))
    {ps : List FieldType} {rt : Option FieldType} (pd : parseMethodDescriptor y.desc = some ⟨ps, rt⟩) (hlen : as'.length = ps.length)
    (W : Nat) (hf : rm.frames + 1 ≤ R.frames) (hl : W + (maxL + 11) + rm.locals ≤ R.locals) (hc : cells + rm.cells ≤ R.cells) (hs : slots + rm.slots ≤ R.slots)
    {pc : Nat} {Ls : Array Slot} {rest st : List Value} (hsz : Ls.size = c.maxLocals) (hst : st = as'.reverse ++ .ref a :: rest) (hW : (rest.map fun v => v.category).sum ≤ W) (hd : decode c.code pc = .ok (.invokevirtual index, 3)) :
    ∃ v T' L, Stand p l e R (s.setVm T'.vm) m args below meth c T' (locs ++ L) (cells + rm.cells) (slots + rm.slots) ∧ s.Since T'.vm T'.heap.size ∧ Z.Warmed39 (s.setVm T'.vm).vm ∧ (s.setVm T'.vm).vm.findClass own = some m.cls ∧ (s.setVm vm0).Warmed39 T'.vm ∧ Q' v T'.vm T'.heap L ∧
      ∀ {P : State → Outcome → Prop}, Go p e below P (T'.setTop (mkF m (pc + 3) Ls (v.toList ++ rest))) → Go p e below P (T.setTop (mkF m pc Ls st)) := by
  obtain ⟨cq, kq, qa, qb, qc⟩ := isOf (s := s.setVm vm0) hZ eT E
  obtain ⟨v, _, ⟨T', L', k', n'⟩, -, X', hS', hg, ⟨L, hQ, l1, y1, z1⟩, st'⟩ := X.virtualBackS hx (y := y) (z := z) hown (mvT (s := s.setVm vm0) hZ w1) (mvT (s := s.setVm vm0) hZ w2) (notFace_of_selects (args := #[]) (mvT (s := s.setVm vm0) hZ w5)) (mvT (s := s.setVm vm0) hZ w6) (mvT (s := s.setVm vm0) hZ w7) np (backOfSV (s := s.setVm vm0) (W := W) hM hZ w4 w3 hf hl) qa qc (g := mkF m pc Ls st) rfl hsz (Steps.refl _) (argsL := as') (rest := rest) (lenOf pd hlen) hst (by show 2 * 0 + _ ≤ _; omega) hd (fun vm₁ hw₁ => ⟨rfl, eT, hP' vm₁ hw₁, hc, hs⟩)
  dsimp only [Pt.U, Pt.locs, Pt.cells, Pt.slots] at X' l1 y1 z1 st' hQ hS' hg
  subst l1 y1 z1
  obtain ⟨X'', hS'', hZ'', ho''⟩ := reb hS (by rw [eT]; exact hk) X' hS' hg hZ hown
  exact ⟨v, T', L, X'', hS'', hZ'', ho'', hS'.1, hQ, fun G => Go.of G fun _ q => st'.trans q⟩

end Own
def Strq (Z : State) (h : Heap) (a b : Addr) (co : Int32) (vs : List Value) : Prop := Stl Z h a b co vs
theorem own_i2c {x : Int32} (h1 : 0 ≤ x.toInt) (h2 : x.toInt < 65536) : x.toUInt32.toUInt16.toUInt32.toInt32 = x := by
  have h := c_i2c x
  apply Int32.toInt_inj.mp; omega
theorem own_m255 (x : Int32) : 0 ≤ (x &&& (255 : Int32)).toInt ∧ (x &&& (255 : Int32)).toInt ≤ 255 := c_and x 255 (by decide)
theorem own_back {c : Int32} (h1 : 0 ≤ c.toInt) (h2 : c.toInt ≤ 255) : (c.toInt8.toInt32 &&& (255 : Int32)) = c := by
  have e1 : (c.toInt8.toInt32 &&& (255 : Int32)).toInt = c.toInt8.toInt32.toInt % 2 ^ 8 := Jvm.Kit.i32_mask _ _ (k := 8) (by decide) (by decide)
  have e2 := c_i2b c
  apply Int32.toInt_inj.mp; rw [e1]; omega
theorem own_char {c : Int32} (h1 : 0 ≤ c.toInt) (h2 : c.toInt ≤ 255) : nar .char ((c.toInt8.toInt32 &&& (255 : Int32)).toUInt32.toUInt16.toUInt32.toInt32) = c := by
  rw [own_back h1 h2, own_i2c h1 (by omega)]; exact own_i2c h1 (by omega)
theorem own_nb (c : Int32) : nar .byte (c.toInt8.toInt32) = c.toInt8.toInt32 := by simp [nar]
theorem own_le255 {c : Int32} (h : c.toInt ≤ 255) : ¬ (255 : Int32) < c := by rw [Int32.lt_iff_toInt_lt]; have : (255 : Int32).toInt = 255 := rfl; omega
def LQ (h0 : Heap) (v : Option Value) (_ : Vm) (h : Heap) (L : List Loc) : Prop := v = some (.int 1) ∧ Fr h0.size L
/-- a byte as a char, A to Z in lower case -/
def lcb (q : Int32) : Int32 := if (q &&& (255 : Int32)) < (65 : Int32) then (q &&& (255 : Int32)) else if (90 : Int32) < (q &&& (255 : Int32)) then (q &&& (255 : Int32)) else (q &&& (255 : Int32)) + (32 : Int32)
theorem lcb_rng (q : Int32) : 0 ≤ (lcb q).toInt ∧ (lcb q).toInt ≤ 255 := by
  have h := own_m255 q
  unfold lcb
  split
  · exact h
  · split
    · exact h
    · rename_i h1 h2
      have e : (90 : Int32).toInt = 90 := rfl
      have e2 : (32 : Int32).toInt = 32 := rfl
      rw [Int32.lt_iff_toInt_lt, e] at h2
      rw [Jvm.Kit.i32_add (by omega) (by omega)]; omega
theorem lcb_c (q : Int32) : ¬ (255 : Int32) < lcb q := own_le255 (lcb_rng q).2
theorem lcb_ch (q : Int32) : nar .char (lcb q) = lcb q := own_i2c (lcb_rng q).1 (by have := (lcb_rng q).2; omega)
theorem lcb_i2c (q : Int32) : (lcb q).toUInt32.toUInt16.toUInt32.toInt32 = lcb q := own_i2c (lcb_rng q).1 (by have := (lcb_rng q).2; omega)
theorem lcb_b (b : Int32) : lcb (b.toInt8.toInt32) = lcb b := by
  have e : (b.toInt8.toInt32 &&& (255 : Int32)) = b &&& (255 : Int32) := by
    have e1 : (b.toInt8.toInt32 &&& (255 : Int32)).toInt = b.toInt8.toInt32.toInt % 2 ^ 8 := Jvm.Kit.i32_mask _ _ (k := 8) (by decide) (by decide)
    have e2 : (b &&& (255 : Int32)).toInt = b.toInt % 2 ^ 8 := Jvm.Kit.i32_mask _ _ (k := 8) (by decide) (by decide)
    have e3 := c_i2b b
    apply Int32.toInt_inj.mp; rw [e1, e2]; omega
  unfold lcb; rw [e]
theorem cod_0 : decode jdk_42_method_152_code 0 = .ok (.getstatic 38, 3) := by decide +kernel
theorem cod_3 : decode jdk_42_method_152_code 3 = .ok (.ifCond .eq 10, 3) := by decide +kernel
theorem cod_6 : decode jdk_42_method_152_code 6 = .ok (.aload_n 0, 1) := by decide +kernel
theorem cod_7 : decode jdk_42_method_152_code 7 = .ok (.getfield 15, 3) := by decide +kernel
theorem cod_10 : decode jdk_42_method_152_code 10 = .ok (.goto 4, 3) := by decide +kernel
theorem cod_13 : decode jdk_42_method_152_code 13 = .ok (.iconst 1, 1) := by decide +kernel
theorem cod_14 : decode jdk_42_method_152_code 14 = .ok (.ireturn, 1) := by decide +kernel
theorem pn_cod : plainFor (⟨"java/lang/String", "coder", "()B"⟩ : MethodName) = true := by first | exact plainFor_of_name (by first | (simp [plainName, overriddenIn]; done) | decide +kernel) | decide +kernel
theorem ef_cod (m : MethodId) (qa : Addr)  : entryFrame m #[(.ref qa)] 1 = mkF m 0 #[.val (.ref qa)] [] := by first | (simp [entryFrame, mkF, argsToLocals, Value.category, maxLocals]; done) | rfl
theorem pd_cod : parseMethodDescriptor "()B" = some ⟨[], some (.byte)⟩ := by decide +kernel
set_option maxRecDepth 65536 in
set_option maxHeartbeats 40000000 in
theorem rm_cod (l : Launch) (Z : State) (a0 : Array Value) (hw : ∀ d ∈ tables_1, d.before a0 Z = true)  (qa : Addr) (h0 : Heap) (n0 : Nat) (XO : Old Z n0 h0) (cs : Int32) (hcs : ¬ cs = (0 : Int32)) (SC : Sta Z Z.heap "java/lang/String" "COMPACT_STRINGS" "Z" (.int cs)) (co : Int32) (hco : nar .byte co = co) (F1 : Fld Z h0 qa "java/lang/String" "coder" "B" (.int co)) :
    MetFree l (⟨"java/lang/String", "coder", "()B"⟩ : MethodName) (head1 [Jvm.Cond.code (⟨"java/lang/String", "coder", "()B"⟩ : MethodName) jdk_42_method_152_code 1 (some Jvm.ClassFile.FieldType.byte)] ({ frames := 0, cells := 0, slots := 0, locals := 0 } : Room)) (fun a U => a = #[(.ref qa)] ∧ Z.Warmed39 U.vm ∧ U.heap = h0) (fun _ _ _ _ _ => True) (fun _ U o U' => ∃ v L, o = .returned v ∧ Pur (some (.int co)) h0 v U'.heap L ∧ FrameEnd U o U' L ({ frames := 0, cells := 0, slots := 0, locals := 0 } : Room).cells ({ frames := 0, cells := 0, slots := 0, locals := 0 } : Room).slots) := by
  refine MetFree.of_bodySF pn_cod hisR ?_
  intro p e s m args below meth c s₁ Bd hml0 hP hK
  obtain ⟨rfl, hZ, hh⟩ := hP
  have hx := Bd.exec
  have hby := Bd.bytes
  have hml : c.maxLocals = 1 := hml0
  have hown : s.vm.findClass "java/lang/String" = some m.cls := findClass_of_methodNamed Bd.named
  have hnm := (name_of_methodNamed Bd.named Bd.method).1
  have hlk : meth.locks = false := BodyLoose.notSynchronized Bd
  have X0 : Stand p l e ({ frames := 0, cells := 0, slots := 0, locals := 0 } : Room) s m #[(.ref qa)] below meth c s₁ [] 0 0 := Stand.of_body Bd
  have e0 : s₁.heap = h0 := by rw [← hh, Bd.state]; rfl
  show Go p e below (EndN below s (Pur (some (.int co)) h0) ({ frames := 0, cells := 0, slots := 0, locals := 0 } : Room).cells ({ frames := 0, cells := 0, slots := 0, locals := 0 } : Room).slots) (s₁.setTop (entryFrame m #[(.ref qa)] 1))
  rw [ef_cod]
  obtain ⟨T_0, X_0, e_0, st_0⟩ := g_getS X0 hx hZ hown (hw _ (List.mem_of_getElem? (i := 37) rfl)) e0 (SC.ext XO.2) 3 (hb hby cod_0) rfl
  refine st_0 ?_
  refine g_ifN X_0 hx 6 (hb hby cod_3) (XT.i0_eq_f hcs) rfl ?_
  refine g_aload_n X_0 hx 7 (.ref qa) (hb hby cod_6) rfl rfl rfl ?_
  obtain ⟨T_7, X_7, e_7, st_7⟩ := g_getF X_0 hx hZ hown (hw _ (List.mem_of_getElem? (i := 26) rfl)) Via.refl e_0 F1 10 (hb hby cod_7) rfl
  refine st_7 ?_
  refine g_goto X_7 hx 14 (hb hby cod_10) (by decide) (by decide) ?_
  exact Go.retZ X_7 hx hlk Bd.returns (by simp) (hb hby cod_14) (by decide) (by decide) ⟨by rw [hco], rfl, e_7⟩
theorem len_0 : decode jdk_42_method_54_code 0 = .ok (.aload_n 0, 1) := by decide +kernel
theorem len_1 : decode jdk_42_method_54_code 1 = .ok (.getfield 9, 3) := by decide +kernel
theorem len_4 : decode jdk_42_method_54_code 4 = .ok (.arraylength, 1) := by decide +kernel
theorem len_5 : decode jdk_42_method_54_code 5 = .ok (.aload_n 0, 1) := by decide +kernel
theorem len_6 : decode jdk_42_method_54_code 6 = .ok (.invokevirtual 335, 3) := by decide +kernel
theorem len_9 : decode jdk_42_method_54_code 9 = .ok (.ishr, 1) := by decide +kernel
theorem len_10 : decode jdk_42_method_54_code 10 = .ok (.ireturn, 1) := by decide +kernel
theorem pn_len : plainFor (⟨"java/lang/String", "length", "()I"⟩ : MethodName) = true := by first | exact plainFor_of_name (by first | (simp [plainName, overriddenIn]; done) | decide +kernel) | decide +kernel
theorem ef_len (m : MethodId) (qa : Addr)  : entryFrame m #[(.ref qa)] 1 = mkF m 0 #[.val (.ref qa)] [] := by first | (simp [entryFrame, mkF, argsToLocals, Value.category, maxLocals]; done) | rfl
theorem pd_len : parseMethodDescriptor "()I" = some ⟨[], some (.int)⟩ := by decide +kernel
set_option maxRecDepth 65536 in
set_option maxHeartbeats 40000000 in
theorem rm_len (l : Launch) (Z : State) (a0 : Array Value) (hw : ∀ d ∈ tables_1, d.before a0 Z = true)  (qa : Addr) (h0 : Heap) (n0 : Nat) (XO : Old Z n0 h0) (cs : Int32) (hcs : ¬ cs = (0 : Int32)) (SC : Sta Z Z.heap "java/lang/String" "COMPACT_STRINGS" "Z" (.int cs)) (co : Int32) (hco : nar .byte co = co) (qb : Addr) (vs : List Value) (z y : Int32) (hz : vs.length.toInt32 = z) (hy : z >>> (co &&& 31) = y) (hT : Stl Z h0 qa qb co vs) :
    MetFree l (⟨"java/lang/String", "length", "()I"⟩ : MethodName) (head1 [Jvm.Cond.code (⟨"java/lang/String", "length", "()I"⟩ : MethodName) jdk_42_method_54_code 1 (some Jvm.ClassFile.FieldType.int)] ({ frames := 1, cells := 0, slots := 0, locals := 13 } : Room)) (fun a U => a = #[(.ref qa)] ∧ Z.Warmed39 U.vm ∧ U.heap = h0) (fun _ _ _ _ _ => True) (fun _ U o U' => ∃ v L, o = .returned v ∧ Pur (some (.int y)) h0 v U'.heap L ∧ FrameEnd U o U' L ({ frames := 1, cells := 0, slots := 0, locals := 13 } : Room).cells ({ frames := 1, cells := 0, slots := 0, locals := 13 } : Room).slots) := by
  refine MetFree.of_bodySF pn_len hisR ?_
  intro p e s m args below meth c s₁ Bd hml0 hP hK
  obtain ⟨rfl, hZ, hh⟩ := hP
  have hx := Bd.exec
  have hby := Bd.bytes
  have hml : c.maxLocals = 1 := hml0
  have hown : s.vm.findClass "java/lang/String" = some m.cls := findClass_of_methodNamed Bd.named
  have hnm := (name_of_methodNamed Bd.named Bd.method).1
  have hlk : meth.locks = false := BodyLoose.notSynchronized Bd
  have X0 : Stand p l e ({ frames := 1, cells := 0, slots := 0, locals := 13 } : Room) s m #[(.ref qa)] below meth c s₁ [] 0 0 := Stand.of_body Bd
  have e0 : s₁.heap = h0 := by rw [← hh, Bd.state]; rfl
  show Go p e below (EndN below s (Pur (some (.int y)) h0) ({ frames := 1, cells := 0, slots := 0, locals := 13 } : Room).cells ({ frames := 1, cells := 0, slots := 0, locals := 13 } : Room).slots) (s₁.setTop (entryFrame m #[(.ref qa)] 1))
  rw [ef_len]
  refine g_aload_n X0 hx 1 (.ref qa) (hb hby len_0) rfl rfl rfl ?_
  obtain ⟨T_1, X_1, e_1, st_1⟩ := g_getF X0 hx hZ hown (hw _ (List.mem_of_getElem? (i := 25) rfl)) Via.refl e0 hT.2.2.1 4 (hb hby len_1) rfl
  refine st_1 ?_
  refine g_alen X_1 hx hZ e_1 hT.2.2.2 z hz 5 (hb hby len_4) rfl ?_
  refine g_aload_n X_1 hx 6 (.ref qa) (hb hby len_5) rfl rfl rfl ?_
  obtain ⟨_, T_6, L_6, X_6, ⟨rfl, rfl, e_6⟩, st_6⟩ := g_callV X_1 hx hZ  (C := "java/lang/String") (own := "java/lang/String") (index := 335) (y := (⟨"java/lang/String", "coder", "()B"⟩ : MethodName)) (z := (⟨"java/lang/String", "coder", "()B"⟩ : MethodName)) (a := qa) (as' := []) hown (hw _ (List.mem_of_getElem? (i := 32) rfl)) (hw _ (List.mem_of_getElem? (i := 33) rfl)) (hw _ (List.mem_of_getElem? (i := 35) rfl)) (hw _ (List.mem_of_getElem? (i := 35) rfl)) (hw _ (List.mem_of_getElem? (i := 34) rfl)) (hw _ (List.mem_of_getElem? (i := 9) rfl)) (hw _ (List.mem_of_getElem? (i := 36) rfl)) (by decide) e_1 hT.1 (rm_cod l Z a0 hw qa h0 n0 XO cs hcs SC co hco hT.2.1) pd_cod rfl 1 (by decide) (by decide) (by decide) (by decide) (pc := 6) (Ls := #[.val (.ref qa)]) (rest := [(.int z)]) (st := [(.ref qa), (.int z)]) (by rw [hml]; rfl) rfl (Nat.le_of_eq rfl) (hb hby len_6)
  refine st_6 ?_
  rw [List.append_nil] at X_6
  show Go p e below _ (T_6.setTop (mkF m 9 #[.val (.ref qa)] [(.int co), (.int z)]))
  refine g_ishr X_6 hx 10 (hb hby len_9) rfl ?_
  exact Go.retI X_6 hx hlk Bd.returns (hb hby len_10) (by decide) (by decide) ⟨by rw [hy], rfl, e_6⟩
theorem lat_0 : decode jdk_42_method_154_code 0 = .ok (.getstatic 38, 3) := by decide +kernel
theorem lat_3 : decode jdk_42_method_154_code 3 = .ok (.ifCond .eq 14, 3) := by decide +kernel
theorem lat_6 : decode jdk_42_method_154_code 6 = .ok (.aload_n 0, 1) := by decide +kernel
theorem lat_7 : decode jdk_42_method_154_code 7 = .ok (.getfield 15, 3) := by decide +kernel
theorem lat_10 : decode jdk_42_method_154_code 10 = .ok (.ifCond .ne 7, 3) := by decide +kernel
theorem lat_13 : decode jdk_42_method_154_code 13 = .ok (.iconst 1, 1) := by decide +kernel
theorem lat_14 : decode jdk_42_method_154_code 14 = .ok (.goto 4, 3) := by decide +kernel
theorem lat_17 : decode jdk_42_method_154_code 17 = .ok (.iconst 0, 1) := by decide +kernel
theorem lat_18 : decode jdk_42_method_154_code 18 = .ok (.ireturn, 1) := by decide +kernel
theorem pn_lat : plainFor (⟨"java/lang/String", "isLatin1", "()Z"⟩ : MethodName) = true := by first | exact plainFor_of_name (by first | (simp [plainName, overriddenIn]; done) | decide +kernel) | decide +kernel
theorem ef_lat (m : MethodId) (qa : Addr)  : entryFrame m #[(.ref qa)] 1 = mkF m 0 #[.val (.ref qa)] [] := by first | (simp [entryFrame, mkF, argsToLocals, Value.category, maxLocals]; done) | rfl
theorem pd_lat : parseMethodDescriptor "()Z" = some ⟨[], some (.boolean)⟩ := by decide +kernel
set_option maxRecDepth 65536 in
set_option maxHeartbeats 40000000 in
theorem rm_lat (l : Launch) (Z : State) (a0 : Array Value) (hw : ∀ d ∈ tables_1, d.before a0 Z = true)  (qa : Addr) (h0 : Heap) (n0 : Nat) (XO : Old Z n0 h0) (cs : Int32) (hcs : ¬ cs = (0 : Int32)) (SC : Sta Z Z.heap "java/lang/String" "COMPACT_STRINGS" "Z" (.int cs)) (F1 : Fld Z h0 qa "java/lang/String" "coder" "B" (.int (0 : Int32))) :
    MetFree l (⟨"java/lang/String", "isLatin1", "()Z"⟩ : MethodName) (head1 [Jvm.Cond.code (⟨"java/lang/String", "isLatin1", "()Z"⟩ : MethodName) jdk_42_method_154_code 1 (some Jvm.ClassFile.FieldType.boolean)] ({ frames := 0, cells := 0, slots := 0, locals := 0 } : Room)) (fun a U => a = #[(.ref qa)] ∧ Z.Warmed39 U.vm ∧ U.heap = h0) (fun _ _ _ _ _ => True) (fun _ U o U' => ∃ v L, o = .returned v ∧ Pur (some (.int (1 : Int32))) h0 v U'.heap L ∧ FrameEnd U o U' L ({ frames := 0, cells := 0, slots := 0, locals := 0 } : Room).cells ({ frames := 0, cells := 0, slots := 0, locals := 0 } : Room).slots) := by
  refine MetFree.of_bodySF pn_lat hisR ?_
  intro p e s m args below meth c s₁ Bd hml0 hP hK
  obtain ⟨rfl, hZ, hh⟩ := hP
  have hx := Bd.exec
  have hby := Bd.bytes
  have hml : c.maxLocals = 1 := hml0
  have hown : s.vm.findClass "java/lang/String" = some m.cls := findClass_of_methodNamed Bd.named
  have hnm := (name_of_methodNamed Bd.named Bd.method).1
  have hlk : meth.locks = false := BodyLoose.notSynchronized Bd
  have X0 : Stand p l e ({ frames := 0, cells := 0, slots := 0, locals := 0 } : Room) s m #[(.ref qa)] below meth c s₁ [] 0 0 := Stand.of_body Bd
  have e0 : s₁.heap = h0 := by rw [← hh, Bd.state]; rfl
  show Go p e below (EndN below s (Pur (some (.int (1 : Int32))) h0) ({ frames := 0, cells := 0, slots := 0, locals := 0 } : Room).cells ({ frames := 0, cells := 0, slots := 0, locals := 0 } : Room).slots) (s₁.setTop (entryFrame m #[(.ref qa)] 1))
  rw [ef_lat]
  obtain ⟨T_0, X_0, e_0, st_0⟩ := g_getS X0 hx hZ hown (hw _ (List.mem_of_getElem? (i := 37) rfl)) e0 (SC.ext XO.2) 3 (hb hby lat_0) rfl
  refine st_0 ?_
  refine g_ifN X_0 hx 6 (hb hby lat_3) (XT.i0_eq_f hcs) rfl ?_
  refine g_aload_n X_0 hx 7 (.ref qa) (hb hby lat_6) rfl rfl rfl ?_
  obtain ⟨T_7, X_7, e_7, st_7⟩ := g_getF X_0 hx hZ hown (hw _ (List.mem_of_getElem? (i := 26) rfl)) Via.refl e_0 F1 10 (hb hby lat_7) rfl
  refine st_7 ?_
  refine g_ifN X_7 hx 13 (hb hby lat_10) (XT.i0_ne_f (by decide)) rfl ?_
  refine g_iconst X_7 hx 14 (1 : Int32) (hb hby lat_13) rfl rfl ?_
  refine g_goto X_7 hx 18 (hb hby lat_14) (by decide) (by decide) ?_
  exact Go.retZ X_7 hx hlk Bd.returns (by simp) (hb hby lat_18) (by decide) (by decide) ⟨rfl, rfl, e_7⟩
theorem pci_0 : decode jdk_41_method_11_code 0 = .ok (.iload_n 0, 1) := by decide +kernel
theorem pci_1 : decode jdk_41_method_11_code 1 = .ok (.ifCond .lt 8, 3) := by decide +kernel
theorem pci_4 : decode jdk_41_method_11_code 4 = .ok (.iload_n 0, 1) := by decide +kernel
theorem pci_5 : decode jdk_41_method_11_code 5 = .ok (.iload_n 1, 1) := by decide +kernel
theorem pci_6 : decode jdk_41_method_11_code 6 = .ok (.if_icmp .lt 10, 3) := by decide +kernel
theorem pci_9 : decode jdk_41_method_11_code 9 = .ok (.aload_n 2, 1) := by decide +kernel
theorem pci_10 : decode jdk_41_method_11_code 10 = .ok (.iload_n 0, 1) := by decide +kernel
theorem pci_11 : decode jdk_41_method_11_code 11 = .ok (.iload_n 1, 1) := by decide +kernel
theorem pci_12 : decode jdk_41_method_11_code 12 = .ok (.invokestatic 95, 3) := by decide +kernel
theorem pci_15 : decode jdk_41_method_11_code 15 = .ok (.athrow, 1) := by decide +kernel
theorem pci_16 : decode jdk_41_method_11_code 16 = .ok (.iload_n 0, 1) := by decide +kernel
theorem pci_17 : decode jdk_41_method_11_code 17 = .ok (.ireturn, 1) := by decide +kernel
theorem pn_pci : plainFor (⟨"jdk/internal/util/Preconditions", "checkIndex", "(IILjava/util/function/BiFunction;)I"⟩ : MethodName) = true := by first | exact plainFor_of_name (by first | (simp [plainName, overriddenIn]; done) | decide +kernel) | decide +kernel
theorem ef_pci (m : MethodId) (q1 q2 : Int32) (fv : Value) (hfv : fv.isRef = true) : entryFrame m #[(.int q1), (.int q2), fv] 3 = mkF m 0 #[.val (.int q1), .val (.int q2), .val fv] [] := by rcases ref_cases hfv with rfl | ⟨r, rfl⟩ <;> first | (simp [entryFrame, mkF, argsToLocals, Value.category, maxLocals]; done) | rfl
theorem pd_pci : parseMethodDescriptor "(IILjava/util/function/BiFunction;)I" = some ⟨[.int, .int, .object "java/util/function/BiFunction"], some (.int)⟩ := by decide +kernel
set_option maxRecDepth 65536 in
set_option maxHeartbeats 40000000 in
theorem rm_pci (l : Launch) (Z : State) (a0 : Array Value) (hw : ∀ d ∈ tables_1, d.before a0 Z = true)  (q1 q2 : Int32) (fv : Value) (h0 : Heap) (hfv : fv.isRef = true) (h1 : ¬ q1 < (0 : Int32)) (h2 : q1 < q2) :
    MetFree l (⟨"jdk/internal/util/Preconditions", "checkIndex", "(IILjava/util/function/BiFunction;)I"⟩ : MethodName) (head1 [Jvm.Cond.code (⟨"jdk/internal/util/Preconditions", "checkIndex", "(IILjava/util/function/BiFunction;)I"⟩ : MethodName) jdk_41_method_11_code 3 (some Jvm.ClassFile.FieldType.int)] ({ frames := 0, cells := 0, slots := 0, locals := 0 } : Room)) (fun a U => a = #[(.int q1), (.int q2), fv] ∧ Z.Warmed39 U.vm ∧ U.heap = h0) (fun _ _ _ _ _ => True) (fun _ U o U' => ∃ v L, o = .returned v ∧ Pur (some (.int q1)) h0 v U'.heap L ∧ FrameEnd U o U' L ({ frames := 0, cells := 0, slots := 0, locals := 0 } : Room).cells ({ frames := 0, cells := 0, slots := 0, locals := 0 } : Room).slots) := by
  refine MetFree.of_bodySF pn_pci hisR ?_
  intro p e s m args below meth c s₁ Bd hml0 hP hK
  obtain ⟨rfl, hZ, hh⟩ := hP
  have hx := Bd.exec
  have hby := Bd.bytes
  have hml : c.maxLocals = 3 := hml0
  have hown : s.vm.findClass "jdk/internal/util/Preconditions" = some m.cls := findClass_of_methodNamed Bd.named
  have hnm := (name_of_methodNamed Bd.named Bd.method).1
  have hlk : meth.locks = false := BodyLoose.notSynchronized Bd
  have X0 : Stand p l e ({ frames := 0, cells := 0, slots := 0, locals := 0 } : Room) s m #[(.int q1), (.int q2), fv] below meth c s₁ [] 0 0 := Stand.of_body Bd
  have e0 : s₁.heap = h0 := by rw [← hh, Bd.state]; rfl
  show Go p e below (EndN below s (Pur (some (.int q1)) h0) ({ frames := 0, cells := 0, slots := 0, locals := 0 } : Room).cells ({ frames := 0, cells := 0, slots := 0, locals := 0 } : Room).slots) (s₁.setTop (entryFrame m #[(.int q1), (.int q2), fv] 3))
  rw [ef_pci (hfv := hfv)]
  refine g_iload_n X0 hx 1 q1 (hb hby pci_0) rfl rfl ?_
  refine g_ifN X0 hx 4 (hb hby pci_1) (XT.i0_lt_f h1) rfl ?_
  refine g_iload_n X0 hx 5 q1 (hb hby pci_4) rfl rfl ?_
  refine g_iload_n X0 hx 6 q2 (hb hby pci_5) rfl rfl ?_
  refine g_icmpY X0 hx 16 (hb hby pci_6) (XT.ii_lt_t h2) (by decide) (by decide) ?_
  refine g_iload_n X0 hx 17 q1 (hb hby pci_16) rfl rfl ?_
  exact Go.retI X0 hx hlk Bd.returns (hb hby pci_17) (by decide) (by decide) ⟨rfl, rfl, e0⟩
theorem ckx_0 : decode jdk_42_method_155_code 0 = .ok (.iload_n 0, 1) := by decide +kernel
theorem ckx_1 : decode jdk_42_method_155_code 1 = .ok (.iload_n 1, 1) := by decide +kernel
theorem ckx_2 : decode jdk_42_method_155_code 2 = .ok (.getstatic 1053, 3) := by decide +kernel
theorem ckx_5 : decode jdk_42_method_155_code 5 = .ok (.invokestatic 1059, 3) := by decide +kernel
theorem ckx_8 : decode jdk_42_method_155_code 8 = .ok (.pop, 1) := by decide +kernel
theorem ckx_9 : decode jdk_42_method_155_code 9 = .ok (.return_, 1) := by decide +kernel
theorem pn_ckx : plainFor (⟨"java/lang/String", "checkIndex", "(II)V"⟩ : MethodName) = true := by first | exact plainFor_of_name (by first | (simp [plainName, overriddenIn]; done) | decide +kernel) | decide +kernel
theorem ef_ckx (m : MethodId) (q1 : Int32) (q2 : Int32)  : entryFrame m #[(.int q1), (.int q2)] 2 = mkF m 0 #[.val (.int q1), .val (.int q2)] [] := by first | (simp [entryFrame, mkF, argsToLocals, Value.category, maxLocals]; done) | rfl
theorem pd_ckx : parseMethodDescriptor "(II)V" = some ⟨[.int, .int], none⟩ := by decide +kernel
set_option maxRecDepth 65536 in
set_option maxHeartbeats 40000000 in
theorem rm_ckx (l : Launch) (Z : State) (a0 : Array Value) (hw : ∀ d ∈ tables_1, d.before a0 Z = true)  (q1 : Int32) (q2 : Int32) (h0 : Heap) (n0 : Nat) (XO : Old Z n0 h0) (fv : Value) (hfv : fv.isRef = true) (SF : Sta Z Z.heap "jdk/internal/util/Preconditions" "SIOOBE_FORMATTER" "Ljava/util/function/BiFunction;" fv) (h1 : ¬ q1 < (0 : Int32)) (h2 : q1 < q2) :
    MetFree l (⟨"java/lang/String", "checkIndex", "(II)V"⟩ : MethodName) (head1 [Jvm.Cond.code (⟨"java/lang/String", "checkIndex", "(II)V"⟩ : MethodName) jdk_42_method_155_code 2 none] ({ frames := 1, cells := 0, slots := 0, locals := 14 } : Room)) (fun a U => a = #[(.int q1), (.int q2)] ∧ Z.Warmed39 U.vm ∧ U.heap = h0) (fun _ _ _ _ _ => True) (fun _ U o U' => ∃ v L, o = .returned v ∧ Pur none h0 v U'.heap L ∧ FrameEnd U o U' L ({ frames := 1, cells := 0, slots := 0, locals := 14 } : Room).cells ({ frames := 1, cells := 0, slots := 0, locals := 14 } : Room).slots) := by
  refine MetFree.of_bodySF pn_ckx hisR ?_
  intro p e s m args below meth c s₁ Bd hml0 hP hK
  obtain ⟨rfl, hZ, hh⟩ := hP
  have hx := Bd.exec
  have hby := Bd.bytes
  have hml : c.maxLocals = 2 := hml0
  have hown : s.vm.findClass "java/lang/String" = some m.cls := findClass_of_methodNamed Bd.named
  have hnm := (name_of_methodNamed Bd.named Bd.method).1
  have hlk : meth.locks = false := BodyLoose.notSynchronized Bd
  have X0 : Stand p l e ({ frames := 1, cells := 0, slots := 0, locals := 14 } : Room) s m #[(.int q1), (.int q2)] below meth c s₁ [] 0 0 := Stand.of_body Bd
  have e0 : s₁.heap = h0 := by rw [← hh, Bd.state]; rfl
  show Go p e below (EndN below s (Pur none h0) ({ frames := 1, cells := 0, slots := 0, locals := 14 } : Room).cells ({ frames := 1, cells := 0, slots := 0, locals := 14 } : Room).slots) (s₁.setTop (entryFrame m #[(.int q1), (.int q2)] 2))
  rw [ef_ckx]
  refine g_iload_n X0 hx 1 q1 (hb hby ckx_0) rfl rfl ?_
  refine g_iload_n X0 hx 2 q2 (hb hby ckx_1) rfl rfl ?_
  obtain ⟨T_2, X_2, e_2, st_2⟩ := g_getS X0 hx hZ hown (hw _ (List.mem_of_getElem? (i := 68) rfl)) e0 (SF.ext XO.2) 5 (hb hby ckx_2) rfl
  refine st_2 ?_
  obtain ⟨_, T_5, L_5, X_5, ⟨rfl, rfl, e_5⟩, st_5⟩ := g_callS X_2 hx hZ  (own := "java/lang/String") (index := 1059) (y := (⟨"jdk/internal/util/Preconditions", "checkIndex", "(IILjava/util/function/BiFunction;)I"⟩ : MethodName)) (as' := [(.int q1), (.int q2), fv]) hown (hw _ (List.mem_of_getElem? (i := 70) rfl)) (hw _ (List.mem_of_getElem? (i := 71) rfl)) (hw _ (List.mem_of_getElem? (i := 69) rfl)) (hw _ (List.mem_of_getElem? (i := 72) rfl)) (by decide) e_2 (rm_pci l Z a0 hw q1 q2 fv h0 hfv h1 h2) pd_pci rfl 0 (by decide) (by decide) (by decide) (by decide) (pc := 5) (Ls := #[.val (.int q1), .val (.int q2)]) (rest := []) (st := [fv, (.int q2), (.int q1)]) (by rw [hml]; rfl) rfl (Nat.le_of_eq rfl) (hb hby ckx_5)
  refine Go.of ?_ st_5
  rw [List.append_nil] at X_5
  show Go p e below _ (T_5.setTop (mkF m 8 #[.val (.int q1), .val (.int q2)] [(.int q1)]))
  refine g_pop X_5 hx 9 (hb hby ckx_8) rfl rfl ?_
  exact Go.retV X_5 hx hlk Bd.returns (hb hby ckx_9) (by decide) (by decide) ⟨rfl, rfl, e_5⟩
theorem l1c_0 : decode jdk_43_method_2_code 0 = .ok (.iload_n 1, 1) := by decide +kernel
theorem l1c_1 : decode jdk_43_method_2_code 1 = .ok (.aload_n 0, 1) := by decide +kernel
theorem l1c_2 : decode jdk_43_method_2_code 2 = .ok (.arraylength, 1) := by decide +kernel
theorem l1c_3 : decode jdk_43_method_2_code 3 = .ok (.invokestatic 9, 3) := by decide +kernel
theorem l1c_6 : decode jdk_43_method_2_code 6 = .ok (.aload_n 0, 1) := by decide +kernel
theorem l1c_7 : decode jdk_43_method_2_code 7 = .ok (.iload_n 1, 1) := by decide +kernel
theorem l1c_8 : decode jdk_43_method_2_code 8 = .ok (.baload, 1) := by decide +kernel
theorem l1c_9 : decode jdk_43_method_2_code 9 = .ok (.sipush 255, 3) := by decide +kernel
theorem l1c_12 : decode jdk_43_method_2_code 12 = .ok (.iand, 1) := by decide +kernel
theorem l1c_13 : decode jdk_43_method_2_code 13 = .ok (.i2c, 1) := by decide +kernel
theorem l1c_14 : decode jdk_43_method_2_code 14 = .ok (.ireturn, 1) := by decide +kernel
theorem pn_l1c : plainFor (⟨"java/lang/StringLatin1", "charAt", "([BI)C"⟩ : MethodName) = true := by first | exact plainFor_of_name (by first | (simp [plainName, overriddenIn]; done) | decide +kernel) | decide +kernel
theorem ef_l1c (m : MethodId) (qb : Addr) (q1 : Int32)  : entryFrame m #[(.ref qb), (.int q1)] 2 = mkF m 0 #[.val (.ref qb), .val (.int q1)] [] := by first | (simp [entryFrame, mkF, argsToLocals, Value.category, maxLocals]; done) | rfl
theorem pd_l1c : parseMethodDescriptor "([BI)C" = some ⟨[.array (.byte), .int], some (.char)⟩ := by decide +kernel
set_option maxRecDepth 65536 in
set_option maxHeartbeats 40000000 in
theorem rm_l1c (l : Launch) (Z : State) (a0 : Array Value) (hw : ∀ d ∈ tables_1, d.before a0 Z = true)  (qb : Addr) (q1 : Int32) (h0 : Heap) (n0 : Nat) (XO : Old Z n0 h0) (fv : Value) (hfv : fv.isRef = true) (SF : Sta Z Z.heap "jdk/internal/util/Preconditions" "SIOOBE_FORMATTER" "Ljava/util/function/BiFunction;" fv) (vs : List Value) (z : Int32) (hz : vs.length.toInt32 = z) (h1 : ¬ q1 < (0 : Int32)) (h2 : q1 < z) (i : Nat) (hi : q1.toInt = (i : Int)) (x : Int32) (hv : vs[i]? = some (.int x)) (y : Int32) (hy : nar .char ((x &&& (255 : Int32)).toUInt32.toUInt16.toUInt32.toInt32) = y) (hA : Arl Z h0 qb .byte vs) :
    MetFree l (⟨"java/lang/StringLatin1", "charAt", "([BI)C"⟩ : MethodName) (head1 [Jvm.Cond.code (⟨"java/lang/StringLatin1", "charAt", "([BI)C"⟩ : MethodName) jdk_43_method_2_code 2 (some Jvm.ClassFile.FieldType.char)] ({ frames := 2, cells := 0, slots := 0, locals := 27 } : Room)) (fun a U => a = #[(.ref qb), (.int q1)] ∧ Z.Warmed39 U.vm ∧ U.heap = h0) (fun _ _ _ _ _ => True) (fun _ U o U' => ∃ v L, o = .returned v ∧ Pur (some (.int y)) h0 v U'.heap L ∧ FrameEnd U o U' L ({ frames := 2, cells := 0, slots := 0, locals := 27 } : Room).cells ({ frames := 2, cells := 0, slots := 0, locals := 27 } : Room).slots) := by
  refine MetFree.of_bodySF pn_l1c hisR ?_
  intro p e s m args below meth c s₁ Bd hml0 hP hK
  obtain ⟨rfl, hZ, hh⟩ := hP
  have hx := Bd.exec
  have hby := Bd.bytes
  have hml : c.maxLocals = 2 := hml0
  have hown : s.vm.findClass "java/lang/StringLatin1" = some m.cls := findClass_of_methodNamed Bd.named
  have hnm := (name_of_methodNamed Bd.named Bd.method).1
  have hlk : meth.locks = false := BodyLoose.notSynchronized Bd
  have X0 : Stand p l e ({ frames := 2, cells := 0, slots := 0, locals := 27 } : Room) s m #[(.ref qb), (.int q1)] below meth c s₁ [] 0 0 := Stand.of_body Bd
  have e0 : s₁.heap = h0 := by rw [← hh, Bd.state]; rfl
  show Go p e below (EndN below s (Pur (some (.int y)) h0) ({ frames := 2, cells := 0, slots := 0, locals := 27 } : Room).cells ({ frames := 2, cells := 0, slots := 0, locals := 27 } : Room).slots) (s₁.setTop (entryFrame m #[(.ref qb), (.int q1)] 2))
  rw [ef_l1c]
  refine g_iload_n X0 hx 1 q1 (hb hby l1c_0) rfl rfl ?_
  refine g_aload_n X0 hx 2 (.ref qb) (hb hby l1c_1) rfl rfl rfl ?_
  refine g_alen X0 hx hZ e0 hA z hz 3 (hb hby l1c_2) rfl ?_
  obtain ⟨_, T_3, L_3, X_3, ⟨rfl, rfl, e_3⟩, st_3⟩ := g_callS X0 hx hZ  (own := "java/lang/StringLatin1") (index := 9) (y := (⟨"java/lang/String", "checkIndex", "(II)V"⟩ : MethodName)) (as' := [(.int q1), (.int z)]) hown (hw _ (List.mem_of_getElem? (i := 65) rfl)) (hw _ (List.mem_of_getElem? (i := 66) rfl)) (hw _ (List.mem_of_getElem? (i := 9) rfl)) (hw _ (List.mem_of_getElem? (i := 67) rfl)) (by decide) e0 (rm_ckx l Z a0 hw q1 z h0 n0 XO fv hfv SF h1 h2) pd_ckx rfl 0 (by decide) (by decide) (by decide) (by decide) (pc := 3) (Ls := #[.val (.ref qb), .val (.int q1)]) (rest := []) (st := [(.int z), (.int q1)]) (by rw [hml]; rfl) rfl (Nat.le_of_eq rfl) (hb hby l1c_3)
  refine Go.of ?_ st_3
  rw [List.append_nil] at X_3
  show Go p e below _ (T_3.setTop (mkF m 6 #[.val (.ref qb), .val (.int q1)] []))
  refine g_aload_n X_3 hx 7 (.ref qb) (hb hby l1c_6) rfl rfl rfl ?_
  refine g_iload_n X_3 hx 8 q1 (hb hby l1c_7) rfl rfl ?_
  refine g_baload X_3 hx hZ e_3 hA (k := i) hi (.int x) hv 9 (hb hby l1c_8) rfl ?_
  refine g_sipush X_3 hx 12 (255 : Int32) (hb hby l1c_9) rfl rfl ?_
  refine g_iand X_3 hx 13 (hb hby l1c_12) rfl ?_
  refine g_i2c X_3 hx 14 (hb hby l1c_13) rfl ?_
  exact Go.retZ X_3 hx hlk Bd.returns (by simp) (hb hby l1c_14) (by decide) (by decide) ⟨by rw [hy], rfl, e_3⟩
theorem cat_0 : decode jdk_42_method_56_code 0 = .ok (.aload_n 0, 1) := by decide +kernel
theorem cat_1 : decode jdk_42_method_56_code 1 = .ok (.invokevirtual 492, 3) := by decide +kernel
theorem cat_4 : decode jdk_42_method_56_code 4 = .ok (.ifCond .eq 12, 3) := by decide +kernel
theorem cat_7 : decode jdk_42_method_56_code 7 = .ok (.aload_n 0, 1) := by decide +kernel
theorem cat_8 : decode jdk_42_method_56_code 8 = .ok (.getfield 9, 3) := by decide +kernel
theorem cat_11 : decode jdk_42_method_56_code 11 = .ok (.iload_n 1, 1) := by decide +kernel
theorem cat_12 : decode jdk_42_method_56_code 12 = .ok (.invokestatic 495, 3) := by decide +kernel
theorem cat_15 : decode jdk_42_method_56_code 15 = .ok (.ireturn, 1) := by decide +kernel
theorem cat_16 : decode jdk_42_method_56_code 16 = .ok (.aload_n 0, 1) := by decide +kernel
theorem cat_17 : decode jdk_42_method_56_code 17 = .ok (.getfield 9, 3) := by decide +kernel
theorem cat_20 : decode jdk_42_method_56_code 20 = .ok (.iload_n 1, 1) := by decide +kernel
theorem cat_21 : decode jdk_42_method_56_code 21 = .ok (.invokestatic 498, 3) := by decide +kernel
theorem cat_24 : decode jdk_42_method_56_code 24 = .ok (.ireturn, 1) := by decide +kernel
theorem pn_cat : plainFor (⟨"java/lang/String", "charAt", "(I)C"⟩ : MethodName) = true := by first | exact plainFor_of_name (by first | (simp [plainName, overriddenIn]; done) | decide +kernel) | decide +kernel
theorem ef_cat (m : MethodId) (qa : Addr) (q1 : Int32)  : entryFrame m #[(.ref qa), (.int q1)] 2 = mkF m 0 #[.val (.ref qa), .val (.int q1)] [] := by first | (simp [entryFrame, mkF, argsToLocals, Value.category, maxLocals]; done) | rfl
theorem pd_cat : parseMethodDescriptor "(I)C" = some ⟨[.int], some (.char)⟩ := by decide +kernel
set_option maxRecDepth 65536 in
set_option maxHeartbeats 40000000 in
theorem rm_cat (l : Launch) (Z : State) (a0 : Array Value) (hw : ∀ d ∈ tables_1, d.before a0 Z = true)  (qa : Addr) (q1 : Int32) (h0 : Heap) (n0 : Nat) (XO : Old Z n0 h0) (cs : Int32) (hcs : ¬ cs = (0 : Int32)) (SC : Sta Z Z.heap "java/lang/String" "COMPACT_STRINGS" "Z" (.int cs)) (fv : Value) (hfv : fv.isRef = true) (SF : Sta Z Z.heap "jdk/internal/util/Preconditions" "SIOOBE_FORMATTER" "Ljava/util/function/BiFunction;" fv) (qb : Addr) (vs : List Value) (z : Int32) (hz : vs.length.toInt32 = z) (h1 : ¬ q1 < (0 : Int32)) (h2 : q1 < z) (i : Nat) (hi : q1.toInt = (i : Int)) (x : Int32) (hv : vs[i]? = some (.int x)) (y : Int32) (hy : nar .char ((x &&& (255 : Int32)).toUInt32.toUInt16.toUInt32.toInt32) = y) (hT : Stl Z h0 qa qb 0 vs) :
    MetFree l (⟨"java/lang/String", "charAt", "(I)C"⟩ : MethodName) (head1 [Jvm.Cond.code (⟨"java/lang/String", "charAt", "(I)C"⟩ : MethodName) jdk_42_method_56_code 2 (some Jvm.ClassFile.FieldType.char)] ({ frames := 3, cells := 0, slots := 0, locals := 40 } : Room)) (fun a U => a = #[(.ref qa), (.int q1)] ∧ Z.Warmed39 U.vm ∧ U.heap = h0) (fun _ _ _ _ _ => True) (fun _ U o U' => ∃ v L, o = .returned v ∧ Pur (some (.int y)) h0 v U'.heap L ∧ FrameEnd U o U' L ({ frames := 3, cells := 0, slots := 0, locals := 40 } : Room).cells ({ frames := 3, cells := 0, slots := 0, locals := 40 } : Room).slots) := by
  refine MetFree.of_bodySF pn_cat hisR ?_
  intro p e s m args below meth c s₁ Bd hml0 hP hK
  obtain ⟨rfl, hZ, hh⟩ := hP
  have hx := Bd.exec
  have hby := Bd.bytes
  have hml : c.maxLocals = 2 := hml0
  have hown : s.vm.findClass "java/lang/String" = some m.cls := findClass_of_methodNamed Bd.named
  have hnm := (name_of_methodNamed Bd.named Bd.method).1
  have hlk : meth.locks = false := BodyLoose.notSynchronized Bd
  have X0 : Stand p l e ({ frames := 3, cells := 0, slots := 0, locals := 40 } : Room) s m #[(.ref qa), (.int q1)] below meth c s₁ [] 0 0 := Stand.of_body Bd
  have e0 : s₁.heap = h0 := by rw [← hh, Bd.state]; rfl
  show Go p e below (EndN below s (Pur (some (.int y)) h0) ({ frames := 3, cells := 0, slots := 0, locals := 40 } : Room).cells ({ frames := 3, cells := 0, slots := 0, locals := 40 } : Room).slots) (s₁.setTop (entryFrame m #[(.ref qa), (.int q1)] 2))
  rw [ef_cat]
  refine g_aload_n X0 hx 1 (.ref qa) (hb hby cat_0) rfl rfl rfl ?_
  obtain ⟨_, T_1, L_1, X_1, ⟨rfl, rfl, e_1⟩, st_1⟩ := g_callV X0 hx hZ  (C := "java/lang/String") (own := "java/lang/String") (index := 492) (y := (⟨"java/lang/String", "isLatin1", "()Z"⟩ : MethodName)) (z := (⟨"java/lang/String", "isLatin1", "()Z"⟩ : MethodName)) (a := qa) (as' := []) hown (hw _ (List.mem_of_getElem? (i := 56) rfl)) (hw _ (List.mem_of_getElem? (i := 57) rfl)) (hw _ (List.mem_of_getElem? (i := 59) rfl)) (hw _ (List.mem_of_getElem? (i := 59) rfl)) (hw _ (List.mem_of_getElem? (i := 58) rfl)) (hw _ (List.mem_of_getElem? (i := 9) rfl)) (hw _ (List.mem_of_getElem? (i := 60) rfl)) (by decide) e0 hT.1 (rm_lat l Z a0 hw qa h0 n0 XO cs hcs SC hT.2.1) pd_lat rfl 0 (by decide) (by decide) (by decide) (by decide) (pc := 1) (Ls := #[.val (.ref qa), .val (.int q1)]) (rest := []) (st := [(.ref qa)]) (by rw [hml]; rfl) rfl (Nat.le_of_eq rfl) (hb hby cat_1)
  refine st_1 ?_
  rw [List.append_nil] at X_1
  show Go p e below _ (T_1.setTop (mkF m 4 #[.val (.ref qa), .val (.int q1)] [(.int (1 : Int32))]))
  refine g_ifN X_1 hx 7 (hb hby cat_4) (XT.i0_eq_f (by decide)) rfl ?_
  refine g_aload_n X_1 hx 8 (.ref qa) (hb hby cat_7) rfl rfl rfl ?_
  obtain ⟨T_8, X_8, e_8, st_8⟩ := g_getF X_1 hx hZ hown (hw _ (List.mem_of_getElem? (i := 25) rfl)) Via.refl e_1 hT.2.2.1 11 (hb hby cat_8) rfl
  refine st_8 ?_
  refine g_iload_n X_8 hx 12 q1 (hb hby cat_11) rfl rfl ?_
  obtain ⟨_, T_12, L_12, X_12, ⟨rfl, rfl, e_12⟩, st_12⟩ := g_callS X_8 hx hZ  (own := "java/lang/String") (index := 495) (y := (⟨"java/lang/StringLatin1", "charAt", "([BI)C"⟩ : MethodName)) (as' := [(.ref qb), (.int q1)]) hown (hw _ (List.mem_of_getElem? (i := 61) rfl)) (hw _ (List.mem_of_getElem? (i := 62) rfl)) (hw _ (List.mem_of_getElem? (i := 63) rfl)) (hw _ (List.mem_of_getElem? (i := 64) rfl)) (by decide) e_8 (rm_l1c l Z a0 hw qb q1 h0 n0 XO fv hfv SF vs z hz h1 h2 i hi x hv y hy hT.2.2.2) pd_l1c rfl 0 (by decide) (by decide) (by decide) (by decide) (pc := 12) (Ls := #[.val (.ref qa), .val (.int q1)]) (rest := []) (st := [(.int q1), (.ref qb)]) (by rw [hml]; rfl) rfl (Nat.le_of_eq rfl) (hb hby cat_12)
  refine Go.of ?_ st_12
  rw [List.append_nil] at X_12
  show Go p e below _ (T_12.setTop (mkF m 15 #[.val (.ref qa), .val (.int q1)] [(.int y)]))
  exact Go.retZ X_12 hx hlk Bd.returns (by simp) (hb hby cat_15) (by decide) (by decide) ⟨by rw [← hy]; simp only [nar, UInt32.toUInt32_toInt32, UInt16.toUInt16_toUInt32], rfl, e_12⟩
theorem cfl_0 : decode jdk_52_method_15_code 0 = .ok (.iload_n 1, 1) := by decide +kernel
theorem cfl_1 : decode jdk_52_method_15_code 1 = .ok (.aload_n 0, 1) := by decide +kernel
theorem cfl_2 : decode jdk_52_method_15_code 2 = .ok (.arraylength, 1) := by decide +kernel
theorem cfl_3 : decode jdk_52_method_15_code 3 = .ok (.isub, 1) := by decide +kernel
theorem cfl_4 : decode jdk_52_method_15_code 4 = .ok (.bipush 31, 2) := by decide +kernel
theorem cfl_6 : decode jdk_52_method_15_code 6 = .ok (.iushr, 1) := by decide +kernel
theorem cfl_7 : decode jdk_52_method_15_code 7 = .ok (.i2b, 1) := by decide +kernel
theorem cfl_8 : decode jdk_52_method_15_code 8 = .ok (.ireturn, 1) := by decide +kernel
theorem pn_cfl : plainFor (⟨"java/lang/StringUTF16", "coderFromArrayLen", "([BI)B"⟩ : MethodName) = true := by first | exact plainFor_of_name (by first | (simp [plainName, overriddenIn]; done) | decide +kernel) | decide +kernel
theorem ef_cfl (m : MethodId) (qb : Addr) (q1 : Int32)  : entryFrame m #[(.ref qb), (.int q1)] 2 = mkF m 0 #[.val (.ref qb), .val (.int q1)] [] := by first | (simp [entryFrame, mkF, argsToLocals, Value.category, maxLocals]; done) | rfl
theorem pd_cfl : parseMethodDescriptor "([BI)B" = some ⟨[.array (.byte), .int], some (.byte)⟩ := by decide +kernel
set_option maxRecDepth 65536 in
set_option maxHeartbeats 40000000 in
theorem rm_cfl (l : Launch) (Z : State) (a0 : Array Value) (hw : ∀ d ∈ tables_1, d.before a0 Z = true)  (qb : Addr) (q1 : Int32) (h0 : Heap) (vs : List Value) (hz : vs.length.toInt32 = q1) (hA : Arl Z h0 qb .byte vs) :
    MetFree l (⟨"java/lang/StringUTF16", "coderFromArrayLen", "([BI)B"⟩ : MethodName) (head1 [Jvm.Cond.code (⟨"java/lang/StringUTF16", "coderFromArrayLen", "([BI)B"⟩ : MethodName) jdk_52_method_15_code 2 (some Jvm.ClassFile.FieldType.byte)] ({ frames := 0, cells := 0, slots := 0, locals := 0 } : Room)) (fun a U => a = #[(.ref qb), (.int q1)] ∧ Z.Warmed39 U.vm ∧ U.heap = h0) (fun _ _ _ _ _ => True) (fun _ U o U' => ∃ v L, o = .returned v ∧ Pur (some (.int (0 : Int32))) h0 v U'.heap L ∧ FrameEnd U o U' L ({ frames := 0, cells := 0, slots := 0, locals := 0 } : Room).cells ({ frames := 0, cells := 0, slots := 0, locals := 0 } : Room).slots) := by
  refine MetFree.of_bodySF pn_cfl hisR ?_
  intro p e s m args below meth c s₁ Bd hml0 hP hK
  obtain ⟨rfl, hZ, hh⟩ := hP
  have hx := Bd.exec
  have hby := Bd.bytes
  have hml : c.maxLocals = 2 := hml0
  have hown : s.vm.findClass "java/lang/StringUTF16" = some m.cls := findClass_of_methodNamed Bd.named
  have hnm := (name_of_methodNamed Bd.named Bd.method).1
  have hlk : meth.locks = false := BodyLoose.notSynchronized Bd
  have X0 : Stand p l e ({ frames := 0, cells := 0, slots := 0, locals := 0 } : Room) s m #[(.ref qb), (.int q1)] below meth c s₁ [] 0 0 := Stand.of_body Bd
  have e0 : s₁.heap = h0 := by rw [← hh, Bd.state]; rfl
  show Go p e below (EndN below s (Pur (some (.int (0 : Int32))) h0) ({ frames := 0, cells := 0, slots := 0, locals := 0 } : Room).cells ({ frames := 0, cells := 0, slots := 0, locals := 0 } : Room).slots) (s₁.setTop (entryFrame m #[(.ref qb), (.int q1)] 2))
  rw [ef_cfl]
  refine g_iload_n X0 hx 1 q1 (hb hby cfl_0) rfl rfl ?_
  refine g_aload_n X0 hx 2 (.ref qb) (hb hby cfl_1) rfl rfl rfl ?_
  refine g_alen X0 hx hZ e0 hA q1 hz 3 (hb hby cfl_2) rfl ?_
  refine g_isub X0 hx 4 (hb hby cfl_3) rfl ?_
  refine g_bipush X0 hx 6 (31 : Int32) (hb hby cfl_4) rfl rfl ?_
  refine g_iushr X0 hx 7 (hb hby cfl_6) rfl ?_
  refine g_i2b X0 hx 8 (hb hby cfl_7) rfl ?_
  rw [show q1 - q1 = 0 from by simp]
  exact Go.retZ X0 hx hlk Bd.returns (by simp) (hb hby cfl_8) (by decide) (by decide) ⟨rfl, rfl, e0⟩
def CQ2_1 (Z : State) (qb : Addr) (c0 : Int32) (h0 : Heap) (n0 : Nat) (v : Option Value) (h : Heap) (L : List Loc) : Prop := v = some (.int (1 : Int32)) ∧ Fr n0 L ∧ Keep h0 h [qb] ∧ Arl Z h qb .byte [(.int (c0.toInt8.toInt32))]
theorem cp2_1_0 : decode jdk_52_method_21_code 0 = .ok (.iconst 0, 1) := by decide +kernel
theorem cp2_1_1 : decode jdk_52_method_21_code 1 = .ok (.istore 5, 2) := by decide +kernel
theorem cp2_1_3 : decode jdk_52_method_21_code 3 = .ok (.iload 5, 2) := by decide +kernel
theorem cp2_1_5 : decode jdk_52_method_21_code 5 = .ok (.iload 4, 2) := by decide +kernel
theorem cp2_1_7 : decode jdk_52_method_21_code 7 = .ok (.if_icmp .ge 37, 3) := by decide +kernel
theorem cp2_1_10 : decode jdk_52_method_21_code 10 = .ok (.aload_n 0, 1) := by decide +kernel
theorem cp2_1_11 : decode jdk_52_method_21_code 11 = .ok (.iload_n 1, 1) := by decide +kernel
theorem cp2_1_12 : decode jdk_52_method_21_code 12 = .ok (.caload, 1) := by decide +kernel
theorem cp2_1_13 : decode jdk_52_method_21_code 13 = .ok (.istore 6, 2) := by decide +kernel
theorem cp2_1_15 : decode jdk_52_method_21_code 15 = .ok (.iload 6, 2) := by decide +kernel
theorem cp2_1_17 : decode jdk_52_method_21_code 17 = .ok (.sipush 255, 3) := by decide +kernel
theorem cp2_1_20 : decode jdk_52_method_21_code 20 = .ok (.if_icmp .le 6, 3) := by decide +kernel
theorem cp2_1_23 : decode jdk_52_method_21_code 23 = .ok (.iload 5, 2) := by decide +kernel
theorem cp2_1_25 : decode jdk_52_method_21_code 25 = .ok (.ireturn, 1) := by decide +kernel
theorem cp2_1_26 : decode jdk_52_method_21_code 26 = .ok (.aload_n 2, 1) := by decide +kernel
theorem cp2_1_27 : decode jdk_52_method_21_code 27 = .ok (.iload_n 3, 1) := by decide +kernel
theorem cp2_1_28 : decode jdk_52_method_21_code 28 = .ok (.iload 6, 2) := by decide +kernel
theorem cp2_1_30 : decode jdk_52_method_21_code 30 = .ok (.i2b, 1) := by decide +kernel
theorem cp2_1_31 : decode jdk_52_method_21_code 31 = .ok (.bastore, 1) := by decide +kernel
theorem cp2_1_32 : decode jdk_52_method_21_code 32 = .ok (.iinc 1 1, 3) := by decide +kernel
theorem cp2_1_35 : decode jdk_52_method_21_code 35 = .ok (.iinc 3 1, 3) := by decide +kernel
theorem cp2_1_38 : decode jdk_52_method_21_code 38 = .ok (.iinc 5 1, 3) := by decide +kernel
theorem cp2_1_41 : decode jdk_52_method_21_code 41 = .ok (.goto (-38), 3) := by decide +kernel
theorem cp2_1_44 : decode jdk_52_method_21_code 44 = .ok (.iload 4, 2) := by decide +kernel
theorem cp2_1_46 : decode jdk_52_method_21_code 46 = .ok (.ireturn, 1) := by decide +kernel
theorem pn_cp2_1 : plainFor (⟨"java/lang/StringUTF16", "compress", "([CI[BII)I"⟩ : MethodName) = true := by first | exact plainFor_of_name (by first | (simp [plainName, overriddenIn]; done) | decide +kernel) | decide +kernel
theorem ef_cp2_1 (m : MethodId) (qa : Addr) (qb : Addr)  : entryFrame m #[(.ref qa), (.int (0 : Int32)), (.ref qb), (.int (0 : Int32)), (.int (1 : Int32))] 7 = mkF m 0 #[.val (.ref qa), .val (.int (0 : Int32)), .val (.ref qb), .val (.int (0 : Int32)), .val (.int (1 : Int32)), .unset, .unset] [] := by first | (simp [entryFrame, mkF, argsToLocals, Value.category, maxLocals]; done) | rfl
theorem pd_cp2_1 : parseMethodDescriptor "([CI[BII)I" = some ⟨[.array (.char), .int, .array (.byte), .int, .int], some (.int)⟩ := by decide +kernel
set_option maxRecDepth 65536 in
set_option maxHeartbeats 40000000 in
theorem rm_cp2_1 (l : Launch) (Z : State) (a0 : Array Value) (hw : ∀ d ∈ tables_1, d.before a0 Z = true)  (qa : Addr) (qb : Addr) (h0 : Heap) (n0 : Nat) (ga : n0 ≤ qb) (c0 : Int32) (hc0 : ¬ (255 : Int32) < c0) (hne : qa ≠ qb) (A1 : Arl Z h0 qa .char [(.int c0)])(A2 : Arl Z h0 qb .byte [(.int (0 : Int32))]) :
    MetFree l (⟨"java/lang/StringUTF16", "compress", "([CI[BII)I"⟩ : MethodName) (head1 [Jvm.Cond.code (⟨"java/lang/StringUTF16", "compress", "([CI[BII)I"⟩ : MethodName) jdk_52_method_21_code 7 (some Jvm.ClassFile.FieldType.int)] ({ frames := 0, cells := 0, slots := 0, locals := 0 } : Room)) (fun a U => a = #[(.ref qa), (.int (0 : Int32)), (.ref qb), (.int (0 : Int32)), (.int (1 : Int32))] ∧ Z.Warmed39 U.vm ∧ U.heap = h0) (fun _ _ _ _ _ => True) (fun _ U o U' => ∃ v L, o = .returned v ∧ CQ2_1 Z qb c0 h0 n0 v U'.heap L ∧ FrameEnd U o U' L ({ frames := 0, cells := 0, slots := 0, locals := 0 } : Room).cells ({ frames := 0, cells := 0, slots := 0, locals := 0 } : Room).slots) := by
  refine MetFree.of_bodySF pn_cp2_1 hisR ?_
  intro p e s m args below meth c s₁ Bd hml0 hP hK
  obtain ⟨rfl, hZ, hh⟩ := hP
  have hx := Bd.exec
  have hby := Bd.bytes
  have hml : c.maxLocals = 7 := hml0
  have hown : s.vm.findClass "java/lang/StringUTF16" = some m.cls := findClass_of_methodNamed Bd.named
  have hnm := (name_of_methodNamed Bd.named Bd.method).1
  have hlk : meth.locks = false := BodyLoose.notSynchronized Bd
  have X0 : Stand p l e ({ frames := 0, cells := 0, slots := 0, locals := 0 } : Room) s m #[(.ref qa), (.int (0 : Int32)), (.ref qb), (.int (0 : Int32)), (.int (1 : Int32))] below meth c s₁ [] 0 0 := Stand.of_body Bd
  have e0 : s₁.heap = h0 := by rw [← hh, Bd.state]; rfl
  show Go p e below (EndN below s (CQ2_1 Z qb c0 h0 n0) ({ frames := 0, cells := 0, slots := 0, locals := 0 } : Room).cells ({ frames := 0, cells := 0, slots := 0, locals := 0 } : Room).slots) (s₁.setTop (entryFrame m #[(.ref qa), (.int (0 : Int32)), (.ref qb), (.int (0 : Int32)), (.int (1 : Int32))] 7))
  rw [ef_cp2_1]
  refine g_iconst X0 hx 1 (0 : Int32) (hb hby cp2_1_0) rfl rfl ?_
  refine g_istore X0 hx 3 #[.val (.ref qa), .val (.int (0 : Int32)), .val (.ref qb), .val (.int (0 : Int32)), .val (.int (1 : Int32)), .val (.int (0 : Int32)), .unset] (hb hby cp2_1_1) rfl rfl ?_
  refine g_iload X0 hx 5 (0 : Int32) (hb hby cp2_1_3) rfl rfl ?_
  refine g_iload X0 hx 7 (1 : Int32) (hb hby cp2_1_5) rfl rfl ?_
  refine g_icmpN X0 hx 10 (hb hby cp2_1_7) (XT.ii_ge_f (by decide)) rfl ?_
  refine g_aload_n X0 hx 11 (.ref qa) (hb hby cp2_1_10) rfl rfl rfl ?_
  refine g_iload_n X0 hx 12 (0 : Int32) (hb hby cp2_1_11) rfl rfl ?_
  refine g_caload X0 hx hZ e0 A1 (k := 0) rfl (.int c0) rfl 13 (hb hby cp2_1_12) rfl ?_
  refine g_istore X0 hx 15 #[.val (.ref qa), .val (.int (0 : Int32)), .val (.ref qb), .val (.int (0 : Int32)), .val (.int (1 : Int32)), .val (.int (0 : Int32)), .val (.int c0)] (hb hby cp2_1_13) rfl rfl ?_
  refine g_iload X0 hx 17 c0 (hb hby cp2_1_15) rfl rfl ?_
  refine g_sipush X0 hx 20 (255 : Int32) (hb hby cp2_1_17) rfl rfl ?_
  refine g_icmpY X0 hx 26 (hb hby cp2_1_20) (XT.ii_le_t hc0) (by decide) (by decide) ?_
  refine g_aload_n X0 hx 27 (.ref qb) (hb hby cp2_1_26) rfl rfl rfl ?_
  refine g_iload_n X0 hx 28 (0 : Int32) (hb hby cp2_1_27) rfl rfl ?_
  refine g_iload X0 hx 30 c0 (hb hby cp2_1_28) rfl rfl ?_
  refine g_i2b X0 hx 31 (hb hby cp2_1_30) rfl ?_
  obtain ⟨T_31, h_31, X_31, e_31, W_31, B_31, st_31⟩ := g_bastore X0 hx hZ e0 A2 (j := (0 : Int32)) (c0.toInt8.toInt32) (k := 0) rfl (Nat.le_of_ble_eq_true rfl) 32 (hb hby cp2_1_31) rfl
  refine st_31 ?_
  have C_31 : Arl Z h_31 qb .byte [(.int (c0.toInt8.toInt32))] := by have z := B_31; rw [show (nar .byte (c0.toInt8.toInt32)) = (c0.toInt8.toInt32) from own_nb _] at z; exact z
  have F_31_0 : Arl Z h_31 qb .byte [(.int (c0.toInt8.toInt32))] := C_31
  have F_31_1 : Arl Z h_31 qa .char [(.int c0)] := A1.other W_31 hne
  have N_31 := Fr.snoc X_31 (Fr.nil _) ga
  have Z_31 : h0.size ≤ h_31.size := by rw [W_31.size]; exact (Nat.le_refl _)
  refine g_iinc X_31 hx 35 (1 : Int32) #[.val (.ref qa), .val (.int (1 : Int32)), .val (.ref qb), .val (.int (0 : Int32)), .val (.int (1 : Int32)), .val (.int (0 : Int32)), .val (.int c0)] (hb hby cp2_1_32) rfl rfl rfl rfl ?_
  refine g_iinc X_31 hx 38 (1 : Int32) #[.val (.ref qa), .val (.int (1 : Int32)), .val (.ref qb), .val (.int (1 : Int32)), .val (.int (1 : Int32)), .val (.int (0 : Int32)), .val (.int c0)] (hb hby cp2_1_35) rfl rfl rfl rfl ?_
  refine g_iinc X_31 hx 41 (1 : Int32) #[.val (.ref qa), .val (.int (1 : Int32)), .val (.ref qb), .val (.int (1 : Int32)), .val (.int (1 : Int32)), .val (.int (1 : Int32)), .val (.int c0)] (hb hby cp2_1_38) rfl rfl rfl rfl ?_
  refine g_goto X_31 hx 3 (hb hby cp2_1_41) (by decide) (by decide) ?_
  refine g_iload X_31 hx 5 (1 : Int32) (hb hby cp2_1_3) rfl rfl ?_
  refine g_iload X_31 hx 7 (1 : Int32) (hb hby cp2_1_5) rfl rfl ?_
  refine g_icmpY X_31 hx 44 (hb hby cp2_1_7) (XT.ii_ge_t (by decide)) (by decide) (by decide) ?_
  refine g_iload X_31 hx 46 (1 : Int32) (hb hby cp2_1_44) rfl rfl ?_
  exact Go.retI X_31 hx hlk Bd.returns (hb hby cp2_1_46) (by decide) (by decide) ⟨rfl, N_31, e_31.symm ▸ ((Keep.refl _ _).wr W_31 (Or.inl (by simp))), e_31.symm ▸ F_31_0⟩
def CQ1_1 (Z : State) (c0 : Int32) (h0 : Heap) (n0 : Nat) (v : Option Value) (h : Heap) (L : List Loc) : Prop := ∃ qb : Addr, v = some (.ref qb) ∧ h0.size ≤ qb ∧ Fr n0 L ∧ Keep h0 h [] ∧ Arl Z h qb .byte [(.int (c0.toInt8.toInt32))]
theorem cp1_1_0 : decode jdk_52_method_16_code 0 = .ok (.iload_n 2, 1) := by decide +kernel
theorem cp1_1_1 : decode jdk_52_method_16_code 1 = .ok (.newarray .byte, 2) := by decide +kernel
theorem cp1_1_3 : decode jdk_52_method_16_code 3 = .ok (.astore_n 3, 1) := by decide +kernel
theorem cp1_1_4 : decode jdk_52_method_16_code 4 = .ok (.aload_n 0, 1) := by decide +kernel
theorem cp1_1_5 : decode jdk_52_method_16_code 5 = .ok (.iload_n 1, 1) := by decide +kernel
theorem cp1_1_6 : decode jdk_52_method_16_code 6 = .ok (.aload_n 3, 1) := by decide +kernel
theorem cp1_1_7 : decode jdk_52_method_16_code 7 = .ok (.iconst 0, 1) := by decide +kernel
theorem cp1_1_8 : decode jdk_52_method_16_code 8 = .ok (.iload_n 2, 1) := by decide +kernel
theorem cp1_1_9 : decode jdk_52_method_16_code 9 = .ok (.invokestatic 115, 3) := by decide +kernel
theorem cp1_1_12 : decode jdk_52_method_16_code 12 = .ok (.istore 4, 2) := by decide +kernel
theorem cp1_1_14 : decode jdk_52_method_16_code 14 = .ok (.iload 4, 2) := by decide +kernel
theorem cp1_1_16 : decode jdk_52_method_16_code 16 = .ok (.iload_n 2, 1) := by decide +kernel
theorem cp1_1_17 : decode jdk_52_method_16_code 17 = .ok (.if_icmp .eq 40, 3) := by decide +kernel
theorem cp1_1_20 : decode jdk_52_method_16_code 20 = .ok (.aload_n 0, 1) := by decide +kernel
theorem cp1_1_21 : decode jdk_52_method_16_code 21 = .ok (.iload_n 1, 1) := by decide +kernel
theorem cp1_1_22 : decode jdk_52_method_16_code 22 = .ok (.iload_n 2, 1) := by decide +kernel
theorem cp1_1_23 : decode jdk_52_method_16_code 23 = .ok (.invokestatic 119, 3) := by decide +kernel
theorem cp1_1_26 : decode jdk_52_method_16_code 26 = .ok (.astore 5, 2) := by decide +kernel
theorem cp1_1_28 : decode jdk_52_method_16_code 28 = .ok (.aload 5, 2) := by decide +kernel
theorem cp1_1_30 : decode jdk_52_method_16_code 30 = .ok (.iload 4, 2) := by decide +kernel
theorem cp1_1_32 : decode jdk_52_method_16_code 32 = .ok (.invokestatic 71, 3) := by decide +kernel
theorem cp1_1_35 : decode jdk_52_method_16_code 35 = .ok (.sipush 255, 3) := by decide +kernel
theorem cp1_1_38 : decode jdk_52_method_16_code 38 = .ok (.if_icmp .gt 16, 3) := by decide +kernel
theorem cp1_1_41 : decode jdk_52_method_16_code 41 = .ok (.aload 5, 2) := by decide +kernel
theorem cp1_1_43 : decode jdk_52_method_16_code 43 = .ok (.iconst 0, 1) := by decide +kernel
theorem cp1_1_44 : decode jdk_52_method_16_code 44 = .ok (.aload_n 3, 1) := by decide +kernel
theorem cp1_1_45 : decode jdk_52_method_16_code 45 = .ok (.iconst 0, 1) := by decide +kernel
theorem cp1_1_46 : decode jdk_52_method_16_code 46 = .ok (.iload_n 2, 1) := by decide +kernel
theorem cp1_1_47 : decode jdk_52_method_16_code 47 = .ok (.invokestatic 123, 3) := by decide +kernel
theorem cp1_1_50 : decode jdk_52_method_16_code 50 = .ok (.iload_n 2, 1) := by decide +kernel
theorem cp1_1_51 : decode jdk_52_method_16_code 51 = .ok (.if_icmp .eq 6, 3) := by decide +kernel
theorem cp1_1_54 : decode jdk_52_method_16_code 54 = .ok (.aload 5, 2) := by decide +kernel
theorem cp1_1_56 : decode jdk_52_method_16_code 56 = .ok (.areturn, 1) := by decide +kernel
theorem cp1_1_57 : decode jdk_52_method_16_code 57 = .ok (.aload_n 3, 1) := by decide +kernel
theorem cp1_1_58 : decode jdk_52_method_16_code 58 = .ok (.areturn, 1) := by decide +kernel
theorem pn_cp1_1 : plainFor (⟨"java/lang/StringUTF16", "compress", "([CII)[B"⟩ : MethodName) = true := by first | exact plainFor_of_name (by first | (simp [plainName, overriddenIn]; done) | decide +kernel) | decide +kernel
theorem ef_cp1_1 (m : MethodId) (qa : Addr)  : entryFrame m #[(.ref qa), (.int (0 : Int32)), (.int (1 : Int32))] 6 = mkF m 0 #[.val (.ref qa), .val (.int (0 : Int32)), .val (.int (1 : Int32)), .unset, .unset, .unset] [] := by first | (simp [entryFrame, mkF, argsToLocals, Value.category, maxLocals]; done) | rfl
theorem pd_cp1_1 : parseMethodDescriptor "([CII)[B" = some ⟨[.array (.char), .int, .int], some (.array (.byte))⟩ := by decide +kernel
set_option maxRecDepth 65536 in
set_option maxHeartbeats 40000000 in
theorem rm_cp1_1 (l : Launch) (Z : State) (a0 : Array Value) (hw : ∀ d ∈ tables_1, d.before a0 Z = true)  (qa : Addr) (h0 : Heap) (n0 : Nat) (Z0 : n0 ≤ h0.size) (c0 : Int32) (hc0 : ¬ (255 : Int32) < c0) (A1 : Arl Z h0 qa .char [(.int c0)]) :
    MetFree l (⟨"java/lang/StringUTF16", "compress", "([CII)[B"⟩ : MethodName) (head1 [Jvm.Cond.code (⟨"java/lang/StringUTF16", "compress", "([CII)[B"⟩ : MethodName) jdk_52_method_16_code 6 (some (Jvm.ClassFile.FieldType.array Jvm.ClassFile.FieldType.byte))] ({ frames := 1, cells := 1, slots := 1, locals := 18 } : Room)) (fun a U => a = #[(.ref qa), (.int (0 : Int32)), (.int (1 : Int32))] ∧ Z.Warmed39 U.vm ∧ U.heap = h0) (fun _ _ _ _ _ => True) (fun _ U o U' => ∃ v L, o = .returned v ∧ CQ1_1 Z c0 h0 n0 v U'.heap L ∧ FrameEnd U o U' L ({ frames := 1, cells := 1, slots := 1, locals := 18 } : Room).cells ({ frames := 1, cells := 1, slots := 1, locals := 18 } : Room).slots) := by
  refine MetFree.of_bodySF pn_cp1_1 hisR ?_
  intro p e s m args below meth c s₁ Bd hml0 hP hK
  obtain ⟨rfl, hZ, hh⟩ := hP
  have hx := Bd.exec
  have hby := Bd.bytes
  have hml : c.maxLocals = 6 := hml0
  have hown : s.vm.findClass "java/lang/StringUTF16" = some m.cls := findClass_of_methodNamed Bd.named
  have hnm := (name_of_methodNamed Bd.named Bd.method).1
  have hlk : meth.locks = false := BodyLoose.notSynchronized Bd
  have X0 : Stand p l e ({ frames := 1, cells := 1, slots := 1, locals := 18 } : Room) s m #[(.ref qa), (.int (0 : Int32)), (.int (1 : Int32))] below meth c s₁ [] 0 0 := Stand.of_body Bd
  have e0 : s₁.heap = h0 := by rw [← hh, Bd.state]; rfl
  show Go p e below (EndN below s (CQ1_1 Z c0 h0 n0) ({ frames := 1, cells := 1, slots := 1, locals := 18 } : Room).cells ({ frames := 1, cells := 1, slots := 1, locals := 18 } : Room).slots) (s₁.setTop (entryFrame m #[(.ref qa), (.int (0 : Int32)), (.int (1 : Int32))] 6))
  rw [ef_cp1_1]
  refine g_iload_n X0 hx 1 (1 : Int32) (hb hby cp1_1_0) rfl rfl ?_
  obtain ⟨T_1, h_1, a_1, k_1, X_1, e_1, ga_1, E_1, A_1, st_1⟩ := g_newP X0 hx hZ (aty := .byte) (n := (1 : Int32)) (hw _ (List.mem_of_getElem? (i := 1) rfl)) e0 1 (by decide) (by decide) (by decide) (by decide) (by decide) 3 (hb hby cp1_1_1) rfl
  refine st_1 ?_
  have g_1 : n0 ≤ a_1 := by rw [ga_1]; exact Nat.le_trans Z0 (Nat.le_refl _)
  have gh_1 : h0.size ≤ a_1 := by rw [ga_1]; exact (Nat.le_refl _)
  have n_1_qa : qa ≠ a_1 := by rw [ga_1]; exact Nat.ne_of_lt A1.lt
  have F_1_0 : Arl Z h_1 qa .char [(.int c0)] := A1.ext E_1
  have Z_1 : h0.size ≤ h_1.size := Nat.le_trans (Nat.le_refl _) E_1.1
  have G_1 : Arl Z h_1 a_1 .byte [(.int (0 : Int32))] := Arl.new A_1 rfl
  refine g_astore_n X_1 hx 4 #[.val (.ref qa), .val (.int (0 : Int32)), .val (.int (1 : Int32)), .val (.ref a_1), .unset, .unset] (hb hby cp1_1_3) rfl rfl rfl ?_
  refine g_aload_n X_1 hx 5 (.ref qa) (hb hby cp1_1_4) rfl rfl rfl ?_
  refine g_iload_n X_1 hx 6 (0 : Int32) (hb hby cp1_1_5) rfl rfl ?_
  refine g_aload_n X_1 hx 7 (.ref a_1) (hb hby cp1_1_6) rfl rfl rfl ?_
  refine g_iconst X_1 hx 8 (0 : Int32) (hb hby cp1_1_7) rfl rfl ?_
  refine g_iload_n X_1 hx 9 (1 : Int32) (hb hby cp1_1_8) rfl rfl ?_
  obtain ⟨_, T_9, L_9, X_9, ⟨rfl, M_9, K_9, B_9⟩, st_9⟩ := g_callS X_1 hx hZ  (own := "java/lang/StringUTF16") (index := 115) (y := (⟨"java/lang/StringUTF16", "compress", "([CI[BII)I"⟩ : MethodName)) (as' := [(.ref qa), (.int (0 : Int32)), (.ref a_1), (.int (0 : Int32)), (.int (1 : Int32))]) hown (hw _ (List.mem_of_getElem? (i := 45) rfl)) (hw _ (List.mem_of_getElem? (i := 46) rfl)) (hw _ (List.mem_of_getElem? (i := 43) rfl)) (hw _ (List.mem_of_getElem? (i := 47) rfl)) (by decide) e_1 (rm_cp2_1 l Z a0 hw qa a_1 h_1 n0 g_1 c0 hc0 n_1_qa F_1_0 G_1) pd_cp2_1 rfl 0 (by decide) (by decide) (by decide) (by decide) (pc := 9) (Ls := #[.val (.ref qa), .val (.int (0 : Int32)), .val (.int (1 : Int32)), .val (.ref a_1), .unset, .unset]) (rest := []) (st := [(.int (1 : Int32)), (.int (0 : Int32)), (.ref a_1), (.int (0 : Int32)), (.ref qa)]) (by rw [hml]; rfl) rfl (Nat.le_of_eq rfl) (hb hby cp1_1_9)
  refine Go.of ?_ st_9
  have F_9_0 : Arl Z T_9.heap a_1 .byte [(.int (c0.toInt8.toInt32))] := B_9
  have F_9_1 : Arl Z T_9.heap qa .char [(.int c0)] := F_1_0.keep K_9 (ninS n_1_qa nin0)
  have N_9 := Fr.app (Fr.nil _) M_9
  have Z_9 : h0.size ≤ T_9.heap.size := Nat.le_trans Z_1 K_9.1
  show Go p e below _ (T_9.setTop (mkF m 12 #[.val (.ref qa), .val (.int (0 : Int32)), .val (.int (1 : Int32)), .val (.ref a_1), .unset, .unset] [(.int (1 : Int32))]))
  refine g_istore X_9 hx 14 #[.val (.ref qa), .val (.int (0 : Int32)), .val (.int (1 : Int32)), .val (.ref a_1), .val (.int (1 : Int32)), .unset] (hb hby cp1_1_12) rfl rfl ?_
  refine g_iload X_9 hx 16 (1 : Int32) (hb hby cp1_1_14) rfl rfl ?_
  refine g_iload_n X_9 hx 17 (1 : Int32) (hb hby cp1_1_16) rfl rfl ?_
  refine g_icmpY X_9 hx 57 (hb hby cp1_1_17) (XT.ii_eq_t (by decide)) (by decide) (by decide) ?_
  refine g_aload_n X_9 hx 58 (.ref a_1) (hb hby cp1_1_57) rfl rfl rfl ?_
  exact Go.retA X_9 hx hlk Bd.returns rfl rfl (hb hby cp1_1_58) (by decide) (by decide) ⟨_, rfl, gh_1, N_9, (((Keep.refl _ _).ext E_1).trans K_9 (allS (Or.inr gh_1) all0)), F_9_0⟩
def SQ_1 (Z : State) (qa : Addr) (c0 : Int32) (h0 : Heap) (n0 : Nat) (v : Option Value) (h : Heap) (L : List Loc) : Prop := ∃ qb : Addr, v = none ∧ h0.size ≤ qb ∧ Fr n0 L ∧ Keep h0 h [qa] ∧ Stl Z h qa qb 0 [(.int (c0.toInt8.toInt32))]
theorem in2_1_0 : decode jdk_42_method_149_code 0 = .ok (.aload_n 0, 1) := by decide +kernel
theorem in2_1_1 : decode jdk_42_method_149_code 1 = .ok (.invokespecial 1, 3) := by decide +kernel
theorem in2_1_4 : decode jdk_42_method_149_code 4 = .ok (.iload_n 3, 1) := by decide +kernel
theorem in2_1_5 : decode jdk_42_method_149_code 5 = .ok (.ifCond .ne 22, 3) := by decide +kernel
theorem in2_1_8 : decode jdk_42_method_149_code 8 = .ok (.aload_n 0, 1) := by decide +kernel
theorem in2_1_9 : decode jdk_42_method_149_code 9 = .ok (.ldc 7, 2) := by decide +kernel
theorem in2_1_11 : decode jdk_42_method_149_code 11 = .ok (.getfield 9, 3) := by decide +kernel
theorem in2_1_14 : decode jdk_42_method_149_code 14 = .ok (.putfield 9, 3) := by decide +kernel
theorem in2_1_17 : decode jdk_42_method_149_code 17 = .ok (.aload_n 0, 1) := by decide +kernel
theorem in2_1_18 : decode jdk_42_method_149_code 18 = .ok (.ldc 7, 2) := by decide +kernel
theorem in2_1_20 : decode jdk_42_method_149_code 20 = .ok (.getfield 15, 3) := by decide +kernel
theorem in2_1_23 : decode jdk_42_method_149_code 23 = .ok (.putfield 15, 3) := by decide +kernel
theorem in2_1_26 : decode jdk_42_method_149_code 26 = .ok (.return_, 1) := by decide +kernel
theorem in2_1_27 : decode jdk_42_method_149_code 27 = .ok (.getstatic 38, 3) := by decide +kernel
theorem in2_1_30 : decode jdk_42_method_149_code 30 = .ok (.ifCond .eq 28, 3) := by decide +kernel
theorem in2_1_33 : decode jdk_42_method_149_code 33 = .ok (.aload_n 1, 1) := by decide +kernel
theorem in2_1_34 : decode jdk_42_method_149_code 34 = .ok (.iload_n 2, 1) := by decide +kernel
theorem in2_1_35 : decode jdk_42_method_149_code 35 = .ok (.iload_n 3, 1) := by decide +kernel
theorem in2_1_36 : decode jdk_42_method_149_code 36 = .ok (.invokestatic 177, 3) := by decide +kernel
theorem in2_1_39 : decode jdk_42_method_149_code 39 = .ok (.astore 5, 2) := by decide +kernel
theorem in2_1_41 : decode jdk_42_method_149_code 41 = .ok (.aload_n 0, 1) := by decide +kernel
theorem in2_1_42 : decode jdk_42_method_149_code 42 = .ok (.aload 5, 2) := by decide +kernel
theorem in2_1_44 : decode jdk_42_method_149_code 44 = .ok (.iload_n 3, 1) := by decide +kernel
theorem in2_1_45 : decode jdk_42_method_149_code 45 = .ok (.invokestatic 47, 3) := by decide +kernel
theorem in2_1_48 : decode jdk_42_method_149_code 48 = .ok (.putfield 15, 3) := by decide +kernel
theorem in2_1_51 : decode jdk_42_method_149_code 51 = .ok (.aload_n 0, 1) := by decide +kernel
theorem in2_1_52 : decode jdk_42_method_149_code 52 = .ok (.aload 5, 2) := by decide +kernel
theorem in2_1_54 : decode jdk_42_method_149_code 54 = .ok (.putfield 9, 3) := by decide +kernel
theorem in2_1_57 : decode jdk_42_method_149_code 57 = .ok (.return_, 1) := by decide +kernel
theorem in2_1_58 : decode jdk_42_method_149_code 58 = .ok (.aload_n 0, 1) := by decide +kernel
theorem in2_1_59 : decode jdk_42_method_149_code 59 = .ok (.iconst 1, 1) := by decide +kernel
theorem in2_1_60 : decode jdk_42_method_149_code 60 = .ok (.putfield 15, 3) := by decide +kernel
theorem in2_1_63 : decode jdk_42_method_149_code 63 = .ok (.aload_n 0, 1) := by decide +kernel
theorem in2_1_64 : decode jdk_42_method_149_code 64 = .ok (.aload_n 1, 1) := by decide +kernel
theorem in2_1_65 : decode jdk_42_method_149_code 65 = .ok (.iload_n 2, 1) := by decide +kernel
theorem in2_1_66 : decode jdk_42_method_149_code 66 = .ok (.iload_n 3, 1) := by decide +kernel
theorem in2_1_67 : decode jdk_42_method_149_code 67 = .ok (.invokestatic 180, 3) := by decide +kernel
theorem in2_1_70 : decode jdk_42_method_149_code 70 = .ok (.putfield 9, 3) := by decide +kernel
theorem in2_1_73 : decode jdk_42_method_149_code 73 = .ok (.return_, 1) := by decide +kernel
theorem pn_in2_1 : plainFor (⟨"java/lang/String", "<init>", "([CIILjava/lang/Void;)V"⟩ : MethodName) = true := by first | exact plainFor_of_name (by first | (simp [plainName, overriddenIn]; done) | decide +kernel) | decide +kernel
theorem ef_in2_1 (m : MethodId) (qa : Addr) (qc : Addr)  : entryFrame m #[(.ref qa), (.ref qc), (.int (0 : Int32)), (.int (1 : Int32)), .null] 6 = mkF m 0 #[.val (.ref qa), .val (.ref qc), .val (.int (0 : Int32)), .val (.int (1 : Int32)), .val .null, .unset] [] := by first | (simp [entryFrame, mkF, argsToLocals, Value.category, maxLocals]; done) | rfl
theorem pd_in2_1 : parseMethodDescriptor "([CIILjava/lang/Void;)V" = some ⟨[.array (.char), .int, .int, .object "java/lang/Void"], none⟩ := by decide +kernel
set_option maxRecDepth 65536 in
set_option maxHeartbeats 40000000 in
theorem rm_in2_1 (l : Launch) (Z : State) (a0 : Array Value) (hw : ∀ d ∈ tables_1, d.before a0 Z = true)  (qa : Addr) (qc : Addr) (h0 : Heap) (n0 : Nat) (XO : Old Z n0 h0) (cs : Int32) (hcs : ¬ cs = (0 : Int32)) (SC : Sta Z Z.heap "java/lang/String" "COMPACT_STRINGS" "Z" (.int cs)) (ga : n0 ≤ qa) (hne : qc ≠ qa) (c0 : Int32) (hc0 : ¬ (255 : Int32) < c0) (A1 : Arl Z h0 qc .char [(.int c0)])(E1 : Exa Z h0 qa "java/lang/String")(F1 : Fld Z h0 qa "java/lang/String" "value" "[B" .null)(F2 : Fld Z h0 qa "java/lang/String" "coder" "B" (.int (0 : Int32))) :
    MetFree l (⟨"java/lang/String", "<init>", "([CIILjava/lang/Void;)V"⟩ : MethodName) (head1 [Jvm.Cond.code (⟨"java/lang/String", "<init>", "([CIILjava/lang/Void;)V"⟩ : MethodName) jdk_42_method_149_code 6 none] ({ frames := 2, cells := 1, slots := 1, locals := 35 } : Room)) (fun a U => a = #[(.ref qa), (.ref qc), (.int (0 : Int32)), (.int (1 : Int32)), .null] ∧ Z.Warmed39 U.vm ∧ U.heap = h0) (fun _ _ _ _ _ => True) (fun _ U o U' => ∃ v L, o = .returned v ∧ SQ_1 Z qa c0 h0 n0 v U'.heap L ∧ FrameEnd U o U' L ({ frames := 2, cells := 1, slots := 1, locals := 35 } : Room).cells ({ frames := 2, cells := 1, slots := 1, locals := 35 } : Room).slots) := by
  refine MetFree.of_bodySF pn_in2_1 hisR ?_
  intro p e s m args below meth c s₁ Bd hml0 hP hK
  obtain ⟨rfl, hZ, hh⟩ := hP
  have hx := Bd.exec
  have hby := Bd.bytes
  have hml : c.maxLocals = 6 := hml0
  have hown : s.vm.findClass "java/lang/String" = some m.cls := findClass_of_methodNamed Bd.named
  have hnm := (name_of_methodNamed Bd.named Bd.method).1
  have hlk : meth.locks = false := BodyLoose.notSynchronized Bd
  have X0 : Stand p l e ({ frames := 2, cells := 1, slots := 1, locals := 35 } : Room) s m #[(.ref qa), (.ref qc), (.int (0 : Int32)), (.int (1 : Int32)), .null] below meth c s₁ [] 0 0 := Stand.of_body Bd
  have e0 : s₁.heap = h0 := by rw [← hh, Bd.state]; rfl
  show Go p e below (EndN below s (SQ_1 Z qa c0 h0 n0) ({ frames := 2, cells := 1, slots := 1, locals := 35 } : Room).cells ({ frames := 2, cells := 1, slots := 1, locals := 35 } : Room).slots) (s₁.setTop (entryFrame m #[(.ref qa), (.ref qc), (.int (0 : Int32)), (.int (1 : Int32)), .null] 6))
  rw [ef_in2_1]
  refine g_aload_n X0 hx 1 (.ref qa) (hb hby in2_1_0) rfl rfl rfl ?_
  obtain ⟨T_1, X_1, e_1, st_1⟩ := g_initO X0 hx hZ hown (hw _ (List.mem_of_getElem? (i := 17) rfl)) (hw _ (List.mem_of_getElem? (i := 18) rfl)) (hw _ (List.mem_of_getElem? (i := 19) rfl)) e0 0 (by decide) (by decide) 4 (a := qa) (Ls := #[.val (.ref qa), .val (.ref qc), .val (.int (0 : Int32)), .val (.int (1 : Int32)), .val .null, .unset]) (st := []) (by rw [hml]; rfl) (Nat.le_of_eq rfl) (hb hby in2_1_1) rfl
  refine st_1 ?_
  refine g_iload_n X_1 hx 5 (1 : Int32) (hb hby in2_1_4) rfl rfl ?_
  refine g_ifY X_1 hx 27 (hb hby in2_1_5) (XT.i0_ne_t (by decide)) (by decide) (by decide) ?_
  obtain ⟨T_27, X_27, e_27, st_27⟩ := g_getS X_1 hx hZ hown (hw _ (List.mem_of_getElem? (i := 37) rfl)) e_1 (SC.ext XO.2) 30 (hb hby in2_1_27) rfl
  refine st_27 ?_
  refine g_ifN X_27 hx 33 (hb hby in2_1_30) (XT.i0_eq_f hcs) rfl ?_
  refine g_aload_n X_27 hx 34 (.ref qc) (hb hby in2_1_33) rfl rfl rfl ?_
  refine g_iload_n X_27 hx 35 (0 : Int32) (hb hby in2_1_34) rfl rfl ?_
  refine g_iload_n X_27 hx 36 (1 : Int32) (hb hby in2_1_35) rfl rfl ?_
  obtain ⟨_, T_36, L_36, X_36, ⟨b_36, rfl, g_36, M_36, K_36, B_36⟩, st_36⟩ := g_callS X_27 hx hZ  (own := "java/lang/String") (index := 177) (y := (⟨"java/lang/StringUTF16", "compress", "([CII)[B"⟩ : MethodName)) (as' := [(.ref qc), (.int (0 : Int32)), (.int (1 : Int32))]) hown (hw _ (List.mem_of_getElem? (i := 41) rfl)) (hw _ (List.mem_of_getElem? (i := 42) rfl)) (hw _ (List.mem_of_getElem? (i := 43) rfl)) (hw _ (List.mem_of_getElem? (i := 44) rfl)) (by decide) e_27 (rm_cp1_1 l Z a0 hw qc h0 n0 (XO.1 ▸ XO.2.1) c0 hc0 A1) pd_cp1_1 rfl 0 (by decide) (by decide) (by decide) (by decide) (pc := 36) (Ls := #[.val (.ref qa), .val (.ref qc), .val (.int (0 : Int32)), .val (.int (1 : Int32)), .val .null, .unset]) (rest := []) (st := [(.int (1 : Int32)), (.int (0 : Int32)), (.ref qc)]) (by rw [hml]; rfl) rfl (Nat.le_of_eq rfl) (hb hby in2_1_36)
  refine Go.of ?_ st_36
  have F_36_0 : Arl Z T_36.heap qc .char [(.int c0)] := A1.keep K_36 nin0
  have F_36_1 : Exa Z T_36.heap qa "java/lang/String" := E1.keep K_36
  have F_36_2 : Fld Z T_36.heap qa "java/lang/String" "value" "[B" .null := F1.keep K_36 nin0
  have F_36_3 : Fld Z T_36.heap qa "java/lang/String" "coder" "B" (.int (0 : Int32)) := F2.keep K_36 nin0
  have N_36 := Fr.app (Fr.nil _) M_36
  have Z_36 : h0.size ≤ T_36.heap.size := Nat.le_trans (Nat.le_refl _) K_36.1
  have O_36 := Old.keep XO K_36 all0
  have ne_36 : qa ≠ b_36 := Nat.ne_of_lt (Nat.lt_of_lt_of_le E1.lt g_36)
  show Go p e below _ (T_36.setTop (mkF m 39 #[.val (.ref qa), .val (.ref qc), .val (.int (0 : Int32)), .val (.int (1 : Int32)), .val .null, .unset] [(.ref b_36)]))
  refine g_astore X_36 hx 41 #[.val (.ref qa), .val (.ref qc), .val (.int (0 : Int32)), .val (.int (1 : Int32)), .val .null, .val (.ref b_36)] (hb hby in2_1_39) rfl rfl rfl ?_
  refine g_aload_n X_36 hx 42 (.ref qa) (hb hby in2_1_41) rfl rfl rfl ?_
  refine g_aload X_36 hx 44 (.ref b_36) (hb hby in2_1_42) rfl rfl rfl ?_
  refine g_iload_n X_36 hx 45 (1 : Int32) (hb hby in2_1_44) rfl rfl ?_
  obtain ⟨_, T_45, L_45, X_45, ⟨rfl, rfl, e_45⟩, st_45⟩ := g_callS X_36 hx hZ  (own := "java/lang/String") (index := 47) (y := (⟨"java/lang/StringUTF16", "coderFromArrayLen", "([BI)B"⟩ : MethodName)) (as' := [(.ref b_36), (.int (1 : Int32))]) hown (hw _ (List.mem_of_getElem? (i := 48) rfl)) (hw _ (List.mem_of_getElem? (i := 49) rfl)) (hw _ (List.mem_of_getElem? (i := 43) rfl)) (hw _ (List.mem_of_getElem? (i := 50) rfl)) (by decide) rfl (rm_cfl l Z a0 hw b_36 (1 : Int32) T_36.heap [(.int (c0.toInt8.toInt32))] rfl B_36) pd_cfl rfl 1 (by decide) (by decide) (by decide) (by decide) (pc := 45) (Ls := #[.val (.ref qa), .val (.ref qc), .val (.int (0 : Int32)), .val (.int (1 : Int32)), .val .null, .val (.ref b_36)]) (rest := [(.ref qa)]) (st := [(.int (1 : Int32)), (.ref b_36), (.ref qa)]) (by rw [hml]; rfl) rfl (Nat.le_of_eq rfl) (hb hby in2_1_45)
  refine Go.of ?_ st_45
  rw [List.append_nil] at X_45
  show Go p e below _ (T_45.setTop (mkF m 48 #[.val (.ref qa), .val (.ref qc), .val (.int (0 : Int32)), .val (.int (1 : Int32)), .val .null, .val (.ref b_36)] [(.int (0 : Int32)), (.ref qa)]))
  obtain ⟨T_48, h_48, X_48, e_48, W_48, st_48⟩ := g_putF X_45 hx hZ hown (hw _ (List.mem_of_getElem? (i := 26) rfl)) Via.refl e_45 F_36_3 F_36_1 (Or.inr ⟨hw _ (List.mem_of_getElem? (i := 22) rfl), rfl, hnm⟩) (hw _ (List.mem_of_getElem? (i := 8) rfl)) (ty := .byte) (v := (.int (0 : Int32))) (by decide) rfl rfl 51 (hb hby in2_1_48) rfl
  refine st_48 ?_
  have F_48_0 : Fld Z h_48 qa "java/lang/String" "value" "[B" .null := F_36_2.other W_48 (Or.inr (Jvm.RoadKit.slot_ne (Or.inr (hw _ (List.mem_of_getElem? (i := 21) rfl))) (Or.inr (hw _ (List.mem_of_getElem? (i := 22) rfl))) (by decide) (t := .array (.byte)) (t' := .byte) (by decide) (by decide)))
  have F_48_1 : Fld Z h_48 qa "java/lang/String" "coder" "B" (.int (0 : Int32)) := F_36_3.same W_48
  have F_48_2 : Arl Z h_48 qc .char [(.int c0)] := F_36_0.other W_48 hne
  have F_48_3 : Exa Z h_48 qa "java/lang/String" := F_36_1.wr W_48
  have F_48_4 : Arl Z h_48 b_36 .byte [(.int (c0.toInt8.toInt32))] := B_36.other W_48 (Ne.symm ne_36)
  have N_48 := Fr.snoc X_48 N_36 ga
  have Z_48 : h0.size ≤ h_48.size := by rw [W_48.size]; exact Z_36
  have O_48 := Old.wr O_36 W_48 ga
  refine g_aload_n X_48 hx 52 (.ref qa) (hb hby in2_1_51) rfl rfl rfl ?_
  refine g_aload X_48 hx 54 (.ref b_36) (hb hby in2_1_52) rfl rfl rfl ?_
  obtain ⟨T_54, h_54, X_54, e_54, W_54, st_54⟩ := g_putF X_48 hx hZ hown (hw _ (List.mem_of_getElem? (i := 25) rfl)) Via.refl e_48 F_48_0 F_48_3 (Or.inr ⟨hw _ (List.mem_of_getElem? (i := 21) rfl), rfl, hnm⟩) (hw _ (List.mem_of_getElem? (i := 8) rfl)) (ty := .array (.byte)) (v := (.ref b_36)) (by decide) rfl rfl 57 (hb hby in2_1_54) rfl
  refine st_54 ?_
  have F_54_0 : Fld Z h_54 qa "java/lang/String" "value" "[B" (.ref b_36) := F_48_0.same W_54
  have F_54_1 : Fld Z h_54 qa "java/lang/String" "coder" "B" (.int (0 : Int32)) := F_48_1.other W_54 (Or.inr (Jvm.RoadKit.slot_ne (Or.inr (hw _ (List.mem_of_getElem? (i := 22) rfl))) (Or.inr (hw _ (List.mem_of_getElem? (i := 21) rfl))) (by decide) (t := .byte) (t' := .array (.byte)) (by decide) (by decide)))
  have F_54_2 : Arl Z h_54 qc .char [(.int c0)] := F_48_2.other W_54 hne
  have F_54_3 : Exa Z h_54 qa "java/lang/String" := F_48_3.wr W_54
  have F_54_4 : Arl Z h_54 b_36 .byte [(.int (c0.toInt8.toInt32))] := F_48_4.other W_54 (Ne.symm ne_36)
  have N_54 := Fr.snoc X_54 N_48 ga
  have Z_54 : h0.size ≤ h_54.size := by rw [W_54.size]; exact Z_48
  have O_54 := Old.wr O_48 W_54 ga
  exact Go.retV X_54 hx hlk Bd.returns (hb hby in2_1_57) (by decide) (by decide) ⟨_, rfl, g_36, N_54, e_54.symm ▸ ((((Keep.refl _ _).trans K_36 all0).wr W_48 (Or.inl (by simp))).wr W_54 (Or.inl (by simp))), e_54.symm ▸ ⟨F_54_3, F_54_1, F_54_0, F_54_4⟩⟩
theorem in1_1_0 : decode jdk_42_method_3_code 0 = .ok (.aload_n 0, 1) := by decide +kernel
theorem in1_1_1 : decode jdk_42_method_3_code 1 = .ok (.aload_n 1, 1) := by decide +kernel
theorem in1_1_2 : decode jdk_42_method_3_code 2 = .ok (.iconst 0, 1) := by decide +kernel
theorem in1_1_3 : decode jdk_42_method_3_code 3 = .ok (.aload_n 1, 1) := by decide +kernel
theorem in1_1_4 : decode jdk_42_method_3_code 4 = .ok (.arraylength, 1) := by decide +kernel
theorem in1_1_5 : decode jdk_42_method_3_code 5 = .ok (.aconst_null, 1) := by decide +kernel
theorem in1_1_6 : decode jdk_42_method_3_code 6 = .ok (.invokespecial 27, 3) := by decide +kernel
theorem in1_1_9 : decode jdk_42_method_3_code 9 = .ok (.return_, 1) := by decide +kernel
theorem pn_in1_1 : plainFor (⟨"java/lang/String", "<init>", "([C)V"⟩ : MethodName) = true := by first | exact plainFor_of_name (by first | (simp [plainName, overriddenIn]; done) | decide +kernel) | decide +kernel
theorem ef_in1_1 (m : MethodId) (qa : Addr) (qc : Addr)  : entryFrame m #[(.ref qa), (.ref qc)] 2 = mkF m 0 #[.val (.ref qa), .val (.ref qc)] [] := by first | (simp [entryFrame, mkF, argsToLocals, Value.category, maxLocals]; done) | rfl
theorem pd_in1_1 : parseMethodDescriptor "([C)V" = some ⟨[.array (.char)], none⟩ := by decide +kernel
set_option maxRecDepth 65536 in
set_option maxHeartbeats 40000000 in
theorem rm_in1_1 (l : Launch) (Z : State) (a0 : Array Value) (hw : ∀ d ∈ tables_1, d.before a0 Z = true)  (qa : Addr) (qc : Addr) (h0 : Heap) (n0 : Nat) (XO : Old Z n0 h0) (cs : Int32) (hcs : ¬ cs = (0 : Int32)) (SC : Sta Z Z.heap "java/lang/String" "COMPACT_STRINGS" "Z" (.int cs)) (ga : n0 ≤ qa) (hne : qc ≠ qa) (c0 : Int32) (hc0 : ¬ (255 : Int32) < c0) (A1 : Arl Z h0 qc .char [(.int c0)])(E1 : Exa Z h0 qa "java/lang/String")(F1 : Fld Z h0 qa "java/lang/String" "value" "[B" .null)(F2 : Fld Z h0 qa "java/lang/String" "coder" "B" (.int (0 : Int32))) :
    MetFree l (⟨"java/lang/String", "<init>", "([C)V"⟩ : MethodName) (head1 [Jvm.Cond.code (⟨"java/lang/String", "<init>", "([C)V"⟩ : MethodName) jdk_42_method_3_code 2 none] ({ frames := 3, cells := 1, slots := 1, locals := 52 } : Room)) (fun a U => a = #[(.ref qa), (.ref qc)] ∧ Z.Warmed39 U.vm ∧ U.heap = h0) (fun _ _ _ _ _ => True) (fun _ U o U' => ∃ v L, o = .returned v ∧ SQ_1 Z qa c0 h0 n0 v U'.heap L ∧ FrameEnd U o U' L ({ frames := 3, cells := 1, slots := 1, locals := 52 } : Room).cells ({ frames := 3, cells := 1, slots := 1, locals := 52 } : Room).slots) := by
  refine MetFree.of_bodySF pn_in1_1 hisR ?_
  intro p e s m args below meth c s₁ Bd hml0 hP hK
  obtain ⟨rfl, hZ, hh⟩ := hP
  have hx := Bd.exec
  have hby := Bd.bytes
  have hml : c.maxLocals = 2 := hml0
  have hown : s.vm.findClass "java/lang/String" = some m.cls := findClass_of_methodNamed Bd.named
  have hnm := (name_of_methodNamed Bd.named Bd.method).1
  have hlk : meth.locks = false := BodyLoose.notSynchronized Bd
  have X0 : Stand p l e ({ frames := 3, cells := 1, slots := 1, locals := 52 } : Room) s m #[(.ref qa), (.ref qc)] below meth c s₁ [] 0 0 := Stand.of_body Bd
  have e0 : s₁.heap = h0 := by rw [← hh, Bd.state]; rfl
  show Go p e below (EndN below s (SQ_1 Z qa c0 h0 n0) ({ frames := 3, cells := 1, slots := 1, locals := 52 } : Room).cells ({ frames := 3, cells := 1, slots := 1, locals := 52 } : Room).slots) (s₁.setTop (entryFrame m #[(.ref qa), (.ref qc)] 2))
  rw [ef_in1_1]
  refine g_aload_n X0 hx 1 (.ref qa) (hb hby in1_1_0) rfl rfl rfl ?_
  refine g_aload_n X0 hx 2 (.ref qc) (hb hby in1_1_1) rfl rfl rfl ?_
  refine g_iconst X0 hx 3 (0 : Int32) (hb hby in1_1_2) rfl rfl ?_
  refine g_aload_n X0 hx 4 (.ref qc) (hb hby in1_1_3) rfl rfl rfl ?_
  refine g_alen X0 hx hZ e0 A1 (1 : Int32) rfl 5 (hb hby in1_1_4) rfl ?_
  refine g_aconst_null X0 hx 6 (hb hby in1_1_5) rfl ?_
  obtain ⟨_, T_6, L_6, X_6, ⟨b_6, rfl, g_6, M_6, K_6, Q_6⟩, st_6⟩ := g_callI X0 hx hZ  (own := "java/lang/String") (index := 27) (y := (⟨"java/lang/String", "<init>", "([CIILjava/lang/Void;)V"⟩ : MethodName)) (a := qa) (as' := [(.ref qc), (.int (0 : Int32)), (.int (1 : Int32)), .null]) rfl hown (hw _ (List.mem_of_getElem? (i := 13) rfl)) (hw _ (List.mem_of_getElem? (i := 14) rfl)) (hw _ (List.mem_of_getElem? (i := 9) rfl)) (hw _ (List.mem_of_getElem? (i := 16) rfl)) (by decide) e0 (rm_in2_1 l Z a0 hw qa qc h0 n0 XO cs hcs SC ga hne c0 hc0 A1 E1 F1 F2) pd_in2_1 rfl 0 (by decide) (by decide) (by decide) (by decide) (pc := 6) (Ls := #[.val (.ref qa), .val (.ref qc)]) (rest := []) (st := [.null, (.int (1 : Int32)), (.int (0 : Int32)), (.ref qc), (.ref qa)]) (by rw [hml]; rfl) rfl (Nat.le_of_eq rfl) (hb hby in1_1_6)
  refine st_6 ?_
  show Go p e below _ (T_6.setTop (mkF m 9 #[.val (.ref qa), .val (.ref qc)] []))
  exact Go.retV X_6 hx hlk Bd.returns (hb hby in1_1_9) (by decide) (by decide) ⟨_, rfl, g_6, (Fr.app (Fr.nil _) M_6), K_6, Q_6⟩
def CQ2_2 (Z : State) (qb : Addr) (c0 c1 : Int32) (h0 : Heap) (n0 : Nat) (v : Option Value) (h : Heap) (L : List Loc) : Prop := v = some (.int (2 : Int32)) ∧ Fr n0 L ∧ Keep h0 h [qb] ∧ Arl Z h qb .byte [(.int (c0.toInt8.toInt32)), (.int (c1.toInt8.toInt32))]
theorem cp2_2_0 : decode jdk_52_method_21_code 0 = .ok (.iconst 0, 1) := by decide +kernel
theorem cp2_2_1 : decode jdk_52_method_21_code 1 = .ok (.istore 5, 2) := by decide +kernel
theorem cp2_2_3 : decode jdk_52_method_21_code 3 = .ok (.iload 5, 2) := by decide +kernel
theorem cp2_2_5 : decode jdk_52_method_21_code 5 = .ok (.iload 4, 2) := by decide +kernel
theorem cp2_2_7 : decode jdk_52_method_21_code 7 = .ok (.if_icmp .ge 37, 3) := by decide +kernel
theorem cp2_2_10 : decode jdk_52_method_21_code 10 = .ok (.aload_n 0, 1) := by decide +kernel
theorem cp2_2_11 : decode jdk_52_method_21_code 11 = .ok (.iload_n 1, 1) := by decide +kernel
theorem cp2_2_12 : decode jdk_52_method_21_code 12 = .ok (.caload, 1) := by decide +kernel
theorem cp2_2_13 : decode jdk_52_method_21_code 13 = .ok (.istore 6, 2) := by decide +kernel
theorem cp2_2_15 : decode jdk_52_method_21_code 15 = .ok (.iload 6, 2) := by decide +kernel
theorem cp2_2_17 : decode jdk_52_method_21_code 17 = .ok (.sipush 255, 3) := by decide +kernel
theorem cp2_2_20 : decode jdk_52_method_21_code 20 = .ok (.if_icmp .le 6, 3) := by decide +kernel
theorem cp2_2_23 : decode jdk_52_method_21_code 23 = .ok (.iload 5, 2) := by decide +kernel
theorem cp2_2_25 : decode jdk_52_method_21_code 25 = .ok (.ireturn, 1) := by decide +kernel
theorem cp2_2_26 : decode jdk_52_method_21_code 26 = .ok (.aload_n 2, 1) := by decide +kernel
theorem cp2_2_27 : decode jdk_52_method_21_code 27 = .ok (.iload_n 3, 1) := by decide +kernel
theorem cp2_2_28 : decode jdk_52_method_21_code 28 = .ok (.iload 6, 2) := by decide +kernel
theorem cp2_2_30 : decode jdk_52_method_21_code 30 = .ok (.i2b, 1) := by decide +kernel
theorem cp2_2_31 : decode jdk_52_method_21_code 31 = .ok (.bastore, 1) := by decide +kernel
theorem cp2_2_32 : decode jdk_52_method_21_code 32 = .ok (.iinc 1 1, 3) := by decide +kernel
theorem cp2_2_35 : decode jdk_52_method_21_code 35 = .ok (.iinc 3 1, 3) := by decide +kernel
theorem cp2_2_38 : decode jdk_52_method_21_code 38 = .ok (.iinc 5 1, 3) := by decide +kernel
theorem cp2_2_41 : decode jdk_52_method_21_code 41 = .ok (.goto (-38), 3) := by decide +kernel
theorem cp2_2_44 : decode jdk_52_method_21_code 44 = .ok (.iload 4, 2) := by decide +kernel
theorem cp2_2_46 : decode jdk_52_method_21_code 46 = .ok (.ireturn, 1) := by decide +kernel
theorem pn_cp2_2 : plainFor (⟨"java/lang/StringUTF16", "compress", "([CI[BII)I"⟩ : MethodName) = true := by first | exact plainFor_of_name (by first | (simp [plainName, overriddenIn]; done) | decide +kernel) | decide +kernel
theorem ef_cp2_2 (m : MethodId) (qa : Addr) (qb : Addr)  : entryFrame m #[(.ref qa), (.int (0 : Int32)), (.ref qb), (.int (0 : Int32)), (.int (2 : Int32))] 7 = mkF m 0 #[.val (.ref qa), .val (.int (0 : Int32)), .val (.ref qb), .val (.int (0 : Int32)), .val (.int (2 : Int32)), .unset, .unset] [] := by first | (simp [entryFrame, mkF, argsToLocals, Value.category, maxLocals]; done) | rfl
theorem pd_cp2_2 : parseMethodDescriptor "([CI[BII)I" = some ⟨[.array (.char), .int, .array (.byte), .int, .int], some (.int)⟩ := by decide +kernel
set_option maxRecDepth 65536 in
set_option maxHeartbeats 40000000 in
theorem rm_cp2_2 (l : Launch) (Z : State) (a0 : Array Value) (hw : ∀ d ∈ tables_1, d.before a0 Z = true)  (qa : Addr) (qb : Addr) (h0 : Heap) (n0 : Nat) (ga : n0 ≤ qb) (c0 c1 : Int32) (hc0 : ¬ (255 : Int32) < c0) (hc1 : ¬ (255 : Int32) < c1) (hne : qa ≠ qb) (A1 : Arl Z h0 qa .char [(.int c0), (.int c1)])(A2 : Arl Z h0 qb .byte [(.int (0 : Int32)), (.int (0 : Int32))]) :
    MetFree l (⟨"java/lang/StringUTF16", "compress", "([CI[BII)I"⟩ : MethodName) (head1 [Jvm.Cond.code (⟨"java/lang/StringUTF16", "compress", "([CI[BII)I"⟩ : MethodName) jdk_52_method_21_code 7 (some Jvm.ClassFile.FieldType.int)] ({ frames := 0, cells := 0, slots := 0, locals := 0 } : Room)) (fun a U => a = #[(.ref qa), (.int (0 : Int32)), (.ref qb), (.int (0 : Int32)), (.int (2 : Int32))] ∧ Z.Warmed39 U.vm ∧ U.heap = h0) (fun _ _ _ _ _ => True) (fun _ U o U' => ∃ v L, o = .returned v ∧ CQ2_2 Z qb c0 c1 h0 n0 v U'.heap L ∧ FrameEnd U o U' L ({ frames := 0, cells := 0, slots := 0, locals := 0 } : Room).cells ({ frames := 0, cells := 0, slots := 0, locals := 0 } : Room).slots) := by
  refine MetFree.of_bodySF pn_cp2_2 hisR ?_
  intro p e s m args below meth c s₁ Bd hml0 hP hK
  obtain ⟨rfl, hZ, hh⟩ := hP
  have hx := Bd.exec
  have hby := Bd.bytes
  have hml : c.maxLocals = 7 := hml0
  have hown : s.vm.findClass "java/lang/StringUTF16" = some m.cls := findClass_of_methodNamed Bd.named
  have hnm := (name_of_methodNamed Bd.named Bd.method).1
  have hlk : meth.locks = false := BodyLoose.notSynchronized Bd
  have X0 : Stand p l e ({ frames := 0, cells := 0, slots := 0, locals := 0 } : Room) s m #[(.ref qa), (.int (0 : Int32)), (.ref qb), (.int (0 : Int32)), (.int (2 : Int32))] below meth c s₁ [] 0 0 := Stand.of_body Bd
  have e0 : s₁.heap = h0 := by rw [← hh, Bd.state]; rfl
  show Go p e below (EndN below s (CQ2_2 Z qb c0 c1 h0 n0) ({ frames := 0, cells := 0, slots := 0, locals := 0 } : Room).cells ({ frames := 0, cells := 0, slots := 0, locals := 0 } : Room).slots) (s₁.setTop (entryFrame m #[(.ref qa), (.int (0 : Int32)), (.ref qb), (.int (0 : Int32)), (.int (2 : Int32))] 7))
  rw [ef_cp2_2]
  refine g_iconst X0 hx 1 (0 : Int32) (hb hby cp2_2_0) rfl rfl ?_
  refine g_istore X0 hx 3 #[.val (.ref qa), .val (.int (0 : Int32)), .val (.ref qb), .val (.int (0 : Int32)), .val (.int (2 : Int32)), .val (.int (0 : Int32)), .unset] (hb hby cp2_2_1) rfl rfl ?_
  refine g_iload X0 hx 5 (0 : Int32) (hb hby cp2_2_3) rfl rfl ?_
  refine g_iload X0 hx 7 (2 : Int32) (hb hby cp2_2_5) rfl rfl ?_
  refine g_icmpN X0 hx 10 (hb hby cp2_2_7) (XT.ii_ge_f (by decide)) rfl ?_
  refine g_aload_n X0 hx 11 (.ref qa) (hb hby cp2_2_10) rfl rfl rfl ?_
  refine g_iload_n X0 hx 12 (0 : Int32) (hb hby cp2_2_11) rfl rfl ?_
  refine g_caload X0 hx hZ e0 A1 (k := 0) rfl (.int c0) rfl 13 (hb hby cp2_2_12) rfl ?_
  refine g_istore X0 hx 15 #[.val (.ref qa), .val (.int (0 : Int32)), .val (.ref qb), .val (.int (0 : Int32)), .val (.int (2 : Int32)), .val (.int (0 : Int32)), .val (.int c0)] (hb hby cp2_2_13) rfl rfl ?_
  refine g_iload X0 hx 17 c0 (hb hby cp2_2_15) rfl rfl ?_
  refine g_sipush X0 hx 20 (255 : Int32) (hb hby cp2_2_17) rfl rfl ?_
  refine g_icmpY X0 hx 26 (hb hby cp2_2_20) (XT.ii_le_t hc0) (by decide) (by decide) ?_
  refine g_aload_n X0 hx 27 (.ref qb) (hb hby cp2_2_26) rfl rfl rfl ?_
  refine g_iload_n X0 hx 28 (0 : Int32) (hb hby cp2_2_27) rfl rfl ?_
  refine g_iload X0 hx 30 c0 (hb hby cp2_2_28) rfl rfl ?_
  refine g_i2b X0 hx 31 (hb hby cp2_2_30) rfl ?_
  obtain ⟨T_31, h_31, X_31, e_31, W_31, B_31, st_31⟩ := g_bastore X0 hx hZ e0 A2 (j := (0 : Int32)) (c0.toInt8.toInt32) (k := 0) rfl (Nat.le_of_ble_eq_true rfl) 32 (hb hby cp2_2_31) rfl
  refine st_31 ?_
  have C_31 : Arl Z h_31 qb .byte [(.int (c0.toInt8.toInt32)), (.int (0 : Int32))] := by have z := B_31; rw [show (nar .byte (c0.toInt8.toInt32)) = (c0.toInt8.toInt32) from own_nb _] at z; exact z
  have F_31_0 : Arl Z h_31 qb .byte [(.int (c0.toInt8.toInt32)), (.int (0 : Int32))] := C_31
  have F_31_1 : Arl Z h_31 qa .char [(.int c0), (.int c1)] := A1.other W_31 hne
  have N_31 := Fr.snoc X_31 (Fr.nil _) ga
  have Z_31 : h0.size ≤ h_31.size := by rw [W_31.size]; exact (Nat.le_refl _)
  refine g_iinc X_31 hx 35 (1 : Int32) #[.val (.ref qa), .val (.int (1 : Int32)), .val (.ref qb), .val (.int (0 : Int32)), .val (.int (2 : Int32)), .val (.int (0 : Int32)), .val (.int c0)] (hb hby cp2_2_32) rfl rfl rfl rfl ?_
  refine g_iinc X_31 hx 38 (1 : Int32) #[.val (.ref qa), .val (.int (1 : Int32)), .val (.ref qb), .val (.int (1 : Int32)), .val (.int (2 : Int32)), .val (.int (0 : Int32)), .val (.int c0)] (hb hby cp2_2_35) rfl rfl rfl rfl ?_
  refine g_iinc X_31 hx 41 (1 : Int32) #[.val (.ref qa), .val (.int (1 : Int32)), .val (.ref qb), .val (.int (1 : Int32)), .val (.int (2 : Int32)), .val (.int (1 : Int32)), .val (.int c0)] (hb hby cp2_2_38) rfl rfl rfl rfl ?_
  refine g_goto X_31 hx 3 (hb hby cp2_2_41) (by decide) (by decide) ?_
  refine g_iload X_31 hx 5 (1 : Int32) (hb hby cp2_2_3) rfl rfl ?_
  refine g_iload X_31 hx 7 (2 : Int32) (hb hby cp2_2_5) rfl rfl ?_
  refine g_icmpN X_31 hx 10 (hb hby cp2_2_7) (XT.ii_ge_f (by decide)) rfl ?_
  refine g_aload_n X_31 hx 11 (.ref qa) (hb hby cp2_2_10) rfl rfl rfl ?_
  refine g_iload_n X_31 hx 12 (1 : Int32) (hb hby cp2_2_11) rfl rfl ?_
  refine g_caload X_31 hx hZ e_31 F_31_1 (k := 1) rfl (.int c1) rfl 13 (hb hby cp2_2_12) rfl ?_
  refine g_istore X_31 hx 15 #[.val (.ref qa), .val (.int (1 : Int32)), .val (.ref qb), .val (.int (1 : Int32)), .val (.int (2 : Int32)), .val (.int (1 : Int32)), .val (.int c1)] (hb hby cp2_2_13) rfl rfl ?_
  refine g_iload X_31 hx 17 c1 (hb hby cp2_2_15) rfl rfl ?_
  refine g_sipush X_31 hx 20 (255 : Int32) (hb hby cp2_2_17) rfl rfl ?_
  refine g_icmpY X_31 hx 26 (hb hby cp2_2_20) (XT.ii_le_t hc1) (by decide) (by decide) ?_
  refine g_aload_n X_31 hx 27 (.ref qb) (hb hby cp2_2_26) rfl rfl rfl ?_
  refine g_iload_n X_31 hx 28 (1 : Int32) (hb hby cp2_2_27) rfl rfl ?_
  refine g_iload X_31 hx 30 c1 (hb hby cp2_2_28) rfl rfl ?_
  refine g_i2b X_31 hx 31 (hb hby cp2_2_30) rfl ?_
  obtain ⟨T_31x1, h_31x1, X_31x1, e_31x1, W_31x1, B_31x1, st_31x1⟩ := g_bastore X_31 hx hZ e_31 F_31_0 (j := (1 : Int32)) (c1.toInt8.toInt32) (k := 1) rfl (Nat.le_of_ble_eq_true rfl) 32 (hb hby cp2_2_31) rfl
  refine st_31x1 ?_
  have C_31x1 : Arl Z h_31x1 qb .byte [(.int (c0.toInt8.toInt32)), (.int (c1.toInt8.toInt32))] := by have z := B_31x1; rw [show (nar .byte (c1.toInt8.toInt32)) = (c1.toInt8.toInt32) from own_nb _] at z; exact z
  have F_31x1_0 : Arl Z h_31x1 qb .byte [(.int (c0.toInt8.toInt32)), (.int (c1.toInt8.toInt32))] := C_31x1
  have F_31x1_1 : Arl Z h_31x1 qa .char [(.int c0), (.int c1)] := F_31_1.other W_31x1 hne
  have N_31x1 := Fr.snoc X_31x1 N_31 ga
  have Z_31x1 : h0.size ≤ h_31x1.size := by rw [W_31x1.size]; exact Z_31
  refine g_iinc X_31x1 hx 35 (1 : Int32) #[.val (.ref qa), .val (.int (2 : Int32)), .val (.ref qb), .val (.int (1 : Int32)), .val (.int (2 : Int32)), .val (.int (1 : Int32)), .val (.int c1)] (hb hby cp2_2_32) rfl rfl rfl rfl ?_
  refine g_iinc X_31x1 hx 38 (1 : Int32) #[.val (.ref qa), .val (.int (2 : Int32)), .val (.ref qb), .val (.int (2 : Int32)), .val (.int (2 : Int32)), .val (.int (1 : Int32)), .val (.int c1)] (hb hby cp2_2_35) rfl rfl rfl rfl ?_
  refine g_iinc X_31x1 hx 41 (1 : Int32) #[.val (.ref qa), .val (.int (2 : Int32)), .val (.ref qb), .val (.int (2 : Int32)), .val (.int (2 : Int32)), .val (.int (2 : Int32)), .val (.int c1)] (hb hby cp2_2_38) rfl rfl rfl rfl ?_
  refine g_goto X_31x1 hx 3 (hb hby cp2_2_41) (by decide) (by decide) ?_
  refine g_iload X_31x1 hx 5 (2 : Int32) (hb hby cp2_2_3) rfl rfl ?_
  refine g_iload X_31x1 hx 7 (2 : Int32) (hb hby cp2_2_5) rfl rfl ?_
  refine g_icmpY X_31x1 hx 44 (hb hby cp2_2_7) (XT.ii_ge_t (by decide)) (by decide) (by decide) ?_
  refine g_iload X_31x1 hx 46 (2 : Int32) (hb hby cp2_2_44) rfl rfl ?_
  exact Go.retI X_31x1 hx hlk Bd.returns (hb hby cp2_2_46) (by decide) (by decide) ⟨rfl, N_31x1, e_31x1.symm ▸ (((Keep.refl _ _).wr W_31 (Or.inl (by simp))).wr W_31x1 (Or.inl (by simp))), e_31x1.symm ▸ F_31x1_0⟩
def CQ1_2 (Z : State) (c0 c1 : Int32) (h0 : Heap) (n0 : Nat) (v : Option Value) (h : Heap) (L : List Loc) : Prop := ∃ qb : Addr, v = some (.ref qb) ∧ h0.size ≤ qb ∧ Fr n0 L ∧ Keep h0 h [] ∧ Arl Z h qb .byte [(.int (c0.toInt8.toInt32)), (.int (c1.toInt8.toInt32))]
theorem cp1_2_0 : decode jdk_52_method_16_code 0 = .ok (.iload_n 2, 1) := by decide +kernel
theorem cp1_2_1 : decode jdk_52_method_16_code 1 = .ok (.newarray .byte, 2) := by decide +kernel
theorem cp1_2_3 : decode jdk_52_method_16_code 3 = .ok (.astore_n 3, 1) := by decide +kernel
theorem cp1_2_4 : decode jdk_52_method_16_code 4 = .ok (.aload_n 0, 1) := by decide +kernel
theorem cp1_2_5 : decode jdk_52_method_16_code 5 = .ok (.iload_n 1, 1) := by decide +kernel
theorem cp1_2_6 : decode jdk_52_method_16_code 6 = .ok (.aload_n 3, 1) := by decide +kernel
theorem cp1_2_7 : decode jdk_52_method_16_code 7 = .ok (.iconst 0, 1) := by decide +kernel
theorem cp1_2_8 : decode jdk_52_method_16_code 8 = .ok (.iload_n 2, 1) := by decide +kernel
theorem cp1_2_9 : decode jdk_52_method_16_code 9 = .ok (.invokestatic 115, 3) := by decide +kernel
theorem cp1_2_12 : decode jdk_52_method_16_code 12 = .ok (.istore 4, 2) := by decide +kernel
theorem cp1_2_14 : decode jdk_52_method_16_code 14 = .ok (.iload 4, 2) := by decide +kernel
theorem cp1_2_16 : decode jdk_52_method_16_code 16 = .ok (.iload_n 2, 1) := by decide +kernel
theorem cp1_2_17 : decode jdk_52_method_16_code 17 = .ok (.if_icmp .eq 40, 3) := by decide +kernel
theorem cp1_2_20 : decode jdk_52_method_16_code 20 = .ok (.aload_n 0, 1) := by decide +kernel
theorem cp1_2_21 : decode jdk_52_method_16_code 21 = .ok (.iload_n 1, 1) := by decide +kernel
theorem cp1_2_22 : decode jdk_52_method_16_code 22 = .ok (.iload_n 2, 1) := by decide +kernel
theorem cp1_2_23 : decode jdk_52_method_16_code 23 = .ok (.invokestatic 119, 3) := by decide +kernel
theorem cp1_2_26 : decode jdk_52_method_16_code 26 = .ok (.astore 5, 2) := by decide +kernel
theorem cp1_2_28 : decode jdk_52_method_16_code 28 = .ok (.aload 5, 2) := by decide +kernel
theorem cp1_2_30 : decode jdk_52_method_16_code 30 = .ok (.iload 4, 2) := by decide +kernel
theorem cp1_2_32 : decode jdk_52_method_16_code 32 = .ok (.invokestatic 71, 3) := by decide +kernel
theorem cp1_2_35 : decode jdk_52_method_16_code 35 = .ok (.sipush 255, 3) := by decide +kernel
theorem cp1_2_38 : decode jdk_52_method_16_code 38 = .ok (.if_icmp .gt 16, 3) := by decide +kernel
theorem cp1_2_41 : decode jdk_52_method_16_code 41 = .ok (.aload 5, 2) := by decide +kernel
theorem cp1_2_43 : decode jdk_52_method_16_code 43 = .ok (.iconst 0, 1) := by decide +kernel
theorem cp1_2_44 : decode jdk_52_method_16_code 44 = .ok (.aload_n 3, 1) := by decide +kernel
theorem cp1_2_45 : decode jdk_52_method_16_code 45 = .ok (.iconst 0, 1) := by decide +kernel
theorem cp1_2_46 : decode jdk_52_method_16_code 46 = .ok (.iload_n 2, 1) := by decide +kernel
theorem cp1_2_47 : decode jdk_52_method_16_code 47 = .ok (.invokestatic 123, 3) := by decide +kernel
theorem cp1_2_50 : decode jdk_52_method_16_code 50 = .ok (.iload_n 2, 1) := by decide +kernel
theorem cp1_2_51 : decode jdk_52_method_16_code 51 = .ok (.if_icmp .eq 6, 3) := by decide +kernel
theorem cp1_2_54 : decode jdk_52_method_16_code 54 = .ok (.aload 5, 2) := by decide +kernel
theorem cp1_2_56 : decode jdk_52_method_16_code 56 = .ok (.areturn, 1) := by decide +kernel
theorem cp1_2_57 : decode jdk_52_method_16_code 57 = .ok (.aload_n 3, 1) := by decide +kernel
theorem cp1_2_58 : decode jdk_52_method_16_code 58 = .ok (.areturn, 1) := by decide +kernel
theorem pn_cp1_2 : plainFor (⟨"java/lang/StringUTF16", "compress", "([CII)[B"⟩ : MethodName) = true := by first | exact plainFor_of_name (by first | (simp [plainName, overriddenIn]; done) | decide +kernel) | decide +kernel
theorem ef_cp1_2 (m : MethodId) (qa : Addr)  : entryFrame m #[(.ref qa), (.int (0 : Int32)), (.int (2 : Int32))] 6 = mkF m 0 #[.val (.ref qa), .val (.int (0 : Int32)), .val (.int (2 : Int32)), .unset, .unset, .unset] [] := by first | (simp [entryFrame, mkF, argsToLocals, Value.category, maxLocals]; done) | rfl
theorem pd_cp1_2 : parseMethodDescriptor "([CII)[B" = some ⟨[.array (.char), .int, .int], some (.array (.byte))⟩ := by decide +kernel
set_option maxRecDepth 65536 in
set_option maxHeartbeats 40000000 in
theorem rm_cp1_2 (l : Launch) (Z : State) (a0 : Array Value) (hw : ∀ d ∈ tables_1, d.before a0 Z = true)  (qa : Addr) (h0 : Heap) (n0 : Nat) (Z0 : n0 ≤ h0.size) (c0 c1 : Int32) (hc0 : ¬ (255 : Int32) < c0) (hc1 : ¬ (255 : Int32) < c1) (A1 : Arl Z h0 qa .char [(.int c0), (.int c1)]) :
    MetFree l (⟨"java/lang/StringUTF16", "compress", "([CII)[B"⟩ : MethodName) (head1 [Jvm.Cond.code (⟨"java/lang/StringUTF16", "compress", "([CII)[B"⟩ : MethodName) jdk_52_method_16_code 6 (some (Jvm.ClassFile.FieldType.array Jvm.ClassFile.FieldType.byte))] ({ frames := 1, cells := 1, slots := 2, locals := 18 } : Room)) (fun a U => a = #[(.ref qa), (.int (0 : Int32)), (.int (2 : Int32))] ∧ Z.Warmed39 U.vm ∧ U.heap = h0) (fun _ _ _ _ _ => True) (fun _ U o U' => ∃ v L, o = .returned v ∧ CQ1_2 Z c0 c1 h0 n0 v U'.heap L ∧ FrameEnd U o U' L ({ frames := 1, cells := 1, slots := 2, locals := 18 } : Room).cells ({ frames := 1, cells := 1, slots := 2, locals := 18 } : Room).slots) := by
  refine MetFree.of_bodySF pn_cp1_2 hisR ?_
  intro p e s m args below meth c s₁ Bd hml0 hP hK
  obtain ⟨rfl, hZ, hh⟩ := hP
  have hx := Bd.exec
  have hby := Bd.bytes
  have hml : c.maxLocals = 6 := hml0
  have hown : s.vm.findClass "java/lang/StringUTF16" = some m.cls := findClass_of_methodNamed Bd.named
  have hnm := (name_of_methodNamed Bd.named Bd.method).1
  have hlk : meth.locks = false := BodyLoose.notSynchronized Bd
  have X0 : Stand p l e ({ frames := 1, cells := 1, slots := 2, locals := 18 } : Room) s m #[(.ref qa), (.int (0 : Int32)), (.int (2 : Int32))] below meth c s₁ [] 0 0 := Stand.of_body Bd
  have e0 : s₁.heap = h0 := by rw [← hh, Bd.state]; rfl
  show Go p e below (EndN below s (CQ1_2 Z c0 c1 h0 n0) ({ frames := 1, cells := 1, slots := 2, locals := 18 } : Room).cells ({ frames := 1, cells := 1, slots := 2, locals := 18 } : Room).slots) (s₁.setTop (entryFrame m #[(.ref qa), (.int (0 : Int32)), (.int (2 : Int32))] 6))
  rw [ef_cp1_2]
  refine g_iload_n X0 hx 1 (2 : Int32) (hb hby cp1_2_0) rfl rfl ?_
  obtain ⟨T_1, h_1, a_1, k_1, X_1, e_1, ga_1, E_1, A_1, st_1⟩ := g_newP X0 hx hZ (aty := .byte) (n := (2 : Int32)) (hw _ (List.mem_of_getElem? (i := 1) rfl)) e0 2 (by decide) (by decide) (by decide) (by decide) (by decide) 3 (hb hby cp1_2_1) rfl
  refine st_1 ?_
  have g_1 : n0 ≤ a_1 := by rw [ga_1]; exact Nat.le_trans Z0 (Nat.le_refl _)
  have gh_1 : h0.size ≤ a_1 := by rw [ga_1]; exact (Nat.le_refl _)
  have n_1_qa : qa ≠ a_1 := by rw [ga_1]; exact Nat.ne_of_lt A1.lt
  have F_1_0 : Arl Z h_1 qa .char [(.int c0), (.int c1)] := A1.ext E_1
  have Z_1 : h0.size ≤ h_1.size := Nat.le_trans (Nat.le_refl _) E_1.1
  have G_1 : Arl Z h_1 a_1 .byte [(.int (0 : Int32)), (.int (0 : Int32))] := Arl.new A_1 rfl
  refine g_astore_n X_1 hx 4 #[.val (.ref qa), .val (.int (0 : Int32)), .val (.int (2 : Int32)), .val (.ref a_1), .unset, .unset] (hb hby cp1_2_3) rfl rfl rfl ?_
  refine g_aload_n X_1 hx 5 (.ref qa) (hb hby cp1_2_4) rfl rfl rfl ?_
  refine g_iload_n X_1 hx 6 (0 : Int32) (hb hby cp1_2_5) rfl rfl ?_
  refine g_aload_n X_1 hx 7 (.ref a_1) (hb hby cp1_2_6) rfl rfl rfl ?_
  refine g_iconst X_1 hx 8 (0 : Int32) (hb hby cp1_2_7) rfl rfl ?_
  refine g_iload_n X_1 hx 9 (2 : Int32) (hb hby cp1_2_8) rfl rfl ?_
  obtain ⟨_, T_9, L_9, X_9, ⟨rfl, M_9, K_9, B_9⟩, st_9⟩ := g_callS X_1 hx hZ  (own := "java/lang/StringUTF16") (index := 115) (y := (⟨"java/lang/StringUTF16", "compress", "([CI[BII)I"⟩ : MethodName)) (as' := [(.ref qa), (.int (0 : Int32)), (.ref a_1), (.int (0 : Int32)), (.int (2 : Int32))]) hown (hw _ (List.mem_of_getElem? (i := 45) rfl)) (hw _ (List.mem_of_getElem? (i := 46) rfl)) (hw _ (List.mem_of_getElem? (i := 43) rfl)) (hw _ (List.mem_of_getElem? (i := 47) rfl)) (by decide) e_1 (rm_cp2_2 l Z a0 hw qa a_1 h_1 n0 g_1 c0 c1 hc0 hc1 n_1_qa F_1_0 G_1) pd_cp2_2 rfl 0 (by decide) (by decide) (by decide) (by decide) (pc := 9) (Ls := #[.val (.ref qa), .val (.int (0 : Int32)), .val (.int (2 : Int32)), .val (.ref a_1), .unset, .unset]) (rest := []) (st := [(.int (2 : Int32)), (.int (0 : Int32)), (.ref a_1), (.int (0 : Int32)), (.ref qa)]) (by rw [hml]; rfl) rfl (Nat.le_of_eq rfl) (hb hby cp1_2_9)
  refine Go.of ?_ st_9
  have F_9_0 : Arl Z T_9.heap a_1 .byte [(.int (c0.toInt8.toInt32)), (.int (c1.toInt8.toInt32))] := B_9
  have F_9_1 : Arl Z T_9.heap qa .char [(.int c0), (.int c1)] := F_1_0.keep K_9 (ninS n_1_qa nin0)
  have N_9 := Fr.app (Fr.nil _) M_9
  have Z_9 : h0.size ≤ T_9.heap.size := Nat.le_trans Z_1 K_9.1
  show Go p e below _ (T_9.setTop (mkF m 12 #[.val (.ref qa), .val (.int (0 : Int32)), .val (.int (2 : Int32)), .val (.ref a_1), .unset, .unset] [(.int (2 : Int32))]))
  refine g_istore X_9 hx 14 #[.val (.ref qa), .val (.int (0 : Int32)), .val (.int (2 : Int32)), .val (.ref a_1), .val (.int (2 : Int32)), .unset] (hb hby cp1_2_12) rfl rfl ?_
  refine g_iload X_9 hx 16 (2 : Int32) (hb hby cp1_2_14) rfl rfl ?_
  refine g_iload_n X_9 hx 17 (2 : Int32) (hb hby cp1_2_16) rfl rfl ?_
  refine g_icmpY X_9 hx 57 (hb hby cp1_2_17) (XT.ii_eq_t (by decide)) (by decide) (by decide) ?_
  refine g_aload_n X_9 hx 58 (.ref a_1) (hb hby cp1_2_57) rfl rfl rfl ?_
  exact Go.retA X_9 hx hlk Bd.returns rfl rfl (hb hby cp1_2_58) (by decide) (by decide) ⟨_, rfl, gh_1, N_9, (((Keep.refl _ _).ext E_1).trans K_9 (allS (Or.inr gh_1) all0)), F_9_0⟩
def SQ_2 (Z : State) (qa : Addr) (c0 c1 : Int32) (h0 : Heap) (n0 : Nat) (v : Option Value) (h : Heap) (L : List Loc) : Prop := ∃ qb : Addr, v = none ∧ h0.size ≤ qb ∧ Fr n0 L ∧ Keep h0 h [qa] ∧ Stl Z h qa qb 0 [(.int (c0.toInt8.toInt32)), (.int (c1.toInt8.toInt32))]
theorem in2_2_0 : decode jdk_42_method_149_code 0 = .ok (.aload_n 0, 1) := by decide +kernel
theorem in2_2_1 : decode jdk_42_method_149_code 1 = .ok (.invokespecial 1, 3) := by decide +kernel
theorem in2_2_4 : decode jdk_42_method_149_code 4 = .ok (.iload_n 3, 1) := by decide +kernel
theorem in2_2_5 : decode jdk_42_method_149_code 5 = .ok (.ifCond .ne 22, 3) := by decide +kernel
theorem in2_2_8 : decode jdk_42_method_149_code 8 = .ok (.aload_n 0, 1) := by decide +kernel
theorem in2_2_9 : decode jdk_42_method_149_code 9 = .ok (.ldc 7, 2) := by decide +kernel
theorem in2_2_11 : decode jdk_42_method_149_code 11 = .ok (.getfield 9, 3) := by decide +kernel
theorem in2_2_14 : decode jdk_42_method_149_code 14 = .ok (.putfield 9, 3) := by decide +kernel
theorem in2_2_17 : decode jdk_42_method_149_code 17 = .ok (.aload_n 0, 1) := by decide +kernel
theorem in2_2_18 : decode jdk_42_method_149_code 18 = .ok (.ldc 7, 2) := by decide +kernel
theorem in2_2_20 : decode jdk_42_method_149_code 20 = .ok (.getfield 15, 3) := by decide +kernel
theorem in2_2_23 : decode jdk_42_method_149_code 23 = .ok (.putfield 15, 3) := by decide +kernel
theorem in2_2_26 : decode jdk_42_method_149_code 26 = .ok (.return_, 1) := by decide +kernel
theorem in2_2_27 : decode jdk_42_method_149_code 27 = .ok (.getstatic 38, 3) := by decide +kernel
theorem in2_2_30 : decode jdk_42_method_149_code 30 = .ok (.ifCond .eq 28, 3) := by decide +kernel
theorem in2_2_33 : decode jdk_42_method_149_code 33 = .ok (.aload_n 1, 1) := by decide +kernel
theorem in2_2_34 : decode jdk_42_method_149_code 34 = .ok (.iload_n 2, 1) := by decide +kernel
theorem in2_2_35 : decode jdk_42_method_149_code 35 = .ok (.iload_n 3, 1) := by decide +kernel
theorem in2_2_36 : decode jdk_42_method_149_code 36 = .ok (.invokestatic 177, 3) := by decide +kernel
theorem in2_2_39 : decode jdk_42_method_149_code 39 = .ok (.astore 5, 2) := by decide +kernel
theorem in2_2_41 : decode jdk_42_method_149_code 41 = .ok (.aload_n 0, 1) := by decide +kernel
theorem in2_2_42 : decode jdk_42_method_149_code 42 = .ok (.aload 5, 2) := by decide +kernel
theorem in2_2_44 : decode jdk_42_method_149_code 44 = .ok (.iload_n 3, 1) := by decide +kernel
theorem in2_2_45 : decode jdk_42_method_149_code 45 = .ok (.invokestatic 47, 3) := by decide +kernel
theorem in2_2_48 : decode jdk_42_method_149_code 48 = .ok (.putfield 15, 3) := by decide +kernel
theorem in2_2_51 : decode jdk_42_method_149_code 51 = .ok (.aload_n 0, 1) := by decide +kernel
theorem in2_2_52 : decode jdk_42_method_149_code 52 = .ok (.aload 5, 2) := by decide +kernel
theorem in2_2_54 : decode jdk_42_method_149_code 54 = .ok (.putfield 9, 3) := by decide +kernel
theorem in2_2_57 : decode jdk_42_method_149_code 57 = .ok (.return_, 1) := by decide +kernel
theorem in2_2_58 : decode jdk_42_method_149_code 58 = .ok (.aload_n 0, 1) := by decide +kernel
theorem in2_2_59 : decode jdk_42_method_149_code 59 = .ok (.iconst 1, 1) := by decide +kernel
theorem in2_2_60 : decode jdk_42_method_149_code 60 = .ok (.putfield 15, 3) := by decide +kernel
theorem in2_2_63 : decode jdk_42_method_149_code 63 = .ok (.aload_n 0, 1) := by decide +kernel
theorem in2_2_64 : decode jdk_42_method_149_code 64 = .ok (.aload_n 1, 1) := by decide +kernel
theorem in2_2_65 : decode jdk_42_method_149_code 65 = .ok (.iload_n 2, 1) := by decide +kernel
theorem in2_2_66 : decode jdk_42_method_149_code 66 = .ok (.iload_n 3, 1) := by decide +kernel
theorem in2_2_67 : decode jdk_42_method_149_code 67 = .ok (.invokestatic 180, 3) := by decide +kernel
theorem in2_2_70 : decode jdk_42_method_149_code 70 = .ok (.putfield 9, 3) := by decide +kernel
theorem in2_2_73 : decode jdk_42_method_149_code 73 = .ok (.return_, 1) := by decide +kernel
theorem pn_in2_2 : plainFor (⟨"java/lang/String", "<init>", "([CIILjava/lang/Void;)V"⟩ : MethodName) = true := by first | exact plainFor_of_name (by first | (simp [plainName, overriddenIn]; done) | decide +kernel) | decide +kernel
theorem ef_in2_2 (m : MethodId) (qa : Addr) (qc : Addr)  : entryFrame m #[(.ref qa), (.ref qc), (.int (0 : Int32)), (.int (2 : Int32)), .null] 6 = mkF m 0 #[.val (.ref qa), .val (.ref qc), .val (.int (0 : Int32)), .val (.int (2 : Int32)), .val .null, .unset] [] := by first | (simp [entryFrame, mkF, argsToLocals, Value.category, maxLocals]; done) | rfl
theorem pd_in2_2 : parseMethodDescriptor "([CIILjava/lang/Void;)V" = some ⟨[.array (.char), .int, .int, .object "java/lang/Void"], none⟩ := by decide +kernel
set_option maxRecDepth 65536 in
set_option maxHeartbeats 40000000 in
theorem rm_in2_2 (l : Launch) (Z : State) (a0 : Array Value) (hw : ∀ d ∈ tables_1, d.before a0 Z = true)  (qa : Addr) (qc : Addr) (h0 : Heap) (n0 : Nat) (XO : Old Z n0 h0) (cs : Int32) (hcs : ¬ cs = (0 : Int32)) (SC : Sta Z Z.heap "java/lang/String" "COMPACT_STRINGS" "Z" (.int cs)) (ga : n0 ≤ qa) (hne : qc ≠ qa) (c0 c1 : Int32) (hc0 : ¬ (255 : Int32) < c0) (hc1 : ¬ (255 : Int32) < c1) (A1 : Arl Z h0 qc .char [(.int c0), (.int c1)])(E1 : Exa Z h0 qa "java/lang/String")(F1 : Fld Z h0 qa "java/lang/String" "value" "[B" .null)(F2 : Fld Z h0 qa "java/lang/String" "coder" "B" (.int (0 : Int32))) :
    MetFree l (⟨"java/lang/String", "<init>", "([CIILjava/lang/Void;)V"⟩ : MethodName) (head1 [Jvm.Cond.code (⟨"java/lang/String", "<init>", "([CIILjava/lang/Void;)V"⟩ : MethodName) jdk_42_method_149_code 6 none] ({ frames := 2, cells := 1, slots := 2, locals := 35 } : Room)) (fun a U => a = #[(.ref qa), (.ref qc), (.int (0 : Int32)), (.int (2 : Int32)), .null] ∧ Z.Warmed39 U.vm ∧ U.heap = h0) (fun _ _ _ _ _ => True) (fun _ U o U' => ∃ v L, o = .returned v ∧ SQ_2 Z qa c0 c1 h0 n0 v U'.heap L ∧ FrameEnd U o U' L ({ frames := 2, cells := 1, slots := 2, locals := 35 } : Room).cells ({ frames := 2, cells := 1, slots := 2, locals := 35 } : Room).slots) := by
  refine MetFree.of_bodySF pn_in2_2 hisR ?_
  intro p e s m args below meth c s₁ Bd hml0 hP hK
  obtain ⟨rfl, hZ, hh⟩ := hP
  have hx := Bd.exec
  have hby := Bd.bytes
  have hml : c.maxLocals = 6 := hml0
  have hown : s.vm.findClass "java/lang/String" = some m.cls := findClass_of_methodNamed Bd.named
  have hnm := (name_of_methodNamed Bd.named Bd.method).1
  have hlk : meth.locks = false := BodyLoose.notSynchronized Bd
  have X0 : Stand p l e ({ frames := 2, cells := 1, slots := 2, locals := 35 } : Room) s m #[(.ref qa), (.ref qc), (.int (0 : Int32)), (.int (2 : Int32)), .null] below meth c s₁ [] 0 0 := Stand.of_body Bd
  have e0 : s₁.heap = h0 := by rw [← hh, Bd.state]; rfl
  show Go p e below (EndN below s (SQ_2 Z qa c0 c1 h0 n0) ({ frames := 2, cells := 1, slots := 2, locals := 35 } : Room).cells ({ frames := 2, cells := 1, slots := 2, locals := 35 } : Room).slots) (s₁.setTop (entryFrame m #[(.ref qa), (.ref qc), (.int (0 : Int32)), (.int (2 : Int32)), .null] 6))
  rw [ef_in2_2]
  refine g_aload_n X0 hx 1 (.ref qa) (hb hby in2_2_0) rfl rfl rfl ?_
  obtain ⟨T_1, X_1, e_1, st_1⟩ := g_initO X0 hx hZ hown (hw _ (List.mem_of_getElem? (i := 17) rfl)) (hw _ (List.mem_of_getElem? (i := 18) rfl)) (hw _ (List.mem_of_getElem? (i := 19) rfl)) e0 0 (by decide) (by decide) 4 (a := qa) (Ls := #[.val (.ref qa), .val (.ref qc), .val (.int (0 : Int32)), .val (.int (2 : Int32)), .val .null, .unset]) (st := []) (by rw [hml]; rfl) (Nat.le_of_eq rfl) (hb hby in2_2_1) rfl
  refine st_1 ?_
  refine g_iload_n X_1 hx 5 (2 : Int32) (hb hby in2_2_4) rfl rfl ?_
  refine g_ifY X_1 hx 27 (hb hby in2_2_5) (XT.i0_ne_t (by decide)) (by decide) (by decide) ?_
  obtain ⟨T_27, X_27, e_27, st_27⟩ := g_getS X_1 hx hZ hown (hw _ (List.mem_of_getElem? (i := 37) rfl)) e_1 (SC.ext XO.2) 30 (hb hby in2_2_27) rfl
  refine st_27 ?_
  refine g_ifN X_27 hx 33 (hb hby in2_2_30) (XT.i0_eq_f hcs) rfl ?_
  refine g_aload_n X_27 hx 34 (.ref qc) (hb hby in2_2_33) rfl rfl rfl ?_
  refine g_iload_n X_27 hx 35 (0 : Int32) (hb hby in2_2_34) rfl rfl ?_
  refine g_iload_n X_27 hx 36 (2 : Int32) (hb hby in2_2_35) rfl rfl ?_
  obtain ⟨_, T_36, L_36, X_36, ⟨b_36, rfl, g_36, M_36, K_36, B_36⟩, st_36⟩ := g_callS X_27 hx hZ  (own := "java/lang/String") (index := 177) (y := (⟨"java/lang/StringUTF16", "compress", "([CII)[B"⟩ : MethodName)) (as' := [(.ref qc), (.int (0 : Int32)), (.int (2 : Int32))]) hown (hw _ (List.mem_of_getElem? (i := 41) rfl)) (hw _ (List.mem_of_getElem? (i := 42) rfl)) (hw _ (List.mem_of_getElem? (i := 43) rfl)) (hw _ (List.mem_of_getElem? (i := 44) rfl)) (by decide) e_27 (rm_cp1_2 l Z a0 hw qc h0 n0 (XO.1 ▸ XO.2.1) c0 c1 hc0 hc1 A1) pd_cp1_2 rfl 0 (by decide) (by decide) (by decide) (by decide) (pc := 36) (Ls := #[.val (.ref qa), .val (.ref qc), .val (.int (0 : Int32)), .val (.int (2 : Int32)), .val .null, .unset]) (rest := []) (st := [(.int (2 : Int32)), (.int (0 : Int32)), (.ref qc)]) (by rw [hml]; rfl) rfl (Nat.le_of_eq rfl) (hb hby in2_2_36)
  refine Go.of ?_ st_36
  have F_36_0 : Arl Z T_36.heap qc .char [(.int c0), (.int c1)] := A1.keep K_36 nin0
  have F_36_1 : Exa Z T_36.heap qa "java/lang/String" := E1.keep K_36
  have F_36_2 : Fld Z T_36.heap qa "java/lang/String" "value" "[B" .null := F1.keep K_36 nin0
  have F_36_3 : Fld Z T_36.heap qa "java/lang/String" "coder" "B" (.int (0 : Int32)) := F2.keep K_36 nin0
  have N_36 := Fr.app (Fr.nil _) M_36
  have Z_36 : h0.size ≤ T_36.heap.size := Nat.le_trans (Nat.le_refl _) K_36.1
  have O_36 := Old.keep XO K_36 all0
  have ne_36 : qa ≠ b_36 := Nat.ne_of_lt (Nat.lt_of_lt_of_le E1.lt g_36)
  show Go p e below _ (T_36.setTop (mkF m 39 #[.val (.ref qa), .val (.ref qc), .val (.int (0 : Int32)), .val (.int (2 : Int32)), .val .null, .unset] [(.ref b_36)]))
  refine g_astore X_36 hx 41 #[.val (.ref qa), .val (.ref qc), .val (.int (0 : Int32)), .val (.int (2 : Int32)), .val .null, .val (.ref b_36)] (hb hby in2_2_39) rfl rfl rfl ?_
  refine g_aload_n X_36 hx 42 (.ref qa) (hb hby in2_2_41) rfl rfl rfl ?_
  refine g_aload X_36 hx 44 (.ref b_36) (hb hby in2_2_42) rfl rfl rfl ?_
  refine g_iload_n X_36 hx 45 (2 : Int32) (hb hby in2_2_44) rfl rfl ?_
  obtain ⟨_, T_45, L_45, X_45, ⟨rfl, rfl, e_45⟩, st_45⟩ := g_callS X_36 hx hZ  (own := "java/lang/String") (index := 47) (y := (⟨"java/lang/StringUTF16", "coderFromArrayLen", "([BI)B"⟩ : MethodName)) (as' := [(.ref b_36), (.int (2 : Int32))]) hown (hw _ (List.mem_of_getElem? (i := 48) rfl)) (hw _ (List.mem_of_getElem? (i := 49) rfl)) (hw _ (List.mem_of_getElem? (i := 43) rfl)) (hw _ (List.mem_of_getElem? (i := 50) rfl)) (by decide) rfl (rm_cfl l Z a0 hw b_36 (2 : Int32) T_36.heap [(.int (c0.toInt8.toInt32)), (.int (c1.toInt8.toInt32))] rfl B_36) pd_cfl rfl 1 (by decide) (by decide) (by decide) (by decide) (pc := 45) (Ls := #[.val (.ref qa), .val (.ref qc), .val (.int (0 : Int32)), .val (.int (2 : Int32)), .val .null, .val (.ref b_36)]) (rest := [(.ref qa)]) (st := [(.int (2 : Int32)), (.ref b_36), (.ref qa)]) (by rw [hml]; rfl) rfl (Nat.le_of_eq rfl) (hb hby in2_2_45)
  refine Go.of ?_ st_45
  rw [List.append_nil] at X_45
  show Go p e below _ (T_45.setTop (mkF m 48 #[.val (.ref qa), .val (.ref qc), .val (.int (0 : Int32)), .val (.int (2 : Int32)), .val .null, .val (.ref b_36)] [(.int (0 : Int32)), (.ref qa)]))
  obtain ⟨T_48, h_48, X_48, e_48, W_48, st_48⟩ := g_putF X_45 hx hZ hown (hw _ (List.mem_of_getElem? (i := 26) rfl)) Via.refl e_45 F_36_3 F_36_1 (Or.inr ⟨hw _ (List.mem_of_getElem? (i := 22) rfl), rfl, hnm⟩) (hw _ (List.mem_of_getElem? (i := 8) rfl)) (ty := .byte) (v := (.int (0 : Int32))) (by decide) rfl rfl 51 (hb hby in2_2_48) rfl
  refine st_48 ?_
  have F_48_0 : Fld Z h_48 qa "java/lang/String" "value" "[B" .null := F_36_2.other W_48 (Or.inr (Jvm.RoadKit.slot_ne (Or.inr (hw _ (List.mem_of_getElem? (i := 21) rfl))) (Or.inr (hw _ (List.mem_of_getElem? (i := 22) rfl))) (by decide) (t := .array (.byte)) (t' := .byte) (by decide) (by decide)))
  have F_48_1 : Fld Z h_48 qa "java/lang/String" "coder" "B" (.int (0 : Int32)) := F_36_3.same W_48
  have F_48_2 : Arl Z h_48 qc .char [(.int c0), (.int c1)] := F_36_0.other W_48 hne
  have F_48_3 : Exa Z h_48 qa "java/lang/String" := F_36_1.wr W_48
  have F_48_4 : Arl Z h_48 b_36 .byte [(.int (c0.toInt8.toInt32)), (.int (c1.toInt8.toInt32))] := B_36.other W_48 (Ne.symm ne_36)
  have N_48 := Fr.snoc X_48 N_36 ga
  have Z_48 : h0.size ≤ h_48.size := by rw [W_48.size]; exact Z_36
  have O_48 := Old.wr O_36 W_48 ga
  refine g_aload_n X_48 hx 52 (.ref qa) (hb hby in2_2_51) rfl rfl rfl ?_
  refine g_aload X_48 hx 54 (.ref b_36) (hb hby in2_2_52) rfl rfl rfl ?_
  obtain ⟨T_54, h_54, X_54, e_54, W_54, st_54⟩ := g_putF X_48 hx hZ hown (hw _ (List.mem_of_getElem? (i := 25) rfl)) Via.refl e_48 F_48_0 F_48_3 (Or.inr ⟨hw _ (List.mem_of_getElem? (i := 21) rfl), rfl, hnm⟩) (hw _ (List.mem_of_getElem? (i := 8) rfl)) (ty := .array (.byte)) (v := (.ref b_36)) (by decide) rfl rfl 57 (hb hby in2_2_54) rfl
  refine st_54 ?_
  have F_54_0 : Fld Z h_54 qa "java/lang/String" "value" "[B" (.ref b_36) := F_48_0.same W_54
  have F_54_1 : Fld Z h_54 qa "java/lang/String" "coder" "B" (.int (0 : Int32)) := F_48_1.other W_54 (Or.inr (Jvm.RoadKit.slot_ne (Or.inr (hw _ (List.mem_of_getElem? (i := 22) rfl))) (Or.inr (hw _ (List.mem_of_getElem? (i := 21) rfl))) (by decide) (t := .byte) (t' := .array (.byte)) (by decide) (by decide)))
  have F_54_2 : Arl Z h_54 qc .char [(.int c0), (.int c1)] := F_48_2.other W_54 hne
  have F_54_3 : Exa Z h_54 qa "java/lang/String" := F_48_3.wr W_54
  have F_54_4 : Arl Z h_54 b_36 .byte [(.int (c0.toInt8.toInt32)), (.int (c1.toInt8.toInt32))] := F_48_4.other W_54 (Ne.symm ne_36)
  have N_54 := Fr.snoc X_54 N_48 ga
  have Z_54 : h0.size ≤ h_54.size := by rw [W_54.size]; exact Z_48
  have O_54 := Old.wr O_48 W_54 ga
  exact Go.retV X_54 hx hlk Bd.returns (hb hby in2_2_57) (by decide) (by decide) ⟨_, rfl, g_36, N_54, e_54.symm ▸ ((((Keep.refl _ _).trans K_36 all0).wr W_48 (Or.inl (by simp))).wr W_54 (Or.inl (by simp))), e_54.symm ▸ ⟨F_54_3, F_54_1, F_54_0, F_54_4⟩⟩
theorem in1_2_0 : decode jdk_42_method_3_code 0 = .ok (.aload_n 0, 1) := by decide +kernel
theorem in1_2_1 : decode jdk_42_method_3_code 1 = .ok (.aload_n 1, 1) := by decide +kernel
theorem in1_2_2 : decode jdk_42_method_3_code 2 = .ok (.iconst 0, 1) := by decide +kernel
theorem in1_2_3 : decode jdk_42_method_3_code 3 = .ok (.aload_n 1, 1) := by decide +kernel
theorem in1_2_4 : decode jdk_42_method_3_code 4 = .ok (.arraylength, 1) := by decide +kernel
theorem in1_2_5 : decode jdk_42_method_3_code 5 = .ok (.aconst_null, 1) := by decide +kernel
theorem in1_2_6 : decode jdk_42_method_3_code 6 = .ok (.invokespecial 27, 3) := by decide +kernel
theorem in1_2_9 : decode jdk_42_method_3_code 9 = .ok (.return_, 1) := by decide +kernel
theorem pn_in1_2 : plainFor (⟨"java/lang/String", "<init>", "([C)V"⟩ : MethodName) = true := by first | exact plainFor_of_name (by first | (simp [plainName, overriddenIn]; done) | decide +kernel) | decide +kernel
theorem ef_in1_2 (m : MethodId) (qa : Addr) (qc : Addr)  : entryFrame m #[(.ref qa), (.ref qc)] 2 = mkF m 0 #[.val (.ref qa), .val (.ref qc)] [] := by first | (simp [entryFrame, mkF, argsToLocals, Value.category, maxLocals]; done) | rfl
theorem pd_in1_2 : parseMethodDescriptor "([C)V" = some ⟨[.array (.char)], none⟩ := by decide +kernel
set_option maxRecDepth 65536 in
set_option maxHeartbeats 40000000 in
theorem rm_in1_2 (l : Launch) (Z : State) (a0 : Array Value) (hw : ∀ d ∈ tables_1, d.before a0 Z = true)  (qa : Addr) (qc : Addr) (h0 : Heap) (n0 : Nat) (XO : Old Z n0 h0) (cs : Int32) (hcs : ¬ cs = (0 : Int32)) (SC : Sta Z Z.heap "java/lang/String" "COMPACT_STRINGS" "Z" (.int cs)) (ga : n0 ≤ qa) (hne : qc ≠ qa) (c0 c1 : Int32) (hc0 : ¬ (255 : Int32) < c0) (hc1 : ¬ (255 : Int32) < c1) (A1 : Arl Z h0 qc .char [(.int c0), (.int c1)])(E1 : Exa Z h0 qa "java/lang/String")(F1 : Fld Z h0 qa "java/lang/String" "value" "[B" .null)(F2 : Fld Z h0 qa "java/lang/String" "coder" "B" (.int (0 : Int32))) :
    MetFree l (⟨"java/lang/String", "<init>", "([C)V"⟩ : MethodName) (head1 [Jvm.Cond.code (⟨"java/lang/String", "<init>", "([C)V"⟩ : MethodName) jdk_42_method_3_code 2 none] ({ frames := 3, cells := 1, slots := 2, locals := 52 } : Room)) (fun a U => a = #[(.ref qa), (.ref qc)] ∧ Z.Warmed39 U.vm ∧ U.heap = h0) (fun _ _ _ _ _ => True) (fun _ U o U' => ∃ v L, o = .returned v ∧ SQ_2 Z qa c0 c1 h0 n0 v U'.heap L ∧ FrameEnd U o U' L ({ frames := 3, cells := 1, slots := 2, locals := 52 } : Room).cells ({ frames := 3, cells := 1, slots := 2, locals := 52 } : Room).slots) := by
  refine MetFree.of_bodySF pn_in1_2 hisR ?_
  intro p e s m args below meth c s₁ Bd hml0 hP hK
  obtain ⟨rfl, hZ, hh⟩ := hP
  have hx := Bd.exec
  have hby := Bd.bytes
  have hml : c.maxLocals = 2 := hml0
  have hown : s.vm.findClass "java/lang/String" = some m.cls := findClass_of_methodNamed Bd.named
  have hnm := (name_of_methodNamed Bd.named Bd.method).1
  have hlk : meth.locks = false := BodyLoose.notSynchronized Bd
  have X0 : Stand p l e ({ frames := 3, cells := 1, slots := 2, locals := 52 } : Room) s m #[(.ref qa), (.ref qc)] below meth c s₁ [] 0 0 := Stand.of_body Bd
  have e0 : s₁.heap = h0 := by rw [← hh, Bd.state]; rfl
  show Go p e below (EndN below s (SQ_2 Z qa c0 c1 h0 n0) ({ frames := 3, cells := 1, slots := 2, locals := 52 } : Room).cells ({ frames := 3, cells := 1, slots := 2, locals := 52 } : Room).slots) (s₁.setTop (entryFrame m #[(.ref qa), (.ref qc)] 2))
  rw [ef_in1_2]
  refine g_aload_n X0 hx 1 (.ref qa) (hb hby in1_2_0) rfl rfl rfl ?_
  refine g_aload_n X0 hx 2 (.ref qc) (hb hby in1_2_1) rfl rfl rfl ?_
  refine g_iconst X0 hx 3 (0 : Int32) (hb hby in1_2_2) rfl rfl ?_
  refine g_aload_n X0 hx 4 (.ref qc) (hb hby in1_2_3) rfl rfl rfl ?_
  refine g_alen X0 hx hZ e0 A1 (2 : Int32) rfl 5 (hb hby in1_2_4) rfl ?_
  refine g_aconst_null X0 hx 6 (hb hby in1_2_5) rfl ?_
  obtain ⟨_, T_6, L_6, X_6, ⟨b_6, rfl, g_6, M_6, K_6, Q_6⟩, st_6⟩ := g_callI X0 hx hZ  (own := "java/lang/String") (index := 27) (y := (⟨"java/lang/String", "<init>", "([CIILjava/lang/Void;)V"⟩ : MethodName)) (a := qa) (as' := [(.ref qc), (.int (0 : Int32)), (.int (2 : Int32)), .null]) rfl hown (hw _ (List.mem_of_getElem? (i := 13) rfl)) (hw _ (List.mem_of_getElem? (i := 14) rfl)) (hw _ (List.mem_of_getElem? (i := 9) rfl)) (hw _ (List.mem_of_getElem? (i := 16) rfl)) (by decide) e0 (rm_in2_2 l Z a0 hw qa qc h0 n0 XO cs hcs SC ga hne c0 c1 hc0 hc1 A1 E1 F1 F2) pd_in2_2 rfl 0 (by decide) (by decide) (by decide) (by decide) (pc := 6) (Ls := #[.val (.ref qa), .val (.ref qc)]) (rest := []) (st := [.null, (.int (2 : Int32)), (.int (0 : Int32)), (.ref qc), (.ref qa)]) (by rw [hml]; rfl) rfl (Nat.le_of_eq rfl) (hb hby in1_2_6)
  refine st_6 ?_
  show Go p e below _ (T_6.setTop (mkF m 9 #[.val (.ref qa), .val (.ref qc)] []))
  exact Go.retV X_6 hx hlk Bd.returns (hb hby in1_2_9) (by decide) (by decide) ⟨_, rfl, g_6, (Fr.app (Fr.nil _) M_6), K_6, Q_6⟩
def CQ2_3 (Z : State) (qb : Addr) (c0 c1 c2 : Int32) (h0 : Heap) (n0 : Nat) (v : Option Value) (h : Heap) (L : List Loc) : Prop := v = some (.int (3 : Int32)) ∧ Fr n0 L ∧ Keep h0 h [qb] ∧ Arl Z h qb .byte [(.int (c0.toInt8.toInt32)), (.int (c1.toInt8.toInt32)), (.int (c2.toInt8.toInt32))]
theorem cp2_3_0 : decode jdk_52_method_21_code 0 = .ok (.iconst 0, 1) := by decide +kernel
theorem cp2_3_1 : decode jdk_52_method_21_code 1 = .ok (.istore 5, 2) := by decide +kernel
theorem cp2_3_3 : decode jdk_52_method_21_code 3 = .ok (.iload 5, 2) := by decide +kernel
theorem cp2_3_5 : decode jdk_52_method_21_code 5 = .ok (.iload 4, 2) := by decide +kernel
theorem cp2_3_7 : decode jdk_52_method_21_code 7 = .ok (.if_icmp .ge 37, 3) := by decide +kernel
theorem cp2_3_10 : decode jdk_52_method_21_code 10 = .ok (.aload_n 0, 1) := by decide +kernel
theorem cp2_3_11 : decode jdk_52_method_21_code 11 = .ok (.iload_n 1, 1) := by decide +kernel
theorem cp2_3_12 : decode jdk_52_method_21_code 12 = .ok (.caload, 1) := by decide +kernel
theorem cp2_3_13 : decode jdk_52_method_21_code 13 = .ok (.istore 6, 2) := by decide +kernel
theorem cp2_3_15 : decode jdk_52_method_21_code 15 = .ok (.iload 6, 2) := by decide +kernel
theorem cp2_3_17 : decode jdk_52_method_21_code 17 = .ok (.sipush 255, 3) := by decide +kernel
theorem cp2_3_20 : decode jdk_52_method_21_code 20 = .ok (.if_icmp .le 6, 3) := by decide +kernel
theorem cp2_3_23 : decode jdk_52_method_21_code 23 = .ok (.iload 5, 2) := by decide +kernel
theorem cp2_3_25 : decode jdk_52_method_21_code 25 = .ok (.ireturn, 1) := by decide +kernel
theorem cp2_3_26 : decode jdk_52_method_21_code 26 = .ok (.aload_n 2, 1) := by decide +kernel
theorem cp2_3_27 : decode jdk_52_method_21_code 27 = .ok (.iload_n 3, 1) := by decide +kernel
theorem cp2_3_28 : decode jdk_52_method_21_code 28 = .ok (.iload 6, 2) := by decide +kernel
theorem cp2_3_30 : decode jdk_52_method_21_code 30 = .ok (.i2b, 1) := by decide +kernel
theorem cp2_3_31 : decode jdk_52_method_21_code 31 = .ok (.bastore, 1) := by decide +kernel
theorem cp2_3_32 : decode jdk_52_method_21_code 32 = .ok (.iinc 1 1, 3) := by decide +kernel
theorem cp2_3_35 : decode jdk_52_method_21_code 35 = .ok (.iinc 3 1, 3) := by decide +kernel
theorem cp2_3_38 : decode jdk_52_method_21_code 38 = .ok (.iinc 5 1, 3) := by decide +kernel
theorem cp2_3_41 : decode jdk_52_method_21_code 41 = .ok (.goto (-38), 3) := by decide +kernel
theorem cp2_3_44 : decode jdk_52_method_21_code 44 = .ok (.iload 4, 2) := by decide +kernel
theorem cp2_3_46 : decode jdk_52_method_21_code 46 = .ok (.ireturn, 1) := by decide +kernel
theorem pn_cp2_3 : plainFor (⟨"java/lang/StringUTF16", "compress", "([CI[BII)I"⟩ : MethodName) = true := by first | exact plainFor_of_name (by first | (simp [plainName, overriddenIn]; done) | decide +kernel) | decide +kernel
theorem ef_cp2_3 (m : MethodId) (qa : Addr) (qb : Addr)  : entryFrame m #[(.ref qa), (.int (0 : Int32)), (.ref qb), (.int (0 : Int32)), (.int (3 : Int32))] 7 = mkF m 0 #[.val (.ref qa), .val (.int (0 : Int32)), .val (.ref qb), .val (.int (0 : Int32)), .val (.int (3 : Int32)), .unset, .unset] [] := by first | (simp [entryFrame, mkF, argsToLocals, Value.category, maxLocals]; done) | rfl
theorem pd_cp2_3 : parseMethodDescriptor "([CI[BII)I" = some ⟨[.array (.char), .int, .array (.byte), .int, .int], some (.int)⟩ := by decide +kernel
set_option maxRecDepth 65536 in
set_option maxHeartbeats 40000000 in
theorem rm_cp2_3 (l : Launch) (Z : State) (a0 : Array Value) (hw : ∀ d ∈ tables_1, d.before a0 Z = true)  (qa : Addr) (qb : Addr) (h0 : Heap) (n0 : Nat) (ga : n0 ≤ qb) (c0 c1 c2 : Int32) (hc0 : ¬ (255 : Int32) < c0) (hc1 : ¬ (255 : Int32) < c1) (hc2 : ¬ (255 : Int32) < c2) (hne : qa ≠ qb) (A1 : Arl Z h0 qa .char [(.int c0), (.int c1), (.int c2)])(A2 : Arl Z h0 qb .byte [(.int (0 : Int32)), (.int (0 : Int32)), (.int (0 : Int32))]) :
    MetFree l (⟨"java/lang/StringUTF16", "compress", "([CI[BII)I"⟩ : MethodName) (head1 [Jvm.Cond.code (⟨"java/lang/StringUTF16", "compress", "([CI[BII)I"⟩ : MethodName) jdk_52_method_21_code 7 (some Jvm.ClassFile.FieldType.int)] ({ frames := 0, cells := 0, slots := 0, locals := 0 } : Room)) (fun a U => a = #[(.ref qa), (.int (0 : Int32)), (.ref qb), (.int (0 : Int32)), (.int (3 : Int32))] ∧ Z.Warmed39 U.vm ∧ U.heap = h0) (fun _ _ _ _ _ => True) (fun _ U o U' => ∃ v L, o = .returned v ∧ CQ2_3 Z qb c0 c1 c2 h0 n0 v U'.heap L ∧ FrameEnd U o U' L ({ frames := 0, cells := 0, slots := 0, locals := 0 } : Room).cells ({ frames := 0, cells := 0, slots := 0, locals := 0 } : Room).slots) := by
  refine MetFree.of_bodySF pn_cp2_3 hisR ?_
  intro p e s m args below meth c s₁ Bd hml0 hP hK
  obtain ⟨rfl, hZ, hh⟩ := hP
  have hx := Bd.exec
  have hby := Bd.bytes
  have hml : c.maxLocals = 7 := hml0
  have hown : s.vm.findClass "java/lang/StringUTF16" = some m.cls := findClass_of_methodNamed Bd.named
  have hnm := (name_of_methodNamed Bd.named Bd.method).1
  have hlk : meth.locks = false := BodyLoose.notSynchronized Bd
  have X0 : Stand p l e ({ frames := 0, cells := 0, slots := 0, locals := 0 } : Room) s m #[(.ref qa), (.int (0 : Int32)), (.ref qb), (.int (0 : Int32)), (.int (3 : Int32))] below meth c s₁ [] 0 0 := Stand.of_body Bd
  have e0 : s₁.heap = h0 := by rw [← hh, Bd.state]; rfl
  show Go p e below (EndN below s (CQ2_3 Z qb c0 c1 c2 h0 n0) ({ frames := 0, cells := 0, slots := 0, locals := 0 } : Room).cells ({ frames := 0, cells := 0, slots := 0, locals := 0 } : Room).slots) (s₁.setTop (entryFrame m #[(.ref qa), (.int (0 : Int32)), (.ref qb), (.int (0 : Int32)), (.int (3 : Int32))] 7))
  rw [ef_cp2_3]
  refine g_iconst X0 hx 1 (0 : Int32) (hb hby cp2_3_0) rfl rfl ?_
  refine g_istore X0 hx 3 #[.val (.ref qa), .val (.int (0 : Int32)), .val (.ref qb), .val (.int (0 : Int32)), .val (.int (3 : Int32)), .val (.int (0 : Int32)), .unset] (hb hby cp2_3_1) rfl rfl ?_
  refine g_iload X0 hx 5 (0 : Int32) (hb hby cp2_3_3) rfl rfl ?_
  refine g_iload X0 hx 7 (3 : Int32) (hb hby cp2_3_5) rfl rfl ?_
  refine g_icmpN X0 hx 10 (hb hby cp2_3_7) (XT.ii_ge_f (by decide)) rfl ?_
  refine g_aload_n X0 hx 11 (.ref qa) (hb hby cp2_3_10) rfl rfl rfl ?_
  refine g_iload_n X0 hx 12 (0 : Int32) (hb hby cp2_3_11) rfl rfl ?_
  refine g_caload X0 hx hZ e0 A1 (k := 0) rfl (.int c0) rfl 13 (hb hby cp2_3_12) rfl ?_
  refine g_istore X0 hx 15 #[.val (.ref qa), .val (.int (0 : Int32)), .val (.ref qb), .val (.int (0 : Int32)), .val (.int (3 : Int32)), .val (.int (0 : Int32)), .val (.int c0)] (hb hby cp2_3_13) rfl rfl ?_
  refine g_iload X0 hx 17 c0 (hb hby cp2_3_15) rfl rfl ?_
  refine g_sipush X0 hx 20 (255 : Int32) (hb hby cp2_3_17) rfl rfl ?_
  refine g_icmpY X0 hx 26 (hb hby cp2_3_20) (XT.ii_le_t hc0) (by decide) (by decide) ?_
  refine g_aload_n X0 hx 27 (.ref qb) (hb hby cp2_3_26) rfl rfl rfl ?_
  refine g_iload_n X0 hx 28 (0 : Int32) (hb hby cp2_3_27) rfl rfl ?_
  refine g_iload X0 hx 30 c0 (hb hby cp2_3_28) rfl rfl ?_
  refine g_i2b X0 hx 31 (hb hby cp2_3_30) rfl ?_
  obtain ⟨T_31, h_31, X_31, e_31, W_31, B_31, st_31⟩ := g_bastore X0 hx hZ e0 A2 (j := (0 : Int32)) (c0.toInt8.toInt32) (k := 0) rfl (Nat.le_of_ble_eq_true rfl) 32 (hb hby cp2_3_31) rfl
  refine st_31 ?_
  have C_31 : Arl Z h_31 qb .byte [(.int (c0.toInt8.toInt32)), (.int (0 : Int32)), (.int (0 : Int32))] := by have z := B_31; rw [show (nar .byte (c0.toInt8.toInt32)) = (c0.toInt8.toInt32) from own_nb _] at z; exact z
  have F_31_0 : Arl Z h_31 qb .byte [(.int (c0.toInt8.toInt32)), (.int (0 : Int32)), (.int (0 : Int32))] := C_31
  have F_31_1 : Arl Z h_31 qa .char [(.int c0), (.int c1), (.int c2)] := A1.other W_31 hne
  have N_31 := Fr.snoc X_31 (Fr.nil _) ga
  have Z_31 : h0.size ≤ h_31.size := by rw [W_31.size]; exact (Nat.le_refl _)
  refine g_iinc X_31 hx 35 (1 : Int32) #[.val (.ref qa), .val (.int (1 : Int32)), .val (.ref qb), .val (.int (0 : Int32)), .val (.int (3 : Int32)), .val (.int (0 : Int32)), .val (.int c0)] (hb hby cp2_3_32) rfl rfl rfl rfl ?_
  refine g_iinc X_31 hx 38 (1 : Int32) #[.val (.ref qa), .val (.int (1 : Int32)), .val (.ref qb), .val (.int (1 : Int32)), .val (.int (3 : Int32)), .val (.int (0 : Int32)), .val (.int c0)] (hb hby cp2_3_35) rfl rfl rfl rfl ?_
  refine g_iinc X_31 hx 41 (1 : Int32) #[.val (.ref qa), .val (.int (1 : Int32)), .val (.ref qb), .val (.int (1 : Int32)), .val (.int (3 : Int32)), .val (.int (1 : Int32)), .val (.int c0)] (hb hby cp2_3_38) rfl rfl rfl rfl ?_
  refine g_goto X_31 hx 3 (hb hby cp2_3_41) (by decide) (by decide) ?_
  refine g_iload X_31 hx 5 (1 : Int32) (hb hby cp2_3_3) rfl rfl ?_
  refine g_iload X_31 hx 7 (3 : Int32) (hb hby cp2_3_5) rfl rfl ?_
  refine g_icmpN X_31 hx 10 (hb hby cp2_3_7) (XT.ii_ge_f (by decide)) rfl ?_
  refine g_aload_n X_31 hx 11 (.ref qa) (hb hby cp2_3_10) rfl rfl rfl ?_
  refine g_iload_n X_31 hx 12 (1 : Int32) (hb hby cp2_3_11) rfl rfl ?_
  refine g_caload X_31 hx hZ e_31 F_31_1 (k := 1) rfl (.int c1) rfl 13 (hb hby cp2_3_12) rfl ?_
  refine g_istore X_31 hx 15 #[.val (.ref qa), .val (.int (1 : Int32)), .val (.ref qb), .val (.int (1 : Int32)), .val (.int (3 : Int32)), .val (.int (1 : Int32)), .val (.int c1)] (hb hby cp2_3_13) rfl rfl ?_
  refine g_iload X_31 hx 17 c1 (hb hby cp2_3_15) rfl rfl ?_
  refine g_sipush X_31 hx 20 (255 : Int32) (hb hby cp2_3_17) rfl rfl ?_
  refine g_icmpY X_31 hx 26 (hb hby cp2_3_20) (XT.ii_le_t hc1) (by decide) (by decide) ?_
  refine g_aload_n X_31 hx 27 (.ref qb) (hb hby cp2_3_26) rfl rfl rfl ?_
  refine g_iload_n X_31 hx 28 (1 : Int32) (hb hby cp2_3_27) rfl rfl ?_
  refine g_iload X_31 hx 30 c1 (hb hby cp2_3_28) rfl rfl ?_
  refine g_i2b X_31 hx 31 (hb hby cp2_3_30) rfl ?_
  obtain ⟨T_31x1, h_31x1, X_31x1, e_31x1, W_31x1, B_31x1, st_31x1⟩ := g_bastore X_31 hx hZ e_31 F_31_0 (j := (1 : Int32)) (c1.toInt8.toInt32) (k := 1) rfl (Nat.le_of_ble_eq_true rfl) 32 (hb hby cp2_3_31) rfl
  refine st_31x1 ?_
  have C_31x1 : Arl Z h_31x1 qb .byte [(.int (c0.toInt8.toInt32)), (.int (c1.toInt8.toInt32)), (.int (0 : Int32))] := by have z := B_31x1; rw [show (nar .byte (c1.toInt8.toInt32)) = (c1.toInt8.toInt32) from own_nb _] at z; exact z
  have F_31x1_0 : Arl Z h_31x1 qb .byte [(.int (c0.toInt8.toInt32)), (.int (c1.toInt8.toInt32)), (.int (0 : Int32))] := C_31x1
  have F_31x1_1 : Arl Z h_31x1 qa .char [(.int c0), (.int c1), (.int c2)] := F_31_1.other W_31x1 hne
  have N_31x1 := Fr.snoc X_31x1 N_31 ga
  have Z_31x1 : h0.size ≤ h_31x1.size := by rw [W_31x1.size]; exact Z_31
  refine g_iinc X_31x1 hx 35 (1 : Int32) #[.val (.ref qa), .val (.int (2 : Int32)), .val (.ref qb), .val (.int (1 : Int32)), .val (.int (3 : Int32)), .val (.int (1 : Int32)), .val (.int c1)] (hb hby cp2_3_32) rfl rfl rfl rfl ?_
  refine g_iinc X_31x1 hx 38 (1 : Int32) #[.val (.ref qa), .val (.int (2 : Int32)), .val (.ref qb), .val (.int (2 : Int32)), .val (.int (3 : Int32)), .val (.int (1 : Int32)), .val (.int c1)] (hb hby cp2_3_35) rfl rfl rfl rfl ?_
  refine g_iinc X_31x1 hx 41 (1 : Int32) #[.val (.ref qa), .val (.int (2 : Int32)), .val (.ref qb), .val (.int (2 : Int32)), .val (.int (3 : Int32)), .val (.int (2 : Int32)), .val (.int c1)] (hb hby cp2_3_38) rfl rfl rfl rfl ?_
  refine g_goto X_31x1 hx 3 (hb hby cp2_3_41) (by decide) (by decide) ?_
  refine g_iload X_31x1 hx 5 (2 : Int32) (hb hby cp2_3_3) rfl rfl ?_
  refine g_iload X_31x1 hx 7 (3 : Int32) (hb hby cp2_3_5) rfl rfl ?_
  refine g_icmpN X_31x1 hx 10 (hb hby cp2_3_7) (XT.ii_ge_f (by decide)) rfl ?_
  refine g_aload_n X_31x1 hx 11 (.ref qa) (hb hby cp2_3_10) rfl rfl rfl ?_
  refine g_iload_n X_31x1 hx 12 (2 : Int32) (hb hby cp2_3_11) rfl rfl ?_
  refine g_caload X_31x1 hx hZ e_31x1 F_31x1_1 (k := 2) rfl (.int c2) rfl 13 (hb hby cp2_3_12) rfl ?_
  refine g_istore X_31x1 hx 15 #[.val (.ref qa), .val (.int (2 : Int32)), .val (.ref qb), .val (.int (2 : Int32)), .val (.int (3 : Int32)), .val (.int (2 : Int32)), .val (.int c2)] (hb hby cp2_3_13) rfl rfl ?_
  refine g_iload X_31x1 hx 17 c2 (hb hby cp2_3_15) rfl rfl ?_
  refine g_sipush X_31x1 hx 20 (255 : Int32) (hb hby cp2_3_17) rfl rfl ?_
  refine g_icmpY X_31x1 hx 26 (hb hby cp2_3_20) (XT.ii_le_t hc2) (by decide) (by decide) ?_
  refine g_aload_n X_31x1 hx 27 (.ref qb) (hb hby cp2_3_26) rfl rfl rfl ?_
  refine g_iload_n X_31x1 hx 28 (2 : Int32) (hb hby cp2_3_27) rfl rfl ?_
  refine g_iload X_31x1 hx 30 c2 (hb hby cp2_3_28) rfl rfl ?_
  refine g_i2b X_31x1 hx 31 (hb hby cp2_3_30) rfl ?_
  obtain ⟨T_31x2, h_31x2, X_31x2, e_31x2, W_31x2, B_31x2, st_31x2⟩ := g_bastore X_31x1 hx hZ e_31x1 F_31x1_0 (j := (2 : Int32)) (c2.toInt8.toInt32) (k := 2) rfl (Nat.le_of_ble_eq_true rfl) 32 (hb hby cp2_3_31) rfl
  refine st_31x2 ?_
  have C_31x2 : Arl Z h_31x2 qb .byte [(.int (c0.toInt8.toInt32)), (.int (c1.toInt8.toInt32)), (.int (c2.toInt8.toInt32))] := by have z := B_31x2; rw [show (nar .byte (c2.toInt8.toInt32)) = (c2.toInt8.toInt32) from own_nb _] at z; exact z
  have F_31x2_0 : Arl Z h_31x2 qb .byte [(.int (c0.toInt8.toInt32)), (.int (c1.toInt8.toInt32)), (.int (c2.toInt8.toInt32))] := C_31x2
  have F_31x2_1 : Arl Z h_31x2 qa .char [(.int c0), (.int c1), (.int c2)] := F_31x1_1.other W_31x2 hne
  have N_31x2 := Fr.snoc X_31x2 N_31x1 ga
  have Z_31x2 : h0.size ≤ h_31x2.size := by rw [W_31x2.size]; exact Z_31x1
  refine g_iinc X_31x2 hx 35 (1 : Int32) #[.val (.ref qa), .val (.int (3 : Int32)), .val (.ref qb), .val (.int (2 : Int32)), .val (.int (3 : Int32)), .val (.int (2 : Int32)), .val (.int c2)] (hb hby cp2_3_32) rfl rfl rfl rfl ?_
  refine g_iinc X_31x2 hx 38 (1 : Int32) #[.val (.ref qa), .val (.int (3 : Int32)), .val (.ref qb), .val (.int (3 : Int32)), .val (.int (3 : Int32)), .val (.int (2 : Int32)), .val (.int c2)] (hb hby cp2_3_35) rfl rfl rfl rfl ?_
  refine g_iinc X_31x2 hx 41 (1 : Int32) #[.val (.ref qa), .val (.int (3 : Int32)), .val (.ref qb), .val (.int (3 : Int32)), .val (.int (3 : Int32)), .val (.int (3 : Int32)), .val (.int c2)] (hb hby cp2_3_38) rfl rfl rfl rfl ?_
  refine g_goto X_31x2 hx 3 (hb hby cp2_3_41) (by decide) (by decide) ?_
  refine g_iload X_31x2 hx 5 (3 : Int32) (hb hby cp2_3_3) rfl rfl ?_
  refine g_iload X_31x2 hx 7 (3 : Int32) (hb hby cp2_3_5) rfl rfl ?_
  refine g_icmpY X_31x2 hx 44 (hb hby cp2_3_7) (XT.ii_ge_t (by decide)) (by decide) (by decide) ?_
  refine g_iload X_31x2 hx 46 (3 : Int32) (hb hby cp2_3_44) rfl rfl ?_
  exact Go.retI X_31x2 hx hlk Bd.returns (hb hby cp2_3_46) (by decide) (by decide) ⟨rfl, N_31x2, e_31x2.symm ▸ ((((Keep.refl _ _).wr W_31 (Or.inl (by simp))).wr W_31x1 (Or.inl (by simp))).wr W_31x2 (Or.inl (by simp))), e_31x2.symm ▸ F_31x2_0⟩
def CQ1_3 (Z : State) (c0 c1 c2 : Int32) (h0 : Heap) (n0 : Nat) (v : Option Value) (h : Heap) (L : List Loc) : Prop := ∃ qb : Addr, v = some (.ref qb) ∧ h0.size ≤ qb ∧ Fr n0 L ∧ Keep h0 h [] ∧ Arl Z h qb .byte [(.int (c0.toInt8.toInt32)), (.int (c1.toInt8.toInt32)), (.int (c2.toInt8.toInt32))]
theorem cp1_3_0 : decode jdk_52_method_16_code 0 = .ok (.iload_n 2, 1) := by decide +kernel
theorem cp1_3_1 : decode jdk_52_method_16_code 1 = .ok (.newarray .byte, 2) := by decide +kernel
theorem cp1_3_3 : decode jdk_52_method_16_code 3 = .ok (.astore_n 3, 1) := by decide +kernel
theorem cp1_3_4 : decode jdk_52_method_16_code 4 = .ok (.aload_n 0, 1) := by decide +kernel
theorem cp1_3_5 : decode jdk_52_method_16_code 5 = .ok (.iload_n 1, 1) := by decide +kernel
theorem cp1_3_6 : decode jdk_52_method_16_code 6 = .ok (.aload_n 3, 1) := by decide +kernel
theorem cp1_3_7 : decode jdk_52_method_16_code 7 = .ok (.iconst 0, 1) := by decide +kernel
theorem cp1_3_8 : decode jdk_52_method_16_code 8 = .ok (.iload_n 2, 1) := by decide +kernel
theorem cp1_3_9 : decode jdk_52_method_16_code 9 = .ok (.invokestatic 115, 3) := by decide +kernel
theorem cp1_3_12 : decode jdk_52_method_16_code 12 = .ok (.istore 4, 2) := by decide +kernel
theorem cp1_3_14 : decode jdk_52_method_16_code 14 = .ok (.iload 4, 2) := by decide +kernel
theorem cp1_3_16 : decode jdk_52_method_16_code 16 = .ok (.iload_n 2, 1) := by decide +kernel
theorem cp1_3_17 : decode jdk_52_method_16_code 17 = .ok (.if_icmp .eq 40, 3) := by decide +kernel
theorem cp1_3_20 : decode jdk_52_method_16_code 20 = .ok (.aload_n 0, 1) := by decide +kernel
theorem cp1_3_21 : decode jdk_52_method_16_code 21 = .ok (.iload_n 1, 1) := by decide +kernel
theorem cp1_3_22 : decode jdk_52_method_16_code 22 = .ok (.iload_n 2, 1) := by decide +kernel
theorem cp1_3_23 : decode jdk_52_method_16_code 23 = .ok (.invokestatic 119, 3) := by decide +kernel
theorem cp1_3_26 : decode jdk_52_method_16_code 26 = .ok (.astore 5, 2) := by decide +kernel
theorem cp1_3_28 : decode jdk_52_method_16_code 28 = .ok (.aload 5, 2) := by decide +kernel
theorem cp1_3_30 : decode jdk_52_method_16_code 30 = .ok (.iload 4, 2) := by decide +kernel
theorem cp1_3_32 : decode jdk_52_method_16_code 32 = .ok (.invokestatic 71, 3) := by decide +kernel
theorem cp1_3_35 : decode jdk_52_method_16_code 35 = .ok (.sipush 255, 3) := by decide +kernel
theorem cp1_3_38 : decode jdk_52_method_16_code 38 = .ok (.if_icmp .gt 16, 3) := by decide +kernel
theorem cp1_3_41 : decode jdk_52_method_16_code 41 = .ok (.aload 5, 2) := by decide +kernel
theorem cp1_3_43 : decode jdk_52_method_16_code 43 = .ok (.iconst 0, 1) := by decide +kernel
theorem cp1_3_44 : decode jdk_52_method_16_code 44 = .ok (.aload_n 3, 1) := by decide +kernel
theorem cp1_3_45 : decode jdk_52_method_16_code 45 = .ok (.iconst 0, 1) := by decide +kernel
theorem cp1_3_46 : decode jdk_52_method_16_code 46 = .ok (.iload_n 2, 1) := by decide +kernel
theorem cp1_3_47 : decode jdk_52_method_16_code 47 = .ok (.invokestatic 123, 3) := by decide +kernel
theorem cp1_3_50 : decode jdk_52_method_16_code 50 = .ok (.iload_n 2, 1) := by decide +kernel
theorem cp1_3_51 : decode jdk_52_method_16_code 51 = .ok (.if_icmp .eq 6, 3) := by decide +kernel
theorem cp1_3_54 : decode jdk_52_method_16_code 54 = .ok (.aload 5, 2) := by decide +kernel
theorem cp1_3_56 : decode jdk_52_method_16_code 56 = .ok (.areturn, 1) := by decide +kernel
theorem cp1_3_57 : decode jdk_52_method_16_code 57 = .ok (.aload_n 3, 1) := by decide +kernel
theorem cp1_3_58 : decode jdk_52_method_16_code 58 = .ok (.areturn, 1) := by decide +kernel
theorem pn_cp1_3 : plainFor (⟨"java/lang/StringUTF16", "compress", "([CII)[B"⟩ : MethodName) = true := by first | exact plainFor_of_name (by first | (simp [plainName, overriddenIn]; done) | decide +kernel) | decide +kernel
theorem ef_cp1_3 (m : MethodId) (qa : Addr)  : entryFrame m #[(.ref qa), (.int (0 : Int32)), (.int (3 : Int32))] 6 = mkF m 0 #[.val (.ref qa), .val (.int (0 : Int32)), .val (.int (3 : Int32)), .unset, .unset, .unset] [] := by first | (simp [entryFrame, mkF, argsToLocals, Value.category, maxLocals]; done) | rfl
theorem pd_cp1_3 : parseMethodDescriptor "([CII)[B" = some ⟨[.array (.char), .int, .int], some (.array (.byte))⟩ := by decide +kernel
set_option maxRecDepth 65536 in
set_option maxHeartbeats 40000000 in
theorem rm_cp1_3 (l : Launch) (Z : State) (a0 : Array Value) (hw : ∀ d ∈ tables_1, d.before a0 Z = true)  (qa : Addr) (h0 : Heap) (n0 : Nat) (Z0 : n0 ≤ h0.size) (c0 c1 c2 : Int32) (hc0 : ¬ (255 : Int32) < c0) (hc1 : ¬ (255 : Int32) < c1) (hc2 : ¬ (255 : Int32) < c2) (A1 : Arl Z h0 qa .char [(.int c0), (.int c1), (.int c2)]) :
    MetFree l (⟨"java/lang/StringUTF16", "compress", "([CII)[B"⟩ : MethodName) (head1 [Jvm.Cond.code (⟨"java/lang/StringUTF16", "compress", "([CII)[B"⟩ : MethodName) jdk_52_method_16_code 6 (some (Jvm.ClassFile.FieldType.array Jvm.ClassFile.FieldType.byte))] ({ frames := 1, cells := 1, slots := 3, locals := 18 } : Room)) (fun a U => a = #[(.ref qa), (.int (0 : Int32)), (.int (3 : Int32))] ∧ Z.Warmed39 U.vm ∧ U.heap = h0) (fun _ _ _ _ _ => True) (fun _ U o U' => ∃ v L, o = .returned v ∧ CQ1_3 Z c0 c1 c2 h0 n0 v U'.heap L ∧ FrameEnd U o U' L ({ frames := 1, cells := 1, slots := 3, locals := 18 } : Room).cells ({ frames := 1, cells := 1, slots := 3, locals := 18 } : Room).slots) := by
  refine MetFree.of_bodySF pn_cp1_3 hisR ?_
  intro p e s m args below meth c s₁ Bd hml0 hP hK
  obtain ⟨rfl, hZ, hh⟩ := hP
  have hx := Bd.exec
  have hby := Bd.bytes
  have hml : c.maxLocals = 6 := hml0
  have hown : s.vm.findClass "java/lang/StringUTF16" = some m.cls := findClass_of_methodNamed Bd.named
  have hnm := (name_of_methodNamed Bd.named Bd.method).1
  have hlk : meth.locks = false := BodyLoose.notSynchronized Bd
  have X0 : Stand p l e ({ frames := 1, cells := 1, slots := 3, locals := 18 } : Room) s m #[(.ref qa), (.int (0 : Int32)), (.int (3 : Int32))] below meth c s₁ [] 0 0 := Stand.of_body Bd
  have e0 : s₁.heap = h0 := by rw [← hh, Bd.state]; rfl
  show Go p e below (EndN below s (CQ1_3 Z c0 c1 c2 h0 n0) ({ frames := 1, cells := 1, slots := 3, locals := 18 } : Room).cells ({ frames := 1, cells := 1, slots := 3, locals := 18 } : Room).slots) (s₁.setTop (entryFrame m #[(.ref qa), (.int (0 : Int32)), (.int (3 : Int32))] 6))
  rw [ef_cp1_3]
  refine g_iload_n X0 hx 1 (3 : Int32) (hb hby cp1_3_0) rfl rfl ?_
  obtain ⟨T_1, h_1, a_1, k_1, X_1, e_1, ga_1, E_1, A_1, st_1⟩ := g_newP X0 hx hZ (aty := .byte) (n := (3 : Int32)) (hw _ (List.mem_of_getElem? (i := 1) rfl)) e0 3 (by decide) (by decide) (by decide) (by decide) (by decide) 3 (hb hby cp1_3_1) rfl
  refine st_1 ?_
  have g_1 : n0 ≤ a_1 := by rw [ga_1]; exact Nat.le_trans Z0 (Nat.le_refl _)
  have gh_1 : h0.size ≤ a_1 := by rw [ga_1]; exact (Nat.le_refl _)
  have n_1_qa : qa ≠ a_1 := by rw [ga_1]; exact Nat.ne_of_lt A1.lt
  have F_1_0 : Arl Z h_1 qa .char [(.int c0), (.int c1), (.int c2)] := A1.ext E_1
  have Z_1 : h0.size ≤ h_1.size := Nat.le_trans (Nat.le_refl _) E_1.1
  have G_1 : Arl Z h_1 a_1 .byte [(.int (0 : Int32)), (.int (0 : Int32)), (.int (0 : Int32))] := Arl.new A_1 rfl
  refine g_astore_n X_1 hx 4 #[.val (.ref qa), .val (.int (0 : Int32)), .val (.int (3 : Int32)), .val (.ref a_1), .unset, .unset] (hb hby cp1_3_3) rfl rfl rfl ?_
  refine g_aload_n X_1 hx 5 (.ref qa) (hb hby cp1_3_4) rfl rfl rfl ?_
  refine g_iload_n X_1 hx 6 (0 : Int32) (hb hby cp1_3_5) rfl rfl ?_
  refine g_aload_n X_1 hx 7 (.ref a_1) (hb hby cp1_3_6) rfl rfl rfl ?_
  refine g_iconst X_1 hx 8 (0 : Int32) (hb hby cp1_3_7) rfl rfl ?_
  refine g_iload_n X_1 hx 9 (3 : Int32) (hb hby cp1_3_8) rfl rfl ?_
  obtain ⟨_, T_9, L_9, X_9, ⟨rfl, M_9, K_9, B_9⟩, st_9⟩ := g_callS X_1 hx hZ  (own := "java/lang/StringUTF16") (index := 115) (y := (⟨"java/lang/StringUTF16", "compress", "([CI[BII)I"⟩ : MethodName)) (as' := [(.ref qa), (.int (0 : Int32)), (.ref a_1), (.int (0 : Int32)), (.int (3 : Int32))]) hown (hw _ (List.mem_of_getElem? (i := 45) rfl)) (hw _ (List.mem_of_getElem? (i := 46) rfl)) (hw _ (List.mem_of_getElem? (i := 43) rfl)) (hw _ (List.mem_of_getElem? (i := 47) rfl)) (by decide) e_1 (rm_cp2_3 l Z a0 hw qa a_1 h_1 n0 g_1 c0 c1 c2 hc0 hc1 hc2 n_1_qa F_1_0 G_1) pd_cp2_3 rfl 0 (by decide) (by decide) (by decide) (by decide) (pc := 9) (Ls := #[.val (.ref qa), .val (.int (0 : Int32)), .val (.int (3 : Int32)), .val (.ref a_1), .unset, .unset]) (rest := []) (st := [(.int (3 : Int32)), (.int (0 : Int32)), (.ref a_1), (.int (0 : Int32)), (.ref qa)]) (by rw [hml]; rfl) rfl (Nat.le_of_eq rfl) (hb hby cp1_3_9)
  refine Go.of ?_ st_9
  have F_9_0 : Arl Z T_9.heap a_1 .byte [(.int (c0.toInt8.toInt32)), (.int (c1.toInt8.toInt32)), (.int (c2.toInt8.toInt32))] := B_9
  have F_9_1 : Arl Z T_9.heap qa .char [(.int c0), (.int c1), (.int c2)] := F_1_0.keep K_9 (ninS n_1_qa nin0)
  have N_9 := Fr.app (Fr.nil _) M_9
  have Z_9 : h0.size ≤ T_9.heap.size := Nat.le_trans Z_1 K_9.1
  show Go p e below _ (T_9.setTop (mkF m 12 #[.val (.ref qa), .val (.int (0 : Int32)), .val (.int (3 : Int32)), .val (.ref a_1), .unset, .unset] [(.int (3 : Int32))]))
  refine g_istore X_9 hx 14 #[.val (.ref qa), .val (.int (0 : Int32)), .val (.int (3 : Int32)), .val (.ref a_1), .val (.int (3 : Int32)), .unset] (hb hby cp1_3_12) rfl rfl ?_
  refine g_iload X_9 hx 16 (3 : Int32) (hb hby cp1_3_14) rfl rfl ?_
  refine g_iload_n X_9 hx 17 (3 : Int32) (hb hby cp1_3_16) rfl rfl ?_
  refine g_icmpY X_9 hx 57 (hb hby cp1_3_17) (XT.ii_eq_t (by decide)) (by decide) (by decide) ?_
  refine g_aload_n X_9 hx 58 (.ref a_1) (hb hby cp1_3_57) rfl rfl rfl ?_
  exact Go.retA X_9 hx hlk Bd.returns rfl rfl (hb hby cp1_3_58) (by decide) (by decide) ⟨_, rfl, gh_1, N_9, (((Keep.refl _ _).ext E_1).trans K_9 (allS (Or.inr gh_1) all0)), F_9_0⟩
def SQ_3 (Z : State) (qa : Addr) (c0 c1 c2 : Int32) (h0 : Heap) (n0 : Nat) (v : Option Value) (h : Heap) (L : List Loc) : Prop := ∃ qb : Addr, v = none ∧ h0.size ≤ qb ∧ Fr n0 L ∧ Keep h0 h [qa] ∧ Stl Z h qa qb 0 [(.int (c0.toInt8.toInt32)), (.int (c1.toInt8.toInt32)), (.int (c2.toInt8.toInt32))]
theorem in2_3_0 : decode jdk_42_method_149_code 0 = .ok (.aload_n 0, 1) := by decide +kernel
theorem in2_3_1 : decode jdk_42_method_149_code 1 = .ok (.invokespecial 1, 3) := by decide +kernel
theorem in2_3_4 : decode jdk_42_method_149_code 4 = .ok (.iload_n 3, 1) := by decide +kernel
theorem in2_3_5 : decode jdk_42_method_149_code 5 = .ok (.ifCond .ne 22, 3) := by decide +kernel
theorem in2_3_8 : decode jdk_42_method_149_code 8 = .ok (.aload_n 0, 1) := by decide +kernel
theorem in2_3_9 : decode jdk_42_method_149_code 9 = .ok (.ldc 7, 2) := by decide +kernel
theorem in2_3_11 : decode jdk_42_method_149_code 11 = .ok (.getfield 9, 3) := by decide +kernel
theorem in2_3_14 : decode jdk_42_method_149_code 14 = .ok (.putfield 9, 3) := by decide +kernel
theorem in2_3_17 : decode jdk_42_method_149_code 17 = .ok (.aload_n 0, 1) := by decide +kernel
theorem in2_3_18 : decode jdk_42_method_149_code 18 = .ok (.ldc 7, 2) := by decide +kernel
theorem in2_3_20 : decode jdk_42_method_149_code 20 = .ok (.getfield 15, 3) := by decide +kernel
theorem in2_3_23 : decode jdk_42_method_149_code 23 = .ok (.putfield 15, 3) := by decide +kernel
theorem in2_3_26 : decode jdk_42_method_149_code 26 = .ok (.return_, 1) := by decide +kernel
theorem in2_3_27 : decode jdk_42_method_149_code 27 = .ok (.getstatic 38, 3) := by decide +kernel
theorem in2_3_30 : decode jdk_42_method_149_code 30 = .ok (.ifCond .eq 28, 3) := by decide +kernel
theorem in2_3_33 : decode jdk_42_method_149_code 33 = .ok (.aload_n 1, 1) := by decide +kernel
theorem in2_3_34 : decode jdk_42_method_149_code 34 = .ok (.iload_n 2, 1) := by decide +kernel
theorem in2_3_35 : decode jdk_42_method_149_code 35 = .ok (.iload_n 3, 1) := by decide +kernel
theorem in2_3_36 : decode jdk_42_method_149_code 36 = .ok (.invokestatic 177, 3) := by decide +kernel
theorem in2_3_39 : decode jdk_42_method_149_code 39 = .ok (.astore 5, 2) := by decide +kernel
theorem in2_3_41 : decode jdk_42_method_149_code 41 = .ok (.aload_n 0, 1) := by decide +kernel
theorem in2_3_42 : decode jdk_42_method_149_code 42 = .ok (.aload 5, 2) := by decide +kernel
theorem in2_3_44 : decode jdk_42_method_149_code 44 = .ok (.iload_n 3, 1) := by decide +kernel
theorem in2_3_45 : decode jdk_42_method_149_code 45 = .ok (.invokestatic 47, 3) := by decide +kernel
theorem in2_3_48 : decode jdk_42_method_149_code 48 = .ok (.putfield 15, 3) := by decide +kernel
theorem in2_3_51 : decode jdk_42_method_149_code 51 = .ok (.aload_n 0, 1) := by decide +kernel
theorem in2_3_52 : decode jdk_42_method_149_code 52 = .ok (.aload 5, 2) := by decide +kernel
theorem in2_3_54 : decode jdk_42_method_149_code 54 = .ok (.putfield 9, 3) := by decide +kernel
theorem in2_3_57 : decode jdk_42_method_149_code 57 = .ok (.return_, 1) := by decide +kernel
theorem in2_3_58 : decode jdk_42_method_149_code 58 = .ok (.aload_n 0, 1) := by decide +kernel
theorem in2_3_59 : decode jdk_42_method_149_code 59 = .ok (.iconst 1, 1) := by decide +kernel
theorem in2_3_60 : decode jdk_42_method_149_code 60 = .ok (.putfield 15, 3) := by decide +kernel
theorem in2_3_63 : decode jdk_42_method_149_code 63 = .ok (.aload_n 0, 1) := by decide +kernel
theorem in2_3_64 : decode jdk_42_method_149_code 64 = .ok (.aload_n 1, 1) := by decide +kernel
theorem in2_3_65 : decode jdk_42_method_149_code 65 = .ok (.iload_n 2, 1) := by decide +kernel
theorem in2_3_66 : decode jdk_42_method_149_code 66 = .ok (.iload_n 3, 1) := by decide +kernel
theorem in2_3_67 : decode jdk_42_method_149_code 67 = .ok (.invokestatic 180, 3) := by decide +kernel
theorem in2_3_70 : decode jdk_42_method_149_code 70 = .ok (.putfield 9, 3) := by decide +kernel
theorem in2_3_73 : decode jdk_42_method_149_code 73 = .ok (.return_, 1) := by decide +kernel
theorem pn_in2_3 : plainFor (⟨"java/lang/String", "<init>", "([CIILjava/lang/Void;)V"⟩ : MethodName) = true := by first | exact plainFor_of_name (by first | (simp [plainName, overriddenIn]; done) | decide +kernel) | decide +kernel
theorem ef_in2_3 (m : MethodId) (qa : Addr) (qc : Addr)  : entryFrame m #[(.ref qa), (.ref qc), (.int (0 : Int32)), (.int (3 : Int32)), .null] 6 = mkF m 0 #[.val (.ref qa), .val (.ref qc), .val (.int (0 : Int32)), .val (.int (3 : Int32)), .val .null, .unset] [] := by first | (simp [entryFrame, mkF, argsToLocals, Value.category, maxLocals]; done) | rfl
theorem pd_in2_3 : parseMethodDescriptor "([CIILjava/lang/Void;)V" = some ⟨[.array (.char), .int, .int, .object "java/lang/Void"], none⟩ := by decide +kernel
set_option maxRecDepth 65536 in
set_option maxHeartbeats 40000000 in
theorem rm_in2_3 (l : Launch) (Z : State) (a0 : Array Value) (hw : ∀ d ∈ tables_1, d.before a0 Z = true)  (qa : Addr) (qc : Addr) (h0 : Heap) (n0 : Nat) (XO : Old Z n0 h0) (cs : Int32) (hcs : ¬ cs = (0 : Int32)) (SC : Sta Z Z.heap "java/lang/String" "COMPACT_STRINGS" "Z" (.int cs)) (ga : n0 ≤ qa) (hne : qc ≠ qa) (c0 c1 c2 : Int32) (hc0 : ¬ (255 : Int32) < c0) (hc1 : ¬ (255 : Int32) < c1) (hc2 : ¬ (255 : Int32) < c2) (A1 : Arl Z h0 qc .char [(.int c0), (.int c1), (.int c2)])(E1 : Exa Z h0 qa "java/lang/String")(F1 : Fld Z h0 qa "java/lang/String" "value" "[B" .null)(F2 : Fld Z h0 qa "java/lang/String" "coder" "B" (.int (0 : Int32))) :
    MetFree l (⟨"java/lang/String", "<init>", "([CIILjava/lang/Void;)V"⟩ : MethodName) (head1 [Jvm.Cond.code (⟨"java/lang/String", "<init>", "([CIILjava/lang/Void;)V"⟩ : MethodName) jdk_42_method_149_code 6 none] ({ frames := 2, cells := 1, slots := 3, locals := 35 } : Room)) (fun a U => a = #[(.ref qa), (.ref qc), (.int (0 : Int32)), (.int (3 : Int32)), .null] ∧ Z.Warmed39 U.vm ∧ U.heap = h0) (fun _ _ _ _ _ => True) (fun _ U o U' => ∃ v L, o = .returned v ∧ SQ_3 Z qa c0 c1 c2 h0 n0 v U'.heap L ∧ FrameEnd U o U' L ({ frames := 2, cells := 1, slots := 3, locals := 35 } : Room).cells ({ frames := 2, cells := 1, slots := 3, locals := 35 } : Room).slots) := by
  refine MetFree.of_bodySF pn_in2_3 hisR ?_
  intro p e s m args below meth c s₁ Bd hml0 hP hK
  obtain ⟨rfl, hZ, hh⟩ := hP
  have hx := Bd.exec
  have hby := Bd.bytes
  have hml : c.maxLocals = 6 := hml0
  have hown : s.vm.findClass "java/lang/String" = some m.cls := findClass_of_methodNamed Bd.named
  have hnm := (name_of_methodNamed Bd.named Bd.method).1
  have hlk : meth.locks = false := BodyLoose.notSynchronized Bd
  have X0 : Stand p l e ({ frames := 2, cells := 1, slots := 3, locals := 35 } : Room) s m #[(.ref qa), (.ref qc), (.int (0 : Int32)), (.int (3 : Int32)), .null] below meth c s₁ [] 0 0 := Stand.of_body Bd
  have e0 : s₁.heap = h0 := by rw [← hh, Bd.state]; rfl
  show Go p e below (EndN below s (SQ_3 Z qa c0 c1 c2 h0 n0) ({ frames := 2, cells := 1, slots := 3, locals := 35 } : Room).cells ({ frames := 2, cells := 1, slots := 3, locals := 35 } : Room).slots) (s₁.setTop (entryFrame m #[(.ref qa), (.ref qc), (.int (0 : Int32)), (.int (3 : Int32)), .null] 6))
  rw [ef_in2_3]
  refine g_aload_n X0 hx 1 (.ref qa) (hb hby in2_3_0) rfl rfl rfl ?_
  obtain ⟨T_1, X_1, e_1, st_1⟩ := g_initO X0 hx hZ hown (hw _ (List.mem_of_getElem? (i := 17) rfl)) (hw _ (List.mem_of_getElem? (i := 18) rfl)) (hw _ (List.mem_of_getElem? (i := 19) rfl)) e0 0 (by decide) (by decide) 4 (a := qa) (Ls := #[.val (.ref qa), .val (.ref qc), .val (.int (0 : Int32)), .val (.int (3 : Int32)), .val .null, .unset]) (st := []) (by rw [hml]; rfl) (Nat.le_of_eq rfl) (hb hby in2_3_1) rfl
  refine st_1 ?_
  refine g_iload_n X_1 hx 5 (3 : Int32) (hb hby in2_3_4) rfl rfl ?_
  refine g_ifY X_1 hx 27 (hb hby in2_3_5) (XT.i0_ne_t (by decide)) (by decide) (by decide) ?_
  obtain ⟨T_27, X_27, e_27, st_27⟩ := g_getS X_1 hx hZ hown (hw _ (List.mem_of_getElem? (i := 37) rfl)) e_1 (SC.ext XO.2) 30 (hb hby in2_3_27) rfl
  refine st_27 ?_
  refine g_ifN X_27 hx 33 (hb hby in2_3_30) (XT.i0_eq_f hcs) rfl ?_
  refine g_aload_n X_27 hx 34 (.ref qc) (hb hby in2_3_33) rfl rfl rfl ?_
  refine g_iload_n X_27 hx 35 (0 : Int32) (hb hby in2_3_34) rfl rfl ?_
  refine g_iload_n X_27 hx 36 (3 : Int32) (hb hby in2_3_35) rfl rfl ?_
  obtain ⟨_, T_36, L_36, X_36, ⟨b_36, rfl, g_36, M_36, K_36, B_36⟩, st_36⟩ := g_callS X_27 hx hZ  (own := "java/lang/String") (index := 177) (y := (⟨"java/lang/StringUTF16", "compress", "([CII)[B"⟩ : MethodName)) (as' := [(.ref qc), (.int (0 : Int32)), (.int (3 : Int32))]) hown (hw _ (List.mem_of_getElem? (i := 41) rfl)) (hw _ (List.mem_of_getElem? (i := 42) rfl)) (hw _ (List.mem_of_getElem? (i := 43) rfl)) (hw _ (List.mem_of_getElem? (i := 44) rfl)) (by decide) e_27 (rm_cp1_3 l Z a0 hw qc h0 n0 (XO.1 ▸ XO.2.1) c0 c1 c2 hc0 hc1 hc2 A1) pd_cp1_3 rfl 0 (by decide) (by decide) (by decide) (by decide) (pc := 36) (Ls := #[.val (.ref qa), .val (.ref qc), .val (.int (0 : Int32)), .val (.int (3 : Int32)), .val .null, .unset]) (rest := []) (st := [(.int (3 : Int32)), (.int (0 : Int32)), (.ref qc)]) (by rw [hml]; rfl) rfl (Nat.le_of_eq rfl) (hb hby in2_3_36)
  refine Go.of ?_ st_36
  have F_36_0 : Arl Z T_36.heap qc .char [(.int c0), (.int c1), (.int c2)] := A1.keep K_36 nin0
  have F_36_1 : Exa Z T_36.heap qa "java/lang/String" := E1.keep K_36
  have F_36_2 : Fld Z T_36.heap qa "java/lang/String" "value" "[B" .null := F1.keep K_36 nin0
  have F_36_3 : Fld Z T_36.heap qa "java/lang/String" "coder" "B" (.int (0 : Int32)) := F2.keep K_36 nin0
  have N_36 := Fr.app (Fr.nil _) M_36
  have Z_36 : h0.size ≤ T_36.heap.size := Nat.le_trans (Nat.le_refl _) K_36.1
  have O_36 := Old.keep XO K_36 all0
  have ne_36 : qa ≠ b_36 := Nat.ne_of_lt (Nat.lt_of_lt_of_le E1.lt g_36)
  show Go p e below _ (T_36.setTop (mkF m 39 #[.val (.ref qa), .val (.ref qc), .val (.int (0 : Int32)), .val (.int (3 : Int32)), .val .null, .unset] [(.ref b_36)]))
  refine g_astore X_36 hx 41 #[.val (.ref qa), .val (.ref qc), .val (.int (0 : Int32)), .val (.int (3 : Int32)), .val .null, .val (.ref b_36)] (hb hby in2_3_39) rfl rfl rfl ?_
  refine g_aload_n X_36 hx 42 (.ref qa) (hb hby in2_3_41) rfl rfl rfl ?_
  refine g_aload X_36 hx 44 (.ref b_36) (hb hby in2_3_42) rfl rfl rfl ?_
  refine g_iload_n X_36 hx 45 (3 : Int32) (hb hby in2_3_44) rfl rfl ?_
  obtain ⟨_, T_45, L_45, X_45, ⟨rfl, rfl, e_45⟩, st_45⟩ := g_callS X_36 hx hZ  (own := "java/lang/String") (index := 47) (y := (⟨"java/lang/StringUTF16", "coderFromArrayLen", "([BI)B"⟩ : MethodName)) (as' := [(.ref b_36), (.int (3 : Int32))]) hown (hw _ (List.mem_of_getElem? (i := 48) rfl)) (hw _ (List.mem_of_getElem? (i := 49) rfl)) (hw _ (List.mem_of_getElem? (i := 43) rfl)) (hw _ (List.mem_of_getElem? (i := 50) rfl)) (by decide) rfl (rm_cfl l Z a0 hw b_36 (3 : Int32) T_36.heap [(.int (c0.toInt8.toInt32)), (.int (c1.toInt8.toInt32)), (.int (c2.toInt8.toInt32))] rfl B_36) pd_cfl rfl 1 (by decide) (by decide) (by decide) (by decide) (pc := 45) (Ls := #[.val (.ref qa), .val (.ref qc), .val (.int (0 : Int32)), .val (.int (3 : Int32)), .val .null, .val (.ref b_36)]) (rest := [(.ref qa)]) (st := [(.int (3 : Int32)), (.ref b_36), (.ref qa)]) (by rw [hml]; rfl) rfl (Nat.le_of_eq rfl) (hb hby in2_3_45)
  refine Go.of ?_ st_45
  rw [List.append_nil] at X_45
  show Go p e below _ (T_45.setTop (mkF m 48 #[.val (.ref qa), .val (.ref qc), .val (.int (0 : Int32)), .val (.int (3 : Int32)), .val .null, .val (.ref b_36)] [(.int (0 : Int32)), (.ref qa)]))
  obtain ⟨T_48, h_48, X_48, e_48, W_48, st_48⟩ := g_putF X_45 hx hZ hown (hw _ (List.mem_of_getElem? (i := 26) rfl)) Via.refl e_45 F_36_3 F_36_1 (Or.inr ⟨hw _ (List.mem_of_getElem? (i := 22) rfl), rfl, hnm⟩) (hw _ (List.mem_of_getElem? (i := 8) rfl)) (ty := .byte) (v := (.int (0 : Int32))) (by decide) rfl rfl 51 (hb hby in2_3_48) rfl
  refine st_48 ?_
  have F_48_0 : Fld Z h_48 qa "java/lang/String" "value" "[B" .null := F_36_2.other W_48 (Or.inr (Jvm.RoadKit.slot_ne (Or.inr (hw _ (List.mem_of_getElem? (i := 21) rfl))) (Or.inr (hw _ (List.mem_of_getElem? (i := 22) rfl))) (by decide) (t := .array (.byte)) (t' := .byte) (by decide) (by decide)))
  have F_48_1 : Fld Z h_48 qa "java/lang/String" "coder" "B" (.int (0 : Int32)) := F_36_3.same W_48
  have F_48_2 : Arl Z h_48 qc .char [(.int c0), (.int c1), (.int c2)] := F_36_0.other W_48 hne
  have F_48_3 : Exa Z h_48 qa "java/lang/String" := F_36_1.wr W_48
  have F_48_4 : Arl Z h_48 b_36 .byte [(.int (c0.toInt8.toInt32)), (.int (c1.toInt8.toInt32)), (.int (c2.toInt8.toInt32))] := B_36.other W_48 (Ne.symm ne_36)
  have N_48 := Fr.snoc X_48 N_36 ga
  have Z_48 : h0.size ≤ h_48.size := by rw [W_48.size]; exact Z_36
  have O_48 := Old.wr O_36 W_48 ga
  refine g_aload_n X_48 hx 52 (.ref qa) (hb hby in2_3_51) rfl rfl rfl ?_
  refine g_aload X_48 hx 54 (.ref b_36) (hb hby in2_3_52) rfl rfl rfl ?_
  obtain ⟨T_54, h_54, X_54, e_54, W_54, st_54⟩ := g_putF X_48 hx hZ hown (hw _ (List.mem_of_getElem? (i := 25) rfl)) Via.refl e_48 F_48_0 F_48_3 (Or.inr ⟨hw _ (List.mem_of_getElem? (i := 21) rfl), rfl, hnm⟩) (hw _ (List.mem_of_getElem? (i := 8) rfl)) (ty := .array (.byte)) (v := (.ref b_36)) (by decide) rfl rfl 57 (hb hby in2_3_54) rfl
  refine st_54 ?_
  have F_54_0 : Fld Z h_54 qa "java/lang/String" "value" "[B" (.ref b_36) := F_48_0.same W_54
  have F_54_1 : Fld Z h_54 qa "java/lang/String" "coder" "B" (.int (0 : Int32)) := F_48_1.other W_54 (Or.inr (Jvm.RoadKit.slot_ne (Or.inr (hw _ (List.mem_of_getElem? (i := 22) rfl))) (Or.inr (hw _ (List.mem_of_getElem? (i := 21) rfl))) (by decide) (t := .byte) (t' := .array (.byte)) (by decide) (by decide)))
  have F_54_2 : Arl Z h_54 qc .char [(.int c0), (.int c1), (.int c2)] := F_48_2.other W_54 hne
  have F_54_3 : Exa Z h_54 qa "java/lang/String" := F_48_3.wr W_54
  have F_54_4 : Arl Z h_54 b_36 .byte [(.int (c0.toInt8.toInt32)), (.int (c1.toInt8.toInt32)), (.int (c2.toInt8.toInt32))] := F_48_4.other W_54 (Ne.symm ne_36)
  have N_54 := Fr.snoc X_54 N_48 ga
  have Z_54 : h0.size ≤ h_54.size := by rw [W_54.size]; exact Z_48
  have O_54 := Old.wr O_48 W_54 ga
  exact Go.retV X_54 hx hlk Bd.returns (hb hby in2_3_57) (by decide) (by decide) ⟨_, rfl, g_36, N_54, e_54.symm ▸ ((((Keep.refl _ _).trans K_36 all0).wr W_48 (Or.inl (by simp))).wr W_54 (Or.inl (by simp))), e_54.symm ▸ ⟨F_54_3, F_54_1, F_54_0, F_54_4⟩⟩
theorem in1_3_0 : decode jdk_42_method_3_code 0 = .ok (.aload_n 0, 1) := by decide +kernel
theorem in1_3_1 : decode jdk_42_method_3_code 1 = .ok (.aload_n 1, 1) := by decide +kernel
theorem in1_3_2 : decode jdk_42_method_3_code 2 = .ok (.iconst 0, 1) := by decide +kernel
theorem in1_3_3 : decode jdk_42_method_3_code 3 = .ok (.aload_n 1, 1) := by decide +kernel
theorem in1_3_4 : decode jdk_42_method_3_code 4 = .ok (.arraylength, 1) := by decide +kernel
theorem in1_3_5 : decode jdk_42_method_3_code 5 = .ok (.aconst_null, 1) := by decide +kernel
theorem in1_3_6 : decode jdk_42_method_3_code 6 = .ok (.invokespecial 27, 3) := by decide +kernel
theorem in1_3_9 : decode jdk_42_method_3_code 9 = .ok (.return_, 1) := by decide +kernel
theorem pn_in1_3 : plainFor (⟨"java/lang/String", "<init>", "([C)V"⟩ : MethodName) = true := by first | exact plainFor_of_name (by first | (simp [plainName, overriddenIn]; done) | decide +kernel) | decide +kernel
theorem ef_in1_3 (m : MethodId) (qa : Addr) (qc : Addr)  : entryFrame m #[(.ref qa), (.ref qc)] 2 = mkF m 0 #[.val (.ref qa), .val (.ref qc)] [] := by first | (simp [entryFrame, mkF, argsToLocals, Value.category, maxLocals]; done) | rfl
theorem pd_in1_3 : parseMethodDescriptor "([C)V" = some ⟨[.array (.char)], none⟩ := by decide +kernel
set_option maxRecDepth 65536 in
set_option maxHeartbeats 40000000 in
theorem rm_in1_3 (l : Launch) (Z : State) (a0 : Array Value) (hw : ∀ d ∈ tables_1, d.before a0 Z = true)  (qa : Addr) (qc : Addr) (h0 : Heap) (n0 : Nat) (XO : Old Z n0 h0) (cs : Int32) (hcs : ¬ cs = (0 : Int32)) (SC : Sta Z Z.heap "java/lang/String" "COMPACT_STRINGS" "Z" (.int cs)) (ga : n0 ≤ qa) (hne : qc ≠ qa) (c0 c1 c2 : Int32) (hc0 : ¬ (255 : Int32) < c0) (hc1 : ¬ (255 : Int32) < c1) (hc2 : ¬ (255 : Int32) < c2) (A1 : Arl Z h0 qc .char [(.int c0), (.int c1), (.int c2)])(E1 : Exa Z h0 qa "java/lang/String")(F1 : Fld Z h0 qa "java/lang/String" "value" "[B" .null)(F2 : Fld Z h0 qa "java/lang/String" "coder" "B" (.int (0 : Int32))) :
    MetFree l (⟨"java/lang/String", "<init>", "([C)V"⟩ : MethodName) (head1 [Jvm.Cond.code (⟨"java/lang/String", "<init>", "([C)V"⟩ : MethodName) jdk_42_method_3_code 2 none] ({ frames := 3, cells := 1, slots := 3, locals := 52 } : Room)) (fun a U => a = #[(.ref qa), (.ref qc)] ∧ Z.Warmed39 U.vm ∧ U.heap = h0) (fun _ _ _ _ _ => True) (fun _ U o U' => ∃ v L, o = .returned v ∧ SQ_3 Z qa c0 c1 c2 h0 n0 v U'.heap L ∧ FrameEnd U o U' L ({ frames := 3, cells := 1, slots := 3, locals := 52 } : Room).cells ({ frames := 3, cells := 1, slots := 3, locals := 52 } : Room).slots) := by
  refine MetFree.of_bodySF pn_in1_3 hisR ?_
  intro p e s m args below meth c s₁ Bd hml0 hP hK
  obtain ⟨rfl, hZ, hh⟩ := hP
  have hx := Bd.exec
  have hby := Bd.bytes
  have hml : c.maxLocals = 2 := hml0
  have hown : s.vm.findClass "java/lang/String" = some m.cls := findClass_of_methodNamed Bd.named
  have hnm := (name_of_methodNamed Bd.named Bd.method).1
  have hlk : meth.locks = false := BodyLoose.notSynchronized Bd
  have X0 : Stand p l e ({ frames := 3, cells := 1, slots := 3, locals := 52 } : Room) s m #[(.ref qa), (.ref qc)] below meth c s₁ [] 0 0 := Stand.of_body Bd
  have e0 : s₁.heap = h0 := by rw [← hh, Bd.state]; rfl
  show Go p e below (EndN below s (SQ_3 Z qa c0 c1 c2 h0 n0) ({ frames := 3, cells := 1, slots := 3, locals := 52 } : Room).cells ({ frames := 3, cells := 1, slots := 3, locals := 52 } : Room).slots) (s₁.setTop (entryFrame m #[(.ref qa), (.ref qc)] 2))
  rw [ef_in1_3]
  refine g_aload_n X0 hx 1 (.ref qa) (hb hby in1_3_0) rfl rfl rfl ?_
  refine g_aload_n X0 hx 2 (.ref qc) (hb hby in1_3_1) rfl rfl rfl ?_
  refine g_iconst X0 hx 3 (0 : Int32) (hb hby in1_3_2) rfl rfl ?_
  refine g_aload_n X0 hx 4 (.ref qc) (hb hby in1_3_3) rfl rfl rfl ?_
  refine g_alen X0 hx hZ e0 A1 (3 : Int32) rfl 5 (hb hby in1_3_4) rfl ?_
  refine g_aconst_null X0 hx 6 (hb hby in1_3_5) rfl ?_
  obtain ⟨_, T_6, L_6, X_6, ⟨b_6, rfl, g_6, M_6, K_6, Q_6⟩, st_6⟩ := g_callI X0 hx hZ  (own := "java/lang/String") (index := 27) (y := (⟨"java/lang/String", "<init>", "([CIILjava/lang/Void;)V"⟩ : MethodName)) (a := qa) (as' := [(.ref qc), (.int (0 : Int32)), (.int (3 : Int32)), .null]) rfl hown (hw _ (List.mem_of_getElem? (i := 13) rfl)) (hw _ (List.mem_of_getElem? (i := 14) rfl)) (hw _ (List.mem_of_getElem? (i := 9) rfl)) (hw _ (List.mem_of_getElem? (i := 16) rfl)) (by decide) e0 (rm_in2_3 l Z a0 hw qa qc h0 n0 XO cs hcs SC ga hne c0 c1 c2 hc0 hc1 hc2 A1 E1 F1 F2) pd_in2_3 rfl 0 (by decide) (by decide) (by decide) (by decide) (pc := 6) (Ls := #[.val (.ref qa), .val (.ref qc)]) (rest := []) (st := [.null, (.int (3 : Int32)), (.int (0 : Int32)), (.ref qc), (.ref qa)]) (by rw [hml]; rfl) rfl (Nat.le_of_eq rfl) (hb hby in1_3_6)
  refine st_6 ?_
  show Go p e below _ (T_6.setTop (mkF m 9 #[.val (.ref qa), .val (.ref qc)] []))
  exact Go.retV X_6 hx hlk Bd.returns (hb hby in1_3_9) (by decide) (by decide) ⟨_, rfl, g_6, (Fr.app (Fr.nil _) M_6), K_6, Q_6⟩
def CQ2_4 (Z : State) (qb : Addr) (c0 c1 c2 c3 : Int32) (h0 : Heap) (n0 : Nat) (v : Option Value) (h : Heap) (L : List Loc) : Prop := v = some (.int (4 : Int32)) ∧ Fr n0 L ∧ Keep h0 h [qb] ∧ Arl Z h qb .byte [(.int (c0.toInt8.toInt32)), (.int (c1.toInt8.toInt32)), (.int (c2.toInt8.toInt32)), (.int (c3.toInt8.toInt32))]
theorem cp2_4_0 : decode jdk_52_method_21_code 0 = .ok (.iconst 0, 1) := by decide +kernel
theorem cp2_4_1 : decode jdk_52_method_21_code 1 = .ok (.istore 5, 2) := by decide +kernel
theorem cp2_4_3 : decode jdk_52_method_21_code 3 = .ok (.iload 5, 2) := by decide +kernel
theorem cp2_4_5 : decode jdk_52_method_21_code 5 = .ok (.iload 4, 2) := by decide +kernel
theorem cp2_4_7 : decode jdk_52_method_21_code 7 = .ok (.if_icmp .ge 37, 3) := by decide +kernel
theorem cp2_4_10 : decode jdk_52_method_21_code 10 = .ok (.aload_n 0, 1) := by decide +kernel
theorem cp2_4_11 : decode jdk_52_method_21_code 11 = .ok (.iload_n 1, 1) := by decide +kernel
theorem cp2_4_12 : decode jdk_52_method_21_code 12 = .ok (.caload, 1) := by decide +kernel
theorem cp2_4_13 : decode jdk_52_method_21_code 13 = .ok (.istore 6, 2) := by decide +kernel
theorem cp2_4_15 : decode jdk_52_method_21_code 15 = .ok (.iload 6, 2) := by decide +kernel
theorem cp2_4_17 : decode jdk_52_method_21_code 17 = .ok (.sipush 255, 3) := by decide +kernel
theorem cp2_4_20 : decode jdk_52_method_21_code 20 = .ok (.if_icmp .le 6, 3) := by decide +kernel
theorem cp2_4_23 : decode jdk_52_method_21_code 23 = .ok (.iload 5, 2) := by decide +kernel
theorem cp2_4_25 : decode jdk_52_method_21_code 25 = .ok (.ireturn, 1) := by decide +kernel
theorem cp2_4_26 : decode jdk_52_method_21_code 26 = .ok (.aload_n 2, 1) := by decide +kernel
theorem cp2_4_27 : decode jdk_52_method_21_code 27 = .ok (.iload_n 3, 1) := by decide +kernel
theorem cp2_4_28 : decode jdk_52_method_21_code 28 = .ok (.iload 6, 2) := by decide +kernel
theorem cp2_4_30 : decode jdk_52_method_21_code 30 = .ok (.i2b, 1) := by decide +kernel
theorem cp2_4_31 : decode jdk_52_method_21_code 31 = .ok (.bastore, 1) := by decide +kernel
theorem cp2_4_32 : decode jdk_52_method_21_code 32 = .ok (.iinc 1 1, 3) := by decide +kernel
theorem cp2_4_35 : decode jdk_52_method_21_code 35 = .ok (.iinc 3 1, 3) := by decide +kernel
theorem cp2_4_38 : decode jdk_52_method_21_code 38 = .ok (.iinc 5 1, 3) := by decide +kernel
theorem cp2_4_41 : decode jdk_52_method_21_code 41 = .ok (.goto (-38), 3) := by decide +kernel
theorem cp2_4_44 : decode jdk_52_method_21_code 44 = .ok (.iload 4, 2) := by decide +kernel
theorem cp2_4_46 : decode jdk_52_method_21_code 46 = .ok (.ireturn, 1) := by decide +kernel
theorem pn_cp2_4 : plainFor (⟨"java/lang/StringUTF16", "compress", "([CI[BII)I"⟩ : MethodName) = true := by first | exact plainFor_of_name (by first | (simp [plainName, overriddenIn]; done) | decide +kernel) | decide +kernel
theorem ef_cp2_4 (m : MethodId) (qa : Addr) (qb : Addr)  : entryFrame m #[(.ref qa), (.int (0 : Int32)), (.ref qb), (.int (0 : Int32)), (.int (4 : Int32))] 7 = mkF m 0 #[.val (.ref qa), .val (.int (0 : Int32)), .val (.ref qb), .val (.int (0 : Int32)), .val (.int (4 : Int32)), .unset, .unset] [] := by first | (simp [entryFrame, mkF, argsToLocals, Value.category, maxLocals]; done) | rfl
theorem pd_cp2_4 : parseMethodDescriptor "([CI[BII)I" = some ⟨[.array (.char), .int, .array (.byte), .int, .int], some (.int)⟩ := by decide +kernel
set_option maxRecDepth 65536 in
set_option maxHeartbeats 40000000 in
theorem rm_cp2_4 (l : Launch) (Z : State) (a0 : Array Value) (hw : ∀ d ∈ tables_1, d.before a0 Z = true)  (qa : Addr) (qb : Addr) (h0 : Heap) (n0 : Nat) (ga : n0 ≤ qb) (c0 c1 c2 c3 : Int32) (hc0 : ¬ (255 : Int32) < c0) (hc1 : ¬ (255 : Int32) < c1) (hc2 : ¬ (255 : Int32) < c2) (hc3 : ¬ (255 : Int32) < c3) (hne : qa ≠ qb) (A1 : Arl Z h0 qa .char [(.int c0), (.int c1), (.int c2), (.int c3)])(A2 : Arl Z h0 qb .byte [(.int (0 : Int32)), (.int (0 : Int32)), (.int (0 : Int32)), (.int (0 : Int32))]) :
    MetFree l (⟨"java/lang/StringUTF16", "compress", "([CI[BII)I"⟩ : MethodName) (head1 [Jvm.Cond.code (⟨"java/lang/StringUTF16", "compress", "([CI[BII)I"⟩ : MethodName) jdk_52_method_21_code 7 (some Jvm.ClassFile.FieldType.int)] ({ frames := 0, cells := 0, slots := 0, locals := 0 } : Room)) (fun a U => a = #[(.ref qa), (.int (0 : Int32)), (.ref qb), (.int (0 : Int32)), (.int (4 : Int32))] ∧ Z.Warmed39 U.vm ∧ U.heap = h0) (fun _ _ _ _ _ => True) (fun _ U o U' => ∃ v L, o = .returned v ∧ CQ2_4 Z qb c0 c1 c2 c3 h0 n0 v U'.heap L ∧ FrameEnd U o U' L ({ frames := 0, cells := 0, slots := 0, locals := 0 } : Room).cells ({ frames := 0, cells := 0, slots := 0, locals := 0 } : Room).slots) := by
  refine MetFree.of_bodySF pn_cp2_4 hisR ?_
  intro p e s m args below meth c s₁ Bd hml0 hP hK
  obtain ⟨rfl, hZ, hh⟩ := hP
  have hx := Bd.exec
  have hby := Bd.bytes
  have hml : c.maxLocals = 7 := hml0
  have hown : s.vm.findClass "java/lang/StringUTF16" = some m.cls := findClass_of_methodNamed Bd.named
  have hnm := (name_of_methodNamed Bd.named Bd.method).1
  have hlk : meth.locks = false := BodyLoose.notSynchronized Bd
  have X0 : Stand p l e ({ frames := 0, cells := 0, slots := 0, locals := 0 } : Room) s m #[(.ref qa), (.int (0 : Int32)), (.ref qb), (.int (0 : Int32)), (.int (4 : Int32))] below meth c s₁ [] 0 0 := Stand.of_body Bd
  have e0 : s₁.heap = h0 := by rw [← hh, Bd.state]; rfl
  show Go p e below (EndN below s (CQ2_4 Z qb c0 c1 c2 c3 h0 n0) ({ frames := 0, cells := 0, slots := 0, locals := 0 } : Room).cells ({ frames := 0, cells := 0, slots := 0, locals := 0 } : Room).slots) (s₁.setTop (entryFrame m #[(.ref qa), (.int (0 : Int32)), (.ref qb), (.int (0 : Int32)), (.int (4 : Int32))] 7))
  rw [ef_cp2_4]
  refine g_iconst X0 hx 1 (0 : Int32) (hb hby cp2_4_0) rfl rfl ?_
  refine g_istore X0 hx 3 #[.val (.ref qa), .val (.int (0 : Int32)), .val (.ref qb), .val (.int (0 : Int32)), .val (.int (4 : Int32)), .val (.int (0 : Int32)), .unset] (hb hby cp2_4_1) rfl rfl ?_
  refine g_iload X0 hx 5 (0 : Int32) (hb hby cp2_4_3) rfl rfl ?_
  refine g_iload X0 hx 7 (4 : Int32) (hb hby cp2_4_5) rfl rfl ?_
  refine g_icmpN X0 hx 10 (hb hby cp2_4_7) (XT.ii_ge_f (by decide)) rfl ?_
  refine g_aload_n X0 hx 11 (.ref qa) (hb hby cp2_4_10) rfl rfl rfl ?_
  refine g_iload_n X0 hx 12 (0 : Int32) (hb hby cp2_4_11) rfl rfl ?_
  refine g_caload X0 hx hZ e0 A1 (k := 0) rfl (.int c0) rfl 13 (hb hby cp2_4_12) rfl ?_
  refine g_istore X0 hx 15 #[.val (.ref qa), .val (.int (0 : Int32)), .val (.ref qb), .val (.int (0 : Int32)), .val (.int (4 : Int32)), .val (.int (0 : Int32)), .val (.int c0)] (hb hby cp2_4_13) rfl rfl ?_
  refine g_iload X0 hx 17 c0 (hb hby cp2_4_15) rfl rfl ?_
  refine g_sipush X0 hx 20 (255 : Int32) (hb hby cp2_4_17) rfl rfl ?_
  refine g_icmpY X0 hx 26 (hb hby cp2_4_20) (XT.ii_le_t hc0) (by decide) (by decide) ?_
  refine g_aload_n X0 hx 27 (.ref qb) (hb hby cp2_4_26) rfl rfl rfl ?_
  refine g_iload_n X0 hx 28 (0 : Int32) (hb hby cp2_4_27) rfl rfl ?_
  refine g_iload X0 hx 30 c0 (hb hby cp2_4_28) rfl rfl ?_
  refine g_i2b X0 hx 31 (hb hby cp2_4_30) rfl ?_
  obtain ⟨T_31, h_31, X_31, e_31, W_31, B_31, st_31⟩ := g_bastore X0 hx hZ e0 A2 (j := (0 : Int32)) (c0.toInt8.toInt32) (k := 0) rfl (Nat.le_of_ble_eq_true rfl) 32 (hb hby cp2_4_31) rfl
  refine st_31 ?_
  have C_31 : Arl Z h_31 qb .byte [(.int (c0.toInt8.toInt32)), (.int (0 : Int32)), (.int (0 : Int32)), (.int (0 : Int32))] := by have z := B_31; rw [show (nar .byte (c0.toInt8.toInt32)) = (c0.toInt8.toInt32) from own_nb _] at z; exact z
  have F_31_0 : Arl Z h_31 qb .byte [(.int (c0.toInt8.toInt32)), (.int (0 : Int32)), (.int (0 : Int32)), (.int (0 : Int32))] := C_31
  have F_31_1 : Arl Z h_31 qa .char [(.int c0), (.int c1), (.int c2), (.int c3)] := A1.other W_31 hne
  have N_31 := Fr.snoc X_31 (Fr.nil _) ga
  have Z_31 : h0.size ≤ h_31.size := by rw [W_31.size]; exact (Nat.le_refl _)
  refine g_iinc X_31 hx 35 (1 : Int32) #[.val (.ref qa), .val (.int (1 : Int32)), .val (.ref qb), .val (.int (0 : Int32)), .val (.int (4 : Int32)), .val (.int (0 : Int32)), .val (.int c0)] (hb hby cp2_4_32) rfl rfl rfl rfl ?_
  refine g_iinc X_31 hx 38 (1 : Int32) #[.val (.ref qa), .val (.int (1 : Int32)), .val (.ref qb), .val (.int (1 : Int32)), .val (.int (4 : Int32)), .val (.int (0 : Int32)), .val (.int c0)] (hb hby cp2_4_35) rfl rfl rfl rfl ?_
  refine g_iinc X_31 hx 41 (1 : Int32) #[.val (.ref qa), .val (.int (1 : Int32)), .val (.ref qb), .val (.int (1 : Int32)), .val (.int (4 : Int32)), .val (.int (1 : Int32)), .val (.int c0)] (hb hby cp2_4_38) rfl rfl rfl rfl ?_
  refine g_goto X_31 hx 3 (hb hby cp2_4_41) (by decide) (by decide) ?_
  refine g_iload X_31 hx 5 (1 : Int32) (hb hby cp2_4_3) rfl rfl ?_
  refine g_iload X_31 hx 7 (4 : Int32) (hb hby cp2_4_5) rfl rfl ?_
  refine g_icmpN X_31 hx 10 (hb hby cp2_4_7) (XT.ii_ge_f (by decide)) rfl ?_
  refine g_aload_n X_31 hx 11 (.ref qa) (hb hby cp2_4_10) rfl rfl rfl ?_
  refine g_iload_n X_31 hx 12 (1 : Int32) (hb hby cp2_4_11) rfl rfl ?_
  refine g_caload X_31 hx hZ e_31 F_31_1 (k := 1) rfl (.int c1) rfl 13 (hb hby cp2_4_12) rfl ?_
  refine g_istore X_31 hx 15 #[.val (.ref qa), .val (.int (1 : Int32)), .val (.ref qb), .val (.int (1 : Int32)), .val (.int (4 : Int32)), .val (.int (1 : Int32)), .val (.int c1)] (hb hby cp2_4_13) rfl rfl ?_
  refine g_iload X_31 hx 17 c1 (hb hby cp2_4_15) rfl rfl ?_
  refine g_sipush X_31 hx 20 (255 : Int32) (hb hby cp2_4_17) rfl rfl ?_
  refine g_icmpY X_31 hx 26 (hb hby cp2_4_20) (XT.ii_le_t hc1) (by decide) (by decide) ?_
  refine g_aload_n X_31 hx 27 (.ref qb) (hb hby cp2_4_26) rfl rfl rfl ?_
  refine g_iload_n X_31 hx 28 (1 : Int32) (hb hby cp2_4_27) rfl rfl ?_
  refine g_iload X_31 hx 30 c1 (hb hby cp2_4_28) rfl rfl ?_
  refine g_i2b X_31 hx 31 (hb hby cp2_4_30) rfl ?_
  obtain ⟨T_31x1, h_31x1, X_31x1, e_31x1, W_31x1, B_31x1, st_31x1⟩ := g_bastore X_31 hx hZ e_31 F_31_0 (j := (1 : Int32)) (c1.toInt8.toInt32) (k := 1) rfl (Nat.le_of_ble_eq_true rfl) 32 (hb hby cp2_4_31) rfl
  refine st_31x1 ?_
  have C_31x1 : Arl Z h_31x1 qb .byte [(.int (c0.toInt8.toInt32)), (.int (c1.toInt8.toInt32)), (.int (0 : Int32)), (.int (0 : Int32))] := by have z := B_31x1; rw [show (nar .byte (c1.toInt8.toInt32)) = (c1.toInt8.toInt32) from own_nb _] at z; exact z
  have F_31x1_0 : Arl Z h_31x1 qb .byte [(.int (c0.toInt8.toInt32)), (.int (c1.toInt8.toInt32)), (.int (0 : Int32)), (.int (0 : Int32))] := C_31x1
  have F_31x1_1 : Arl Z h_31x1 qa .char [(.int c0), (.int c1), (.int c2), (.int c3)] := F_31_1.other W_31x1 hne
  have N_31x1 := Fr.snoc X_31x1 N_31 ga
  have Z_31x1 : h0.size ≤ h_31x1.size := by rw [W_31x1.size]; exact Z_31
  refine g_iinc X_31x1 hx 35 (1 : Int32) #[.val (.ref qa), .val (.int (2 : Int32)), .val (.ref qb), .val (.int (1 : Int32)), .val (.int (4 : Int32)), .val (.int (1 : Int32)), .val (.int c1)] (hb hby cp2_4_32) rfl rfl rfl rfl ?_
  refine g_iinc X_31x1 hx 38 (1 : Int32) #[.val (.ref qa), .val (.int (2 : Int32)), .val (.ref qb), .val (.int (2 : Int32)), .val (.int (4 : Int32)), .val (.int (1 : Int32)), .val (.int c1)] (hb hby cp2_4_35) rfl rfl rfl rfl ?_
  refine g_iinc X_31x1 hx 41 (1 : Int32) #[.val (.ref qa), .val (.int (2 : Int32)), .val (.ref qb), .val (.int (2 : Int32)), .val (.int (4 : Int32)), .val (.int (2 : Int32)), .val (.int c1)] (hb hby cp2_4_38) rfl rfl rfl rfl ?_
  refine g_goto X_31x1 hx 3 (hb hby cp2_4_41) (by decide) (by decide) ?_
  refine g_iload X_31x1 hx 5 (2 : Int32) (hb hby cp2_4_3) rfl rfl ?_
  refine g_iload X_31x1 hx 7 (4 : Int32) (hb hby cp2_4_5) rfl rfl ?_
  refine g_icmpN X_31x1 hx 10 (hb hby cp2_4_7) (XT.ii_ge_f (by decide)) rfl ?_
  refine g_aload_n X_31x1 hx 11 (.ref qa) (hb hby cp2_4_10) rfl rfl rfl ?_
  refine g_iload_n X_31x1 hx 12 (2 : Int32) (hb hby cp2_4_11) rfl rfl ?_
  refine g_caload X_31x1 hx hZ e_31x1 F_31x1_1 (k := 2) rfl (.int c2) rfl 13 (hb hby cp2_4_12) rfl ?_
  refine g_istore X_31x1 hx 15 #[.val (.ref qa), .val (.int (2 : Int32)), .val (.ref qb), .val (.int (2 : Int32)), .val (.int (4 : Int32)), .val (.int (2 : Int32)), .val (.int c2)] (hb hby cp2_4_13) rfl rfl ?_
  refine g_iload X_31x1 hx 17 c2 (hb hby cp2_4_15) rfl rfl ?_
  refine g_sipush X_31x1 hx 20 (255 : Int32) (hb hby cp2_4_17) rfl rfl ?_
  refine g_icmpY X_31x1 hx 26 (hb hby cp2_4_20) (XT.ii_le_t hc2) (by decide) (by decide) ?_
  refine g_aload_n X_31x1 hx 27 (.ref qb) (hb hby cp2_4_26) rfl rfl rfl ?_
  refine g_iload_n X_31x1 hx 28 (2 : Int32) (hb hby cp2_4_27) rfl rfl ?_
  refine g_iload X_31x1 hx 30 c2 (hb hby cp2_4_28) rfl rfl ?_
  refine g_i2b X_31x1 hx 31 (hb hby cp2_4_30) rfl ?_
  obtain ⟨T_31x2, h_31x2, X_31x2, e_31x2, W_31x2, B_31x2, st_31x2⟩ := g_bastore X_31x1 hx hZ e_31x1 F_31x1_0 (j := (2 : Int32)) (c2.toInt8.toInt32) (k := 2) rfl (Nat.le_of_ble_eq_true rfl) 32 (hb hby cp2_4_31) rfl
  refine st_31x2 ?_
  have C_31x2 : Arl Z h_31x2 qb .byte [(.int (c0.toInt8.toInt32)), (.int (c1.toInt8.toInt32)), (.int (c2.toInt8.toInt32)), (.int (0 : Int32))] := by have z := B_31x2; rw [show (nar .byte (c2.toInt8.toInt32)) = (c2.toInt8.toInt32) from own_nb _] at z; exact z
  have F_31x2_0 : Arl Z h_31x2 qb .byte [(.int (c0.toInt8.toInt32)), (.int (c1.toInt8.toInt32)), (.int (c2.toInt8.toInt32)), (.int (0 : Int32))] := C_31x2
  have F_31x2_1 : Arl Z h_31x2 qa .char [(.int c0), (.int c1), (.int c2), (.int c3)] := F_31x1_1.other W_31x2 hne
  have N_31x2 := Fr.snoc X_31x2 N_31x1 ga
  have Z_31x2 : h0.size ≤ h_31x2.size := by rw [W_31x2.size]; exact Z_31x1
  refine g_iinc X_31x2 hx 35 (1 : Int32) #[.val (.ref qa), .val (.int (3 : Int32)), .val (.ref qb), .val (.int (2 : Int32)), .val (.int (4 : Int32)), .val (.int (2 : Int32)), .val (.int c2)] (hb hby cp2_4_32) rfl rfl rfl rfl ?_
  refine g_iinc X_31x2 hx 38 (1 : Int32) #[.val (.ref qa), .val (.int (3 : Int32)), .val (.ref qb), .val (.int (3 : Int32)), .val (.int (4 : Int32)), .val (.int (2 : Int32)), .val (.int c2)] (hb hby cp2_4_35) rfl rfl rfl rfl ?_
  refine g_iinc X_31x2 hx 41 (1 : Int32) #[.val (.ref qa), .val (.int (3 : Int32)), .val (.ref qb), .val (.int (3 : Int32)), .val (.int (4 : Int32)), .val (.int (3 : Int32)), .val (.int c2)] (hb hby cp2_4_38) rfl rfl rfl rfl ?_
  refine g_goto X_31x2 hx 3 (hb hby cp2_4_41) (by decide) (by decide) ?_
  refine g_iload X_31x2 hx 5 (3 : Int32) (hb hby cp2_4_3) rfl rfl ?_
  refine g_iload X_31x2 hx 7 (4 : Int32) (hb hby cp2_4_5) rfl rfl ?_
  refine g_icmpN X_31x2 hx 10 (hb hby cp2_4_7) (XT.ii_ge_f (by decide)) rfl ?_
  refine g_aload_n X_31x2 hx 11 (.ref qa) (hb hby cp2_4_10) rfl rfl rfl ?_
  refine g_iload_n X_31x2 hx 12 (3 : Int32) (hb hby cp2_4_11) rfl rfl ?_
  refine g_caload X_31x2 hx hZ e_31x2 F_31x2_1 (k := 3) rfl (.int c3) rfl 13 (hb hby cp2_4_12) rfl ?_
  refine g_istore X_31x2 hx 15 #[.val (.ref qa), .val (.int (3 : Int32)), .val (.ref qb), .val (.int (3 : Int32)), .val (.int (4 : Int32)), .val (.int (3 : Int32)), .val (.int c3)] (hb hby cp2_4_13) rfl rfl ?_
  refine g_iload X_31x2 hx 17 c3 (hb hby cp2_4_15) rfl rfl ?_
  refine g_sipush X_31x2 hx 20 (255 : Int32) (hb hby cp2_4_17) rfl rfl ?_
  refine g_icmpY X_31x2 hx 26 (hb hby cp2_4_20) (XT.ii_le_t hc3) (by decide) (by decide) ?_
  refine g_aload_n X_31x2 hx 27 (.ref qb) (hb hby cp2_4_26) rfl rfl rfl ?_
  refine g_iload_n X_31x2 hx 28 (3 : Int32) (hb hby cp2_4_27) rfl rfl ?_
  refine g_iload X_31x2 hx 30 c3 (hb hby cp2_4_28) rfl rfl ?_
  refine g_i2b X_31x2 hx 31 (hb hby cp2_4_30) rfl ?_
  obtain ⟨T_31x3, h_31x3, X_31x3, e_31x3, W_31x3, B_31x3, st_31x3⟩ := g_bastore X_31x2 hx hZ e_31x2 F_31x2_0 (j := (3 : Int32)) (c3.toInt8.toInt32) (k := 3) rfl (Nat.le_of_ble_eq_true rfl) 32 (hb hby cp2_4_31) rfl
  refine st_31x3 ?_
  have C_31x3 : Arl Z h_31x3 qb .byte [(.int (c0.toInt8.toInt32)), (.int (c1.toInt8.toInt32)), (.int (c2.toInt8.toInt32)), (.int (c3.toInt8.toInt32))] := by have z := B_31x3; rw [show (nar .byte (c3.toInt8.toInt32)) = (c3.toInt8.toInt32) from own_nb _] at z; exact z
  have F_31x3_0 : Arl Z h_31x3 qb .byte [(.int (c0.toInt8.toInt32)), (.int (c1.toInt8.toInt32)), (.int (c2.toInt8.toInt32)), (.int (c3.toInt8.toInt32))] := C_31x3
  have F_31x3_1 : Arl Z h_31x3 qa .char [(.int c0), (.int c1), (.int c2), (.int c3)] := F_31x2_1.other W_31x3 hne
  have N_31x3 := Fr.snoc X_31x3 N_31x2 ga
  have Z_31x3 : h0.size ≤ h_31x3.size := by rw [W_31x3.size]; exact Z_31x2
  refine g_iinc X_31x3 hx 35 (1 : Int32) #[.val (.ref qa), .val (.int (4 : Int32)), .val (.ref qb), .val (.int (3 : Int32)), .val (.int (4 : Int32)), .val (.int (3 : Int32)), .val (.int c3)] (hb hby cp2_4_32) rfl rfl rfl rfl ?_
  refine g_iinc X_31x3 hx 38 (1 : Int32) #[.val (.ref qa), .val (.int (4 : Int32)), .val (.ref qb), .val (.int (4 : Int32)), .val (.int (4 : Int32)), .val (.int (3 : Int32)), .val (.int c3)] (hb hby cp2_4_35) rfl rfl rfl rfl ?_
  refine g_iinc X_31x3 hx 41 (1 : Int32) #[.val (.ref qa), .val (.int (4 : Int32)), .val (.ref qb), .val (.int (4 : Int32)), .val (.int (4 : Int32)), .val (.int (4 : Int32)), .val (.int c3)] (hb hby cp2_4_38) rfl rfl rfl rfl ?_
  refine g_goto X_31x3 hx 3 (hb hby cp2_4_41) (by decide) (by decide) ?_
  refine g_iload X_31x3 hx 5 (4 : Int32) (hb hby cp2_4_3) rfl rfl ?_
  refine g_iload X_31x3 hx 7 (4 : Int32) (hb hby cp2_4_5) rfl rfl ?_
  refine g_icmpY X_31x3 hx 44 (hb hby cp2_4_7) (XT.ii_ge_t (by decide)) (by decide) (by decide) ?_
  refine g_iload X_31x3 hx 46 (4 : Int32) (hb hby cp2_4_44) rfl rfl ?_
  exact Go.retI X_31x3 hx hlk Bd.returns (hb hby cp2_4_46) (by decide) (by decide) ⟨rfl, N_31x3, e_31x3.symm ▸ (((((Keep.refl _ _).wr W_31 (Or.inl (by simp))).wr W_31x1 (Or.inl (by simp))).wr W_31x2 (Or.inl (by simp))).wr W_31x3 (Or.inl (by simp))), e_31x3.symm ▸ F_31x3_0⟩
def CQ1_4 (Z : State) (c0 c1 c2 c3 : Int32) (h0 : Heap) (n0 : Nat) (v : Option Value) (h : Heap) (L : List Loc) : Prop := ∃ qb : Addr, v = some (.ref qb) ∧ h0.size ≤ qb ∧ Fr n0 L ∧ Keep h0 h [] ∧ Arl Z h qb .byte [(.int (c0.toInt8.toInt32)), (.int (c1.toInt8.toInt32)), (.int (c2.toInt8.toInt32)), (.int (c3.toInt8.toInt32))]
theorem cp1_4_0 : decode jdk_52_method_16_code 0 = .ok (.iload_n 2, 1) := by decide +kernel
theorem cp1_4_1 : decode jdk_52_method_16_code 1 = .ok (.newarray .byte, 2) := by decide +kernel
theorem cp1_4_3 : decode jdk_52_method_16_code 3 = .ok (.astore_n 3, 1) := by decide +kernel
theorem cp1_4_4 : decode jdk_52_method_16_code 4 = .ok (.aload_n 0, 1) := by decide +kernel
theorem cp1_4_5 : decode jdk_52_method_16_code 5 = .ok (.iload_n 1, 1) := by decide +kernel
theorem cp1_4_6 : decode jdk_52_method_16_code 6 = .ok (.aload_n 3, 1) := by decide +kernel
theorem cp1_4_7 : decode jdk_52_method_16_code 7 = .ok (.iconst 0, 1) := by decide +kernel
theorem cp1_4_8 : decode jdk_52_method_16_code 8 = .ok (.iload_n 2, 1) := by decide +kernel
theorem cp1_4_9 : decode jdk_52_method_16_code 9 = .ok (.invokestatic 115, 3) := by decide +kernel
theorem cp1_4_12 : decode jdk_52_method_16_code 12 = .ok (.istore 4, 2) := by decide +kernel
theorem cp1_4_14 : decode jdk_52_method_16_code 14 = .ok (.iload 4, 2) := by decide +kernel
theorem cp1_4_16 : decode jdk_52_method_16_code 16 = .ok (.iload_n 2, 1) := by decide +kernel
theorem cp1_4_17 : decode jdk_52_method_16_code 17 = .ok (.if_icmp .eq 40, 3) := by decide +kernel
theorem cp1_4_20 : decode jdk_52_method_16_code 20 = .ok (.aload_n 0, 1) := by decide +kernel
theorem cp1_4_21 : decode jdk_52_method_16_code 21 = .ok (.iload_n 1, 1) := by decide +kernel
theorem cp1_4_22 : decode jdk_52_method_16_code 22 = .ok (.iload_n 2, 1) := by decide +kernel
theorem cp1_4_23 : decode jdk_52_method_16_code 23 = .ok (.invokestatic 119, 3) := by decide +kernel
theorem cp1_4_26 : decode jdk_52_method_16_code 26 = .ok (.astore 5, 2) := by decide +kernel
theorem cp1_4_28 : decode jdk_52_method_16_code 28 = .ok (.aload 5, 2) := by decide +kernel
theorem cp1_4_30 : decode jdk_52_method_16_code 30 = .ok (.iload 4, 2) := by decide +kernel
theorem cp1_4_32 : decode jdk_52_method_16_code 32 = .ok (.invokestatic 71, 3) := by decide +kernel
theorem cp1_4_35 : decode jdk_52_method_16_code 35 = .ok (.sipush 255, 3) := by decide +kernel
theorem cp1_4_38 : decode jdk_52_method_16_code 38 = .ok (.if_icmp .gt 16, 3) := by decide +kernel
theorem cp1_4_41 : decode jdk_52_method_16_code 41 = .ok (.aload 5, 2) := by decide +kernel
theorem cp1_4_43 : decode jdk_52_method_16_code 43 = .ok (.iconst 0, 1) := by decide +kernel
theorem cp1_4_44 : decode jdk_52_method_16_code 44 = .ok (.aload_n 3, 1) := by decide +kernel
theorem cp1_4_45 : decode jdk_52_method_16_code 45 = .ok (.iconst 0, 1) := by decide +kernel
theorem cp1_4_46 : decode jdk_52_method_16_code 46 = .ok (.iload_n 2, 1) := by decide +kernel
theorem cp1_4_47 : decode jdk_52_method_16_code 47 = .ok (.invokestatic 123, 3) := by decide +kernel
theorem cp1_4_50 : decode jdk_52_method_16_code 50 = .ok (.iload_n 2, 1) := by decide +kernel
theorem cp1_4_51 : decode jdk_52_method_16_code 51 = .ok (.if_icmp .eq 6, 3) := by decide +kernel
theorem cp1_4_54 : decode jdk_52_method_16_code 54 = .ok (.aload 5, 2) := by decide +kernel
theorem cp1_4_56 : decode jdk_52_method_16_code 56 = .ok (.areturn, 1) := by decide +kernel
theorem cp1_4_57 : decode jdk_52_method_16_code 57 = .ok (.aload_n 3, 1) := by decide +kernel
theorem cp1_4_58 : decode jdk_52_method_16_code 58 = .ok (.areturn, 1) := by decide +kernel
theorem pn_cp1_4 : plainFor (⟨"java/lang/StringUTF16", "compress", "([CII)[B"⟩ : MethodName) = true := by first | exact plainFor_of_name (by first | (simp [plainName, overriddenIn]; done) | decide +kernel) | decide +kernel
theorem ef_cp1_4 (m : MethodId) (qa : Addr)  : entryFrame m #[(.ref qa), (.int (0 : Int32)), (.int (4 : Int32))] 6 = mkF m 0 #[.val (.ref qa), .val (.int (0 : Int32)), .val (.int (4 : Int32)), .unset, .unset, .unset] [] := by first | (simp [entryFrame, mkF, argsToLocals, Value.category, maxLocals]; done) | rfl
theorem pd_cp1_4 : parseMethodDescriptor "([CII)[B" = some ⟨[.array (.char), .int, .int], some (.array (.byte))⟩ := by decide +kernel
set_option maxRecDepth 65536 in
set_option maxHeartbeats 40000000 in
theorem rm_cp1_4 (l : Launch) (Z : State) (a0 : Array Value) (hw : ∀ d ∈ tables_1, d.before a0 Z = true)  (qa : Addr) (h0 : Heap) (n0 : Nat) (Z0 : n0 ≤ h0.size) (c0 c1 c2 c3 : Int32) (hc0 : ¬ (255 : Int32) < c0) (hc1 : ¬ (255 : Int32) < c1) (hc2 : ¬ (255 : Int32) < c2) (hc3 : ¬ (255 : Int32) < c3) (A1 : Arl Z h0 qa .char [(.int c0), (.int c1), (.int c2), (.int c3)]) :
    MetFree l (⟨"java/lang/StringUTF16", "compress", "([CII)[B"⟩ : MethodName) (head1 [Jvm.Cond.code (⟨"java/lang/StringUTF16", "compress", "([CII)[B"⟩ : MethodName) jdk_52_method_16_code 6 (some (Jvm.ClassFile.FieldType.array Jvm.ClassFile.FieldType.byte))] ({ frames := 1, cells := 1, slots := 4, locals := 18 } : Room)) (fun a U => a = #[(.ref qa), (.int (0 : Int32)), (.int (4 : Int32))] ∧ Z.Warmed39 U.vm ∧ U.heap = h0) (fun _ _ _ _ _ => True) (fun _ U o U' => ∃ v L, o = .returned v ∧ CQ1_4 Z c0 c1 c2 c3 h0 n0 v U'.heap L ∧ FrameEnd U o U' L ({ frames := 1, cells := 1, slots := 4, locals := 18 } : Room).cells ({ frames := 1, cells := 1, slots := 4, locals := 18 } : Room).slots) := by
  refine MetFree.of_bodySF pn_cp1_4 hisR ?_
  intro p e s m args below meth c s₁ Bd hml0 hP hK
  obtain ⟨rfl, hZ, hh⟩ := hP
  have hx := Bd.exec
  have hby := Bd.bytes
  have hml : c.maxLocals = 6 := hml0
  have hown : s.vm.findClass "java/lang/StringUTF16" = some m.cls := findClass_of_methodNamed Bd.named
  have hnm := (name_of_methodNamed Bd.named Bd.method).1
  have hlk : meth.locks = false := BodyLoose.notSynchronized Bd
  have X0 : Stand p l e ({ frames := 1, cells := 1, slots := 4, locals := 18 } : Room) s m #[(.ref qa), (.int (0 : Int32)), (.int (4 : Int32))] below meth c s₁ [] 0 0 := Stand.of_body Bd
  have e0 : s₁.heap = h0 := by rw [← hh, Bd.state]; rfl
  show Go p e below (EndN below s (CQ1_4 Z c0 c1 c2 c3 h0 n0) ({ frames := 1, cells := 1, slots := 4, locals := 18 } : Room).cells ({ frames := 1, cells := 1, slots := 4, locals := 18 } : Room).slots) (s₁.setTop (entryFrame m #[(.ref qa), (.int (0 : Int32)), (.int (4 : Int32))] 6))
  rw [ef_cp1_4]
  refine g_iload_n X0 hx 1 (4 : Int32) (hb hby cp1_4_0) rfl rfl ?_
  obtain ⟨T_1, h_1, a_1, k_1, X_1, e_1, ga_1, E_1, A_1, st_1⟩ := g_newP X0 hx hZ (aty := .byte) (n := (4 : Int32)) (hw _ (List.mem_of_getElem? (i := 1) rfl)) e0 4 (by decide) (by decide) (by decide) (by decide) (by decide) 3 (hb hby cp1_4_1) rfl
  refine st_1 ?_
  have g_1 : n0 ≤ a_1 := by rw [ga_1]; exact Nat.le_trans Z0 (Nat.le_refl _)
  have gh_1 : h0.size ≤ a_1 := by rw [ga_1]; exact (Nat.le_refl _)
  have n_1_qa : qa ≠ a_1 := by rw [ga_1]; exact Nat.ne_of_lt A1.lt
  have F_1_0 : Arl Z h_1 qa .char [(.int c0), (.int c1), (.int c2), (.int c3)] := A1.ext E_1
  have Z_1 : h0.size ≤ h_1.size := Nat.le_trans (Nat.le_refl _) E_1.1
  have G_1 : Arl Z h_1 a_1 .byte [(.int (0 : Int32)), (.int (0 : Int32)), (.int (0 : Int32)), (.int (0 : Int32))] := Arl.new A_1 rfl
  refine g_astore_n X_1 hx 4 #[.val (.ref qa), .val (.int (0 : Int32)), .val (.int (4 : Int32)), .val (.ref a_1), .unset, .unset] (hb hby cp1_4_3) rfl rfl rfl ?_
  refine g_aload_n X_1 hx 5 (.ref qa) (hb hby cp1_4_4) rfl rfl rfl ?_
  refine g_iload_n X_1 hx 6 (0 : Int32) (hb hby cp1_4_5) rfl rfl ?_
  refine g_aload_n X_1 hx 7 (.ref a_1) (hb hby cp1_4_6) rfl rfl rfl ?_
  refine g_iconst X_1 hx 8 (0 : Int32) (hb hby cp1_4_7) rfl rfl ?_
  refine g_iload_n X_1 hx 9 (4 : Int32) (hb hby cp1_4_8) rfl rfl ?_
  obtain ⟨_, T_9, L_9, X_9, ⟨rfl, M_9, K_9, B_9⟩, st_9⟩ := g_callS X_1 hx hZ  (own := "java/lang/StringUTF16") (index := 115) (y := (⟨"java/lang/StringUTF16", "compress", "([CI[BII)I"⟩ : MethodName)) (as' := [(.ref qa), (.int (0 : Int32)), (.ref a_1), (.int (0 : Int32)), (.int (4 : Int32))]) hown (hw _ (List.mem_of_getElem? (i := 45) rfl)) (hw _ (List.mem_of_getElem? (i := 46) rfl)) (hw _ (List.mem_of_getElem? (i := 43) rfl)) (hw _ (List.mem_of_getElem? (i := 47) rfl)) (by decide) e_1 (rm_cp2_4 l Z a0 hw qa a_1 h_1 n0 g_1 c0 c1 c2 c3 hc0 hc1 hc2 hc3 n_1_qa F_1_0 G_1) pd_cp2_4 rfl 0 (by decide) (by decide) (by decide) (by decide) (pc := 9) (Ls := #[.val (.ref qa), .val (.int (0 : Int32)), .val (.int (4 : Int32)), .val (.ref a_1), .unset, .unset]) (rest := []) (st := [(.int (4 : Int32)), (.int (0 : Int32)), (.ref a_1), (.int (0 : Int32)), (.ref qa)]) (by rw [hml]; rfl) rfl (Nat.le_of_eq rfl) (hb hby cp1_4_9)
  refine Go.of ?_ st_9
  have F_9_0 : Arl Z T_9.heap a_1 .byte [(.int (c0.toInt8.toInt32)), (.int (c1.toInt8.toInt32)), (.int (c2.toInt8.toInt32)), (.int (c3.toInt8.toInt32))] := B_9
  have F_9_1 : Arl Z T_9.heap qa .char [(.int c0), (.int c1), (.int c2), (.int c3)] := F_1_0.keep K_9 (ninS n_1_qa nin0)
  have N_9 := Fr.app (Fr.nil _) M_9
  have Z_9 : h0.size ≤ T_9.heap.size := Nat.le_trans Z_1 K_9.1
  show Go p e below _ (T_9.setTop (mkF m 12 #[.val (.ref qa), .val (.int (0 : Int32)), .val (.int (4 : Int32)), .val (.ref a_1), .unset, .unset] [(.int (4 : Int32))]))
  refine g_istore X_9 hx 14 #[.val (.ref qa), .val (.int (0 : Int32)), .val (.int (4 : Int32)), .val (.ref a_1), .val (.int (4 : Int32)), .unset] (hb hby cp1_4_12) rfl rfl ?_
  refine g_iload X_9 hx 16 (4 : Int32) (hb hby cp1_4_14) rfl rfl ?_
  refine g_iload_n X_9 hx 17 (4 : Int32) (hb hby cp1_4_16) rfl rfl ?_
  refine g_icmpY X_9 hx 57 (hb hby cp1_4_17) (XT.ii_eq_t (by decide)) (by decide) (by decide) ?_
  refine g_aload_n X_9 hx 58 (.ref a_1) (hb hby cp1_4_57) rfl rfl rfl ?_
  exact Go.retA X_9 hx hlk Bd.returns rfl rfl (hb hby cp1_4_58) (by decide) (by decide) ⟨_, rfl, gh_1, N_9, (((Keep.refl _ _).ext E_1).trans K_9 (allS (Or.inr gh_1) all0)), F_9_0⟩
def SQ_4 (Z : State) (qa : Addr) (c0 c1 c2 c3 : Int32) (h0 : Heap) (n0 : Nat) (v : Option Value) (h : Heap) (L : List Loc) : Prop := ∃ qb : Addr, v = none ∧ h0.size ≤ qb ∧ Fr n0 L ∧ Keep h0 h [qa] ∧ Stl Z h qa qb 0 [(.int (c0.toInt8.toInt32)), (.int (c1.toInt8.toInt32)), (.int (c2.toInt8.toInt32)), (.int (c3.toInt8.toInt32))]
theorem in2_4_0 : decode jdk_42_method_149_code 0 = .ok (.aload_n 0, 1) := by decide +kernel
theorem in2_4_1 : decode jdk_42_method_149_code 1 = .ok (.invokespecial 1, 3) := by decide +kernel
theorem in2_4_4 : decode jdk_42_method_149_code 4 = .ok (.iload_n 3, 1) := by decide +kernel
theorem in2_4_5 : decode jdk_42_method_149_code 5 = .ok (.ifCond .ne 22, 3) := by decide +kernel
theorem in2_4_8 : decode jdk_42_method_149_code 8 = .ok (.aload_n 0, 1) := by decide +kernel
theorem in2_4_9 : decode jdk_42_method_149_code 9 = .ok (.ldc 7, 2) := by decide +kernel
theorem in2_4_11 : decode jdk_42_method_149_code 11 = .ok (.getfield 9, 3) := by decide +kernel
theorem in2_4_14 : decode jdk_42_method_149_code 14 = .ok (.putfield 9, 3) := by decide +kernel
theorem in2_4_17 : decode jdk_42_method_149_code 17 = .ok (.aload_n 0, 1) := by decide +kernel
theorem in2_4_18 : decode jdk_42_method_149_code 18 = .ok (.ldc 7, 2) := by decide +kernel
theorem in2_4_20 : decode jdk_42_method_149_code 20 = .ok (.getfield 15, 3) := by decide +kernel
theorem in2_4_23 : decode jdk_42_method_149_code 23 = .ok (.putfield 15, 3) := by decide +kernel
theorem in2_4_26 : decode jdk_42_method_149_code 26 = .ok (.return_, 1) := by decide +kernel
theorem in2_4_27 : decode jdk_42_method_149_code 27 = .ok (.getstatic 38, 3) := by decide +kernel
theorem in2_4_30 : decode jdk_42_method_149_code 30 = .ok (.ifCond .eq 28, 3) := by decide +kernel
theorem in2_4_33 : decode jdk_42_method_149_code 33 = .ok (.aload_n 1, 1) := by decide +kernel
theorem in2_4_34 : decode jdk_42_method_149_code 34 = .ok (.iload_n 2, 1) := by decide +kernel
theorem in2_4_35 : decode jdk_42_method_149_code 35 = .ok (.iload_n 3, 1) := by decide +kernel
theorem in2_4_36 : decode jdk_42_method_149_code 36 = .ok (.invokestatic 177, 3) := by decide +kernel
theorem in2_4_39 : decode jdk_42_method_149_code 39 = .ok (.astore 5, 2) := by decide +kernel
theorem in2_4_41 : decode jdk_42_method_149_code 41 = .ok (.aload_n 0, 1) := by decide +kernel
theorem in2_4_42 : decode jdk_42_method_149_code 42 = .ok (.aload 5, 2) := by decide +kernel
theorem in2_4_44 : decode jdk_42_method_149_code 44 = .ok (.iload_n 3, 1) := by decide +kernel
theorem in2_4_45 : decode jdk_42_method_149_code 45 = .ok (.invokestatic 47, 3) := by decide +kernel
theorem in2_4_48 : decode jdk_42_method_149_code 48 = .ok (.putfield 15, 3) := by decide +kernel
theorem in2_4_51 : decode jdk_42_method_149_code 51 = .ok (.aload_n 0, 1) := by decide +kernel
theorem in2_4_52 : decode jdk_42_method_149_code 52 = .ok (.aload 5, 2) := by decide +kernel
theorem in2_4_54 : decode jdk_42_method_149_code 54 = .ok (.putfield 9, 3) := by decide +kernel
theorem in2_4_57 : decode jdk_42_method_149_code 57 = .ok (.return_, 1) := by decide +kernel
theorem in2_4_58 : decode jdk_42_method_149_code 58 = .ok (.aload_n 0, 1) := by decide +kernel
theorem in2_4_59 : decode jdk_42_method_149_code 59 = .ok (.iconst 1, 1) := by decide +kernel
theorem in2_4_60 : decode jdk_42_method_149_code 60 = .ok (.putfield 15, 3) := by decide +kernel
theorem in2_4_63 : decode jdk_42_method_149_code 63 = .ok (.aload_n 0, 1) := by decide +kernel
theorem in2_4_64 : decode jdk_42_method_149_code 64 = .ok (.aload_n 1, 1) := by decide +kernel
theorem in2_4_65 : decode jdk_42_method_149_code 65 = .ok (.iload_n 2, 1) := by decide +kernel
theorem in2_4_66 : decode jdk_42_method_149_code 66 = .ok (.iload_n 3, 1) := by decide +kernel
theorem in2_4_67 : decode jdk_42_method_149_code 67 = .ok (.invokestatic 180, 3) := by decide +kernel
theorem in2_4_70 : decode jdk_42_method_149_code 70 = .ok (.putfield 9, 3) := by decide +kernel
theorem in2_4_73 : decode jdk_42_method_149_code 73 = .ok (.return_, 1) := by decide +kernel
theorem pn_in2_4 : plainFor (⟨"java/lang/String", "<init>", "([CIILjava/lang/Void;)V"⟩ : MethodName) = true := by first | exact plainFor_of_name (by first | (simp [plainName, overriddenIn]; done) | decide +kernel) | decide +kernel
theorem ef_in2_4 (m : MethodId) (qa : Addr) (qc : Addr)  : entryFrame m #[(.ref qa), (.ref qc), (.int (0 : Int32)), (.int (4 : Int32)), .null] 6 = mkF m 0 #[.val (.ref qa), .val (.ref qc), .val (.int (0 : Int32)), .val (.int (4 : Int32)), .val .null, .unset] [] := by first | (simp [entryFrame, mkF, argsToLocals, Value.category, maxLocals]; done) | rfl
theorem pd_in2_4 : parseMethodDescriptor "([CIILjava/lang/Void;)V" = some ⟨[.array (.char), .int, .int, .object "java/lang/Void"], none⟩ := by decide +kernel
set_option maxRecDepth 65536 in
set_option maxHeartbeats 40000000 in
theorem rm_in2_4 (l : Launch) (Z : State) (a0 : Array Value) (hw : ∀ d ∈ tables_1, d.before a0 Z = true)  (qa : Addr) (qc : Addr) (h0 : Heap) (n0 : Nat) (XO : Old Z n0 h0) (cs : Int32) (hcs : ¬ cs = (0 : Int32)) (SC : Sta Z Z.heap "java/lang/String" "COMPACT_STRINGS" "Z" (.int cs)) (ga : n0 ≤ qa) (hne : qc ≠ qa) (c0 c1 c2 c3 : Int32) (hc0 : ¬ (255 : Int32) < c0) (hc1 : ¬ (255 : Int32) < c1) (hc2 : ¬ (255 : Int32) < c2) (hc3 : ¬ (255 : Int32) < c3) (A1 : Arl Z h0 qc .char [(.int c0), (.int c1), (.int c2), (.int c3)])(E1 : Exa Z h0 qa "java/lang/String")(F1 : Fld Z h0 qa "java/lang/String" "value" "[B" .null)(F2 : Fld Z h0 qa "java/lang/String" "coder" "B" (.int (0 : Int32))) :
    MetFree l (⟨"java/lang/String", "<init>", "([CIILjava/lang/Void;)V"⟩ : MethodName) (head1 [Jvm.Cond.code (⟨"java/lang/String", "<init>", "([CIILjava/lang/Void;)V"⟩ : MethodName) jdk_42_method_149_code 6 none] ({ frames := 2, cells := 1, slots := 4, locals := 35 } : Room)) (fun a U => a = #[(.ref qa), (.ref qc), (.int (0 : Int32)), (.int (4 : Int32)), .null] ∧ Z.Warmed39 U.vm ∧ U.heap = h0) (fun _ _ _ _ _ => True) (fun _ U o U' => ∃ v L, o = .returned v ∧ SQ_4 Z qa c0 c1 c2 c3 h0 n0 v U'.heap L ∧ FrameEnd U o U' L ({ frames := 2, cells := 1, slots := 4, locals := 35 } : Room).cells ({ frames := 2, cells := 1, slots := 4, locals := 35 } : Room).slots) := by
  refine MetFree.of_bodySF pn_in2_4 hisR ?_
  intro p e s m args below meth c s₁ Bd hml0 hP hK
  obtain ⟨rfl, hZ, hh⟩ := hP
  have hx := Bd.exec
  have hby := Bd.bytes
  have hml : c.maxLocals = 6 := hml0
  have hown : s.vm.findClass "java/lang/String" = some m.cls := findClass_of_methodNamed Bd.named
  have hnm := (name_of_methodNamed Bd.named Bd.method).1
  have hlk : meth.locks = false := BodyLoose.notSynchronized Bd
  have X0 : Stand p l e ({ frames := 2, cells := 1, slots := 4, locals := 35 } : Room) s m #[(.ref qa), (.ref qc), (.int (0 : Int32)), (.int (4 : Int32)), .null] below meth c s₁ [] 0 0 := Stand.of_body Bd
  have e0 : s₁.heap = h0 := by rw [← hh, Bd.state]; rfl
  show Go p e below (EndN below s (SQ_4 Z qa c0 c1 c2 c3 h0 n0) ({ frames := 2, cells := 1, slots := 4, locals := 35 } : Room).cells ({ frames := 2, cells := 1, slots := 4, locals := 35 } : Room).slots) (s₁.setTop (entryFrame m #[(.ref qa), (.ref qc), (.int (0 : Int32)), (.int (4 : Int32)), .null] 6))
  rw [ef_in2_4]
  refine g_aload_n X0 hx 1 (.ref qa) (hb hby in2_4_0) rfl rfl rfl ?_
  obtain ⟨T_1, X_1, e_1, st_1⟩ := g_initO X0 hx hZ hown (hw _ (List.mem_of_getElem? (i := 17) rfl)) (hw _ (List.mem_of_getElem? (i := 18) rfl)) (hw _ (List.mem_of_getElem? (i := 19) rfl)) e0 0 (by decide) (by decide) 4 (a := qa) (Ls := #[.val (.ref qa), .val (.ref qc), .val (.int (0 : Int32)), .val (.int (4 : Int32)), .val .null, .unset]) (st := []) (by rw [hml]; rfl) (Nat.le_of_eq rfl) (hb hby in2_4_1) rfl
  refine st_1 ?_
  refine g_iload_n X_1 hx 5 (4 : Int32) (hb hby in2_4_4) rfl rfl ?_
  refine g_ifY X_1 hx 27 (hb hby in2_4_5) (XT.i0_ne_t (by decide)) (by decide) (by decide) ?_
  obtain ⟨T_27, X_27, e_27, st_27⟩ := g_getS X_1 hx hZ hown (hw _ (List.mem_of_getElem? (i := 37) rfl)) e_1 (SC.ext XO.2) 30 (hb hby in2_4_27) rfl
  refine st_27 ?_
  refine g_ifN X_27 hx 33 (hb hby in2_4_30) (XT.i0_eq_f hcs) rfl ?_
  refine g_aload_n X_27 hx 34 (.ref qc) (hb hby in2_4_33) rfl rfl rfl ?_
  refine g_iload_n X_27 hx 35 (0 : Int32) (hb hby in2_4_34) rfl rfl ?_
  refine g_iload_n X_27 hx 36 (4 : Int32) (hb hby in2_4_35) rfl rfl ?_
  obtain ⟨_, T_36, L_36, X_36, ⟨b_36, rfl, g_36, M_36, K_36, B_36⟩, st_36⟩ := g_callS X_27 hx hZ  (own := "java/lang/String") (index := 177) (y := (⟨"java/lang/StringUTF16", "compress", "([CII)[B"⟩ : MethodName)) (as' := [(.ref qc), (.int (0 : Int32)), (.int (4 : Int32))]) hown (hw _ (List.mem_of_getElem? (i := 41) rfl)) (hw _ (List.mem_of_getElem? (i := 42) rfl)) (hw _ (List.mem_of_getElem? (i := 43) rfl)) (hw _ (List.mem_of_getElem? (i := 44) rfl)) (by decide) e_27 (rm_cp1_4 l Z a0 hw qc h0 n0 (XO.1 ▸ XO.2.1) c0 c1 c2 c3 hc0 hc1 hc2 hc3 A1) pd_cp1_4 rfl 0 (by decide) (by decide) (by decide) (by decide) (pc := 36) (Ls := #[.val (.ref qa), .val (.ref qc), .val (.int (0 : Int32)), .val (.int (4 : Int32)), .val .null, .unset]) (rest := []) (st := [(.int (4 : Int32)), (.int (0 : Int32)), (.ref qc)]) (by rw [hml]; rfl) rfl (Nat.le_of_eq rfl) (hb hby in2_4_36)
  refine Go.of ?_ st_36
  have F_36_0 : Arl Z T_36.heap qc .char [(.int c0), (.int c1), (.int c2), (.int c3)] := A1.keep K_36 nin0
  have F_36_1 : Exa Z T_36.heap qa "java/lang/String" := E1.keep K_36
  have F_36_2 : Fld Z T_36.heap qa "java/lang/String" "value" "[B" .null := F1.keep K_36 nin0
  have F_36_3 : Fld Z T_36.heap qa "java/lang/String" "coder" "B" (.int (0 : Int32)) := F2.keep K_36 nin0
  have N_36 := Fr.app (Fr.nil _) M_36
  have Z_36 : h0.size ≤ T_36.heap.size := Nat.le_trans (Nat.le_refl _) K_36.1
  have O_36 := Old.keep XO K_36 all0
  have ne_36 : qa ≠ b_36 := Nat.ne_of_lt (Nat.lt_of_lt_of_le E1.lt g_36)
  show Go p e below _ (T_36.setTop (mkF m 39 #[.val (.ref qa), .val (.ref qc), .val (.int (0 : Int32)), .val (.int (4 : Int32)), .val .null, .unset] [(.ref b_36)]))
  refine g_astore X_36 hx 41 #[.val (.ref qa), .val (.ref qc), .val (.int (0 : Int32)), .val (.int (4 : Int32)), .val .null, .val (.ref b_36)] (hb hby in2_4_39) rfl rfl rfl ?_
  refine g_aload_n X_36 hx 42 (.ref qa) (hb hby in2_4_41) rfl rfl rfl ?_
  refine g_aload X_36 hx 44 (.ref b_36) (hb hby in2_4_42) rfl rfl rfl ?_
  refine g_iload_n X_36 hx 45 (4 : Int32) (hb hby in2_4_44) rfl rfl ?_
  obtain ⟨_, T_45, L_45, X_45, ⟨rfl, rfl, e_45⟩, st_45⟩ := g_callS X_36 hx hZ  (own := "java/lang/String") (index := 47) (y := (⟨"java/lang/StringUTF16", "coderFromArrayLen", "([BI)B"⟩ : MethodName)) (as' := [(.ref b_36), (.int (4 : Int32))]) hown (hw _ (List.mem_of_getElem? (i := 48) rfl)) (hw _ (List.mem_of_getElem? (i := 49) rfl)) (hw _ (List.mem_of_getElem? (i := 43) rfl)) (hw _ (List.mem_of_getElem? (i := 50) rfl)) (by decide) rfl (rm_cfl l Z a0 hw b_36 (4 : Int32) T_36.heap [(.int (c0.toInt8.toInt32)), (.int (c1.toInt8.toInt32)), (.int (c2.toInt8.toInt32)), (.int (c3.toInt8.toInt32))] rfl B_36) pd_cfl rfl 1 (by decide) (by decide) (by decide) (by decide) (pc := 45) (Ls := #[.val (.ref qa), .val (.ref qc), .val (.int (0 : Int32)), .val (.int (4 : Int32)), .val .null, .val (.ref b_36)]) (rest := [(.ref qa)]) (st := [(.int (4 : Int32)), (.ref b_36), (.ref qa)]) (by rw [hml]; rfl) rfl (Nat.le_of_eq rfl) (hb hby in2_4_45)
  refine Go.of ?_ st_45
  rw [List.append_nil] at X_45
  show Go p e below _ (T_45.setTop (mkF m 48 #[.val (.ref qa), .val (.ref qc), .val (.int (0 : Int32)), .val (.int (4 : Int32)), .val .null, .val (.ref b_36)] [(.int (0 : Int32)), (.ref qa)]))
  obtain ⟨T_48, h_48, X_48, e_48, W_48, st_48⟩ := g_putF X_45 hx hZ hown (hw _ (List.mem_of_getElem? (i := 26) rfl)) Via.refl e_45 F_36_3 F_36_1 (Or.inr ⟨hw _ (List.mem_of_getElem? (i := 22) rfl), rfl, hnm⟩) (hw _ (List.mem_of_getElem? (i := 8) rfl)) (ty := .byte) (v := (.int (0 : Int32))) (by decide) rfl rfl 51 (hb hby in2_4_48) rfl
  refine st_48 ?_
  have F_48_0 : Fld Z h_48 qa "java/lang/String" "value" "[B" .null := F_36_2.other W_48 (Or.inr (Jvm.RoadKit.slot_ne (Or.inr (hw _ (List.mem_of_getElem? (i := 21) rfl))) (Or.inr (hw _ (List.mem_of_getElem? (i := 22) rfl))) (by decide) (t := .array (.byte)) (t' := .byte) (by decide) (by decide)))
  have F_48_1 : Fld Z h_48 qa "java/lang/String" "coder" "B" (.int (0 : Int32)) := F_36_3.same W_48
  have F_48_2 : Arl Z h_48 qc .char [(.int c0), (.int c1), (.int c2), (.int c3)] := F_36_0.other W_48 hne
  have F_48_3 : Exa Z h_48 qa "java/lang/String" := F_36_1.wr W_48
  have F_48_4 : Arl Z h_48 b_36 .byte [(.int (c0.toInt8.toInt32)), (.int (c1.toInt8.toInt32)), (.int (c2.toInt8.toInt32)), (.int (c3.toInt8.toInt32))] := B_36.other W_48 (Ne.symm ne_36)
  have N_48 := Fr.snoc X_48 N_36 ga
  have Z_48 : h0.size ≤ h_48.size := by rw [W_48.size]; exact Z_36
  have O_48 := Old.wr O_36 W_48 ga
  refine g_aload_n X_48 hx 52 (.ref qa) (hb hby in2_4_51) rfl rfl rfl ?_
  refine g_aload X_48 hx 54 (.ref b_36) (hb hby in2_4_52) rfl rfl rfl ?_
  obtain ⟨T_54, h_54, X_54, e_54, W_54, st_54⟩ := g_putF X_48 hx hZ hown (hw _ (List.mem_of_getElem? (i := 25) rfl)) Via.refl e_48 F_48_0 F_48_3 (Or.inr ⟨hw _ (List.mem_of_getElem? (i := 21) rfl), rfl, hnm⟩) (hw _ (List.mem_of_getElem? (i := 8) rfl)) (ty := .array (.byte)) (v := (.ref b_36)) (by decide) rfl rfl 57 (hb hby in2_4_54) rfl
  refine st_54 ?_
  have F_54_0 : Fld Z h_54 qa "java/lang/String" "value" "[B" (.ref b_36) := F_48_0.same W_54
  have F_54_1 : Fld Z h_54 qa "java/lang/String" "coder" "B" (.int (0 : Int32)) := F_48_1.other W_54 (Or.inr (Jvm.RoadKit.slot_ne (Or.inr (hw _ (List.mem_of_getElem? (i := 22) rfl))) (Or.inr (hw _ (List.mem_of_getElem? (i := 21) rfl))) (by decide) (t := .byte) (t' := .array (.byte)) (by decide) (by decide)))
  have F_54_2 : Arl Z h_54 qc .char [(.int c0), (.int c1), (.int c2), (.int c3)] := F_48_2.other W_54 hne
  have F_54_3 : Exa Z h_54 qa "java/lang/String" := F_48_3.wr W_54
  have F_54_4 : Arl Z h_54 b_36 .byte [(.int (c0.toInt8.toInt32)), (.int (c1.toInt8.toInt32)), (.int (c2.toInt8.toInt32)), (.int (c3.toInt8.toInt32))] := F_48_4.other W_54 (Ne.symm ne_36)
  have N_54 := Fr.snoc X_54 N_48 ga
  have Z_54 : h0.size ≤ h_54.size := by rw [W_54.size]; exact Z_48
  have O_54 := Old.wr O_48 W_54 ga
  exact Go.retV X_54 hx hlk Bd.returns (hb hby in2_4_57) (by decide) (by decide) ⟨_, rfl, g_36, N_54, e_54.symm ▸ ((((Keep.refl _ _).trans K_36 all0).wr W_48 (Or.inl (by simp))).wr W_54 (Or.inl (by simp))), e_54.symm ▸ ⟨F_54_3, F_54_1, F_54_0, F_54_4⟩⟩
theorem in1_4_0 : decode jdk_42_method_3_code 0 = .ok (.aload_n 0, 1) := by decide +kernel
theorem in1_4_1 : decode jdk_42_method_3_code 1 = .ok (.aload_n 1, 1) := by decide +kernel
theorem in1_4_2 : decode jdk_42_method_3_code 2 = .ok (.iconst 0, 1) := by decide +kernel
theorem in1_4_3 : decode jdk_42_method_3_code 3 = .ok (.aload_n 1, 1) := by decide +kernel
theorem in1_4_4 : decode jdk_42_method_3_code 4 = .ok (.arraylength, 1) := by decide +kernel
theorem in1_4_5 : decode jdk_42_method_3_code 5 = .ok (.aconst_null, 1) := by decide +kernel
theorem in1_4_6 : decode jdk_42_method_3_code 6 = .ok (.invokespecial 27, 3) := by decide +kernel
theorem in1_4_9 : decode jdk_42_method_3_code 9 = .ok (.return_, 1) := by decide +kernel
theorem pn_in1_4 : plainFor (⟨"java/lang/String", "<init>", "([C)V"⟩ : MethodName) = true := by first | exact plainFor_of_name (by first | (simp [plainName, overriddenIn]; done) | decide +kernel) | decide +kernel
theorem ef_in1_4 (m : MethodId) (qa : Addr) (qc : Addr)  : entryFrame m #[(.ref qa), (.ref qc)] 2 = mkF m 0 #[.val (.ref qa), .val (.ref qc)] [] := by first | (simp [entryFrame, mkF, argsToLocals, Value.category, maxLocals]; done) | rfl
theorem pd_in1_4 : parseMethodDescriptor "([C)V" = some ⟨[.array (.char)], none⟩ := by decide +kernel
set_option maxRecDepth 65536 in
set_option maxHeartbeats 40000000 in
theorem rm_in1_4 (l : Launch) (Z : State) (a0 : Array Value) (hw : ∀ d ∈ tables_1, d.before a0 Z = true)  (qa : Addr) (qc : Addr) (h0 : Heap) (n0 : Nat) (XO : Old Z n0 h0) (cs : Int32) (hcs : ¬ cs = (0 : Int32)) (SC : Sta Z Z.heap "java/lang/String" "COMPACT_STRINGS" "Z" (.int cs)) (ga : n0 ≤ qa) (hne : qc ≠ qa) (c0 c1 c2 c3 : Int32) (hc0 : ¬ (255 : Int32) < c0) (hc1 : ¬ (255 : Int32) < c1) (hc2 : ¬ (255 : Int32) < c2) (hc3 : ¬ (255 : Int32) < c3) (A1 : Arl Z h0 qc .char [(.int c0), (.int c1), (.int c2), (.int c3)])(E1 : Exa Z h0 qa "java/lang/String")(F1 : Fld Z h0 qa "java/lang/String" "value" "[B" .null)(F2 : Fld Z h0 qa "java/lang/String" "coder" "B" (.int (0 : Int32))) :
    MetFree l (⟨"java/lang/String", "<init>", "([C)V"⟩ : MethodName) (head1 [Jvm.Cond.code (⟨"java/lang/String", "<init>", "([C)V"⟩ : MethodName) jdk_42_method_3_code 2 none] ({ frames := 3, cells := 1, slots := 4, locals := 52 } : Room)) (fun a U => a = #[(.ref qa), (.ref qc)] ∧ Z.Warmed39 U.vm ∧ U.heap = h0) (fun _ _ _ _ _ => True) (fun _ U o U' => ∃ v L, o = .returned v ∧ SQ_4 Z qa c0 c1 c2 c3 h0 n0 v U'.heap L ∧ FrameEnd U o U' L ({ frames := 3, cells := 1, slots := 4, locals := 52 } : Room).cells ({ frames := 3, cells := 1, slots := 4, locals := 52 } : Room).slots) := by
  refine MetFree.of_bodySF pn_in1_4 hisR ?_
  intro p e s m args below meth c s₁ Bd hml0 hP hK
  obtain ⟨rfl, hZ, hh⟩ := hP
  have hx := Bd.exec
  have hby := Bd.bytes
  have hml : c.maxLocals = 2 := hml0
  have hown : s.vm.findClass "java/lang/String" = some m.cls := findClass_of_methodNamed Bd.named
  have hnm := (name_of_methodNamed Bd.named Bd.method).1
  have hlk : meth.locks = false := BodyLoose.notSynchronized Bd
  have X0 : Stand p l e ({ frames := 3, cells := 1, slots := 4, locals := 52 } : Room) s m #[(.ref qa), (.ref qc)] below meth c s₁ [] 0 0 := Stand.of_body Bd
  have e0 : s₁.heap = h0 := by rw [← hh, Bd.state]; rfl
  show Go p e below (EndN below s (SQ_4 Z qa c0 c1 c2 c3 h0 n0) ({ frames := 3, cells := 1, slots := 4, locals := 52 } : Room).cells ({ frames := 3, cells := 1, slots := 4, locals := 52 } : Room).slots) (s₁.setTop (entryFrame m #[(.ref qa), (.ref qc)] 2))
  rw [ef_in1_4]
  refine g_aload_n X0 hx 1 (.ref qa) (hb hby in1_4_0) rfl rfl rfl ?_
  refine g_aload_n X0 hx 2 (.ref qc) (hb hby in1_4_1) rfl rfl rfl ?_
  refine g_iconst X0 hx 3 (0 : Int32) (hb hby in1_4_2) rfl rfl ?_
  refine g_aload_n X0 hx 4 (.ref qc) (hb hby in1_4_3) rfl rfl rfl ?_
  refine g_alen X0 hx hZ e0 A1 (4 : Int32) rfl 5 (hb hby in1_4_4) rfl ?_
  refine g_aconst_null X0 hx 6 (hb hby in1_4_5) rfl ?_
  obtain ⟨_, T_6, L_6, X_6, ⟨b_6, rfl, g_6, M_6, K_6, Q_6⟩, st_6⟩ := g_callI X0 hx hZ  (own := "java/lang/String") (index := 27) (y := (⟨"java/lang/String", "<init>", "([CIILjava/lang/Void;)V"⟩ : MethodName)) (a := qa) (as' := [(.ref qc), (.int (0 : Int32)), (.int (4 : Int32)), .null]) rfl hown (hw _ (List.mem_of_getElem? (i := 13) rfl)) (hw _ (List.mem_of_getElem? (i := 14) rfl)) (hw _ (List.mem_of_getElem? (i := 9) rfl)) (hw _ (List.mem_of_getElem? (i := 16) rfl)) (by decide) e0 (rm_in2_4 l Z a0 hw qa qc h0 n0 XO cs hcs SC ga hne c0 c1 c2 c3 hc0 hc1 hc2 hc3 A1 E1 F1 F2) pd_in2_4 rfl 0 (by decide) (by decide) (by decide) (by decide) (pc := 6) (Ls := #[.val (.ref qa), .val (.ref qc)]) (rest := []) (st := [.null, (.int (4 : Int32)), (.int (0 : Int32)), (.ref qc), (.ref qa)]) (by rw [hml]; rfl) rfl (Nat.le_of_eq rfl) (hb hby in1_4_6)
  refine st_6 ?_
  show Go p e below _ (T_6.setTop (mkF m 9 #[.val (.ref qa), .val (.ref qc)] []))
  exact Go.retV X_6 hx hlk Bd.returns (hb hby in1_4_9) (by decide) (by decide) ⟨_, rfl, g_6, (Fr.app (Fr.nil _) M_6), K_6, Q_6⟩
theorem lwc_0 : decode prog_58_method_14_code 0 = .ok (.iload_n 0, 1) := by decide +kernel
theorem lwc_1 : decode prog_58_method_14_code 1 = .ok (.sipush 255, 3) := by decide +kernel
theorem lwc_4 : decode prog_58_method_14_code 4 = .ok (.iand, 1) := by decide +kernel
theorem lwc_5 : decode prog_58_method_14_code 5 = .ok (.istore_n 1, 1) := by decide +kernel
theorem lwc_6 : decode prog_58_method_14_code 6 = .ok (.iload_n 1, 1) := by decide +kernel
theorem lwc_7 : decode prog_58_method_14_code 7 = .ok (.bipush 65, 2) := by decide +kernel
theorem lwc_9 : decode prog_58_method_14_code 9 = .ok (.if_icmp .lt 16, 3) := by decide +kernel
theorem lwc_12 : decode prog_58_method_14_code 12 = .ok (.iload_n 1, 1) := by decide +kernel
theorem lwc_13 : decode prog_58_method_14_code 13 = .ok (.bipush 90, 2) := by decide +kernel
theorem lwc_15 : decode prog_58_method_14_code 15 = .ok (.if_icmp .gt 10, 3) := by decide +kernel
theorem lwc_18 : decode prog_58_method_14_code 18 = .ok (.iload_n 1, 1) := by decide +kernel
theorem lwc_19 : decode prog_58_method_14_code 19 = .ok (.bipush 32, 2) := by decide +kernel
theorem lwc_21 : decode prog_58_method_14_code 21 = .ok (.iadd, 1) := by decide +kernel
theorem lwc_22 : decode prog_58_method_14_code 22 = .ok (.goto 4, 3) := by decide +kernel
theorem lwc_25 : decode prog_58_method_14_code 25 = .ok (.iload_n 1, 1) := by decide +kernel
theorem lwc_26 : decode prog_58_method_14_code 26 = .ok (.i2c, 1) := by decide +kernel
theorem lwc_27 : decode prog_58_method_14_code 27 = .ok (.ireturn, 1) := by decide +kernel
theorem pn_lwc : plainFor (⟨"com/example/marble_cache/marblecache/command/Words", "lowerCase", "(B)C"⟩ : MethodName) = true := by first | exact plainFor_of_name (by first | (simp [plainName, overriddenIn]; done) | decide +kernel) | decide +kernel
theorem ef_lwc (m : MethodId) (q1 : Int32)  : entryFrame m #[(.int q1)] 2 = mkF m 0 #[.val (.int q1), .unset] [] := by first | (simp [entryFrame, mkF, argsToLocals, Value.category, maxLocals]; done) | rfl
theorem pd_lwc : parseMethodDescriptor "(B)C" = some ⟨[.byte], some (.char)⟩ := by decide +kernel
set_option maxRecDepth 65536 in
set_option maxHeartbeats 40000000 in
theorem rm_lwc (l : Launch) (Z : State) (a0 : Array Value) (hw : ∀ d ∈ tables_1, d.before a0 Z = true)  (q1 : Int32) (h0 : Heap)  :
    MetFree l (⟨"com/example/marble_cache/marblecache/command/Words", "lowerCase", "(B)C"⟩ : MethodName) (head1 [Jvm.Cond.code (⟨"com/example/marble_cache/marblecache/command/Words", "lowerCase", "(B)C"⟩ : MethodName) prog_58_method_14_code 2 (some Jvm.ClassFile.FieldType.char)] ({ frames := 0, cells := 0, slots := 0, locals := 0 } : Room)) (fun a U => a = #[(.int q1)] ∧ Z.Warmed39 U.vm ∧ U.heap = h0) (fun _ _ _ _ _ => True) (fun _ U o U' => ∃ v L, o = .returned v ∧ Pur (some (.int (lcb q1))) h0 v U'.heap L ∧ FrameEnd U o U' L ({ frames := 0, cells := 0, slots := 0, locals := 0 } : Room).cells ({ frames := 0, cells := 0, slots := 0, locals := 0 } : Room).slots) := by
  refine MetFree.of_bodySF pn_lwc hisR ?_
  intro p e s m args below meth c s₁ Bd hml0 hP hK
  obtain ⟨rfl, hZ, hh⟩ := hP
  have hx := Bd.exec
  have hby := Bd.bytes
  have hml : c.maxLocals = 2 := hml0
  have hown : s.vm.findClass "com/example/marble_cache/marblecache/command/Words" = some m.cls := findClass_of_methodNamed Bd.named
  have hnm := (name_of_methodNamed Bd.named Bd.method).1
  have hlk : meth.locks = false := BodyLoose.notSynchronized Bd
  have X0 : Stand p l e ({ frames := 0, cells := 0, slots := 0, locals := 0 } : Room) s m #[(.int q1)] below meth c s₁ [] 0 0 := Stand.of_body Bd
  have e0 : s₁.heap = h0 := by rw [← hh, Bd.state]; rfl
  show Go p e below (EndN below s (Pur (some (.int (lcb q1))) h0) ({ frames := 0, cells := 0, slots := 0, locals := 0 } : Room).cells ({ frames := 0, cells := 0, slots := 0, locals := 0 } : Room).slots) (s₁.setTop (entryFrame m #[(.int q1)] 2))
  rw [ef_lwc]
  refine g_iload_n X0 hx 1 q1 (hb hby lwc_0) rfl rfl ?_
  refine g_sipush X0 hx 4 (255 : Int32) (hb hby lwc_1) rfl rfl ?_
  refine g_iand X0 hx 5 (hb hby lwc_4) rfl ?_
  refine g_istore_n X0 hx 6 #[.val (.int q1), .val (.int (q1 &&& (255 : Int32)))] (hb hby lwc_5) rfl rfl ?_
  refine g_iload_n X0 hx 7 (q1 &&& (255 : Int32)) (hb hby lwc_6) rfl rfl ?_
  refine g_bipush X0 hx 9 (65 : Int32) (hb hby lwc_7) rfl rfl ?_
  by_cases c9 : (q1 &&& (255 : Int32)) < (65 : Int32)
  ·
    refine g_icmpY X0 hx 25 (hb hby lwc_9) (XT.ii_lt_t c9) (by decide) (by decide) ?_
    refine g_iload_n X0 hx 26 (q1 &&& (255 : Int32)) (hb hby lwc_25) rfl rfl ?_
    refine g_i2c X0 hx 27 (hb hby lwc_26) rfl ?_
    have hv : lcb q1 = (q1 &&& (255 : Int32)) := by unfold lcb; rw [if_pos c9]
    rw [← hv, lcb_i2c]
    exact Go.retZ X0 hx hlk Bd.returns (by simp) (hb hby lwc_27) (by decide) (by decide) ⟨by rw [lcb_ch], rfl, e0⟩
  ·
    refine g_icmpN X0 hx 12 (hb hby lwc_9) (XT.ii_lt_f c9) rfl ?_
    refine g_iload_n X0 hx 13 (q1 &&& (255 : Int32)) (hb hby lwc_12) rfl rfl ?_
    refine g_bipush X0 hx 15 (90 : Int32) (hb hby lwc_13) rfl rfl ?_
    by_cases c15 : (90 : Int32) < (q1 &&& (255 : Int32))
    ·
      refine g_icmpY X0 hx 25 (hb hby lwc_15) (XT.ii_gt_t c15) (by decide) (by decide) ?_
      refine g_iload_n X0 hx 26 (q1 &&& (255 : Int32)) (hb hby lwc_25) rfl rfl ?_
      refine g_i2c X0 hx 27 (hb hby lwc_26) rfl ?_
      have hv : lcb q1 = (q1 &&& (255 : Int32)) := by unfold lcb; rw [if_neg c9, if_pos c15]
      rw [← hv, lcb_i2c]
      exact Go.retZ X0 hx hlk Bd.returns (by simp) (hb hby lwc_27) (by decide) (by decide) ⟨by rw [lcb_ch], rfl, e0⟩
    ·
      refine g_icmpN X0 hx 18 (hb hby lwc_15) (XT.ii_gt_f c15) rfl ?_
      refine g_iload_n X0 hx 19 (q1 &&& (255 : Int32)) (hb hby lwc_18) rfl rfl ?_
      refine g_bipush X0 hx 21 (32 : Int32) (hb hby lwc_19) rfl rfl ?_
      refine g_iadd X0 hx 22 (hb hby lwc_21) rfl ?_
      refine g_goto X0 hx 26 (hb hby lwc_22) (by decide) (by decide) ?_
      refine g_i2c X0 hx 27 (hb hby lwc_26) rfl ?_
      have hv : lcb q1 = ((q1 &&& (255 : Int32)) + (32 : Int32)) := by unfold lcb; rw [if_neg c9, if_neg c15]
      rw [← hv, lcb_i2c]
      exact Go.retZ X0 hx hlk Bd.returns (by simp) (hb hby lwc_27) (by decide) (by decide) ⟨by rw [lcb_ch], rfl, e0⟩
def WQ_1 (Z : State) (b0 : Int32) (h0 : Heap) (n0 : Nat) (v : Option Value) (h : Heap) (L : List Loc) : Prop := ∃ qa qb : Addr, v = some (.ref qa) ∧ Fr n0 L ∧ Keep h0 h [] ∧ Stl Z h qa qb 0 [(.int ((lcb b0).toInt8.toInt32))]
theorem low_1_0 : decode prog_58_method_13_code 0 = .ok (.aload_n 0, 1) := by decide +kernel
theorem low_1_1 : decode prog_58_method_13_code 1 = .ok (.arraylength, 1) := by decide +kernel
theorem low_1_2 : decode prog_58_method_13_code 2 = .ok (.newarray .char, 2) := by decide +kernel
theorem low_1_4 : decode prog_58_method_13_code 4 = .ok (.astore_n 1, 1) := by decide +kernel
theorem low_1_5 : decode prog_58_method_13_code 5 = .ok (.iconst 0, 1) := by decide +kernel
theorem low_1_6 : decode prog_58_method_13_code 6 = .ok (.istore_n 2, 1) := by decide +kernel
theorem low_1_7 : decode prog_58_method_13_code 7 = .ok (.iload_n 2, 1) := by decide +kernel
theorem low_1_8 : decode prog_58_method_13_code 8 = .ok (.aload_n 0, 1) := by decide +kernel
theorem low_1_9 : decode prog_58_method_13_code 9 = .ok (.arraylength, 1) := by decide +kernel
theorem low_1_10 : decode prog_58_method_13_code 10 = .ok (.if_icmp .ge 18, 3) := by decide +kernel
theorem low_1_13 : decode prog_58_method_13_code 13 = .ok (.aload_n 1, 1) := by decide +kernel
theorem low_1_14 : decode prog_58_method_13_code 14 = .ok (.iload_n 2, 1) := by decide +kernel
theorem low_1_15 : decode prog_58_method_13_code 15 = .ok (.aload_n 0, 1) := by decide +kernel
theorem low_1_16 : decode prog_58_method_13_code 16 = .ok (.iload_n 2, 1) := by decide +kernel
theorem low_1_17 : decode prog_58_method_13_code 17 = .ok (.baload, 1) := by decide +kernel
theorem low_1_18 : decode prog_58_method_13_code 18 = .ok (.invokestatic 113, 3) := by decide +kernel
theorem low_1_21 : decode prog_58_method_13_code 21 = .ok (.castore, 1) := by decide +kernel
theorem low_1_22 : decode prog_58_method_13_code 22 = .ok (.iinc 2 1, 3) := by decide +kernel
theorem low_1_25 : decode prog_58_method_13_code 25 = .ok (.goto (-18), 3) := by decide +kernel
theorem low_1_28 : decode prog_58_method_13_code 28 = .ok (.new 88, 3) := by decide +kernel
theorem low_1_31 : decode prog_58_method_13_code 31 = .ok (.dup, 1) := by decide +kernel
theorem low_1_32 : decode prog_58_method_13_code 32 = .ok (.aload_n 1, 1) := by decide +kernel
theorem low_1_33 : decode prog_58_method_13_code 33 = .ok (.invokespecial 137, 3) := by decide +kernel
theorem low_1_36 : decode prog_58_method_13_code 36 = .ok (.areturn, 1) := by decide +kernel
theorem pn_low_1 : plainFor (⟨"com/example/marble_cache/marblecache/command/Words", "lowerCase", "([B)Ljava/lang/String;"⟩ : MethodName) = true := by first | exact plainFor_of_name (by first | (simp [plainName, overriddenIn]; done) | decide +kernel) | decide +kernel
theorem ef_low_1 (m : MethodId) (qw : Addr)  : entryFrame m #[(.ref qw)] 3 = mkF m 0 #[.val (.ref qw), .unset, .unset] [] := by first | (simp [entryFrame, mkF, argsToLocals, Value.category, maxLocals]; done) | rfl
theorem pd_low_1 : parseMethodDescriptor "([B)Ljava/lang/String;" = some ⟨[.array (.byte)], some (.object "java/lang/String")⟩ := by decide +kernel
set_option maxRecDepth 65536 in
set_option maxHeartbeats 40000000 in
theorem rm_low_1 (l : Launch) (Z : State) (a0 : Array Value) (hw : ∀ d ∈ tables_1, d.before a0 Z = true)  (qw : Addr) (h0 : Heap) (n0 : Nat) (XO : Old Z n0 h0) (cs : Int32) (hcs : ¬ cs = (0 : Int32)) (SC : Sta Z Z.heap "java/lang/String" "COMPACT_STRINGS" "Z" (.int cs)) (b0 : Int32) (A1 : Arl Z h0 qw .byte [(.int b0)]) :
    MetFree l (⟨"com/example/marble_cache/marblecache/command/Words", "lowerCase", "([B)Ljava/lang/String;"⟩ : MethodName) (head1 [Jvm.Cond.code (⟨"com/example/marble_cache/marblecache/command/Words", "lowerCase", "([B)Ljava/lang/String;"⟩ : MethodName) prog_58_method_13_code 3 (some (Jvm.ClassFile.FieldType.object "java/lang/String"))] ({ frames := 4, cells := 3, slots := 6, locals := 66 } : Room)) (fun a U => a = #[(.ref qw)] ∧ Z.Warmed39 U.vm ∧ U.heap = h0) (fun _ _ _ _ _ => True) (fun _ U o U' => ∃ v L, o = .returned v ∧ WQ_1 Z b0 h0 n0 v U'.heap L ∧ FrameEnd U o U' L ({ frames := 4, cells := 3, slots := 6, locals := 66 } : Room).cells ({ frames := 4, cells := 3, slots := 6, locals := 66 } : Room).slots) := by
  refine MetFree.of_bodySF pn_low_1 hisR ?_
  intro p e s m args below meth c s₁ Bd hml0 hP hK
  obtain ⟨rfl, hZ, hh⟩ := hP
  have hx := Bd.exec
  have hby := Bd.bytes
  have hml : c.maxLocals = 3 := hml0
  have hown : s.vm.findClass "com/example/marble_cache/marblecache/command/Words" = some m.cls := findClass_of_methodNamed Bd.named
  have hnm := (name_of_methodNamed Bd.named Bd.method).1
  have hlk : meth.locks = false := BodyLoose.notSynchronized Bd
  have X0 : Stand p l e ({ frames := 4, cells := 3, slots := 6, locals := 66 } : Room) s m #[(.ref qw)] below meth c s₁ [] 0 0 := Stand.of_body Bd
  have e0 : s₁.heap = h0 := by rw [← hh, Bd.state]; rfl
  show Go p e below (EndN below s (WQ_1 Z b0 h0 n0) ({ frames := 4, cells := 3, slots := 6, locals := 66 } : Room).cells ({ frames := 4, cells := 3, slots := 6, locals := 66 } : Room).slots) (s₁.setTop (entryFrame m #[(.ref qw)] 3))
  rw [ef_low_1]
  refine g_aload_n X0 hx 1 (.ref qw) (hb hby low_1_0) rfl rfl rfl ?_
  refine g_alen X0 hx hZ e0 A1 (1 : Int32) rfl 2 (hb hby low_1_1) rfl ?_
  obtain ⟨T_2, h_2, a_2, k_2, X_2, e_2, ga_2, E_2, A_2, st_2⟩ := g_newP X0 hx hZ (aty := .char) (n := (1 : Int32)) (hw _ (List.mem_of_getElem? (i := 6) rfl)) e0 1 (by decide) (by decide) (by decide) (by decide) (by decide) 4 (hb hby low_1_2) rfl
  refine st_2 ?_
  have g_2 : n0 ≤ a_2 := by rw [ga_2]; exact Nat.le_trans (XO.1 ▸ XO.2.1) (Nat.le_refl _)
  have gh_2 : h0.size ≤ a_2 := by rw [ga_2]; exact (Nat.le_refl _)
  have n_2_qw : qw ≠ a_2 := by rw [ga_2]; exact Nat.ne_of_lt A1.lt
  have F_2_0 : Arl Z h_2 qw .byte [(.int b0)] := A1.ext E_2
  have Z_2 : h0.size ≤ h_2.size := Nat.le_trans (Nat.le_refl _) E_2.1
  have O_2 := Old.ext XO E_2
  have G_2 : Arl Z h_2 a_2 .char [(.int (0 : Int32))] := Arl.new A_2 rfl
  refine g_astore_n X_2 hx 5 #[.val (.ref qw), .val (.ref a_2), .unset] (hb hby low_1_4) rfl rfl rfl ?_
  refine g_iconst X_2 hx 6 (0 : Int32) (hb hby low_1_5) rfl rfl ?_
  refine g_istore_n X_2 hx 7 #[.val (.ref qw), .val (.ref a_2), .val (.int (0 : Int32))] (hb hby low_1_6) rfl rfl ?_
  refine g_iload_n X_2 hx 8 (0 : Int32) (hb hby low_1_7) rfl rfl ?_
  refine g_aload_n X_2 hx 9 (.ref qw) (hb hby low_1_8) rfl rfl rfl ?_
  refine g_alen X_2 hx hZ e_2 F_2_0 (1 : Int32) rfl 10 (hb hby low_1_9) rfl ?_
  refine g_icmpN X_2 hx 13 (hb hby low_1_10) (XT.ii_ge_f (by decide)) rfl ?_
  refine g_aload_n X_2 hx 14 (.ref a_2) (hb hby low_1_13) rfl rfl rfl ?_
  refine g_iload_n X_2 hx 15 (0 : Int32) (hb hby low_1_14) rfl rfl ?_
  refine g_aload_n X_2 hx 16 (.ref qw) (hb hby low_1_15) rfl rfl rfl ?_
  refine g_iload_n X_2 hx 17 (0 : Int32) (hb hby low_1_16) rfl rfl ?_
  refine g_baload X_2 hx hZ e_2 F_2_0 (k := 0) rfl (.int b0) rfl 18 (hb hby low_1_17) rfl ?_
  obtain ⟨_, T_18, L_18, X_18, ⟨rfl, rfl, e_18⟩, st_18⟩ := g_callS X_2 hx hZ  (own := "com/example/marble_cache/marblecache/command/Words") (index := 113) (y := (⟨"com/example/marble_cache/marblecache/command/Words", "lowerCase", "(B)C"⟩ : MethodName)) (as' := [(.int b0)]) hown (hw _ (List.mem_of_getElem? (i := 38) rfl)) (hw _ (List.mem_of_getElem? (i := 39) rfl)) (hw _ (List.mem_of_getElem? (i := 4) rfl)) (hw _ (List.mem_of_getElem? (i := 40) rfl)) (by decide) e_2 (rm_lwc l Z a0 hw b0 h_2) pd_lwc rfl 2 (by decide) (by decide) (by decide) (by decide) (pc := 18) (Ls := #[.val (.ref qw), .val (.ref a_2), .val (.int (0 : Int32))]) (rest := [(.int (0 : Int32)), (.ref a_2)]) (st := [(.int b0), (.int (0 : Int32)), (.ref a_2)]) (by rw [hml]; rfl) rfl (Nat.le_of_eq rfl) (hb hby low_1_18)
  refine Go.of ?_ st_18
  rw [List.append_nil] at X_18
  show Go p e below _ (T_18.setTop (mkF m 21 #[.val (.ref qw), .val (.ref a_2), .val (.int (0 : Int32))] [(.int (lcb b0)), (.int (0 : Int32)), (.ref a_2)]))
  obtain ⟨T_21, h_21, X_21, e_21, W_21, B_21, st_21⟩ := g_castore X_18 hx hZ e_18 G_2 (j := (0 : Int32)) (lcb b0) (k := 0) rfl (Nat.le_of_ble_eq_true rfl) 22 (hb hby low_1_21) rfl
  refine st_21 ?_
  have C_21 : Arl Z h_21 a_2 .char [(.int (lcb b0))] := by have z := B_21; rw [show (nar .char (lcb b0)) = (lcb b0) from lcb_ch _] at z; exact z
  have F_21_0 : Arl Z h_21 a_2 .char [(.int (lcb b0))] := C_21
  have F_21_1 : Arl Z h_21 qw .byte [(.int b0)] := F_2_0.other W_21 n_2_qw
  have N_21 := Fr.snoc X_21 (Fr.nil _) g_2
  have Z_21 : h0.size ≤ h_21.size := by rw [W_21.size]; exact Z_2
  have O_21 := Old.wr O_2 W_21 g_2
  refine g_iinc X_21 hx 25 (1 : Int32) #[.val (.ref qw), .val (.ref a_2), .val (.int (1 : Int32))] (hb hby low_1_22) rfl rfl rfl rfl ?_
  refine g_goto X_21 hx 7 (hb hby low_1_25) (by decide) (by decide) ?_
  refine g_iload_n X_21 hx 8 (1 : Int32) (hb hby low_1_7) rfl rfl ?_
  refine g_aload_n X_21 hx 9 (.ref qw) (hb hby low_1_8) rfl rfl rfl ?_
  refine g_alen X_21 hx hZ e_21 F_21_1 (1 : Int32) rfl 10 (hb hby low_1_9) rfl ?_
  refine g_icmpY X_21 hx 28 (hb hby low_1_10) (XT.ii_ge_t (by decide)) (by decide) (by decide) ?_
  obtain ⟨T_28, h_28, a_28, X_28, e_28, ga_28, E_28, A_28, D_28, st_28⟩ := g_newO X_21 hx hZ hown (hw _ (List.mem_of_getElem? (i := 7) rfl)) (hw _ (List.mem_of_getElem? (i := 8) rfl)) (hw _ (List.mem_of_getElem? (i := 9) rfl)) e_21 31 (hb hby low_1_28) rfl (by decide) (by decide)
  refine st_28 ?_
  have g_28 : n0 ≤ a_28 := by rw [ga_28]; exact Nat.le_trans (XO.1 ▸ XO.2.1) Z_21
  have gh_28 : h0.size ≤ a_28 := by rw [ga_28]; exact Z_21
  have n_28_a_2 : a_2 ≠ a_28 := by rw [ga_28]; exact Nat.ne_of_lt F_21_0.lt
  have n_28_qw : qw ≠ a_28 := by rw [ga_28]; exact Nat.ne_of_lt F_21_1.lt
  have F_28_0 : Arl Z h_28 a_2 .char [(.int (lcb b0))] := F_21_0.ext E_28
  have F_28_1 : Arl Z h_28 qw .byte [(.int b0)] := F_21_1.ext E_28
  have Z_28 : h0.size ≤ h_28.size := Nat.le_trans Z_21 E_28.1
  have O_28 := Old.ext O_21 E_28
  have G_28_value : Fld Z h_28 a_28 "java/lang/String" "value" "[B" .null := D_28 (Or.inr (hw _ (List.mem_of_getElem? (i := 21) rfl))) (ty := .array (.byte)) (by decide)
  have G_28_coder : Fld Z h_28 a_28 "java/lang/String" "coder" "B" (.int (0 : Int32)) := D_28 (Or.inr (hw _ (List.mem_of_getElem? (i := 22) rfl))) (ty := .byte) (by decide)
  refine g_dup X_28 hx 32 (hb hby low_1_31) rfl rfl ?_
  refine g_aload_n X_28 hx 33 (.ref a_2) (hb hby low_1_32) rfl rfl rfl ?_
  obtain ⟨_, T_33, L_33, X_33, ⟨b_33, rfl, g_33, M_33, K_33, Q_33⟩, st_33⟩ := g_callI X_28 hx hZ  (own := "com/example/marble_cache/marblecache/command/Words") (index := 137) (y := (⟨"java/lang/String", "<init>", "([C)V"⟩ : MethodName)) (a := a_28) (as' := [(.ref a_2)]) rfl hown (hw _ (List.mem_of_getElem? (i := 10) rfl)) (hw _ (List.mem_of_getElem? (i := 11) rfl)) (hw _ (List.mem_of_getElem? (i := 9) rfl)) (hw _ (List.mem_of_getElem? (i := 12) rfl)) (by decide) e_28 (rm_in1_1 l Z a0 hw a_28 a_2 h_28 n0 O_28 cs hcs SC g_28 n_28_a_2 (lcb b0) (lcb_c _) F_28_0 A_28 G_28_value G_28_coder) pd_in1_1 rfl 1 (by decide) (by decide) (by decide) (by decide) (pc := 33) (Ls := #[.val (.ref qw), .val (.ref a_2), .val (.int (1 : Int32))]) (rest := [(.ref a_28)]) (st := [(.ref a_2), (.ref a_28), (.ref a_28)]) (by rw [hml]; rfl) rfl (Nat.le_of_eq rfl) (hb hby low_1_33)
  refine st_33 ?_
  have F_33_0 : Arl Z T_33.heap a_2 .char [(.int (lcb b0))] := F_28_0.keep K_33 (ninS n_28_a_2 nin0)
  have F_33_1 : Arl Z T_33.heap qw .byte [(.int b0)] := F_28_1.keep K_33 (ninS n_28_qw nin0)
  have F_33_2 : Exa Z T_33.heap a_28 "java/lang/String" := A_28.keep K_33
  have N_33 := Fr.app N_21 M_33
  have Z_33 : h0.size ≤ T_33.heap.size := Nat.le_trans Z_28 K_33.1
  have O_33 := Old.keep O_28 K_33 (allS g_28 all0)
  show Go p e below _ (T_33.setTop (mkF m 36 #[.val (.ref qw), .val (.ref a_2), .val (.int (1 : Int32))] [(.ref a_28)]))
  exact Go.retA X_33 hx hlk Bd.returns rfl rfl (hb hby low_1_36) (by decide) (by decide) ⟨_, _, rfl, N_33, (((((Keep.refl _ _).ext E_2).wr W_21 (Or.inr gh_2)).ext E_28).trans K_33 (allS (Or.inr gh_28) all0)), Q_33⟩
def WQ_2 (Z : State) (b0 b1 : Int32) (h0 : Heap) (n0 : Nat) (v : Option Value) (h : Heap) (L : List Loc) : Prop := ∃ qa qb : Addr, v = some (.ref qa) ∧ Fr n0 L ∧ Keep h0 h [] ∧ Stl Z h qa qb 0 [(.int ((lcb b0).toInt8.toInt32)), (.int ((lcb b1).toInt8.toInt32))]
theorem low_2_0 : decode prog_58_method_13_code 0 = .ok (.aload_n 0, 1) := by decide +kernel
theorem low_2_1 : decode prog_58_method_13_code 1 = .ok (.arraylength, 1) := by decide +kernel
theorem low_2_2 : decode prog_58_method_13_code 2 = .ok (.newarray .char, 2) := by decide +kernel
theorem low_2_4 : decode prog_58_method_13_code 4 = .ok (.astore_n 1, 1) := by decide +kernel
theorem low_2_5 : decode prog_58_method_13_code 5 = .ok (.iconst 0, 1) := by decide +kernel
theorem low_2_6 : decode prog_58_method_13_code 6 = .ok (.istore_n 2, 1) := by decide +kernel
theorem low_2_7 : decode prog_58_method_13_code 7 = .ok (.iload_n 2, 1) := by decide +kernel
theorem low_2_8 : decode prog_58_method_13_code 8 = .ok (.aload_n 0, 1) := by decide +kernel
theorem low_2_9 : decode prog_58_method_13_code 9 = .ok (.arraylength, 1) := by decide +kernel
theorem low_2_10 : decode prog_58_method_13_code 10 = .ok (.if_icmp .ge 18, 3) := by decide +kernel
theorem low_2_13 : decode prog_58_method_13_code 13 = .ok (.aload_n 1, 1) := by decide +kernel
theorem low_2_14 : decode prog_58_method_13_code 14 = .ok (.iload_n 2, 1) := by decide +kernel
theorem low_2_15 : decode prog_58_method_13_code 15 = .ok (.aload_n 0, 1) := by decide +kernel
theorem low_2_16 : decode prog_58_method_13_code 16 = .ok (.iload_n 2, 1) := by decide +kernel
theorem low_2_17 : decode prog_58_method_13_code 17 = .ok (.baload, 1) := by decide +kernel
theorem low_2_18 : decode prog_58_method_13_code 18 = .ok (.invokestatic 113, 3) := by decide +kernel
theorem low_2_21 : decode prog_58_method_13_code 21 = .ok (.castore, 1) := by decide +kernel
theorem low_2_22 : decode prog_58_method_13_code 22 = .ok (.iinc 2 1, 3) := by decide +kernel
theorem low_2_25 : decode prog_58_method_13_code 25 = .ok (.goto (-18), 3) := by decide +kernel
theorem low_2_28 : decode prog_58_method_13_code 28 = .ok (.new 88, 3) := by decide +kernel
theorem low_2_31 : decode prog_58_method_13_code 31 = .ok (.dup, 1) := by decide +kernel
theorem low_2_32 : decode prog_58_method_13_code 32 = .ok (.aload_n 1, 1) := by decide +kernel
theorem low_2_33 : decode prog_58_method_13_code 33 = .ok (.invokespecial 137, 3) := by decide +kernel
theorem low_2_36 : decode prog_58_method_13_code 36 = .ok (.areturn, 1) := by decide +kernel
theorem pn_low_2 : plainFor (⟨"com/example/marble_cache/marblecache/command/Words", "lowerCase", "([B)Ljava/lang/String;"⟩ : MethodName) = true := by first | exact plainFor_of_name (by first | (simp [plainName, overriddenIn]; done) | decide +kernel) | decide +kernel
theorem ef_low_2 (m : MethodId) (qw : Addr)  : entryFrame m #[(.ref qw)] 3 = mkF m 0 #[.val (.ref qw), .unset, .unset] [] := by first | (simp [entryFrame, mkF, argsToLocals, Value.category, maxLocals]; done) | rfl
theorem pd_low_2 : parseMethodDescriptor "([B)Ljava/lang/String;" = some ⟨[.array (.byte)], some (.object "java/lang/String")⟩ := by decide +kernel
set_option maxRecDepth 65536 in
set_option maxHeartbeats 40000000 in
theorem rm_low_2 (l : Launch) (Z : State) (a0 : Array Value) (hw : ∀ d ∈ tables_1, d.before a0 Z = true)  (qw : Addr) (h0 : Heap) (n0 : Nat) (XO : Old Z n0 h0) (cs : Int32) (hcs : ¬ cs = (0 : Int32)) (SC : Sta Z Z.heap "java/lang/String" "COMPACT_STRINGS" "Z" (.int cs)) (b0 b1 : Int32) (A1 : Arl Z h0 qw .byte [(.int b0), (.int b1)]) :
    MetFree l (⟨"com/example/marble_cache/marblecache/command/Words", "lowerCase", "([B)Ljava/lang/String;"⟩ : MethodName) (head1 [Jvm.Cond.code (⟨"com/example/marble_cache/marblecache/command/Words", "lowerCase", "([B)Ljava/lang/String;"⟩ : MethodName) prog_58_method_13_code 3 (some (Jvm.ClassFile.FieldType.object "java/lang/String"))] ({ frames := 4, cells := 3, slots := 8, locals := 66 } : Room)) (fun a U => a = #[(.ref qw)] ∧ Z.Warmed39 U.vm ∧ U.heap = h0) (fun _ _ _ _ _ => True) (fun _ U o U' => ∃ v L, o = .returned v ∧ WQ_2 Z b0 b1 h0 n0 v U'.heap L ∧ FrameEnd U o U' L ({ frames := 4, cells := 3, slots := 8, locals := 66 } : Room).cells ({ frames := 4, cells := 3, slots := 8, locals := 66 } : Room).slots) := by
  refine MetFree.of_bodySF pn_low_2 hisR ?_
  intro p e s m args below meth c s₁ Bd hml0 hP hK
  obtain ⟨rfl, hZ, hh⟩ := hP
  have hx := Bd.exec
  have hby := Bd.bytes
  have hml : c.maxLocals = 3 := hml0
  have hown : s.vm.findClass "com/example/marble_cache/marblecache/command/Words" = some m.cls := findClass_of_methodNamed Bd.named
  have hnm := (name_of_methodNamed Bd.named Bd.method).1
  have hlk : meth.locks = false := BodyLoose.notSynchronized Bd
  have X0 : Stand p l e ({ frames := 4, cells := 3, slots := 8, locals := 66 } : Room) s m #[(.ref qw)] below meth c s₁ [] 0 0 := Stand.of_body Bd
  have e0 : s₁.heap = h0 := by rw [← hh, Bd.state]; rfl
  show Go p e below (EndN below s (WQ_2 Z b0 b1 h0 n0) ({ frames := 4, cells := 3, slots := 8, locals := 66 } : Room).cells ({ frames := 4, cells := 3, slots := 8, locals := 66 } : Room).slots) (s₁.setTop (entryFrame m #[(.ref qw)] 3))
  rw [ef_low_2]
  refine g_aload_n X0 hx 1 (.ref qw) (hb hby low_2_0) rfl rfl rfl ?_
  refine g_alen X0 hx hZ e0 A1 (2 : Int32) rfl 2 (hb hby low_2_1) rfl ?_
  obtain ⟨T_2, h_2, a_2, k_2, X_2, e_2, ga_2, E_2, A_2, st_2⟩ := g_newP X0 hx hZ (aty := .char) (n := (2 : Int32)) (hw _ (List.mem_of_getElem? (i := 6) rfl)) e0 2 (by decide) (by decide) (by decide) (by decide) (by decide) 4 (hb hby low_2_2) rfl
  refine st_2 ?_
  have g_2 : n0 ≤ a_2 := by rw [ga_2]; exact Nat.le_trans (XO.1 ▸ XO.2.1) (Nat.le_refl _)
  have gh_2 : h0.size ≤ a_2 := by rw [ga_2]; exact (Nat.le_refl _)
  have n_2_qw : qw ≠ a_2 := by rw [ga_2]; exact Nat.ne_of_lt A1.lt
  have F_2_0 : Arl Z h_2 qw .byte [(.int b0), (.int b1)] := A1.ext E_2
  have Z_2 : h0.size ≤ h_2.size := Nat.le_trans (Nat.le_refl _) E_2.1
  have O_2 := Old.ext XO E_2
  have G_2 : Arl Z h_2 a_2 .char [(.int (0 : Int32)), (.int (0 : Int32))] := Arl.new A_2 rfl
  refine g_astore_n X_2 hx 5 #[.val (.ref qw), .val (.ref a_2), .unset] (hb hby low_2_4) rfl rfl rfl ?_
  refine g_iconst X_2 hx 6 (0 : Int32) (hb hby low_2_5) rfl rfl ?_
  refine g_istore_n X_2 hx 7 #[.val (.ref qw), .val (.ref a_2), .val (.int (0 : Int32))] (hb hby low_2_6) rfl rfl ?_
  refine g_iload_n X_2 hx 8 (0 : Int32) (hb hby low_2_7) rfl rfl ?_
  refine g_aload_n X_2 hx 9 (.ref qw) (hb hby low_2_8) rfl rfl rfl ?_
  refine g_alen X_2 hx hZ e_2 F_2_0 (2 : Int32) rfl 10 (hb hby low_2_9) rfl ?_
  refine g_icmpN X_2 hx 13 (hb hby low_2_10) (XT.ii_ge_f (by decide)) rfl ?_
  refine g_aload_n X_2 hx 14 (.ref a_2) (hb hby low_2_13) rfl rfl rfl ?_
  refine g_iload_n X_2 hx 15 (0 : Int32) (hb hby low_2_14) rfl rfl ?_
  refine g_aload_n X_2 hx 16 (.ref qw) (hb hby low_2_15) rfl rfl rfl ?_
  refine g_iload_n X_2 hx 17 (0 : Int32) (hb hby low_2_16) rfl rfl ?_
  refine g_baload X_2 hx hZ e_2 F_2_0 (k := 0) rfl (.int b0) rfl 18 (hb hby low_2_17) rfl ?_
  obtain ⟨_, T_18, L_18, X_18, ⟨rfl, rfl, e_18⟩, st_18⟩ := g_callS X_2 hx hZ  (own := "com/example/marble_cache/marblecache/command/Words") (index := 113) (y := (⟨"com/example/marble_cache/marblecache/command/Words", "lowerCase", "(B)C"⟩ : MethodName)) (as' := [(.int b0)]) hown (hw _ (List.mem_of_getElem? (i := 38) rfl)) (hw _ (List.mem_of_getElem? (i := 39) rfl)) (hw _ (List.mem_of_getElem? (i := 4) rfl)) (hw _ (List.mem_of_getElem? (i := 40) rfl)) (by decide) e_2 (rm_lwc l Z a0 hw b0 h_2) pd_lwc rfl 2 (by decide) (by decide) (by decide) (by decide) (pc := 18) (Ls := #[.val (.ref qw), .val (.ref a_2), .val (.int (0 : Int32))]) (rest := [(.int (0 : Int32)), (.ref a_2)]) (st := [(.int b0), (.int (0 : Int32)), (.ref a_2)]) (by rw [hml]; rfl) rfl (Nat.le_of_eq rfl) (hb hby low_2_18)
  refine Go.of ?_ st_18
  rw [List.append_nil] at X_18
  show Go p e below _ (T_18.setTop (mkF m 21 #[.val (.ref qw), .val (.ref a_2), .val (.int (0 : Int32))] [(.int (lcb b0)), (.int (0 : Int32)), (.ref a_2)]))
  obtain ⟨T_21, h_21, X_21, e_21, W_21, B_21, st_21⟩ := g_castore X_18 hx hZ e_18 G_2 (j := (0 : Int32)) (lcb b0) (k := 0) rfl (Nat.le_of_ble_eq_true rfl) 22 (hb hby low_2_21) rfl
  refine st_21 ?_
  have C_21 : Arl Z h_21 a_2 .char [(.int (lcb b0)), (.int (0 : Int32))] := by have z := B_21; rw [show (nar .char (lcb b0)) = (lcb b0) from lcb_ch _] at z; exact z
  have F_21_0 : Arl Z h_21 a_2 .char [(.int (lcb b0)), (.int (0 : Int32))] := C_21
  have F_21_1 : Arl Z h_21 qw .byte [(.int b0), (.int b1)] := F_2_0.other W_21 n_2_qw
  have N_21 := Fr.snoc X_21 (Fr.nil _) g_2
  have Z_21 : h0.size ≤ h_21.size := by rw [W_21.size]; exact Z_2
  have O_21 := Old.wr O_2 W_21 g_2
  refine g_iinc X_21 hx 25 (1 : Int32) #[.val (.ref qw), .val (.ref a_2), .val (.int (1 : Int32))] (hb hby low_2_22) rfl rfl rfl rfl ?_
  refine g_goto X_21 hx 7 (hb hby low_2_25) (by decide) (by decide) ?_
  refine g_iload_n X_21 hx 8 (1 : Int32) (hb hby low_2_7) rfl rfl ?_
  refine g_aload_n X_21 hx 9 (.ref qw) (hb hby low_2_8) rfl rfl rfl ?_
  refine g_alen X_21 hx hZ e_21 F_21_1 (2 : Int32) rfl 10 (hb hby low_2_9) rfl ?_
  refine g_icmpN X_21 hx 13 (hb hby low_2_10) (XT.ii_ge_f (by decide)) rfl ?_
  refine g_aload_n X_21 hx 14 (.ref a_2) (hb hby low_2_13) rfl rfl rfl ?_
  refine g_iload_n X_21 hx 15 (1 : Int32) (hb hby low_2_14) rfl rfl ?_
  refine g_aload_n X_21 hx 16 (.ref qw) (hb hby low_2_15) rfl rfl rfl ?_
  refine g_iload_n X_21 hx 17 (1 : Int32) (hb hby low_2_16) rfl rfl ?_
  refine g_baload X_21 hx hZ e_21 F_21_1 (k := 1) rfl (.int b1) rfl 18 (hb hby low_2_17) rfl ?_
  obtain ⟨_, T_18x1, L_18x1, X_18x1, ⟨rfl, rfl, e_18x1⟩, st_18x1⟩ := g_callS X_21 hx hZ  (own := "com/example/marble_cache/marblecache/command/Words") (index := 113) (y := (⟨"com/example/marble_cache/marblecache/command/Words", "lowerCase", "(B)C"⟩ : MethodName)) (as' := [(.int b1)]) hown (hw _ (List.mem_of_getElem? (i := 38) rfl)) (hw _ (List.mem_of_getElem? (i := 39) rfl)) (hw _ (List.mem_of_getElem? (i := 4) rfl)) (hw _ (List.mem_of_getElem? (i := 40) rfl)) (by decide) e_21 (rm_lwc l Z a0 hw b1 h_21) pd_lwc rfl 2 (by decide) (by decide) (by decide) (by decide) (pc := 18) (Ls := #[.val (.ref qw), .val (.ref a_2), .val (.int (1 : Int32))]) (rest := [(.int (1 : Int32)), (.ref a_2)]) (st := [(.int b1), (.int (1 : Int32)), (.ref a_2)]) (by rw [hml]; rfl) rfl (Nat.le_of_eq rfl) (hb hby low_2_18)
  refine Go.of ?_ st_18x1
  rw [List.append_nil] at X_18x1
  show Go p e below _ (T_18x1.setTop (mkF m 21 #[.val (.ref qw), .val (.ref a_2), .val (.int (1 : Int32))] [(.int (lcb b1)), (.int (1 : Int32)), (.ref a_2)]))
  obtain ⟨T_21x1, h_21x1, X_21x1, e_21x1, W_21x1, B_21x1, st_21x1⟩ := g_castore X_18x1 hx hZ e_18x1 F_21_0 (j := (1 : Int32)) (lcb b1) (k := 1) rfl (Nat.le_of_ble_eq_true rfl) 22 (hb hby low_2_21) rfl
  refine st_21x1 ?_
  have C_21x1 : Arl Z h_21x1 a_2 .char [(.int (lcb b0)), (.int (lcb b1))] := by have z := B_21x1; rw [show (nar .char (lcb b1)) = (lcb b1) from lcb_ch _] at z; exact z
  have F_21x1_0 : Arl Z h_21x1 a_2 .char [(.int (lcb b0)), (.int (lcb b1))] := C_21x1
  have F_21x1_1 : Arl Z h_21x1 qw .byte [(.int b0), (.int b1)] := F_21_1.other W_21x1 n_2_qw
  have N_21x1 := Fr.snoc X_21x1 N_21 g_2
  have Z_21x1 : h0.size ≤ h_21x1.size := by rw [W_21x1.size]; exact Z_21
  have O_21x1 := Old.wr O_21 W_21x1 g_2
  refine g_iinc X_21x1 hx 25 (1 : Int32) #[.val (.ref qw), .val (.ref a_2), .val (.int (2 : Int32))] (hb hby low_2_22) rfl rfl rfl rfl ?_
  refine g_goto X_21x1 hx 7 (hb hby low_2_25) (by decide) (by decide) ?_
  refine g_iload_n X_21x1 hx 8 (2 : Int32) (hb hby low_2_7) rfl rfl ?_
  refine g_aload_n X_21x1 hx 9 (.ref qw) (hb hby low_2_8) rfl rfl rfl ?_
  refine g_alen X_21x1 hx hZ e_21x1 F_21x1_1 (2 : Int32) rfl 10 (hb hby low_2_9) rfl ?_
  refine g_icmpY X_21x1 hx 28 (hb hby low_2_10) (XT.ii_ge_t (by decide)) (by decide) (by decide) ?_
  obtain ⟨T_28, h_28, a_28, X_28, e_28, ga_28, E_28, A_28, D_28, st_28⟩ := g_newO X_21x1 hx hZ hown (hw _ (List.mem_of_getElem? (i := 7) rfl)) (hw _ (List.mem_of_getElem? (i := 8) rfl)) (hw _ (List.mem_of_getElem? (i := 9) rfl)) e_21x1 31 (hb hby low_2_28) rfl (by decide) (by decide)
  refine st_28 ?_
  have g_28 : n0 ≤ a_28 := by rw [ga_28]; exact Nat.le_trans (XO.1 ▸ XO.2.1) Z_21x1
  have gh_28 : h0.size ≤ a_28 := by rw [ga_28]; exact Z_21x1
  have n_28_a_2 : a_2 ≠ a_28 := by rw [ga_28]; exact Nat.ne_of_lt F_21x1_0.lt
  have n_28_qw : qw ≠ a_28 := by rw [ga_28]; exact Nat.ne_of_lt F_21x1_1.lt
  have F_28_0 : Arl Z h_28 a_2 .char [(.int (lcb b0)), (.int (lcb b1))] := F_21x1_0.ext E_28
  have F_28_1 : Arl Z h_28 qw .byte [(.int b0), (.int b1)] := F_21x1_1.ext E_28
  have Z_28 : h0.size ≤ h_28.size := Nat.le_trans Z_21x1 E_28.1
  have O_28 := Old.ext O_21x1 E_28
  have G_28_value : Fld Z h_28 a_28 "java/lang/String" "value" "[B" .null := D_28 (Or.inr (hw _ (List.mem_of_getElem? (i := 21) rfl))) (ty := .array (.byte)) (by decide)
  have G_28_coder : Fld Z h_28 a_28 "java/lang/String" "coder" "B" (.int (0 : Int32)) := D_28 (Or.inr (hw _ (List.mem_of_getElem? (i := 22) rfl))) (ty := .byte) (by decide)
  refine g_dup X_28 hx 32 (hb hby low_2_31) rfl rfl ?_
  refine g_aload_n X_28 hx 33 (.ref a_2) (hb hby low_2_32) rfl rfl rfl ?_
  obtain ⟨_, T_33, L_33, X_33, ⟨b_33, rfl, g_33, M_33, K_33, Q_33⟩, st_33⟩ := g_callI X_28 hx hZ  (own := "com/example/marble_cache/marblecache/command/Words") (index := 137) (y := (⟨"java/lang/String", "<init>", "([C)V"⟩ : MethodName)) (a := a_28) (as' := [(.ref a_2)]) rfl hown (hw _ (List.mem_of_getElem? (i := 10) rfl)) (hw _ (List.mem_of_getElem? (i := 11) rfl)) (hw _ (List.mem_of_getElem? (i := 9) rfl)) (hw _ (List.mem_of_getElem? (i := 12) rfl)) (by decide) e_28 (rm_in1_2 l Z a0 hw a_28 a_2 h_28 n0 O_28 cs hcs SC g_28 n_28_a_2 (lcb b0) (lcb b1) (lcb_c _) (lcb_c _) F_28_0 A_28 G_28_value G_28_coder) pd_in1_2 rfl 1 (by decide) (by decide) (by decide) (by decide) (pc := 33) (Ls := #[.val (.ref qw), .val (.ref a_2), .val (.int (2 : Int32))]) (rest := [(.ref a_28)]) (st := [(.ref a_2), (.ref a_28), (.ref a_28)]) (by rw [hml]; rfl) rfl (Nat.le_of_eq rfl) (hb hby low_2_33)
  refine st_33 ?_
  have F_33_0 : Arl Z T_33.heap a_2 .char [(.int (lcb b0)), (.int (lcb b1))] := F_28_0.keep K_33 (ninS n_28_a_2 nin0)
  have F_33_1 : Arl Z T_33.heap qw .byte [(.int b0), (.int b1)] := F_28_1.keep K_33 (ninS n_28_qw nin0)
  have F_33_2 : Exa Z T_33.heap a_28 "java/lang/String" := A_28.keep K_33
  have N_33 := Fr.app N_21x1 M_33
  have Z_33 : h0.size ≤ T_33.heap.size := Nat.le_trans Z_28 K_33.1
  have O_33 := Old.keep O_28 K_33 (allS g_28 all0)
  show Go p e below _ (T_33.setTop (mkF m 36 #[.val (.ref qw), .val (.ref a_2), .val (.int (2 : Int32))] [(.ref a_28)]))
  exact Go.retA X_33 hx hlk Bd.returns rfl rfl (hb hby low_2_36) (by decide) (by decide) ⟨_, _, rfl, N_33, ((((((Keep.refl _ _).ext E_2).wr W_21 (Or.inr gh_2)).wr W_21x1 (Or.inr gh_2)).ext E_28).trans K_33 (allS (Or.inr gh_28) all0)), Q_33⟩
def WQ_3 (Z : State) (b0 b1 b2 : Int32) (h0 : Heap) (n0 : Nat) (v : Option Value) (h : Heap) (L : List Loc) : Prop := ∃ qa qb : Addr, v = some (.ref qa) ∧ Fr n0 L ∧ Keep h0 h [] ∧ Stl Z h qa qb 0 [(.int ((lcb b0).toInt8.toInt32)), (.int ((lcb b1).toInt8.toInt32)), (.int ((lcb b2).toInt8.toInt32))]
theorem low_3_0 : decode prog_58_method_13_code 0 = .ok (.aload_n 0, 1) := by decide +kernel
theorem low_3_1 : decode prog_58_method_13_code 1 = .ok (.arraylength, 1) := by decide +kernel
theorem low_3_2 : decode prog_58_method_13_code 2 = .ok (.newarray .char, 2) := by decide +kernel
theorem low_3_4 : decode prog_58_method_13_code 4 = .ok (.astore_n 1, 1) := by decide +kernel
theorem low_3_5 : decode prog_58_method_13_code 5 = .ok (.iconst 0, 1) := by decide +kernel
theorem low_3_6 : decode prog_58_method_13_code 6 = .ok (.istore_n 2, 1) := by decide +kernel
theorem low_3_7 : decode prog_58_method_13_code 7 = .ok (.iload_n 2, 1) := by decide +kernel
theorem low_3_8 : decode prog_58_method_13_code 8 = .ok (.aload_n 0, 1) := by decide +kernel
theorem low_3_9 : decode prog_58_method_13_code 9 = .ok (.arraylength, 1) := by decide +kernel
theorem low_3_10 : decode prog_58_method_13_code 10 = .ok (.if_icmp .ge 18, 3) := by decide +kernel
theorem low_3_13 : decode prog_58_method_13_code 13 = .ok (.aload_n 1, 1) := by decide +kernel
theorem low_3_14 : decode prog_58_method_13_code 14 = .ok (.iload_n 2, 1) := by decide +kernel
theorem low_3_15 : decode prog_58_method_13_code 15 = .ok (.aload_n 0, 1) := by decide +kernel
theorem low_3_16 : decode prog_58_method_13_code 16 = .ok (.iload_n 2, 1) := by decide +kernel
theorem low_3_17 : decode prog_58_method_13_code 17 = .ok (.baload, 1) := by decide +kernel
theorem low_3_18 : decode prog_58_method_13_code 18 = .ok (.invokestatic 113, 3) := by decide +kernel
theorem low_3_21 : decode prog_58_method_13_code 21 = .ok (.castore, 1) := by decide +kernel
theorem low_3_22 : decode prog_58_method_13_code 22 = .ok (.iinc 2 1, 3) := by decide +kernel
theorem low_3_25 : decode prog_58_method_13_code 25 = .ok (.goto (-18), 3) := by decide +kernel
theorem low_3_28 : decode prog_58_method_13_code 28 = .ok (.new 88, 3) := by decide +kernel
theorem low_3_31 : decode prog_58_method_13_code 31 = .ok (.dup, 1) := by decide +kernel
theorem low_3_32 : decode prog_58_method_13_code 32 = .ok (.aload_n 1, 1) := by decide +kernel
theorem low_3_33 : decode prog_58_method_13_code 33 = .ok (.invokespecial 137, 3) := by decide +kernel
theorem low_3_36 : decode prog_58_method_13_code 36 = .ok (.areturn, 1) := by decide +kernel
theorem pn_low_3 : plainFor (⟨"com/example/marble_cache/marblecache/command/Words", "lowerCase", "([B)Ljava/lang/String;"⟩ : MethodName) = true := by first | exact plainFor_of_name (by first | (simp [plainName, overriddenIn]; done) | decide +kernel) | decide +kernel
theorem ef_low_3 (m : MethodId) (qw : Addr)  : entryFrame m #[(.ref qw)] 3 = mkF m 0 #[.val (.ref qw), .unset, .unset] [] := by first | (simp [entryFrame, mkF, argsToLocals, Value.category, maxLocals]; done) | rfl
theorem pd_low_3 : parseMethodDescriptor "([B)Ljava/lang/String;" = some ⟨[.array (.byte)], some (.object "java/lang/String")⟩ := by decide +kernel
set_option maxRecDepth 65536 in
set_option maxHeartbeats 40000000 in
theorem rm_low_3 (l : Launch) (Z : State) (a0 : Array Value) (hw : ∀ d ∈ tables_1, d.before a0 Z = true)  (qw : Addr) (h0 : Heap) (n0 : Nat) (XO : Old Z n0 h0) (cs : Int32) (hcs : ¬ cs = (0 : Int32)) (SC : Sta Z Z.heap "java/lang/String" "COMPACT_STRINGS" "Z" (.int cs)) (b0 b1 b2 : Int32) (A1 : Arl Z h0 qw .byte [(.int b0), (.int b1), (.int b2)]) :
    MetFree l (⟨"com/example/marble_cache/marblecache/command/Words", "lowerCase", "([B)Ljava/lang/String;"⟩ : MethodName) (head1 [Jvm.Cond.code (⟨"com/example/marble_cache/marblecache/command/Words", "lowerCase", "([B)Ljava/lang/String;"⟩ : MethodName) prog_58_method_13_code 3 (some (Jvm.ClassFile.FieldType.object "java/lang/String"))] ({ frames := 4, cells := 3, slots := 10, locals := 66 } : Room)) (fun a U => a = #[(.ref qw)] ∧ Z.Warmed39 U.vm ∧ U.heap = h0) (fun _ _ _ _ _ => True) (fun _ U o U' => ∃ v L, o = .returned v ∧ WQ_3 Z b0 b1 b2 h0 n0 v U'.heap L ∧ FrameEnd U o U' L ({ frames := 4, cells := 3, slots := 10, locals := 66 } : Room).cells ({ frames := 4, cells := 3, slots := 10, locals := 66 } : Room).slots) := by
  refine MetFree.of_bodySF pn_low_3 hisR ?_
  intro p e s m args below meth c s₁ Bd hml0 hP hK
  obtain ⟨rfl, hZ, hh⟩ := hP
  have hx := Bd.exec
  have hby := Bd.bytes
  have hml : c.maxLocals = 3 := hml0
  have hown : s.vm.findClass "com/example/marble_cache/marblecache/command/Words" = some m.cls := findClass_of_methodNamed Bd.named
  have hnm := (name_of_methodNamed Bd.named Bd.method).1
  have hlk : meth.locks = false := BodyLoose.notSynchronized Bd
  have X0 : Stand p l e ({ frames := 4, cells := 3, slots := 10, locals := 66 } : Room) s m #[(.ref qw)] below meth c s₁ [] 0 0 := Stand.of_body Bd
  have e0 : s₁.heap = h0 := by rw [← hh, Bd.state]; rfl
  show Go p e below (EndN below s (WQ_3 Z b0 b1 b2 h0 n0) ({ frames := 4, cells := 3, slots := 10, locals := 66 } : Room).cells ({ frames := 4, cells := 3, slots := 10, locals := 66 } : Room).slots) (s₁.setTop (entryFrame m #[(.ref qw)] 3))
  rw [ef_low_3]
  refine g_aload_n X0 hx 1 (.ref qw) (hb hby low_3_0) rfl rfl rfl ?_
  refine g_alen X0 hx hZ e0 A1 (3 : Int32) rfl 2 (hb hby low_3_1) rfl ?_
  obtain ⟨T_2, h_2, a_2, k_2, X_2, e_2, ga_2, E_2, A_2, st_2⟩ := g_newP X0 hx hZ (aty := .char) (n := (3 : Int32)) (hw _ (List.mem_of_getElem? (i := 6) rfl)) e0 3 (by decide) (by decide) (by decide) (by decide) (by decide) 4 (hb hby low_3_2) rfl
  refine st_2 ?_
  have g_2 : n0 ≤ a_2 := by rw [ga_2]; exact Nat.le_trans (XO.1 ▸ XO.2.1) (Nat.le_refl _)
  have gh_2 : h0.size ≤ a_2 := by rw [ga_2]; exact (Nat.le_refl _)
  have n_2_qw : qw ≠ a_2 := by rw [ga_2]; exact Nat.ne_of_lt A1.lt
  have F_2_0 : Arl Z h_2 qw .byte [(.int b0), (.int b1), (.int b2)] := A1.ext E_2
  have Z_2 : h0.size ≤ h_2.size := Nat.le_trans (Nat.le_refl _) E_2.1
  have O_2 := Old.ext XO E_2
  have G_2 : Arl Z h_2 a_2 .char [(.int (0 : Int32)), (.int (0 : Int32)), (.int (0 : Int32))] := Arl.new A_2 rfl
  refine g_astore_n X_2 hx 5 #[.val (.ref qw), .val (.ref a_2), .unset] (hb hby low_3_4) rfl rfl rfl ?_
  refine g_iconst X_2 hx 6 (0 : Int32) (hb hby low_3_5) rfl rfl ?_
  refine g_istore_n X_2 hx 7 #[.val (.ref qw), .val (.ref a_2), .val (.int (0 : Int32))] (hb hby low_3_6) rfl rfl ?_
  refine g_iload_n X_2 hx 8 (0 : Int32) (hb hby low_3_7) rfl rfl ?_
  refine g_aload_n X_2 hx 9 (.ref qw) (hb hby low_3_8) rfl rfl rfl ?_
  refine g_alen X_2 hx hZ e_2 F_2_0 (3 : Int32) rfl 10 (hb hby low_3_9) rfl ?_
  refine g_icmpN X_2 hx 13 (hb hby low_3_10) (XT.ii_ge_f (by decide)) rfl ?_
  refine g_aload_n X_2 hx 14 (.ref a_2) (hb hby low_3_13) rfl rfl rfl ?_
  refine g_iload_n X_2 hx 15 (0 : Int32) (hb hby low_3_14) rfl rfl ?_
  refine g_aload_n X_2 hx 16 (.ref qw) (hb hby low_3_15) rfl rfl rfl ?_
  refine g_iload_n X_2 hx 17 (0 : Int32) (hb hby low_3_16) rfl rfl ?_
  refine g_baload X_2 hx hZ e_2 F_2_0 (k := 0) rfl (.int b0) rfl 18 (hb hby low_3_17) rfl ?_
  obtain ⟨_, T_18, L_18, X_18, ⟨rfl, rfl, e_18⟩, st_18⟩ := g_callS X_2 hx hZ  (own := "com/example/marble_cache/marblecache/command/Words") (index := 113) (y := (⟨"com/example/marble_cache/marblecache/command/Words", "lowerCase", "(B)C"⟩ : MethodName)) (as' := [(.int b0)]) hown (hw _ (List.mem_of_getElem? (i := 38) rfl)) (hw _ (List.mem_of_getElem? (i := 39) rfl)) (hw _ (List.mem_of_getElem? (i := 4) rfl)) (hw _ (List.mem_of_getElem? (i := 40) rfl)) (by decide) e_2 (rm_lwc l Z a0 hw b0 h_2) pd_lwc rfl 2 (by decide) (by decide) (by decide) (by decide) (pc := 18) (Ls := #[.val (.ref qw), .val (.ref a_2), .val (.int (0 : Int32))]) (rest := [(.int (0 : Int32)), (.ref a_2)]) (st := [(.int b0), (.int (0 : Int32)), (.ref a_2)]) (by rw [hml]; rfl) rfl (Nat.le_of_eq rfl) (hb hby low_3_18)
  refine Go.of ?_ st_18
  rw [List.append_nil] at X_18
  show Go p e below _ (T_18.setTop (mkF m 21 #[.val (.ref qw), .val (.ref a_2), .val (.int (0 : Int32))] [(.int (lcb b0)), (.int (0 : Int32)), (.ref a_2)]))
  obtain ⟨T_21, h_21, X_21, e_21, W_21, B_21, st_21⟩ := g_castore X_18 hx hZ e_18 G_2 (j := (0 : Int32)) (lcb b0) (k := 0) rfl (Nat.le_of_ble_eq_true rfl) 22 (hb hby low_3_21) rfl
  refine st_21 ?_
  have C_21 : Arl Z h_21 a_2 .char [(.int (lcb b0)), (.int (0 : Int32)), (.int (0 : Int32))] := by have z := B_21; rw [show (nar .char (lcb b0)) = (lcb b0) from lcb_ch _] at z; exact z
  have F_21_0 : Arl Z h_21 a_2 .char [(.int (lcb b0)), (.int (0 : Int32)), (.int (0 : Int32))] := C_21
  have F_21_1 : Arl Z h_21 qw .byte [(.int b0), (.int b1), (.int b2)] := F_2_0.other W_21 n_2_qw
  have N_21 := Fr.snoc X_21 (Fr.nil _) g_2
  have Z_21 : h0.size ≤ h_21.size := by rw [W_21.size]; exact Z_2
  have O_21 := Old.wr O_2 W_21 g_2
  refine g_iinc X_21 hx 25 (1 : Int32) #[.val (.ref qw), .val (.ref a_2), .val (.int (1 : Int32))] (hb hby low_3_22) rfl rfl rfl rfl ?_
  refine g_goto X_21 hx 7 (hb hby low_3_25) (by decide) (by decide) ?_
  refine g_iload_n X_21 hx 8 (1 : Int32) (hb hby low_3_7) rfl rfl ?_
  refine g_aload_n X_21 hx 9 (.ref qw) (hb hby low_3_8) rfl rfl rfl ?_
  refine g_alen X_21 hx hZ e_21 F_21_1 (3 : Int32) rfl 10 (hb hby low_3_9) rfl ?_
  refine g_icmpN X_21 hx 13 (hb hby low_3_10) (XT.ii_ge_f (by decide)) rfl ?_
  refine g_aload_n X_21 hx 14 (.ref a_2) (hb hby low_3_13) rfl rfl rfl ?_
  refine g_iload_n X_21 hx 15 (1 : Int32) (hb hby low_3_14) rfl rfl ?_
  refine g_aload_n X_21 hx 16 (.ref qw) (hb hby low_3_15) rfl rfl rfl ?_
  refine g_iload_n X_21 hx 17 (1 : Int32) (hb hby low_3_16) rfl rfl ?_
  refine g_baload X_21 hx hZ e_21 F_21_1 (k := 1) rfl (.int b1) rfl 18 (hb hby low_3_17) rfl ?_
  obtain ⟨_, T_18x1, L_18x1, X_18x1, ⟨rfl, rfl, e_18x1⟩, st_18x1⟩ := g_callS X_21 hx hZ  (own := "com/example/marble_cache/marblecache/command/Words") (index := 113) (y := (⟨"com/example/marble_cache/marblecache/command/Words", "lowerCase", "(B)C"⟩ : MethodName)) (as' := [(.int b1)]) hown (hw _ (List.mem_of_getElem? (i := 38) rfl)) (hw _ (List.mem_of_getElem? (i := 39) rfl)) (hw _ (List.mem_of_getElem? (i := 4) rfl)) (hw _ (List.mem_of_getElem? (i := 40) rfl)) (by decide) e_21 (rm_lwc l Z a0 hw b1 h_21) pd_lwc rfl 2 (by decide) (by decide) (by decide) (by decide) (pc := 18) (Ls := #[.val (.ref qw), .val (.ref a_2), .val (.int (1 : Int32))]) (rest := [(.int (1 : Int32)), (.ref a_2)]) (st := [(.int b1), (.int (1 : Int32)), (.ref a_2)]) (by rw [hml]; rfl) rfl (Nat.le_of_eq rfl) (hb hby low_3_18)
  refine Go.of ?_ st_18x1
  rw [List.append_nil] at X_18x1
  show Go p e below _ (T_18x1.setTop (mkF m 21 #[.val (.ref qw), .val (.ref a_2), .val (.int (1 : Int32))] [(.int (lcb b1)), (.int (1 : Int32)), (.ref a_2)]))
  obtain ⟨T_21x1, h_21x1, X_21x1, e_21x1, W_21x1, B_21x1, st_21x1⟩ := g_castore X_18x1 hx hZ e_18x1 F_21_0 (j := (1 : Int32)) (lcb b1) (k := 1) rfl (Nat.le_of_ble_eq_true rfl) 22 (hb hby low_3_21) rfl
  refine st_21x1 ?_
  have C_21x1 : Arl Z h_21x1 a_2 .char [(.int (lcb b0)), (.int (lcb b1)), (.int (0 : Int32))] := by have z := B_21x1; rw [show (nar .char (lcb b1)) = (lcb b1) from lcb_ch _] at z; exact z
  have F_21x1_0 : Arl Z h_21x1 a_2 .char [(.int (lcb b0)), (.int (lcb b1)), (.int (0 : Int32))] := C_21x1
  have F_21x1_1 : Arl Z h_21x1 qw .byte [(.int b0), (.int b1), (.int b2)] := F_21_1.other W_21x1 n_2_qw
  have N_21x1 := Fr.snoc X_21x1 N_21 g_2
  have Z_21x1 : h0.size ≤ h_21x1.size := by rw [W_21x1.size]; exact Z_21
  have O_21x1 := Old.wr O_21 W_21x1 g_2
  refine g_iinc X_21x1 hx 25 (1 : Int32) #[.val (.ref qw), .val (.ref a_2), .val (.int (2 : Int32))] (hb hby low_3_22) rfl rfl rfl rfl ?_
  refine g_goto X_21x1 hx 7 (hb hby low_3_25) (by decide) (by decide) ?_
  refine g_iload_n X_21x1 hx 8 (2 : Int32) (hb hby low_3_7) rfl rfl ?_
  refine g_aload_n X_21x1 hx 9 (.ref qw) (hb hby low_3_8) rfl rfl rfl ?_
  refine g_alen X_21x1 hx hZ e_21x1 F_21x1_1 (3 : Int32) rfl 10 (hb hby low_3_9) rfl ?_
  refine g_icmpN X_21x1 hx 13 (hb hby low_3_10) (XT.ii_ge_f (by decide)) rfl ?_
  refine g_aload_n X_21x1 hx 14 (.ref a_2) (hb hby low_3_13) rfl rfl rfl ?_
  refine g_iload_n X_21x1 hx 15 (2 : Int32) (hb hby low_3_14) rfl rfl ?_
  refine g_aload_n X_21x1 hx 16 (.ref qw) (hb hby low_3_15) rfl rfl rfl ?_
  refine g_iload_n X_21x1 hx 17 (2 : Int32) (hb hby low_3_16) rfl rfl ?_
  refine g_baload X_21x1 hx hZ e_21x1 F_21x1_1 (k := 2) rfl (.int b2) rfl 18 (hb hby low_3_17) rfl ?_
  obtain ⟨_, T_18x2, L_18x2, X_18x2, ⟨rfl, rfl, e_18x2⟩, st_18x2⟩ := g_callS X_21x1 hx hZ  (own := "com/example/marble_cache/marblecache/command/Words") (index := 113) (y := (⟨"com/example/marble_cache/marblecache/command/Words", "lowerCase", "(B)C"⟩ : MethodName)) (as' := [(.int b2)]) hown (hw _ (List.mem_of_getElem? (i := 38) rfl)) (hw _ (List.mem_of_getElem? (i := 39) rfl)) (hw _ (List.mem_of_getElem? (i := 4) rfl)) (hw _ (List.mem_of_getElem? (i := 40) rfl)) (by decide) e_21x1 (rm_lwc l Z a0 hw b2 h_21x1) pd_lwc rfl 2 (by decide) (by decide) (by decide) (by decide) (pc := 18) (Ls := #[.val (.ref qw), .val (.ref a_2), .val (.int (2 : Int32))]) (rest := [(.int (2 : Int32)), (.ref a_2)]) (st := [(.int b2), (.int (2 : Int32)), (.ref a_2)]) (by rw [hml]; rfl) rfl (Nat.le_of_eq rfl) (hb hby low_3_18)
  refine Go.of ?_ st_18x2
  rw [List.append_nil] at X_18x2
  show Go p e below _ (T_18x2.setTop (mkF m 21 #[.val (.ref qw), .val (.ref a_2), .val (.int (2 : Int32))] [(.int (lcb b2)), (.int (2 : Int32)), (.ref a_2)]))
  obtain ⟨T_21x2, h_21x2, X_21x2, e_21x2, W_21x2, B_21x2, st_21x2⟩ := g_castore X_18x2 hx hZ e_18x2 F_21x1_0 (j := (2 : Int32)) (lcb b2) (k := 2) rfl (Nat.le_of_ble_eq_true rfl) 22 (hb hby low_3_21) rfl
  refine st_21x2 ?_
  have C_21x2 : Arl Z h_21x2 a_2 .char [(.int (lcb b0)), (.int (lcb b1)), (.int (lcb b2))] := by have z := B_21x2; rw [show (nar .char (lcb b2)) = (lcb b2) from lcb_ch _] at z; exact z
  have F_21x2_0 : Arl Z h_21x2 a_2 .char [(.int (lcb b0)), (.int (lcb b1)), (.int (lcb b2))] := C_21x2
  have F_21x2_1 : Arl Z h_21x2 qw .byte [(.int b0), (.int b1), (.int b2)] := F_21x1_1.other W_21x2 n_2_qw
  have N_21x2 := Fr.snoc X_21x2 N_21x1 g_2
  have Z_21x2 : h0.size ≤ h_21x2.size := by rw [W_21x2.size]; exact Z_21x1
  have O_21x2 := Old.wr O_21x1 W_21x2 g_2
  refine g_iinc X_21x2 hx 25 (1 : Int32) #[.val (.ref qw), .val (.ref a_2), .val (.int (3 : Int32))] (hb hby low_3_22) rfl rfl rfl rfl ?_
  refine g_goto X_21x2 hx 7 (hb hby low_3_25) (by decide) (by decide) ?_
  refine g_iload_n X_21x2 hx 8 (3 : Int32) (hb hby low_3_7) rfl rfl ?_
  refine g_aload_n X_21x2 hx 9 (.ref qw) (hb hby low_3_8) rfl rfl rfl ?_
  refine g_alen X_21x2 hx hZ e_21x2 F_21x2_1 (3 : Int32) rfl 10 (hb hby low_3_9) rfl ?_
  refine g_icmpY X_21x2 hx 28 (hb hby low_3_10) (XT.ii_ge_t (by decide)) (by decide) (by decide) ?_
  obtain ⟨T_28, h_28, a_28, X_28, e_28, ga_28, E_28, A_28, D_28, st_28⟩ := g_newO X_21x2 hx hZ hown (hw _ (List.mem_of_getElem? (i := 7) rfl)) (hw _ (List.mem_of_getElem? (i := 8) rfl)) (hw _ (List.mem_of_getElem? (i := 9) rfl)) e_21x2 31 (hb hby low_3_28) rfl (by decide) (by decide)
  refine st_28 ?_
  have g_28 : n0 ≤ a_28 := by rw [ga_28]; exact Nat.le_trans (XO.1 ▸ XO.2.1) Z_21x2
  have gh_28 : h0.size ≤ a_28 := by rw [ga_28]; exact Z_21x2
  have n_28_a_2 : a_2 ≠ a_28 := by rw [ga_28]; exact Nat.ne_of_lt F_21x2_0.lt
  have n_28_qw : qw ≠ a_28 := by rw [ga_28]; exact Nat.ne_of_lt F_21x2_1.lt
  have F_28_0 : Arl Z h_28 a_2 .char [(.int (lcb b0)), (.int (lcb b1)), (.int (lcb b2))] := F_21x2_0.ext E_28
  have F_28_1 : Arl Z h_28 qw .byte [(.int b0), (.int b1), (.int b2)] := F_21x2_1.ext E_28
  have Z_28 : h0.size ≤ h_28.size := Nat.le_trans Z_21x2 E_28.1
  have O_28 := Old.ext O_21x2 E_28
  have G_28_value : Fld Z h_28 a_28 "java/lang/String" "value" "[B" .null := D_28 (Or.inr (hw _ (List.mem_of_getElem? (i := 21) rfl))) (ty := .array (.byte)) (by decide)
  have G_28_coder : Fld Z h_28 a_28 "java/lang/String" "coder" "B" (.int (0 : Int32)) := D_28 (Or.inr (hw _ (List.mem_of_getElem? (i := 22) rfl))) (ty := .byte) (by decide)
  refine g_dup X_28 hx 32 (hb hby low_3_31) rfl rfl ?_
  refine g_aload_n X_28 hx 33 (.ref a_2) (hb hby low_3_32) rfl rfl rfl ?_
  obtain ⟨_, T_33, L_33, X_33, ⟨b_33, rfl, g_33, M_33, K_33, Q_33⟩, st_33⟩ := g_callI X_28 hx hZ  (own := "com/example/marble_cache/marblecache/command/Words") (index := 137) (y := (⟨"java/lang/String", "<init>", "([C)V"⟩ : MethodName)) (a := a_28) (as' := [(.ref a_2)]) rfl hown (hw _ (List.mem_of_getElem? (i := 10) rfl)) (hw _ (List.mem_of_getElem? (i := 11) rfl)) (hw _ (List.mem_of_getElem? (i := 9) rfl)) (hw _ (List.mem_of_getElem? (i := 12) rfl)) (by decide) e_28 (rm_in1_3 l Z a0 hw a_28 a_2 h_28 n0 O_28 cs hcs SC g_28 n_28_a_2 (lcb b0) (lcb b1) (lcb b2) (lcb_c _) (lcb_c _) (lcb_c _) F_28_0 A_28 G_28_value G_28_coder) pd_in1_3 rfl 1 (by decide) (by decide) (by decide) (by decide) (pc := 33) (Ls := #[.val (.ref qw), .val (.ref a_2), .val (.int (3 : Int32))]) (rest := [(.ref a_28)]) (st := [(.ref a_2), (.ref a_28), (.ref a_28)]) (by rw [hml]; rfl) rfl (Nat.le_of_eq rfl) (hb hby low_3_33)
  refine st_33 ?_
  have F_33_0 : Arl Z T_33.heap a_2 .char [(.int (lcb b0)), (.int (lcb b1)), (.int (lcb b2))] := F_28_0.keep K_33 (ninS n_28_a_2 nin0)
  have F_33_1 : Arl Z T_33.heap qw .byte [(.int b0), (.int b1), (.int b2)] := F_28_1.keep K_33 (ninS n_28_qw nin0)
  have F_33_2 : Exa Z T_33.heap a_28 "java/lang/String" := A_28.keep K_33
  have N_33 := Fr.app N_21x2 M_33
  have Z_33 : h0.size ≤ T_33.heap.size := Nat.le_trans Z_28 K_33.1
  have O_33 := Old.keep O_28 K_33 (allS g_28 all0)
  show Go p e below _ (T_33.setTop (mkF m 36 #[.val (.ref qw), .val (.ref a_2), .val (.int (3 : Int32))] [(.ref a_28)]))
  exact Go.retA X_33 hx hlk Bd.returns rfl rfl (hb hby low_3_36) (by decide) (by decide) ⟨_, _, rfl, N_33, (((((((Keep.refl _ _).ext E_2).wr W_21 (Or.inr gh_2)).wr W_21x1 (Or.inr gh_2)).wr W_21x2 (Or.inr gh_2)).ext E_28).trans K_33 (allS (Or.inr gh_28) all0)), Q_33⟩
def WQ_4 (Z : State) (b0 b1 b2 b3 : Int32) (h0 : Heap) (n0 : Nat) (v : Option Value) (h : Heap) (L : List Loc) : Prop := ∃ qa qb : Addr, v = some (.ref qa) ∧ Fr n0 L ∧ Keep h0 h [] ∧ Stl Z h qa qb 0 [(.int ((lcb b0).toInt8.toInt32)), (.int ((lcb b1).toInt8.toInt32)), (.int ((lcb b2).toInt8.toInt32)), (.int ((lcb b3).toInt8.toInt32))]
theorem low_4_0 : decode prog_58_method_13_code 0 = .ok (.aload_n 0, 1) := by decide +kernel
theorem low_4_1 : decode prog_58_method_13_code 1 = .ok (.arraylength, 1) := by decide +kernel
theorem low_4_2 : decode prog_58_method_13_code 2 = .ok (.newarray .char, 2) := by decide +kernel
theorem low_4_4 : decode prog_58_method_13_code 4 = .ok (.astore_n 1, 1) := by decide +kernel
theorem low_4_5 : decode prog_58_method_13_code 5 = .ok (.iconst 0, 1) := by decide +kernel
theorem low_4_6 : decode prog_58_method_13_code 6 = .ok (.istore_n 2, 1) := by decide +kernel
theorem low_4_7 : decode prog_58_method_13_code 7 = .ok (.iload_n 2, 1) := by decide +kernel
theorem low_4_8 : decode prog_58_method_13_code 8 = .ok (.aload_n 0, 1) := by decide +kernel
theorem low_4_9 : decode prog_58_method_13_code 9 = .ok (.arraylength, 1) := by decide +kernel
theorem low_4_10 : decode prog_58_method_13_code 10 = .ok (.if_icmp .ge 18, 3) := by decide +kernel
theorem low_4_13 : decode prog_58_method_13_code 13 = .ok (.aload_n 1, 1) := by decide +kernel
theorem low_4_14 : decode prog_58_method_13_code 14 = .ok (.iload_n 2, 1) := by decide +kernel
theorem low_4_15 : decode prog_58_method_13_code 15 = .ok (.aload_n 0, 1) := by decide +kernel
theorem low_4_16 : decode prog_58_method_13_code 16 = .ok (.iload_n 2, 1) := by decide +kernel
theorem low_4_17 : decode prog_58_method_13_code 17 = .ok (.baload, 1) := by decide +kernel
theorem low_4_18 : decode prog_58_method_13_code 18 = .ok (.invokestatic 113, 3) := by decide +kernel
theorem low_4_21 : decode prog_58_method_13_code 21 = .ok (.castore, 1) := by decide +kernel
theorem low_4_22 : decode prog_58_method_13_code 22 = .ok (.iinc 2 1, 3) := by decide +kernel
theorem low_4_25 : decode prog_58_method_13_code 25 = .ok (.goto (-18), 3) := by decide +kernel
theorem low_4_28 : decode prog_58_method_13_code 28 = .ok (.new 88, 3) := by decide +kernel
theorem low_4_31 : decode prog_58_method_13_code 31 = .ok (.dup, 1) := by decide +kernel
theorem low_4_32 : decode prog_58_method_13_code 32 = .ok (.aload_n 1, 1) := by decide +kernel
theorem low_4_33 : decode prog_58_method_13_code 33 = .ok (.invokespecial 137, 3) := by decide +kernel
theorem low_4_36 : decode prog_58_method_13_code 36 = .ok (.areturn, 1) := by decide +kernel
theorem pn_low_4 : plainFor (⟨"com/example/marble_cache/marblecache/command/Words", "lowerCase", "([B)Ljava/lang/String;"⟩ : MethodName) = true := by first | exact plainFor_of_name (by first | (simp [plainName, overriddenIn]; done) | decide +kernel) | decide +kernel
theorem ef_low_4 (m : MethodId) (qw : Addr)  : entryFrame m #[(.ref qw)] 3 = mkF m 0 #[.val (.ref qw), .unset, .unset] [] := by first | (simp [entryFrame, mkF, argsToLocals, Value.category, maxLocals]; done) | rfl
theorem pd_low_4 : parseMethodDescriptor "([B)Ljava/lang/String;" = some ⟨[.array (.byte)], some (.object "java/lang/String")⟩ := by decide +kernel
set_option maxRecDepth 65536 in
set_option maxHeartbeats 40000000 in
theorem rm_low_4 (l : Launch) (Z : State) (a0 : Array Value) (hw : ∀ d ∈ tables_1, d.before a0 Z = true)  (qw : Addr) (h0 : Heap) (n0 : Nat) (XO : Old Z n0 h0) (cs : Int32) (hcs : ¬ cs = (0 : Int32)) (SC : Sta Z Z.heap "java/lang/String" "COMPACT_STRINGS" "Z" (.int cs)) (b0 b1 b2 b3 : Int32) (A1 : Arl Z h0 qw .byte [(.int b0), (.int b1), (.int b2), (.int b3)]) :
    MetFree l (⟨"com/example/marble_cache/marblecache/command/Words", "lowerCase", "([B)Ljava/lang/String;"⟩ : MethodName) (head1 [Jvm.Cond.code (⟨"com/example/marble_cache/marblecache/command/Words", "lowerCase", "([B)Ljava/lang/String;"⟩ : MethodName) prog_58_method_13_code 3 (some (Jvm.ClassFile.FieldType.object "java/lang/String"))] ({ frames := 4, cells := 3, slots := 12, locals := 66 } : Room)) (fun a U => a = #[(.ref qw)] ∧ Z.Warmed39 U.vm ∧ U.heap = h0) (fun _ _ _ _ _ => True) (fun _ U o U' => ∃ v L, o = .returned v ∧ WQ_4 Z b0 b1 b2 b3 h0 n0 v U'.heap L ∧ FrameEnd U o U' L ({ frames := 4, cells := 3, slots := 12, locals := 66 } : Room).cells ({ frames := 4, cells := 3, slots := 12, locals := 66 } : Room).slots) := by
  refine MetFree.of_bodySF pn_low_4 hisR ?_
  intro p e s m args below meth c s₁ Bd hml0 hP hK
  obtain ⟨rfl, hZ, hh⟩ := hP
  have hx := Bd.exec
  have hby := Bd.bytes
  have hml : c.maxLocals = 3 := hml0
  have hown : s.vm.findClass "com/example/marble_cache/marblecache/command/Words" = some m.cls := findClass_of_methodNamed Bd.named
  have hnm := (name_of_methodNamed Bd.named Bd.method).1
  have hlk : meth.locks = false := BodyLoose.notSynchronized Bd
  have X0 : Stand p l e ({ frames := 4, cells := 3, slots := 12, locals := 66 } : Room) s m #[(.ref qw)] below meth c s₁ [] 0 0 := Stand.of_body Bd
  have e0 : s₁.heap = h0 := by rw [← hh, Bd.state]; rfl
  show Go p e below (EndN below s (WQ_4 Z b0 b1 b2 b3 h0 n0) ({ frames := 4, cells := 3, slots := 12, locals := 66 } : Room).cells ({ frames := 4, cells := 3, slots := 12, locals := 66 } : Room).slots) (s₁.setTop (entryFrame m #[(.ref qw)] 3))
  rw [ef_low_4]
  refine g_aload_n X0 hx 1 (.ref qw) (hb hby low_4_0) rfl rfl rfl ?_
  refine g_alen X0 hx hZ e0 A1 (4 : Int32) rfl 2 (hb hby low_4_1) rfl ?_
  obtain ⟨T_2, h_2, a_2, k_2, X_2, e_2, ga_2, E_2, A_2, st_2⟩ := g_newP X0 hx hZ (aty := .char) (n := (4 : Int32)) (hw _ (List.mem_of_getElem? (i := 6) rfl)) e0 4 (by decide) (by decide) (by decide) (by decide) (by decide) 4 (hb hby low_4_2) rfl
  refine st_2 ?_
  have g_2 : n0 ≤ a_2 := by rw [ga_2]; exact Nat.le_trans (XO.1 ▸ XO.2.1) (Nat.le_refl _)
  have gh_2 : h0.size ≤ a_2 := by rw [ga_2]; exact (Nat.le_refl _)
  have n_2_qw : qw ≠ a_2 := by rw [ga_2]; exact Nat.ne_of_lt A1.lt
  have F_2_0 : Arl Z h_2 qw .byte [(.int b0), (.int b1), (.int b2), (.int b3)] := A1.ext E_2
  have Z_2 : h0.size ≤ h_2.size := Nat.le_trans (Nat.le_refl _) E_2.1
  have O_2 := Old.ext XO E_2
  have G_2 : Arl Z h_2 a_2 .char [(.int (0 : Int32)), (.int (0 : Int32)), (.int (0 : Int32)), (.int (0 : Int32))] := Arl.new A_2 rfl
  refine g_astore_n X_2 hx 5 #[.val (.ref qw), .val (.ref a_2), .unset] (hb hby low_4_4) rfl rfl rfl ?_
  refine g_iconst X_2 hx 6 (0 : Int32) (hb hby low_4_5) rfl rfl ?_
  refine g_istore_n X_2 hx 7 #[.val (.ref qw), .val (.ref a_2), .val (.int (0 : Int32))] (hb hby low_4_6) rfl rfl ?_
  refine g_iload_n X_2 hx 8 (0 : Int32) (hb hby low_4_7) rfl rfl ?_
  refine g_aload_n X_2 hx 9 (.ref qw) (hb hby low_4_8) rfl rfl rfl ?_
  refine g_alen X_2 hx hZ e_2 F_2_0 (4 : Int32) rfl 10 (hb hby low_4_9) rfl ?_
  refine g_icmpN X_2 hx 13 (hb hby low_4_10) (XT.ii_ge_f (by decide)) rfl ?_
  refine g_aload_n X_2 hx 14 (.ref a_2) (hb hby low_4_13) rfl rfl rfl ?_
  refine g_iload_n X_2 hx 15 (0 : Int32) (hb hby low_4_14) rfl rfl ?_
  refine g_aload_n X_2 hx 16 (.ref qw) (hb hby low_4_15) rfl rfl rfl ?_
  refine g_iload_n X_2 hx 17 (0 : Int32) (hb hby low_4_16) rfl rfl ?_
  refine g_baload X_2 hx hZ e_2 F_2_0 (k := 0) rfl (.int b0) rfl 18 (hb hby low_4_17) rfl ?_
  obtain ⟨_, T_18, L_18, X_18, ⟨rfl, rfl, e_18⟩, st_18⟩ := g_callS X_2 hx hZ  (own := "com/example/marble_cache/marblecache/command/Words") (index := 113) (y := (⟨"com/example/marble_cache/marblecache/command/Words", "lowerCase", "(B)C"⟩ : MethodName)) (as' := [(.int b0)]) hown (hw _ (List.mem_of_getElem? (i := 38) rfl)) (hw _ (List.mem_of_getElem? (i := 39) rfl)) (hw _ (List.mem_of_getElem? (i := 4) rfl)) (hw _ (List.mem_of_getElem? (i := 40) rfl)) (by decide) e_2 (rm_lwc l Z a0 hw b0 h_2) pd_lwc rfl 2 (by decide) (by decide) (by decide) (by decide) (pc := 18) (Ls := #[.val (.ref qw), .val (.ref a_2), .val (.int (0 : Int32))]) (rest := [(.int (0 : Int32)), (.ref a_2)]) (st := [(.int b0), (.int (0 : Int32)), (.ref a_2)]) (by rw [hml]; rfl) rfl (Nat.le_of_eq rfl) (hb hby low_4_18)
  refine Go.of ?_ st_18
  rw [List.append_nil] at X_18
  show Go p e below _ (T_18.setTop (mkF m 21 #[.val (.ref qw), .val (.ref a_2), .val (.int (0 : Int32))] [(.int (lcb b0)), (.int (0 : Int32)), (.ref a_2)]))
  obtain ⟨T_21, h_21, X_21, e_21, W_21, B_21, st_21⟩ := g_castore X_18 hx hZ e_18 G_2 (j := (0 : Int32)) (lcb b0) (k := 0) rfl (Nat.le_of_ble_eq_true rfl) 22 (hb hby low_4_21) rfl
  refine st_21 ?_
  have C_21 : Arl Z h_21 a_2 .char [(.int (lcb b0)), (.int (0 : Int32)), (.int (0 : Int32)), (.int (0 : Int32))] := by have z := B_21; rw [show (nar .char (lcb b0)) = (lcb b0) from lcb_ch _] at z; exact z
  have F_21_0 : Arl Z h_21 a_2 .char [(.int (lcb b0)), (.int (0 : Int32)), (.int (0 : Int32)), (.int (0 : Int32))] := C_21
  have F_21_1 : Arl Z h_21 qw .byte [(.int b0), (.int b1), (.int b2), (.int b3)] := F_2_0.other W_21 n_2_qw
  have N_21 := Fr.snoc X_21 (Fr.nil _) g_2
  have Z_21 : h0.size ≤ h_21.size := by rw [W_21.size]; exact Z_2
  have O_21 := Old.wr O_2 W_21 g_2
  refine g_iinc X_21 hx 25 (1 : Int32) #[.val (.ref qw), .val (.ref a_2), .val (.int (1 : Int32))] (hb hby low_4_22) rfl rfl rfl rfl ?_
  refine g_goto X_21 hx 7 (hb hby low_4_25) (by decide) (by decide) ?_
  refine g_iload_n X_21 hx 8 (1 : Int32) (hb hby low_4_7) rfl rfl ?_
  refine g_aload_n X_21 hx 9 (.ref qw) (hb hby low_4_8) rfl rfl rfl ?_
  refine g_alen X_21 hx hZ e_21 F_21_1 (4 : Int32) rfl 10 (hb hby low_4_9) rfl ?_
  refine g_icmpN X_21 hx 13 (hb hby low_4_10) (XT.ii_ge_f (by decide)) rfl ?_
  refine g_aload_n X_21 hx 14 (.ref a_2) (hb hby low_4_13) rfl rfl rfl ?_
  refine g_iload_n X_21 hx 15 (1 : Int32) (hb hby low_4_14) rfl rfl ?_
  refine g_aload_n X_21 hx 16 (.ref qw) (hb hby low_4_15) rfl rfl rfl ?_
  refine g_iload_n X_21 hx 17 (1 : Int32) (hb hby low_4_16) rfl rfl ?_
  refine g_baload X_21 hx hZ e_21 F_21_1 (k := 1) rfl (.int b1) rfl 18 (hb hby low_4_17) rfl ?_
  obtain ⟨_, T_18x1, L_18x1, X_18x1, ⟨rfl, rfl, e_18x1⟩, st_18x1⟩ := g_callS X_21 hx hZ  (own := "com/example/marble_cache/marblecache/command/Words") (index := 113) (y := (⟨"com/example/marble_cache/marblecache/command/Words", "lowerCase", "(B)C"⟩ : MethodName)) (as' := [(.int b1)]) hown (hw _ (List.mem_of_getElem? (i := 38) rfl)) (hw _ (List.mem_of_getElem? (i := 39) rfl)) (hw _ (List.mem_of_getElem? (i := 4) rfl)) (hw _ (List.mem_of_getElem? (i := 40) rfl)) (by decide) e_21 (rm_lwc l Z a0 hw b1 h_21) pd_lwc rfl 2 (by decide) (by decide) (by decide) (by decide) (pc := 18) (Ls := #[.val (.ref qw), .val (.ref a_2), .val (.int (1 : Int32))]) (rest := [(.int (1 : Int32)), (.ref a_2)]) (st := [(.int b1), (.int (1 : Int32)), (.ref a_2)]) (by rw [hml]; rfl) rfl (Nat.le_of_eq rfl) (hb hby low_4_18)
  refine Go.of ?_ st_18x1
  rw [List.append_nil] at X_18x1
  show Go p e below _ (T_18x1.setTop (mkF m 21 #[.val (.ref qw), .val (.ref a_2), .val (.int (1 : Int32))] [(.int (lcb b1)), (.int (1 : Int32)), (.ref a_2)]))
  obtain ⟨T_21x1, h_21x1, X_21x1, e_21x1, W_21x1, B_21x1, st_21x1⟩ := g_castore X_18x1 hx hZ e_18x1 F_21_0 (j := (1 : Int32)) (lcb b1) (k := 1) rfl (Nat.le_of_ble_eq_true rfl) 22 (hb hby low_4_21) rfl
  refine st_21x1 ?_
  have C_21x1 : Arl Z h_21x1 a_2 .char [(.int (lcb b0)), (.int (lcb b1)), (.int (0 : Int32)), (.int (0 : Int32))] := by have z := B_21x1; rw [show (nar .char (lcb b1)) = (lcb b1) from lcb_ch _] at z; exact z
  have F_21x1_0 : Arl Z h_21x1 a_2 .char [(.int (lcb b0)), (.int (lcb b1)), (.int (0 : Int32)), (.int (0 : Int32))] := C_21x1
  have F_21x1_1 : Arl Z h_21x1 qw .byte [(.int b0), (.int b1), (.int b2), (.int b3)] := F_21_1.other W_21x1 n_2_qw
  have N_21x1 := Fr.snoc X_21x1 N_21 g_2
  have Z_21x1 : h0.size ≤ h_21x1.size := by rw [W_21x1.size]; exact Z_21
  have O_21x1 := Old.wr O_21 W_21x1 g_2
  refine g_iinc X_21x1 hx 25 (1 : Int32) #[.val (.ref qw), .val (.ref a_2), .val (.int (2 : Int32))] (hb hby low_4_22) rfl rfl rfl rfl ?_
  refine g_goto X_21x1 hx 7 (hb hby low_4_25) (by decide) (by decide) ?_
  refine g_iload_n X_21x1 hx 8 (2 : Int32) (hb hby low_4_7) rfl rfl ?_
  refine g_aload_n X_21x1 hx 9 (.ref qw) (hb hby low_4_8) rfl rfl rfl ?_
  refine g_alen X_21x1 hx hZ e_21x1 F_21x1_1 (4 : Int32) rfl 10 (hb hby low_4_9) rfl ?_
  refine g_icmpN X_21x1 hx 13 (hb hby low_4_10) (XT.ii_ge_f (by decide)) rfl ?_
  refine g_aload_n X_21x1 hx 14 (.ref a_2) (hb hby low_4_13) rfl rfl rfl ?_
  refine g_iload_n X_21x1 hx 15 (2 : Int32) (hb hby low_4_14) rfl rfl ?_
  refine g_aload_n X_21x1 hx 16 (.ref qw) (hb hby low_4_15) rfl rfl rfl ?_
  refine g_iload_n X_21x1 hx 17 (2 : Int32) (hb hby low_4_16) rfl rfl ?_
  refine g_baload X_21x1 hx hZ e_21x1 F_21x1_1 (k := 2) rfl (.int b2) rfl 18 (hb hby low_4_17) rfl ?_
  obtain ⟨_, T_18x2, L_18x2, X_18x2, ⟨rfl, rfl, e_18x2⟩, st_18x2⟩ := g_callS X_21x1 hx hZ  (own := "com/example/marble_cache/marblecache/command/Words") (index := 113) (y := (⟨"com/example/marble_cache/marblecache/command/Words", "lowerCase", "(B)C"⟩ : MethodName)) (as' := [(.int b2)]) hown (hw _ (List.mem_of_getElem? (i := 38) rfl)) (hw _ (List.mem_of_getElem? (i := 39) rfl)) (hw _ (List.mem_of_getElem? (i := 4) rfl)) (hw _ (List.mem_of_getElem? (i := 40) rfl)) (by decide) e_21x1 (rm_lwc l Z a0 hw b2 h_21x1) pd_lwc rfl 2 (by decide) (by decide) (by decide) (by decide) (pc := 18) (Ls := #[.val (.ref qw), .val (.ref a_2), .val (.int (2 : Int32))]) (rest := [(.int (2 : Int32)), (.ref a_2)]) (st := [(.int b2), (.int (2 : Int32)), (.ref a_2)]) (by rw [hml]; rfl) rfl (Nat.le_of_eq rfl) (hb hby low_4_18)
  refine Go.of ?_ st_18x2
  rw [List.append_nil] at X_18x2
  show Go p e below _ (T_18x2.setTop (mkF m 21 #[.val (.ref qw), .val (.ref a_2), .val (.int (2 : Int32))] [(.int (lcb b2)), (.int (2 : Int32)), (.ref a_2)]))
  obtain ⟨T_21x2, h_21x2, X_21x2, e_21x2, W_21x2, B_21x2, st_21x2⟩ := g_castore X_18x2 hx hZ e_18x2 F_21x1_0 (j := (2 : Int32)) (lcb b2) (k := 2) rfl (Nat.le_of_ble_eq_true rfl) 22 (hb hby low_4_21) rfl
  refine st_21x2 ?_
  have C_21x2 : Arl Z h_21x2 a_2 .char [(.int (lcb b0)), (.int (lcb b1)), (.int (lcb b2)), (.int (0 : Int32))] := by have z := B_21x2; rw [show (nar .char (lcb b2)) = (lcb b2) from lcb_ch _] at z; exact z
  have F_21x2_0 : Arl Z h_21x2 a_2 .char [(.int (lcb b0)), (.int (lcb b1)), (.int (lcb b2)), (.int (0 : Int32))] := C_21x2
  have F_21x2_1 : Arl Z h_21x2 qw .byte [(.int b0), (.int b1), (.int b2), (.int b3)] := F_21x1_1.other W_21x2 n_2_qw
  have N_21x2 := Fr.snoc X_21x2 N_21x1 g_2
  have Z_21x2 : h0.size ≤ h_21x2.size := by rw [W_21x2.size]; exact Z_21x1
  have O_21x2 := Old.wr O_21x1 W_21x2 g_2
  refine g_iinc X_21x2 hx 25 (1 : Int32) #[.val (.ref qw), .val (.ref a_2), .val (.int (3 : Int32))] (hb hby low_4_22) rfl rfl rfl rfl ?_
  refine g_goto X_21x2 hx 7 (hb hby low_4_25) (by decide) (by decide) ?_
  refine g_iload_n X_21x2 hx 8 (3 : Int32) (hb hby low_4_7) rfl rfl ?_
  refine g_aload_n X_21x2 hx 9 (.ref qw) (hb hby low_4_8) rfl rfl rfl ?_
  refine g_alen X_21x2 hx hZ e_21x2 F_21x2_1 (4 : Int32) rfl 10 (hb hby low_4_9) rfl ?_
  refine g_icmpN X_21x2 hx 13 (hb hby low_4_10) (XT.ii_ge_f (by decide)) rfl ?_
  refine g_aload_n X_21x2 hx 14 (.ref a_2) (hb hby low_4_13) rfl rfl rfl ?_
  refine g_iload_n X_21x2 hx 15 (3 : Int32) (hb hby low_4_14) rfl rfl ?_
  refine g_aload_n X_21x2 hx 16 (.ref qw) (hb hby low_4_15) rfl rfl rfl ?_
  refine g_iload_n X_21x2 hx 17 (3 : Int32) (hb hby low_4_16) rfl rfl ?_
  refine g_baload X_21x2 hx hZ e_21x2 F_21x2_1 (k := 3) rfl (.int b3) rfl 18 (hb hby low_4_17) rfl ?_
  obtain ⟨_, T_18x3, L_18x3, X_18x3, ⟨rfl, rfl, e_18x3⟩, st_18x3⟩ := g_callS X_21x2 hx hZ  (own := "com/example/marble_cache/marblecache/command/Words") (index := 113) (y := (⟨"com/example/marble_cache/marblecache/command/Words", "lowerCase", "(B)C"⟩ : MethodName)) (as' := [(.int b3)]) hown (hw _ (List.mem_of_getElem? (i := 38) rfl)) (hw _ (List.mem_of_getElem? (i := 39) rfl)) (hw _ (List.mem_of_getElem? (i := 4) rfl)) (hw _ (List.mem_of_getElem? (i := 40) rfl)) (by decide) e_21x2 (rm_lwc l Z a0 hw b3 h_21x2) pd_lwc rfl 2 (by decide) (by decide) (by decide) (by decide) (pc := 18) (Ls := #[.val (.ref qw), .val (.ref a_2), .val (.int (3 : Int32))]) (rest := [(.int (3 : Int32)), (.ref a_2)]) (st := [(.int b3), (.int (3 : Int32)), (.ref a_2)]) (by rw [hml]; rfl) rfl (Nat.le_of_eq rfl) (hb hby low_4_18)
  refine Go.of ?_ st_18x3
  rw [List.append_nil] at X_18x3
  show Go p e below _ (T_18x3.setTop (mkF m 21 #[.val (.ref qw), .val (.ref a_2), .val (.int (3 : Int32))] [(.int (lcb b3)), (.int (3 : Int32)), (.ref a_2)]))
  obtain ⟨T_21x3, h_21x3, X_21x3, e_21x3, W_21x3, B_21x3, st_21x3⟩ := g_castore X_18x3 hx hZ e_18x3 F_21x2_0 (j := (3 : Int32)) (lcb b3) (k := 3) rfl (Nat.le_of_ble_eq_true rfl) 22 (hb hby low_4_21) rfl
  refine st_21x3 ?_
  have C_21x3 : Arl Z h_21x3 a_2 .char [(.int (lcb b0)), (.int (lcb b1)), (.int (lcb b2)), (.int (lcb b3))] := by have z := B_21x3; rw [show (nar .char (lcb b3)) = (lcb b3) from lcb_ch _] at z; exact z
  have F_21x3_0 : Arl Z h_21x3 a_2 .char [(.int (lcb b0)), (.int (lcb b1)), (.int (lcb b2)), (.int (lcb b3))] := C_21x3
  have F_21x3_1 : Arl Z h_21x3 qw .byte [(.int b0), (.int b1), (.int b2), (.int b3)] := F_21x2_1.other W_21x3 n_2_qw
  have N_21x3 := Fr.snoc X_21x3 N_21x2 g_2
  have Z_21x3 : h0.size ≤ h_21x3.size := by rw [W_21x3.size]; exact Z_21x2
  have O_21x3 := Old.wr O_21x2 W_21x3 g_2
  refine g_iinc X_21x3 hx 25 (1 : Int32) #[.val (.ref qw), .val (.ref a_2), .val (.int (4 : Int32))] (hb hby low_4_22) rfl rfl rfl rfl ?_
  refine g_goto X_21x3 hx 7 (hb hby low_4_25) (by decide) (by decide) ?_
  refine g_iload_n X_21x3 hx 8 (4 : Int32) (hb hby low_4_7) rfl rfl ?_
  refine g_aload_n X_21x3 hx 9 (.ref qw) (hb hby low_4_8) rfl rfl rfl ?_
  refine g_alen X_21x3 hx hZ e_21x3 F_21x3_1 (4 : Int32) rfl 10 (hb hby low_4_9) rfl ?_
  refine g_icmpY X_21x3 hx 28 (hb hby low_4_10) (XT.ii_ge_t (by decide)) (by decide) (by decide) ?_
  obtain ⟨T_28, h_28, a_28, X_28, e_28, ga_28, E_28, A_28, D_28, st_28⟩ := g_newO X_21x3 hx hZ hown (hw _ (List.mem_of_getElem? (i := 7) rfl)) (hw _ (List.mem_of_getElem? (i := 8) rfl)) (hw _ (List.mem_of_getElem? (i := 9) rfl)) e_21x3 31 (hb hby low_4_28) rfl (by decide) (by decide)
  refine st_28 ?_
  have g_28 : n0 ≤ a_28 := by rw [ga_28]; exact Nat.le_trans (XO.1 ▸ XO.2.1) Z_21x3
  have gh_28 : h0.size ≤ a_28 := by rw [ga_28]; exact Z_21x3
  have n_28_a_2 : a_2 ≠ a_28 := by rw [ga_28]; exact Nat.ne_of_lt F_21x3_0.lt
  have n_28_qw : qw ≠ a_28 := by rw [ga_28]; exact Nat.ne_of_lt F_21x3_1.lt
  have F_28_0 : Arl Z h_28 a_2 .char [(.int (lcb b0)), (.int (lcb b1)), (.int (lcb b2)), (.int (lcb b3))] := F_21x3_0.ext E_28
  have F_28_1 : Arl Z h_28 qw .byte [(.int b0), (.int b1), (.int b2), (.int b3)] := F_21x3_1.ext E_28
  have Z_28 : h0.size ≤ h_28.size := Nat.le_trans Z_21x3 E_28.1
  have O_28 := Old.ext O_21x3 E_28
  have G_28_value : Fld Z h_28 a_28 "java/lang/String" "value" "[B" .null := D_28 (Or.inr (hw _ (List.mem_of_getElem? (i := 21) rfl))) (ty := .array (.byte)) (by decide)
  have G_28_coder : Fld Z h_28 a_28 "java/lang/String" "coder" "B" (.int (0 : Int32)) := D_28 (Or.inr (hw _ (List.mem_of_getElem? (i := 22) rfl))) (ty := .byte) (by decide)
  refine g_dup X_28 hx 32 (hb hby low_4_31) rfl rfl ?_
  refine g_aload_n X_28 hx 33 (.ref a_2) (hb hby low_4_32) rfl rfl rfl ?_
  obtain ⟨_, T_33, L_33, X_33, ⟨b_33, rfl, g_33, M_33, K_33, Q_33⟩, st_33⟩ := g_callI X_28 hx hZ  (own := "com/example/marble_cache/marblecache/command/Words") (index := 137) (y := (⟨"java/lang/String", "<init>", "([C)V"⟩ : MethodName)) (a := a_28) (as' := [(.ref a_2)]) rfl hown (hw _ (List.mem_of_getElem? (i := 10) rfl)) (hw _ (List.mem_of_getElem? (i := 11) rfl)) (hw _ (List.mem_of_getElem? (i := 9) rfl)) (hw _ (List.mem_of_getElem? (i := 12) rfl)) (by decide) e_28 (rm_in1_4 l Z a0 hw a_28 a_2 h_28 n0 O_28 cs hcs SC g_28 n_28_a_2 (lcb b0) (lcb b1) (lcb b2) (lcb b3) (lcb_c _) (lcb_c _) (lcb_c _) (lcb_c _) F_28_0 A_28 G_28_value G_28_coder) pd_in1_4 rfl 1 (by decide) (by decide) (by decide) (by decide) (pc := 33) (Ls := #[.val (.ref qw), .val (.ref a_2), .val (.int (4 : Int32))]) (rest := [(.ref a_28)]) (st := [(.ref a_2), (.ref a_28), (.ref a_28)]) (by rw [hml]; rfl) rfl (Nat.le_of_eq rfl) (hb hby low_4_33)
  refine st_33 ?_
  have F_33_0 : Arl Z T_33.heap a_2 .char [(.int (lcb b0)), (.int (lcb b1)), (.int (lcb b2)), (.int (lcb b3))] := F_28_0.keep K_33 (ninS n_28_a_2 nin0)
  have F_33_1 : Arl Z T_33.heap qw .byte [(.int b0), (.int b1), (.int b2), (.int b3)] := F_28_1.keep K_33 (ninS n_28_qw nin0)
  have F_33_2 : Exa Z T_33.heap a_28 "java/lang/String" := A_28.keep K_33
  have N_33 := Fr.app N_21x3 M_33
  have Z_33 : h0.size ≤ T_33.heap.size := Nat.le_trans Z_28 K_33.1
  have O_33 := Old.keep O_28 K_33 (allS g_28 all0)
  show Go p e below _ (T_33.setTop (mkF m 36 #[.val (.ref qw), .val (.ref a_2), .val (.int (4 : Int32))] [(.ref a_28)]))
  exact Go.retA X_33 hx hlk Bd.returns rfl rfl (hb hby low_4_36) (by decide) (by decide) ⟨_, _, rfl, N_33, ((((((((Keep.refl _ _).ext E_2).wr W_21 (Or.inr gh_2)).wr W_21x1 (Or.inr gh_2)).wr W_21x2 (Or.inr gh_2)).wr W_21x3 (Or.inr gh_2)).ext E_28).trans K_33 (allS (Or.inr gh_28) all0)), Q_33⟩
theorem own_wS : ∀ d ∈ Bundle.stringAtoms, d ∈ tables_1 := by decide +kernel
def SQ0 (Z : State) (Ts : List String) (qa : Addr) (h0 : Heap) (n0 : Nat) (v : Option Value) (vm : Vm) (h : Heap) (L : List Loc) : Prop := ∃ qb : Addr, v = none ∧ Fr n0 L ∧ Keep h0 h [qa] ∧ Stl Z h qa qb 0 [] ∧ IB Z vm ("" :: Ts)
theorem in2_0_0 : decode jdk_42_method_149_code 0 = .ok (.aload_n 0, 1) := by decide +kernel
theorem in2_0_1 : decode jdk_42_method_149_code 1 = .ok (.invokespecial 1, 3) := by decide +kernel
theorem in2_0_4 : decode jdk_42_method_149_code 4 = .ok (.iload_n 3, 1) := by decide +kernel
theorem in2_0_5 : decode jdk_42_method_149_code 5 = .ok (.ifCond .ne 22, 3) := by decide +kernel
theorem in2_0_8 : decode jdk_42_method_149_code 8 = .ok (.aload_n 0, 1) := by decide +kernel
theorem in2_0_9 : decode jdk_42_method_149_code 9 = .ok (.ldc 7, 2) := by decide +kernel
theorem in2_0_11 : decode jdk_42_method_149_code 11 = .ok (.getfield 9, 3) := by decide +kernel
theorem in2_0_14 : decode jdk_42_method_149_code 14 = .ok (.putfield 9, 3) := by decide +kernel
theorem in2_0_17 : decode jdk_42_method_149_code 17 = .ok (.aload_n 0, 1) := by decide +kernel
theorem in2_0_18 : decode jdk_42_method_149_code 18 = .ok (.ldc 7, 2) := by decide +kernel
theorem in2_0_20 : decode jdk_42_method_149_code 20 = .ok (.getfield 15, 3) := by decide +kernel
theorem in2_0_23 : decode jdk_42_method_149_code 23 = .ok (.putfield 15, 3) := by decide +kernel
theorem in2_0_26 : decode jdk_42_method_149_code 26 = .ok (.return_, 1) := by decide +kernel
theorem in2_0_27 : decode jdk_42_method_149_code 27 = .ok (.getstatic 38, 3) := by decide +kernel
theorem in2_0_30 : decode jdk_42_method_149_code 30 = .ok (.ifCond .eq 28, 3) := by decide +kernel
theorem in2_0_33 : decode jdk_42_method_149_code 33 = .ok (.aload_n 1, 1) := by decide +kernel
theorem in2_0_34 : decode jdk_42_method_149_code 34 = .ok (.iload_n 2, 1) := by decide +kernel
theorem in2_0_35 : decode jdk_42_method_149_code 35 = .ok (.iload_n 3, 1) := by decide +kernel
theorem in2_0_36 : decode jdk_42_method_149_code 36 = .ok (.invokestatic 177, 3) := by decide +kernel
theorem in2_0_39 : decode jdk_42_method_149_code 39 = .ok (.astore 5, 2) := by decide +kernel
theorem in2_0_41 : decode jdk_42_method_149_code 41 = .ok (.aload_n 0, 1) := by decide +kernel
theorem in2_0_42 : decode jdk_42_method_149_code 42 = .ok (.aload 5, 2) := by decide +kernel
theorem in2_0_44 : decode jdk_42_method_149_code 44 = .ok (.iload_n 3, 1) := by decide +kernel
theorem in2_0_45 : decode jdk_42_method_149_code 45 = .ok (.invokestatic 47, 3) := by decide +kernel
theorem in2_0_48 : decode jdk_42_method_149_code 48 = .ok (.putfield 15, 3) := by decide +kernel
theorem in2_0_51 : decode jdk_42_method_149_code 51 = .ok (.aload_n 0, 1) := by decide +kernel
theorem in2_0_52 : decode jdk_42_method_149_code 52 = .ok (.aload 5, 2) := by decide +kernel
theorem in2_0_54 : decode jdk_42_method_149_code 54 = .ok (.putfield 9, 3) := by decide +kernel
theorem in2_0_57 : decode jdk_42_method_149_code 57 = .ok (.return_, 1) := by decide +kernel
theorem in2_0_58 : decode jdk_42_method_149_code 58 = .ok (.aload_n 0, 1) := by decide +kernel
theorem in2_0_59 : decode jdk_42_method_149_code 59 = .ok (.iconst 1, 1) := by decide +kernel
theorem in2_0_60 : decode jdk_42_method_149_code 60 = .ok (.putfield 15, 3) := by decide +kernel
theorem in2_0_63 : decode jdk_42_method_149_code 63 = .ok (.aload_n 0, 1) := by decide +kernel
theorem in2_0_64 : decode jdk_42_method_149_code 64 = .ok (.aload_n 1, 1) := by decide +kernel
theorem in2_0_65 : decode jdk_42_method_149_code 65 = .ok (.iload_n 2, 1) := by decide +kernel
theorem in2_0_66 : decode jdk_42_method_149_code 66 = .ok (.iload_n 3, 1) := by decide +kernel
theorem in2_0_67 : decode jdk_42_method_149_code 67 = .ok (.invokestatic 180, 3) := by decide +kernel
theorem in2_0_70 : decode jdk_42_method_149_code 70 = .ok (.putfield 9, 3) := by decide +kernel
theorem in2_0_73 : decode jdk_42_method_149_code 73 = .ok (.return_, 1) := by decide +kernel
theorem pn_in2_0 : plainFor (⟨"java/lang/String", "<init>", "([CIILjava/lang/Void;)V"⟩ : MethodName) = true := by first | exact plainFor_of_name (by first | (simp [plainName, overriddenIn]; done) | decide +kernel) | decide +kernel
theorem ef_in2_0 (m : MethodId) (qa : Addr) (qc : Addr) : entryFrame m #[(.ref qa), (.ref qc), (.int (0 : Int32)), (.int (0 : Int32)), .null] 6 = mkF m 0 #[.val (.ref qa), .val (.ref qc), .val (.int (0 : Int32)), .val (.int (0 : Int32)), .val .null, .unset] [] := by first | (simp [entryFrame, mkF, argsToLocals, Value.category, maxLocals]; done) | rfl
theorem pd_in2_0 : parseMethodDescriptor "([CIILjava/lang/Void;)V" = some ⟨[.array (.char), .int, .int, .object "java/lang/Void"], none⟩ := by decide +kernel
set_option maxRecDepth 65536 in
set_option maxHeartbeats 40000000 in
theorem rm_in2_0 (l : Launch) (Z : State) (a0 : Array Value) (hw : ∀ d ∈ tables_1, d.before a0 Z = true)  (qa : Addr) (qc : Addr) (h0 : Heap) (n0 : Nat) (XO : Old Z n0 h0) (Ts : List String) (hnot : "" ∉ Ts) (hh0 : Jvm.Lit.constHeld Z "java/lang/String" 7) (hcw : Jvm.Lit.compactW.before a0 Z = true) (ga : n0 ≤ qa) (hne : qc ≠ qa) (A1 : Arl Z h0 qc .char [])(E1 : Exa Z h0 qa "java/lang/String")(F1 : Fld Z h0 qa "java/lang/String" "value" "[B" .null)(F2 : Fld Z h0 qa "java/lang/String" "coder" "B" (.int (0 : Int32))) :
    MetFree l (⟨"java/lang/String", "<init>", "([CIILjava/lang/Void;)V"⟩ : MethodName) (head1 [Jvm.Cond.code (⟨"java/lang/String", "<init>", "([CIILjava/lang/Void;)V"⟩ : MethodName) jdk_42_method_149_code 6 none] ({ frames := 1, cells := 2, slots := 4, locals := 12 } : Room)) (fun a U => a = #[(.ref qa), (.ref qc), (.int (0 : Int32)), (.int (0 : Int32)), .null] ∧ Z.Warmed39 U.vm ∧ U.heap = h0 ∧ (fun vm => IB Z vm Ts) U.vm) (fun _ _ _ _ _ => True) (fun _ U o U' => ∃ v L, o = .returned v ∧ SQ0 Z Ts qa h0 n0 v U'.vm U'.heap L ∧ ReturnedEndW U o U' L ({ frames := 1, cells := 2, slots := 4, locals := 12 } : Room).cells ({ frames := 1, cells := 2, slots := 4, locals := 12 } : Room).slots) := by
  refine MetFree.of_bodySF pn_in2_0 hisR ?_
  intro p e s m args below meth c s₁ Bd hml0 hP hK
  obtain ⟨rfl, hZ, hh, hI⟩ := hP
  have hx := Bd.exec
  have hby := Bd.bytes
  have hml : c.maxLocals = 6 := hml0
  have hown : s.vm.findClass "java/lang/String" = some m.cls := findClass_of_methodNamed Bd.named
  have hnm := (name_of_methodNamed Bd.named Bd.method).1
  have hlk : meth.locks = false := BodyLoose.notSynchronized Bd
  have X0 : Stand p l e ({ frames := 1, cells := 2, slots := 4, locals := 12 } : Room) (s.setVm s.vm) m #[(.ref qa), (.ref qc), (.int (0 : Int32)), (.int (0 : Int32)), .null] below meth c s₁ [] 0 0 := Stand.of_body Bd
  have e0 : s₁.heap = h0 := by rw [← hh, Bd.state]; rfl
  have hS : s.Since s.vm h0.size := (State.WarmedH.refl s).since _
  have hk0 : h0.size ≤ h0.size := Nat.le_refl _
  show Go p e below (EndW below s (SQ0 Z Ts qa h0 n0) ({ frames := 1, cells := 2, slots := 4, locals := 12 } : Room).cells ({ frames := 1, cells := 2, slots := 4, locals := 12 } : Room).slots) (s₁.setTop (entryFrame m #[(.ref qa), (.ref qc), (.int (0 : Int32)), (.int (0 : Int32)), .null] 6))
  rw [ef_in2_0]
  refine g_aload_n X0 hx 1 (.ref qa) (hb hby in2_0_0) rfl rfl rfl ?_
  obtain ⟨T_1, X_1, e_1, st_1⟩ := g_initO X0 hx hZ hown (hw _ (List.mem_of_getElem? (i := 17) rfl)) (hw _ (List.mem_of_getElem? (i := 18) rfl)) (hw _ (List.mem_of_getElem? (i := 19) rfl)) e0 0 (by decide) (by decide) 4 (a := qa) (Ls := #[.val (.ref qa), .val (.ref qc), .val (.int (0 : Int32)), .val (.int (0 : Int32)), .val .null, .unset]) (st := []) (by rw [hml]; rfl) (Nat.le_of_eq rfl) (hb hby in2_0_1) rfl
  refine st_1 ?_
  refine g_iload_n X_1 hx 5 (0 : Int32) (hb hby in2_0_4) rfl rfl ?_
  refine g_ifN X_1 hx 8 (hb hby in2_0_5) (XT.i0_ne_f (by decide)) rfl ?_
  refine g_aload_n X_1 hx 9 (.ref qa) (hb hby in2_0_8) rfl rfl rfl ?_
  obtain ⟨la_9, T_9, h_9, k_9, lb_9, X_9, e_9, E_9, hS, hk_9', hZ, hown, hLs_9, hI, hLit_9, st_9⟩ := g_ldcC X_1 hx hZ hown (hw _ (List.mem_of_getElem? (i := 20) rfl)) (fun d hd => hw d (own_wS d hd)) e_1 hS hk0 (Fr.nil _) (fun b cl q => by rw [hh]; exact XO.2.2 b cl q) hI hnot hh0 hcw [] (0 : Int32) ⟨by simp, rfl⟩ (by decide) rfl 0 (by decide) (by decide) (by decide) (by decide) 11 (hb hby in2_0_9) rfl
  refine st_9 ?_
  have F_9_0 : Arl Z h_9 qc .char [] := A1.ext E_9
  have F_9_1 : Exa Z h_9 qa "java/lang/String" := E1.ext E_9
  have F_9_2 : Fld Z h_9 qa "java/lang/String" "value" "[B" .null := F1.ext E_9
  have F_9_3 : Fld Z h_9 qa "java/lang/String" "coder" "B" (.int (0 : Int32)) := F2.ext E_9
  have Z_9 : h0.size ≤ h_9.size := Nat.le_trans (Nat.le_refl _) E_9.1
  have O_9 := Old.ext XO E_9
  have nla : la_9 ≠ qa := Fld.ne hLs_9.2.2.1 F_9_2 (by simp)
  have nlb : lb_9 ≠ qa := Ne.symm (ne_exl F_9_1 (hw _ (List.mem_of_getElem? (i := 8) rfl)) hLs_9.2.2.2)
  obtain ⟨T_11, X_11, e_11, st_11⟩ := g_getF X_9 hx hZ hown (hw _ (List.mem_of_getElem? (i := 25) rfl)) Via.refl e_9 hLs_9.2.2.1 14 (hb hby in2_0_11) rfl
  refine st_11 ?_
  obtain ⟨T_14, h_14, X_14, e_14, W_14, st_14⟩ := g_putF X_11 hx hZ hown (hw _ (List.mem_of_getElem? (i := 25) rfl)) Via.refl e_11 F_9_2 F_9_1 (Or.inr ⟨hw _ (List.mem_of_getElem? (i := 21) rfl), rfl, hnm⟩) (hw _ (List.mem_of_getElem? (i := 8) rfl)) (ty := .array (.byte)) (v := (.ref lb_9)) (by decide) rfl rfl 17 (hb hby in2_0_14) rfl
  refine st_14 ?_
  have F_14_0 : Fld Z h_14 qa "java/lang/String" "value" "[B" (.ref lb_9) := F_9_2.same W_14
  have F_14_1 : Fld Z h_14 qa "java/lang/String" "coder" "B" (.int (0 : Int32)) := F_9_3.other W_14 (Or.inr (Jvm.RoadKit.slot_ne (Or.inr (hw _ (List.mem_of_getElem? (i := 22) rfl))) (Or.inr (hw _ (List.mem_of_getElem? (i := 21) rfl))) (by decide) (t := .byte) (t' := .array (.byte)) (by decide) (by decide)))
  have F_14_2 : Arl Z h_14 qc .char [] := F_9_0.other W_14 hne
  have F_14_3 : Exa Z h_14 qa "java/lang/String" := F_9_1.wr W_14
  have F_14_4 : Exa Z h_14 la_9 "java/lang/String" := hLs_9.1.wr W_14
  have F_14_5 : Fld Z h_14 la_9 "java/lang/String" "coder" "B" (.int (0 : Int32)) := hLs_9.2.1.other W_14 (Or.inl nla)
  have F_14_6 : Fld Z h_14 la_9 "java/lang/String" "value" "[B" (.ref lb_9) := hLs_9.2.2.1.other W_14 (Or.inl nla)
  have F_14_7 : Arl Z h_14 lb_9 .byte [] := hLs_9.2.2.2.other W_14 nlb
  have N_14 := Fr.snoc X_14 (Fr.nil _) ga
  have Z_14 : h0.size ≤ h_14.size := by rw [W_14.size]; exact Z_9
  have O_14 := Old.wr O_9 W_14 ga
  have hk_14 := Nat.le_trans hk_9' (Nat.le_of_eq W_14.size.symm)
  refine g_aload_n X_14 hx 18 (.ref qa) (hb hby in2_0_17) rfl rfl rfl ?_
  refine g_ldcA X_14 hx hZ hown (hw _ (List.mem_of_getElem? (i := 20) rfl)) hLit_9 20 (hb hby in2_0_18) rfl ?_
  obtain ⟨T_20, X_20, e_20, st_20⟩ := g_getF X_14 hx hZ hown (hw _ (List.mem_of_getElem? (i := 26) rfl)) Via.refl e_14 F_14_5 23 (hb hby in2_0_20) rfl
  refine st_20 ?_
  obtain ⟨T_23, h_23, X_23, e_23, W_23, st_23⟩ := g_putF X_20 hx hZ hown (hw _ (List.mem_of_getElem? (i := 26) rfl)) Via.refl e_20 F_14_1 F_14_3 (Or.inr ⟨hw _ (List.mem_of_getElem? (i := 22) rfl), rfl, hnm⟩) (hw _ (List.mem_of_getElem? (i := 8) rfl)) (ty := .byte) (v := (.int (0 : Int32))) (by decide) rfl rfl 26 (hb hby in2_0_23) rfl
  refine st_23 ?_
  have F_23_0 : Fld Z h_23 qa "java/lang/String" "value" "[B" (.ref lb_9) := F_14_0.other W_23 (Or.inr (Jvm.RoadKit.slot_ne (Or.inr (hw _ (List.mem_of_getElem? (i := 21) rfl))) (Or.inr (hw _ (List.mem_of_getElem? (i := 22) rfl))) (by decide) (t := .array (.byte)) (t' := .byte) (by decide) (by decide)))
  have F_23_1 : Fld Z h_23 qa "java/lang/String" "coder" "B" (.int (0 : Int32)) := F_14_1.same W_23
  have F_23_2 : Arl Z h_23 qc .char [] := F_14_2.other W_23 hne
  have F_23_3 : Exa Z h_23 qa "java/lang/String" := F_14_3.wr W_23
  have F_23_4 : Exa Z h_23 la_9 "java/lang/String" := F_14_4.wr W_23
  have F_23_5 : Fld Z h_23 la_9 "java/lang/String" "coder" "B" (.int (0 : Int32)) := F_14_5.other W_23 (Or.inl nla)
  have F_23_6 : Fld Z h_23 la_9 "java/lang/String" "value" "[B" (.ref lb_9) := F_14_6.other W_23 (Or.inl nla)
  have F_23_7 : Arl Z h_23 lb_9 .byte [] := F_14_7.other W_23 nlb
  have N_23 := Fr.snoc X_23 N_14 ga
  have Z_23 : h0.size ≤ h_23.size := by rw [W_23.size]; exact Z_14
  have O_23 := Old.wr O_14 W_23 ga
  have hk_23 := Nat.le_trans hk_14 (Nat.le_of_eq W_23.size.symm)
  have hT' : Stl Z h_23 qa lb_9 0 [] := ⟨F_23_3, F_23_1, F_23_0, F_23_7⟩
  exact GoW.retV X_23 hS (by rw [e_23]; exact hk_23) hx hlk Bd.returns (hb hby in2_0_26) (by decide) (by decide) ⟨lb_9, rfl, N_23, e_23.symm ▸ ((((Keep.refl _ _).ext E_9).wr W_14 (Or.inl (by simp))).wr W_23 (Or.inl (by simp))), e_23.symm ▸ hT', ib_warm hI X_23.warmed⟩
theorem in1_0_0 : decode jdk_42_method_3_code 0 = .ok (.aload_n 0, 1) := by decide +kernel
theorem in1_0_1 : decode jdk_42_method_3_code 1 = .ok (.aload_n 1, 1) := by decide +kernel
theorem in1_0_2 : decode jdk_42_method_3_code 2 = .ok (.iconst 0, 1) := by decide +kernel
theorem in1_0_3 : decode jdk_42_method_3_code 3 = .ok (.aload_n 1, 1) := by decide +kernel
theorem in1_0_4 : decode jdk_42_method_3_code 4 = .ok (.arraylength, 1) := by decide +kernel
theorem in1_0_5 : decode jdk_42_method_3_code 5 = .ok (.aconst_null, 1) := by decide +kernel
theorem in1_0_6 : decode jdk_42_method_3_code 6 = .ok (.invokespecial 27, 3) := by decide +kernel
theorem in1_0_9 : decode jdk_42_method_3_code 9 = .ok (.return_, 1) := by decide +kernel
theorem pn_in1_0 : plainFor (⟨"java/lang/String", "<init>", "([C)V"⟩ : MethodName) = true := by first | exact plainFor_of_name (by first | (simp [plainName, overriddenIn]; done) | decide +kernel) | decide +kernel
theorem ef_in1_0 (m : MethodId) (qa : Addr) (qc : Addr) : entryFrame m #[(.ref qa), (.ref qc)] 2 = mkF m 0 #[.val (.ref qa), .val (.ref qc)] [] := by first | (simp [entryFrame, mkF, argsToLocals, Value.category, maxLocals]; done) | rfl
theorem pd_in1_0 : parseMethodDescriptor "([C)V" = some ⟨[.array (.char)], none⟩ := by decide +kernel
set_option maxRecDepth 65536 in
set_option maxHeartbeats 40000000 in
theorem rm_in1_0 (l : Launch) (Z : State) (a0 : Array Value) (hw : ∀ d ∈ tables_1, d.before a0 Z = true)  (qa : Addr) (qc : Addr) (h0 : Heap) (n0 : Nat) (XO : Old Z n0 h0) (Ts : List String) (hnot : "" ∉ Ts) (hh0 : Jvm.Lit.constHeld Z "java/lang/String" 7) (hcw : Jvm.Lit.compactW.before a0 Z = true) (ga : n0 ≤ qa) (hne : qc ≠ qa) (A1 : Arl Z h0 qc .char [])(E1 : Exa Z h0 qa "java/lang/String")(F1 : Fld Z h0 qa "java/lang/String" "value" "[B" .null)(F2 : Fld Z h0 qa "java/lang/String" "coder" "B" (.int (0 : Int32))) :
    MetFree l (⟨"java/lang/String", "<init>", "([C)V"⟩ : MethodName) (head1 [Jvm.Cond.code (⟨"java/lang/String", "<init>", "([C)V"⟩ : MethodName) jdk_42_method_3_code 2 none] ({ frames := 2, cells := 2, slots := 4, locals := 29 } : Room)) (fun a U => a = #[(.ref qa), (.ref qc)] ∧ Z.Warmed39 U.vm ∧ U.heap = h0 ∧ (fun vm => IB Z vm Ts) U.vm) (fun _ _ _ _ _ => True) (fun _ U o U' => ∃ v L, o = .returned v ∧ SQ0 Z Ts qa h0 n0 v U'.vm U'.heap L ∧ ReturnedEndW U o U' L ({ frames := 2, cells := 2, slots := 4, locals := 29 } : Room).cells ({ frames := 2, cells := 2, slots := 4, locals := 29 } : Room).slots) := by
  refine MetFree.of_bodySF pn_in1_0 hisR ?_
  intro p e s m args below meth c s₁ Bd hml0 hP hK
  obtain ⟨rfl, hZ, hh, hI⟩ := hP
  have hx := Bd.exec
  have hby := Bd.bytes
  have hml : c.maxLocals = 2 := hml0
  have hown : s.vm.findClass "java/lang/String" = some m.cls := findClass_of_methodNamed Bd.named
  have hnm := (name_of_methodNamed Bd.named Bd.method).1
  have hlk : meth.locks = false := BodyLoose.notSynchronized Bd
  have X0 : Stand p l e ({ frames := 2, cells := 2, slots := 4, locals := 29 } : Room) (s.setVm s.vm) m #[(.ref qa), (.ref qc)] below meth c s₁ [] 0 0 := Stand.of_body Bd
  have e0 : s₁.heap = h0 := by rw [← hh, Bd.state]; rfl
  have hS : s.Since s.vm h0.size := (State.WarmedH.refl s).since _
  have hk0 : h0.size ≤ h0.size := Nat.le_refl _
  show Go p e below (EndW below s (SQ0 Z Ts qa h0 n0) ({ frames := 2, cells := 2, slots := 4, locals := 29 } : Room).cells ({ frames := 2, cells := 2, slots := 4, locals := 29 } : Room).slots) (s₁.setTop (entryFrame m #[(.ref qa), (.ref qc)] 2))
  rw [ef_in1_0]
  refine g_aload_n X0 hx 1 (.ref qa) (hb hby in1_0_0) rfl rfl rfl ?_
  refine g_aload_n X0 hx 2 (.ref qc) (hb hby in1_0_1) rfl rfl rfl ?_
  refine g_iconst X0 hx 3 (0 : Int32) (hb hby in1_0_2) rfl rfl ?_
  refine g_aload_n X0 hx 4 (.ref qc) (hb hby in1_0_3) rfl rfl rfl ?_
  refine g_alen X0 hx hZ e0 A1 (0 : Int32) rfl 5 (hb hby in1_0_4) rfl ?_
  refine g_aconst_null X0 hx 6 (hb hby in1_0_5) rfl ?_
  obtain ⟨_, T_6, L_6, X_6, hS, hZ, hown, hW_6, ⟨b_6, rfl, M_6, K_6, Q_6, hI⟩, st_6⟩ := g_callIW X0 hx hZ hS hk0  (own := "java/lang/String") (index := 27) (y := (⟨"java/lang/String", "<init>", "([CIILjava/lang/Void;)V"⟩ : MethodName)) (a := qa) (as' := [(.ref qc), (.int (0 : Int32)), (.int (0 : Int32)), .null]) rfl hown (hw _ (List.mem_of_getElem? (i := 13) rfl)) (hw _ (List.mem_of_getElem? (i := 14) rfl)) (hw _ (List.mem_of_getElem? (i := 9) rfl)) (hw _ (List.mem_of_getElem? (i := 16) rfl)) (by decide) e0 (fun vm₁ hw₁ => ib_warm hI hw₁) (rm_in2_0 l Z a0 hw qa qc h0 n0 XO Ts hnot hh0 hcw ga hne A1 E1 F1 F2) pd_in2_0 rfl 0 (by decide) (by decide) (by decide) (by decide) (pc := 6) (Ls := #[.val (.ref qa), .val (.ref qc)]) (rest := []) (st := [.null, (.int (0 : Int32)), (.int (0 : Int32)), (.ref qc), (.ref qa)]) (by rw [hml]; rfl) rfl (Nat.le_of_eq rfl) (hb hby in1_0_6)
  refine st_6 ?_
  show Go p e below _ (T_6.setTop (mkF m 9 #[.val (.ref qa), .val (.ref qc)] []))
  exact GoW.retV X_6 hS (Nat.le_refl _) hx hlk Bd.returns (hb hby in1_0_9) (by decide) (by decide) ⟨_, rfl, (Fr.app (Fr.nil _) M_6), K_6, Q_6, hI⟩
def WQ0 (Z : State) (Ts : List String) (h0 : Heap) (n0 : Nat) (v : Option Value) (vm : Vm) (h : Heap) (L : List Loc) : Prop := ∃ qa qb : Addr, v = some (.ref qa) ∧ Fr n0 L ∧ Keep h0 h [] ∧ Stl Z h qa qb 0 [] ∧ IB Z vm ("" :: Ts)
theorem low_0_0 : decode prog_58_method_13_code 0 = .ok (.aload_n 0, 1) := by decide +kernel
theorem low_0_1 : decode prog_58_method_13_code 1 = .ok (.arraylength, 1) := by decide +kernel
theorem low_0_2 : decode prog_58_method_13_code 2 = .ok (.newarray .char, 2) := by decide +kernel
theorem low_0_4 : decode prog_58_method_13_code 4 = .ok (.astore_n 1, 1) := by decide +kernel
theorem low_0_5 : decode prog_58_method_13_code 5 = .ok (.iconst 0, 1) := by decide +kernel
theorem low_0_6 : decode prog_58_method_13_code 6 = .ok (.istore_n 2, 1) := by decide +kernel
theorem low_0_7 : decode prog_58_method_13_code 7 = .ok (.iload_n 2, 1) := by decide +kernel
theorem low_0_8 : decode prog_58_method_13_code 8 = .ok (.aload_n 0, 1) := by decide +kernel
theorem low_0_9 : decode prog_58_method_13_code 9 = .ok (.arraylength, 1) := by decide +kernel
theorem low_0_10 : decode prog_58_method_13_code 10 = .ok (.if_icmp .ge 18, 3) := by decide +kernel
theorem low_0_13 : decode prog_58_method_13_code 13 = .ok (.aload_n 1, 1) := by decide +kernel
theorem low_0_14 : decode prog_58_method_13_code 14 = .ok (.iload_n 2, 1) := by decide +kernel
theorem low_0_15 : decode prog_58_method_13_code 15 = .ok (.aload_n 0, 1) := by decide +kernel
theorem low_0_16 : decode prog_58_method_13_code 16 = .ok (.iload_n 2, 1) := by decide +kernel
theorem low_0_17 : decode prog_58_method_13_code 17 = .ok (.baload, 1) := by decide +kernel
theorem low_0_18 : decode prog_58_method_13_code 18 = .ok (.invokestatic 113, 3) := by decide +kernel
theorem low_0_21 : decode prog_58_method_13_code 21 = .ok (.castore, 1) := by decide +kernel
theorem low_0_22 : decode prog_58_method_13_code 22 = .ok (.iinc 2 1, 3) := by decide +kernel
theorem low_0_25 : decode prog_58_method_13_code 25 = .ok (.goto (-18), 3) := by decide +kernel
theorem low_0_28 : decode prog_58_method_13_code 28 = .ok (.new 88, 3) := by decide +kernel
theorem low_0_31 : decode prog_58_method_13_code 31 = .ok (.dup, 1) := by decide +kernel
theorem low_0_32 : decode prog_58_method_13_code 32 = .ok (.aload_n 1, 1) := by decide +kernel
theorem low_0_33 : decode prog_58_method_13_code 33 = .ok (.invokespecial 137, 3) := by decide +kernel
theorem low_0_36 : decode prog_58_method_13_code 36 = .ok (.areturn, 1) := by decide +kernel
theorem pn_low_0 : plainFor (⟨"com/example/marble_cache/marblecache/command/Words", "lowerCase", "([B)Ljava/lang/String;"⟩ : MethodName) = true := by first | exact plainFor_of_name (by first | (simp [plainName, overriddenIn]; done) | decide +kernel) | decide +kernel
theorem ef_low_0 (m : MethodId) (qw : Addr) : entryFrame m #[(.ref qw)] 3 = mkF m 0 #[.val (.ref qw), .unset, .unset] [] := by first | (simp [entryFrame, mkF, argsToLocals, Value.category, maxLocals]; done) | rfl
theorem pd_low_0 : parseMethodDescriptor "([B)Ljava/lang/String;" = some ⟨[.array (.byte)], some (.object "java/lang/String")⟩ := by decide +kernel
set_option maxRecDepth 65536 in
set_option maxHeartbeats 40000000 in
theorem rm_low_0 (l : Launch) (Z : State) (a0 : Array Value) (hw : ∀ d ∈ tables_1, d.before a0 Z = true)  (qw : Addr) (h0 : Heap) (n0 : Nat) (XO : Old Z n0 h0) (Ts : List String) (hnot : "" ∉ Ts) (hh0 : Jvm.Lit.constHeld Z "java/lang/String" 7) (hcw : Jvm.Lit.compactW.before a0 Z = true) (A1 : Arl Z h0 qw .byte []) :
    MetFree l (⟨"com/example/marble_cache/marblecache/command/Words", "lowerCase", "([B)Ljava/lang/String;"⟩ : MethodName) (head1 [Jvm.Cond.code (⟨"com/example/marble_cache/marblecache/command/Words", "lowerCase", "([B)Ljava/lang/String;"⟩ : MethodName) prog_58_method_13_code 3 (some (Jvm.ClassFile.FieldType.object "java/lang/String"))] ({ frames := 3, cells := 4, slots := 8, locals := 43 } : Room)) (fun a U => a = #[(.ref qw)] ∧ Z.Warmed39 U.vm ∧ U.heap = h0 ∧ (fun vm => IB Z vm Ts) U.vm) (fun _ _ _ _ _ => True) (fun _ U o U' => ∃ v L, o = .returned v ∧ WQ0 Z Ts h0 n0 v U'.vm U'.heap L ∧ ReturnedEndW U o U' L ({ frames := 3, cells := 4, slots := 8, locals := 43 } : Room).cells ({ frames := 3, cells := 4, slots := 8, locals := 43 } : Room).slots) := by
  refine MetFree.of_bodySF pn_low_0 hisR ?_
  intro p e s m args below meth c s₁ Bd hml0 hP hK
  obtain ⟨rfl, hZ, hh, hI⟩ := hP
  have hx := Bd.exec
  have hby := Bd.bytes
  have hml : c.maxLocals = 3 := hml0
  have hown : s.vm.findClass "com/example/marble_cache/marblecache/command/Words" = some m.cls := findClass_of_methodNamed Bd.named
  have hnm := (name_of_methodNamed Bd.named Bd.method).1
  have hlk : meth.locks = false := BodyLoose.notSynchronized Bd
  have X0 : Stand p l e ({ frames := 3, cells := 4, slots := 8, locals := 43 } : Room) (s.setVm s.vm) m #[(.ref qw)] below meth c s₁ [] 0 0 := Stand.of_body Bd
  have e0 : s₁.heap = h0 := by rw [← hh, Bd.state]; rfl
  have hS : s.Since s.vm h0.size := (State.WarmedH.refl s).since _
  have hk0 : h0.size ≤ h0.size := Nat.le_refl _
  show Go p e below (EndW below s (WQ0 Z Ts h0 n0) ({ frames := 3, cells := 4, slots := 8, locals := 43 } : Room).cells ({ frames := 3, cells := 4, slots := 8, locals := 43 } : Room).slots) (s₁.setTop (entryFrame m #[(.ref qw)] 3))
  rw [ef_low_0]
  refine g_aload_n X0 hx 1 (.ref qw) (hb hby low_0_0) rfl rfl rfl ?_
  refine g_alen X0 hx hZ e0 A1 (0 : Int32) rfl 2 (hb hby low_0_1) rfl ?_
  obtain ⟨T_2, h_2, a_2, k_2, X_2, e_2, ga_2, E_2, A_2, st_2⟩ := g_newP X0 hx hZ (aty := .char) (n := (0 : Int32)) (hw _ (List.mem_of_getElem? (i := 6) rfl)) e0 0 (by decide) (by decide) (by decide) (by decide) (by decide) 4 (hb hby low_0_2) rfl
  refine st_2 ?_
  have g_2 : n0 ≤ a_2 := by rw [ga_2]; exact Nat.le_trans (XO.1 ▸ XO.2.1) (Nat.le_refl _)
  have gh_2 : h0.size ≤ a_2 := by rw [ga_2]; exact (Nat.le_refl _)
  have n_2_qw : qw ≠ a_2 := by rw [ga_2]; exact Nat.ne_of_lt A1.lt
  have F_2_0 : Arl Z h_2 qw .byte [] := A1.ext E_2
  have Z_2 : h0.size ≤ h_2.size := Nat.le_trans (Nat.le_refl _) E_2.1
  have O_2 := Old.ext XO E_2
  have hk_2 := Nat.le_trans hk0 E_2.1
  have G_2 : Arl Z h_2 a_2 .char [] := Arl.new A_2 rfl
  refine g_astore_n X_2 hx 5 #[.val (.ref qw), .val (.ref a_2), .unset] (hb hby low_0_4) rfl rfl rfl ?_
  refine g_iconst X_2 hx 6 (0 : Int32) (hb hby low_0_5) rfl rfl ?_
  refine g_istore_n X_2 hx 7 #[.val (.ref qw), .val (.ref a_2), .val (.int (0 : Int32))] (hb hby low_0_6) rfl rfl ?_
  refine g_iload_n X_2 hx 8 (0 : Int32) (hb hby low_0_7) rfl rfl ?_
  refine g_aload_n X_2 hx 9 (.ref qw) (hb hby low_0_8) rfl rfl rfl ?_
  refine g_alen X_2 hx hZ e_2 F_2_0 (0 : Int32) rfl 10 (hb hby low_0_9) rfl ?_
  refine g_icmpY X_2 hx 28 (hb hby low_0_10) (XT.ii_ge_t (by decide)) (by decide) (by decide) ?_
  obtain ⟨T_28, h_28, a_28, X_28, e_28, ga_28, E_28, A_28, D_28, st_28⟩ := g_newO X_2 hx hZ hown (hw _ (List.mem_of_getElem? (i := 7) rfl)) (hw _ (List.mem_of_getElem? (i := 8) rfl)) (hw _ (List.mem_of_getElem? (i := 9) rfl)) e_2 31 (hb hby low_0_28) rfl (by decide) (by decide)
  refine st_28 ?_
  have g_28 : n0 ≤ a_28 := by rw [ga_28]; exact Nat.le_trans (XO.1 ▸ XO.2.1) Z_2
  have gh_28 : h0.size ≤ a_28 := by rw [ga_28]; exact Z_2
  have n_28_a_2 : a_2 ≠ a_28 := by rw [ga_28]; exact Nat.ne_of_lt G_2.lt
  have n_28_qw : qw ≠ a_28 := by rw [ga_28]; exact Nat.ne_of_lt F_2_0.lt
  have F_28_0 : Arl Z h_28 qw .byte [] := F_2_0.ext E_28
  have F_28_1 : Arl Z h_28 a_2 .char [] := G_2.ext E_28
  have Z_28 : h0.size ≤ h_28.size := Nat.le_trans Z_2 E_28.1
  have O_28 := Old.ext O_2 E_28
  have hk_28 := Nat.le_trans hk_2 E_28.1
  have G_28_value : Fld Z h_28 a_28 "java/lang/String" "value" "[B" .null := D_28 (Or.inr (hw _ (List.mem_of_getElem? (i := 21) rfl))) (ty := .array (.byte)) (by decide)
  have G_28_coder : Fld Z h_28 a_28 "java/lang/String" "coder" "B" (.int (0 : Int32)) := D_28 (Or.inr (hw _ (List.mem_of_getElem? (i := 22) rfl))) (ty := .byte) (by decide)
  refine g_dup X_28 hx 32 (hb hby low_0_31) rfl rfl ?_
  refine g_aload_n X_28 hx 33 (.ref a_2) (hb hby low_0_32) rfl rfl rfl ?_
  obtain ⟨_, T_33, L_33, X_33, hS, hZ, hown, hW_33, ⟨b_33, rfl, M_33, K_33, Q_33, hI⟩, st_33⟩ := g_callIW X_28 hx hZ hS hk_28  (own := "com/example/marble_cache/marblecache/command/Words") (index := 137) (y := (⟨"java/lang/String", "<init>", "([C)V"⟩ : MethodName)) (a := a_28) (as' := [(.ref a_2)]) rfl hown (hw _ (List.mem_of_getElem? (i := 10) rfl)) (hw _ (List.mem_of_getElem? (i := 11) rfl)) (hw _ (List.mem_of_getElem? (i := 9) rfl)) (hw _ (List.mem_of_getElem? (i := 12) rfl)) (by decide) e_28 (fun vm₁ hw₁ => ib_warm hI hw₁) (rm_in1_0 l Z a0 hw a_28 a_2 h_28 n0 O_28 Ts hnot hh0 hcw g_28 n_28_a_2 F_28_1 A_28 G_28_value G_28_coder) pd_in1_0 rfl 1 (by decide) (by decide) (by decide) (by decide) (pc := 33) (Ls := #[.val (.ref qw), .val (.ref a_2), .val (.int (0 : Int32))]) (rest := [(.ref a_28)]) (st := [(.ref a_2), (.ref a_28), (.ref a_28)]) (by rw [hml]; rfl) rfl (Nat.le_of_eq rfl) (hb hby low_0_33)
  refine st_33 ?_
  have F_33_0 : Arl Z T_33.heap qw .byte [] := F_28_0.keep K_33 (ninS n_28_qw nin0)
  have F_33_1 : Arl Z T_33.heap a_2 .char [] := F_28_1.keep K_33 (ninS n_28_a_2 nin0)
  have F_33_2 : Exa Z T_33.heap a_28 "java/lang/String" := A_28.keep K_33
  have N_33 := Fr.app (Fr.nil _) M_33
  have Z_33 : h0.size ≤ T_33.heap.size := Nat.le_trans Z_28 K_33.1
  have O_33 := Old.keep O_28 K_33 (allS g_28 all0)
  show Go p e below _ (T_33.setTop (mkF m 36 #[.val (.ref qw), .val (.ref a_2), .val (.int (0 : Int32))] [(.ref a_28)]))
  exact GoW.retA X_33 hS (Nat.le_refl _) hx hlk Bd.returns rfl rfl (hb hby low_0_36) (by decide) (by decide) ⟨_, _, rfl, N_33, ((((Keep.refl _ _).ext E_2).ext E_28).trans K_33 (allS (Or.inr gh_28) all0)), Q_33, hI⟩
def alph : List Value := [.int (97 : Int32), .int (98 : Int32), .int (99 : Int32), .int (100 : Int32), .int (101 : Int32), .int (102 : Int32), .int (103 : Int32), .int (104 : Int32), .int (105 : Int32), .int (106 : Int32), .int (107 : Int32), .int (108 : Int32), .int (109 : Int32), .int (110 : Int32), .int (111 : Int32), .int (112 : Int32), .int (113 : Int32), .int (114 : Int32), .int (115 : Int32), .int (116 : Int32), .int (117 : Int32), .int (118 : Int32), .int (119 : Int32), .int (120 : Int32), .int (121 : Int32), .int (122 : Int32)]
theorem own_alph {v : Int32} (h1 : ¬ v < (65 : Int32)) (h2 : ¬ (90 : Int32) < v) : ∃ i : Nat, (v - (65 : Int32)).toInt = (i : Int) ∧ i < 26 ∧ alph[i]? = some (.int (v + (32 : Int32))) ∧ 0 ≤ (v + (32 : Int32)).toInt ∧ (v + (32 : Int32)).toInt ≤ 255 := by
  have e1 : (65 : Int32).toInt = 65 := rfl
  have e2 : (90 : Int32).toInt = 90 := rfl
  have e3 : (32 : Int32).toInt = 32 := rfl
  rw [Int32.lt_iff_toInt_lt, e1] at h1
  rw [Int32.lt_iff_toInt_lt, e2] at h2
  have a1 : (v - (65 : Int32)).toInt = v.toInt - 65 := by rw [Jvm.Kit.i32_sub (by omega) (by omega), e1]
  have a2 : (v + (32 : Int32)).toInt = v.toInt + 32 := by rw [Jvm.Kit.i32_add (by omega) (by omega), e3]
  have k : ∀ i : Fin 26, alph[i.1]? = some (.int (Int32.ofInt (97 + (i.1 : Int)))) := by decide +kernel
  refine ⟨(v.toInt - 65).toNat, by rw [a1]; omega, by omega, ?_, by omega, by omega⟩
  rw [k ⟨(v.toInt - 65).toNat, by omega⟩]
  have : v + (32 : Int32) = Int32.ofInt (97 + (((v.toInt - 65).toNat : Nat) : Int)) := by
    apply Int32.toInt_inj.mp
    rw [a2, Int32.toInt_ofInt, Jvm.Kit.bmod32 (by omega) (by omega)]; omega
  rw [this]
theorem own_a255 {x : Int32} (h1 : 0 ≤ x.toInt) (h2 : x.toInt ≤ 255) : nar .char ((x &&& (255 : Int32)).toUInt32.toUInt16.toUInt32.toInt32) = x := by
  have e1 : (x &&& (255 : Int32)) = x := by
    have e : (x &&& (255 : Int32)).toInt = x.toInt % 2 ^ 8 := Jvm.Kit.i32_mask _ _ (k := 8) (by decide) (by decide)
    apply Int32.toInt_inj.mp; rw [e]; omega
  rw [e1, own_i2c h1 (by omega)]; exact own_i2c h1 (by omega)
/-- the constant of the letters: not loaded yet, or loaded -/
def LC (Z : State) (Ts : List String) (vm : Vm) (h : Heap) : Prop := IB Z vm Ts ∨ ∃ a b, Lit (Z.setVm vm) "com/example/marble_cache/marblecache/command/WordsLowerCasePinLaw" 7 a ∧ Stl Z h a b 0 alph
theorem lc_warm {Z s : State} {Ts : List String} {vm0 vm1 : Vm} {h : Heap} (L : LC Z Ts vm0 h) (hW : (s.setVm vm0).WarmedH vm1) : LC Z Ts vm1 h := by
  rcases L with I | ⟨a, b, l1, l2⟩
  · exact Or.inl (ib_warm I hW)
  · exact Or.inr ⟨a, b, lit_warm l1 hW.wide, l2⟩
def EQ (Z : State) (Ts : List String) (q1 : Int32) (h0 : Heap) (v : Option Value) (vm : Vm) (h : Heap) (L : List Loc) : Prop := v = some (.int (lcb q1)) ∧ L = [] ∧ Ext h0 h ∧ LC Z Ts vm h
theorem exp_0 : decode method_2_code 0 = .ok (.iload_n 0, 1) := by decide +kernel
theorem exp_1 : decode method_2_code 1 = .ok (.sipush 255, 3) := by decide +kernel
theorem exp_4 : decode method_2_code 4 = .ok (.iand, 1) := by decide +kernel
theorem exp_5 : decode method_2_code 5 = .ok (.istore_n 1, 1) := by decide +kernel
theorem exp_6 : decode method_2_code 6 = .ok (.iload_n 1, 1) := by decide +kernel
theorem exp_7 : decode method_2_code 7 = .ok (.bipush 65, 2) := by decide +kernel
theorem exp_9 : decode method_2_code 9 = .ok (.if_icmp .lt 19, 3) := by decide +kernel
theorem exp_12 : decode method_2_code 12 = .ok (.iload_n 1, 1) := by decide +kernel
theorem exp_13 : decode method_2_code 13 = .ok (.bipush 90, 2) := by decide +kernel
theorem exp_15 : decode method_2_code 15 = .ok (.if_icmp .gt 13, 3) := by decide +kernel
theorem exp_18 : decode method_2_code 18 = .ok (.ldc 7, 2) := by decide +kernel
theorem exp_20 : decode method_2_code 20 = .ok (.iload_n 1, 1) := by decide +kernel
theorem exp_21 : decode method_2_code 21 = .ok (.bipush 65, 2) := by decide +kernel
theorem exp_23 : decode method_2_code 23 = .ok (.isub, 1) := by decide +kernel
theorem exp_24 : decode method_2_code 24 = .ok (.invokevirtual 9, 3) := by decide +kernel
theorem exp_27 : decode method_2_code 27 = .ok (.ireturn, 1) := by decide +kernel
theorem exp_28 : decode method_2_code 28 = .ok (.iload_n 1, 1) := by decide +kernel
theorem exp_29 : decode method_2_code 29 = .ok (.i2c, 1) := by decide +kernel
theorem exp_30 : decode method_2_code 30 = .ok (.ireturn, 1) := by decide +kernel
theorem own_ge0 {j : Int32} {i : Nat} (h : j.toInt = (i : Int)) : ¬ j < (0 : Int32) := (own_clamp h).2
theorem own_lt26 {j : Int32} {i : Nat} (h : j.toInt = (i : Int)) (h2 : i < 26) : j < (26 : Int32) := by rw [Int32.lt_iff_toInt_lt, h]; have : (26 : Int32).toInt = 26 := rfl; omega
theorem pn_exp : plainFor (⟨"com/example/marble_cache/marblecache/command/WordsLowerCasePinLaw", "expected", "(I)C"⟩ : MethodName) = true := by first | exact plainFor_of_name (by first | (simp [plainName, overriddenIn]; done) | decide +kernel) | decide +kernel
theorem ef_exp (m : MethodId) (q1 : Int32) : entryFrame m #[(.int q1)] 2 = mkF m 0 #[.val (.int q1), .unset] [] := by first | (simp [entryFrame, mkF, argsToLocals, Value.category, maxLocals]; done) | rfl
theorem pd_exp : parseMethodDescriptor "(I)C" = some ⟨[.int], some (.char)⟩ := by decide +kernel
set_option maxRecDepth 65536 in
set_option maxHeartbeats 40000000 in
theorem rm_exp (l : Launch) (Z : State) (a0 : Array Value) (hw : ∀ d ∈ tables_1, d.before a0 Z = true)  (q1 : Int32) (h0 : Heap) (n0 : Nat) (XO : Old Z n0 h0) (cs : Int32) (hcs : ¬ cs = (0 : Int32)) (SC : Sta Z Z.heap "java/lang/String" "COMPACT_STRINGS" "Z" (.int cs)) (fv : Value) (hfv : fv.isRef = true) (SF : Sta Z Z.heap "jdk/internal/util/Preconditions" "SIOOBE_FORMATTER" "Ljava/util/function/BiFunction;" fv) (Ts : List String) (hnot : "abcdefghijklmnopqrstuvwxyz" ∉ Ts) (hh1 : Jvm.Lit.constHeld Z "com/example/marble_cache/marblecache/command/WordsLowerCasePinLaw" 7) (hcw : Jvm.Lit.compactW.before a0 Z = true)  :
    MetFree l (⟨"com/example/marble_cache/marblecache/command/WordsLowerCasePinLaw", "expected", "(I)C"⟩ : MethodName) (head1 [Jvm.Cond.code (⟨"com/example/marble_cache/marblecache/command/WordsLowerCasePinLaw", "expected", "(I)C"⟩ : MethodName) method_2_code 2 (some Jvm.ClassFile.FieldType.char)] ({ frames := 4, cells := 2, slots := 108, locals := 53 } : Room)) (fun a U => a = #[(.int q1)] ∧ Z.Warmed39 U.vm ∧ U.heap = h0 ∧ (fun vm => LC Z Ts vm h0) U.vm) (fun _ _ _ _ _ => True) (fun _ U o U' => ∃ v L, o = .returned v ∧ EQ Z Ts q1 h0 v U'.vm U'.heap L ∧ ReturnedEndW U o U' L ({ frames := 4, cells := 2, slots := 108, locals := 53 } : Room).cells ({ frames := 4, cells := 2, slots := 108, locals := 53 } : Room).slots) := by
  refine MetFree.of_bodySF pn_exp hisR ?_
  intro p e s m args below meth c s₁ Bd hml0 hP hK
  obtain ⟨rfl, hZ, hh, hI⟩ := hP
  have hx := Bd.exec
  have hby := Bd.bytes
  have hml : c.maxLocals = 2 := hml0
  have hown : s.vm.findClass "com/example/marble_cache/marblecache/command/WordsLowerCasePinLaw" = some m.cls := findClass_of_methodNamed Bd.named
  have hnm := (name_of_methodNamed Bd.named Bd.method).1
  have hlk : meth.locks = false := BodyLoose.notSynchronized Bd
  have X0 : Stand p l e ({ frames := 4, cells := 2, slots := 108, locals := 53 } : Room) (s.setVm s.vm) m #[(.int q1)] below meth c s₁ [] 0 0 := Stand.of_body Bd
  have e0 : s₁.heap = h0 := by rw [← hh, Bd.state]; rfl
  have hS : s.Since s.vm h0.size := (State.WarmedH.refl s).since _
  have hk0 : h0.size ≤ h0.size := Nat.le_refl _
  show Go p e below (EndW below s (EQ Z Ts q1 h0) ({ frames := 4, cells := 2, slots := 108, locals := 53 } : Room).cells ({ frames := 4, cells := 2, slots := 108, locals := 53 } : Room).slots) (s₁.setTop (entryFrame m #[(.int q1)] 2))
  rw [ef_exp]
  have hx0 : Ext h0 h0 := ⟨Nat.le_refl _, fun _ _ q => q⟩
  refine g_iload_n X0 hx 1 q1 (hb hby exp_0) rfl rfl ?_
  refine g_sipush X0 hx 4 (255 : Int32) (hb hby exp_1) rfl rfl ?_
  refine g_iand X0 hx 5 (hb hby exp_4) rfl ?_
  refine g_istore_n X0 hx 6 #[.val (.int q1), .val (.int (q1 &&& (255 : Int32)))] (hb hby exp_5) rfl rfl ?_
  generalize hvc : (q1 &&& (255 : Int32)) = vc
  refine g_iload_n X0 hx 7 vc (hb hby exp_6) rfl rfl ?_
  refine g_bipush X0 hx 9 (65 : Int32) (hb hby exp_7) rfl rfl ?_
  by_cases c9 : vc < (65 : Int32)
  ·
    refine g_icmpY X0 hx 28 (hb hby exp_9) (XT.ii_lt_t c9) (by decide) (by decide) ?_
    refine g_iload_n X0 hx 29 vc (hb hby exp_28) rfl rfl ?_
    refine g_i2c X0 hx 30 (hb hby exp_29) rfl ?_
    have hv : lcb q1 = vc := by unfold lcb; rw [hvc, if_pos c9]
    rw [← hv, lcb_i2c]
    exact GoW.retZ X0 hS (by rw [e0]; exact hk0) hx hlk Bd.returns (by simp) (hb hby exp_30) (by decide) (by decide) ⟨by rw [lcb_ch], rfl, e0.symm ▸ hx0, e0.symm ▸ (lc_warm hI X0.warmed)⟩
  ·
    refine g_icmpN X0 hx 12 (hb hby exp_9) (XT.ii_lt_f c9) rfl ?_
    refine g_iload_n X0 hx 13 vc (hb hby exp_12) rfl rfl ?_
    refine g_bipush X0 hx 15 (90 : Int32) (hb hby exp_13) rfl rfl ?_
    by_cases c15 : (90 : Int32) < vc
    ·
      refine g_icmpY X0 hx 28 (hb hby exp_15) (XT.ii_gt_t c15) (by decide) (by decide) ?_
      refine g_iload_n X0 hx 29 vc (hb hby exp_28) rfl rfl ?_
      refine g_i2c X0 hx 30 (hb hby exp_29) rfl ?_
      have hv : lcb q1 = vc := by unfold lcb; rw [hvc, if_neg c9, if_pos c15]
      rw [← hv, lcb_i2c]
      exact GoW.retZ X0 hS (by rw [e0]; exact hk0) hx hlk Bd.returns (by simp) (hb hby exp_30) (by decide) (by decide) ⟨by rw [lcb_ch], rfl, e0.symm ▸ hx0, e0.symm ▸ (lc_warm hI X0.warmed)⟩
    ·
      refine g_icmpN X0 hx 18 (hb hby exp_15) (XT.ii_gt_f c15) rfl ?_
      obtain ⟨ix, hix, hi26, hia, hr1, hr2⟩ := own_alph c9 c15
      rcases hI with hI | ⟨la, lb, hLit, hLs⟩
      ·
        obtain ⟨la_18, T_18, h_18, k_18, lb_18, X_18, e_18, E_18, hS, hk_18', hZ, hown, hLs_18, hI, hLit_18, st_18⟩ := g_ldcC X0 hx hZ hown (hw _ (List.mem_of_getElem? (i := 77) rfl)) (fun d hd => hw d (own_wS d hd)) e0 hS hk0 (Fr.nil _) (fun b cl q => by rw [hh]; exact XO.2.2 b cl q) hI hnot hh1 hcw alph (26 : Int32) ⟨by decide +kernel, by decide +kernel⟩ (by decide) rfl 104 (by decide) (by decide) (by decide) (by decide) 20 (hb hby exp_18) rfl
        refine st_18 ?_
        have Z_18 : h0.size ≤ h_18.size := Nat.le_trans (Nat.le_refl _) E_18.1
        have O_18 := Old.ext XO E_18
        refine g_iload_n X_18 hx 21 vc (hb hby exp_20) rfl rfl ?_
        refine g_bipush X_18 hx 23 (65 : Int32) (hb hby exp_21) rfl rfl ?_
        refine g_isub X_18 hx 24 (hb hby exp_23) rfl ?_
        obtain ⟨_, T_24, L_24, X_24, ⟨rfl, rfl, e_24⟩, st_24⟩ := g_callV X_18 hx hZ  (C := "java/lang/String") (own := "com/example/marble_cache/marblecache/command/WordsLowerCasePinLaw") (index := 9) (y := (⟨"java/lang/String", "charAt", "(I)C"⟩ : MethodName)) (z := (⟨"java/lang/String", "charAt", "(I)C"⟩ : MethodName)) (a := la_18) (as' := [(.int (vc - (65 : Int32)))]) hown (hw _ (List.mem_of_getElem? (i := 51) rfl)) (hw _ (List.mem_of_getElem? (i := 52) rfl)) (hw _ (List.mem_of_getElem? (i := 54) rfl)) (hw _ (List.mem_of_getElem? (i := 54) rfl)) (hw _ (List.mem_of_getElem? (i := 53) rfl)) (hw _ (List.mem_of_getElem? (i := 9) rfl)) (hw _ (List.mem_of_getElem? (i := 55) rfl)) (by decide) e_18 hLs_18.1 (rm_cat l Z a0 hw la_18 (vc - (65 : Int32)) h_18 n0 O_18 cs hcs SC fv hfv SF _ alph (26 : Int32) rfl (own_ge0 hix) (own_lt26 hix hi26) ix hix (vc + (32 : Int32)) hia (vc + (32 : Int32)) (own_a255 hr1 hr2) hLs_18) pd_cat rfl 0 (by decide) (by decide) (by decide) (by decide) (pc := 24) (Ls := #[.val (.int q1), .val (.int vc)]) (rest := []) (st := [(.int (vc - (65 : Int32))), (.ref la_18)]) (by rw [hml]; rfl) rfl (Nat.le_of_eq rfl) (hb hby exp_24)
        refine st_24 ?_
        rw [List.append_nil] at X_24
        show Go p e below _ (T_24.setTop (mkF m 27 #[.val (.int q1), .val (.int vc)] [(.int (vc + (32 : Int32)))]))
        have hv : lcb q1 = vc + (32 : Int32) := by unfold lcb; rw [hvc, if_neg c9, if_neg c15]
        rw [← hv]
        exact GoW.retZ X_24 hS (by rw [e_24]; exact hk_18') hx hlk Bd.returns (by simp) (hb hby exp_27) (by decide) (by decide) ⟨by rw [lcb_ch], rfl, e_24.symm ▸ (E_18), e_24.symm ▸ (Or.inr ⟨_, _, lit_warm hLit_18 X_24.warmed.wide, hLs_18⟩)⟩
      ·
        refine g_ldcA X0 hx hZ hown (hw _ (List.mem_of_getElem? (i := 77) rfl)) hLit 20 (hb hby exp_18) rfl ?_
        refine g_iload_n X0 hx 21 vc (hb hby exp_20) rfl rfl ?_
        refine g_bipush X0 hx 23 (65 : Int32) (hb hby exp_21) rfl rfl ?_
        refine g_isub X0 hx 24 (hb hby exp_23) rfl ?_
        obtain ⟨_, T_24x1, L_24x1, X_24x1, ⟨rfl, rfl, e_24x1⟩, st_24x1⟩ := g_callV X0 hx hZ  (C := "java/lang/String") (own := "com/example/marble_cache/marblecache/command/WordsLowerCasePinLaw") (index := 9) (y := (⟨"java/lang/String", "charAt", "(I)C"⟩ : MethodName)) (z := (⟨"java/lang/String", "charAt", "(I)C"⟩ : MethodName)) (a := la) (as' := [(.int (vc - (65 : Int32)))]) hown (hw _ (List.mem_of_getElem? (i := 51) rfl)) (hw _ (List.mem_of_getElem? (i := 52) rfl)) (hw _ (List.mem_of_getElem? (i := 54) rfl)) (hw _ (List.mem_of_getElem? (i := 54) rfl)) (hw _ (List.mem_of_getElem? (i := 53) rfl)) (hw _ (List.mem_of_getElem? (i := 9) rfl)) (hw _ (List.mem_of_getElem? (i := 55) rfl)) (by decide) e0 hLs.1 (rm_cat l Z a0 hw la (vc - (65 : Int32)) h0 n0 XO cs hcs SC fv hfv SF _ alph (26 : Int32) rfl (own_ge0 hix) (own_lt26 hix hi26) ix hix (vc + (32 : Int32)) hia (vc + (32 : Int32)) (own_a255 hr1 hr2) hLs) pd_cat rfl 0 (by decide) (by decide) (by decide) (by decide) (pc := 24) (Ls := #[.val (.int q1), .val (.int vc)]) (rest := []) (st := [(.int (vc - (65 : Int32))), (.ref la)]) (by rw [hml]; rfl) rfl (Nat.le_of_eq rfl) (hb hby exp_24)
        refine st_24x1 ?_
        rw [List.append_nil] at X_24x1
        show Go p e below _ (T_24x1.setTop (mkF m 27 #[.val (.int q1), .val (.int vc)] [(.int (vc + (32 : Int32)))]))
        have hv : lcb q1 = vc + (32 : Int32) := by unfold lcb; rw [hvc, if_neg c9, if_neg c15]
        rw [← hv]
        exact GoW.retZ X_24x1 hS (by rw [e_24x1]; exact hk0) hx hlk Bd.returns (by simp) (hb hby exp_27) (by decide) (by decide) ⟨by rw [lcb_ch], rfl, e_24x1.symm ▸ hx0, e_24x1.symm ▸ (Or.inr ⟨_, _, lit_warm hLit X_24x1.warmed.wide, hLs⟩)⟩
theorem own_five {a n : Int32} (h : (a &&& (2147483647 : Int32)) % (5 : Int32) = n) : n = 0 ∨ n = 1 ∨ n = 2 ∨ n = 3 ∨ n = 4 := by
  have e1 : (a &&& (2147483647 : Int32)).toInt = a.toInt % 2 ^ 31 := Jvm.Kit.i32_mask a _ (k := 31) (by decide) (by decide)
  have e : n.toInt = (a.toInt % 2 ^ 31) % 5 := by rw [← h, Int32.toInt_mod, e1, Int.tmod_eq_emod_of_nonneg (by omega)]; rfl
  have c : n.toInt = 0 ∨ n.toInt = 1 ∨ n.toInt = 2 ∨ n.toInt = 3 ∨ n.toInt = 4 := by omega
  rcases c with c | c | c | c | c
  · exact Or.inl (Int32.toInt_inj.mp c)
  · exact Or.inr (Or.inl (Int32.toInt_inj.mp c))
  · exact Or.inr (Or.inr (Or.inl (Int32.toInt_inj.mp c)))
  · exact Or.inr (Or.inr (Or.inr (Or.inl (Int32.toInt_inj.mp c))))
  · exact Or.inr (Or.inr (Or.inr (Or.inr (Int32.toInt_inj.mp c))))
theorem pn_law : plainFor x = true := by first | exact plainFor_of_name (by first | (simp [plainName, overriddenIn]; done) | decide +kernel) | decide +kernel
theorem ef_law (m : MethodId) (q1 : Int32) (q2 : Int32) (q3 : Int32) (q4 : Int32) (q5 : Int32) : entryFrame m #[(.int q1), (.int q2), (.int q3), (.int q4), (.int q5)] maxLocals = mkF m 0 #[.val (.int q1), .val (.int q2), .val (.int q3), .val (.int q4), .val (.int q5), .unset, .unset, .unset] [] := by first | (simp [entryFrame, mkF, argsToLocals, Value.category, maxLocals]; done) | rfl
theorem pd_law : parseMethodDescriptor "(IIIII)Z" = some ⟨[.int, .int, .int, .int, .int], some (.boolean)⟩ := by decide +kernel
set_option maxRecDepth 65536 in
set_option maxHeartbeats 40000000 in
theorem rm_law (l : Launch) (Z : State) (a0 : Array Value) (hw : ∀ d ∈ tables_1, d.before a0 Z = true) (ws : List Jvm.Cond) (q1 : Int32) (q2 : Int32) (q3 : Int32) (q4 : Int32) (q5 : Int32) (h0 : Heap) (XO : Old Z h0.size h0) (cs : Int32) (hcs : ¬ cs = (0 : Int32)) (SC : Sta Z Z.heap "java/lang/String" "COMPACT_STRINGS" "Z" (.int cs)) (fv : Value) (hfv : fv.isRef = true) (SF : Sta Z Z.heap "jdk/internal/util/Preconditions" "SIOOBE_FORMATTER" "Ljava/util/function/BiFunction;" fv) (hh1 : Jvm.Lit.constHeld Z "com/example/marble_cache/marblecache/command/WordsLowerCasePinLaw" 7) (hh0 : Jvm.Lit.constHeld Z "java/lang/String" 7) (hcw : Jvm.Lit.compactW.before a0 Z = true) :
    MetFree l x (head1 (Jvm.Cond.code x code maxLocals ret :: ws) room_1) (fun a U => a = #[(.int q1), (.int q2), (.int q3), (.int q4), (.int q5)] ∧ Z.Warmed39 U.vm ∧ U.heap = h0 ∧ (fun vm => IB Z vm []) U.vm) (fun _ _ _ _ _ => True) (fun _ U o U' => ∃ v L, o = .returned v ∧ LQ h0 v U'.vm U'.heap L ∧ ReturnedEndW U o U' L 24 2176) := by
  refine MetFree.of_bodySF pn_law hisR ?_
  intro p e s m args below meth c s₁ Bd hml0 hP hK
  obtain ⟨rfl, hZ, hh, hI⟩ := hP
  have hx := Bd.exec
  have hby := Bd.bytes
  have hml : c.maxLocals = 8 := hml0
  have hown : s.vm.findClass "com/example/marble_cache/marblecache/command/WordsLowerCasePinLaw" = some m.cls := findClass_of_methodNamed Bd.named
  have hnm := (name_of_methodNamed Bd.named Bd.method).1
  have hlk : meth.locks = false := BodyLoose.notSynchronized Bd
  have X0 : Stand p l e room_1 (s.setVm s.vm) m #[(.int q1), (.int q2), (.int q3), (.int q4), (.int q5)] below meth c s₁ [] 0 0 := Stand.of_body Bd
  have e0 : s₁.heap = h0 := by rw [← hh, Bd.state]; rfl
  have hS : s.Since s.vm h0.size := (State.WarmedH.refl s).since _
  have hk0 : h0.size ≤ h0.size := Nat.le_refl _
  show Go p e below (EndW below s (LQ h0) 24 2176) (s₁.setTop (entryFrame m #[(.int q1), (.int q2), (.int q3), (.int q4), (.int q5)] maxLocals))
  rw [ef_law]
  refine g_iload_n X0 hx 1 q1 (hb hby at_0) rfl rfl ?_
  refine g_ldc X0 hx 3 (hb hby at_1) hown (mvT hZ (hw _ (List.mem_of_getElem? (i := 0) rfl))) rfl ?_
  refine g_iand X0 hx 4 (hb hby at_3) rfl ?_
  refine g_iconst X0 hx 5 (5 : Int32) (hb hby at_4) rfl rfl ?_
  refine g_irem X0 hx 6 (hb hby at_5) (by decide) rfl ?_
  refine g_istore X0 hx 8 #[.val (.int q1), .val (.int q2), .val (.int q3), .val (.int q4), .val (.int q5), .val (.int ((q1 &&& (2147483647 : Int32)) % (5 : Int32))), .unset, .unset] (hb hby at_6) rfl rfl ?_
  generalize hvl : ((q1 &&& (2147483647 : Int32)) % (5 : Int32)) = vl
  rcases own_five hvl with rfl | rfl | rfl | rfl | rfl
  ·
    refine g_iload X0 hx 10 (0 : Int32) (hb hby at_8) rfl rfl ?_
    obtain ⟨T_10, h_10, a_10, k_10, X_10, e_10, ga_10, E_10, A_10, st_10⟩ := g_newP X0 hx hZ (aty := .byte) (n := (0 : Int32)) (hw _ (List.mem_of_getElem? (i := 1) rfl)) e0 0 (by decide) (by decide) (by decide) (by decide) (by decide) 12 (hb hby at_10) rfl
    refine st_10 ?_
    have g_10 : h0.size ≤ a_10 := by rw [ga_10]; exact (Nat.le_refl _)
    have gh_10 : h0.size ≤ a_10 := by rw [ga_10]; exact (Nat.le_refl _)
    have Z_10 : h0.size ≤ h_10.size := Nat.le_trans (Nat.le_refl _) E_10.1
    have O_10 := Old.ext XO E_10
    have hk_10 := Nat.le_trans hk0 E_10.1
    have G_10 : Arl Z h_10 a_10 .byte [] := Arl.new A_10 rfl
    refine g_astore X_10 hx 14 #[.val (.int q1), .val (.int q2), .val (.int q3), .val (.int q4), .val (.int q5), .val (.int (0 : Int32)), .val (.ref a_10), .unset] (hb hby at_12) rfl rfl rfl ?_
    refine g_iload X_10 hx 16 (0 : Int32) (hb hby at_14) rfl rfl ?_
    refine g_ifY X_10 hx 25 (hb hby at_16) (XT.i0_le_t (by decide)) (by decide) (by decide) ?_
    refine g_iload X_10 hx 27 (0 : Int32) (hb hby at_25) rfl rfl ?_
    refine g_iconst X_10 hx 28 (1 : Int32) (hb hby at_27) rfl rfl ?_
    refine g_icmpY X_10 hx 37 (hb hby at_28) (XT.ii_le_t (by decide)) (by decide) (by decide) ?_
    refine g_iload X_10 hx 39 (0 : Int32) (hb hby at_37) rfl rfl ?_
    refine g_iconst X_10 hx 40 (2 : Int32) (hb hby at_39) rfl rfl ?_
    refine g_icmpY X_10 hx 49 (hb hby at_40) (XT.ii_le_t (by decide)) (by decide) (by decide) ?_
    refine g_iload X_10 hx 51 (0 : Int32) (hb hby at_49) rfl rfl ?_
    refine g_iconst X_10 hx 52 (3 : Int32) (hb hby at_51) rfl rfl ?_
    refine g_icmpY X_10 hx 62 (hb hby at_52) (XT.ii_le_t (by decide)) (by decide) (by decide) ?_
    refine g_aload X_10 hx 64 (.ref a_10) (hb hby at_62) rfl rfl rfl ?_
    obtain ⟨_, T_64, L_64, X_64, hS, hZ, hown, hW_64, ⟨a_64, b_64, rfl, M_64, K_64, Q_64, hI⟩, st_64⟩ := g_callSW X_10 hx hZ hS hk_10  (own := "com/example/marble_cache/marblecache/command/WordsLowerCasePinLaw") (index := 16) (y := (⟨"com/example/marble_cache/marblecache/command/Words", "lowerCase", "([B)Ljava/lang/String;"⟩ : MethodName)) (as' := [(.ref a_10)]) hown (hw _ (List.mem_of_getElem? (i := 2) rfl)) (hw _ (List.mem_of_getElem? (i := 3) rfl)) (hw _ (List.mem_of_getElem? (i := 4) rfl)) (hw _ (List.mem_of_getElem? (i := 5) rfl)) (by decide) e_10 (fun vm₁ hw₁ => ib_warm hI hw₁) (rm_low_0 l Z a0 hw a_10 h_10 h0.size O_10 [] (by simp) hh0 hcw G_10) pd_low_0 rfl 0 (by decide) (by decide) (by decide) (by decide) (pc := 64) (Ls := #[.val (.int q1), .val (.int q2), .val (.int q3), .val (.int q4), .val (.int q5), .val (.int (0 : Int32)), .val (.ref a_10), .unset]) (rest := []) (st := [(.ref a_10)]) (by rw [hml]; rfl) rfl (Nat.le_of_eq rfl) (hb hby at_64)
    refine st_64 ?_
    have F_64_0 : Arl Z T_64.heap a_10 .byte [] := G_10.keep K_64 nin0
    have N_64 := Fr.app (Fr.nil _) M_64
    have Z_64 : h0.size ≤ T_64.heap.size := Nat.le_trans Z_10 K_64.1
    have O_64 := Old.keep O_10 K_64 all0
    show Go p e below _ (T_64.setTop (mkF m 67 #[.val (.int q1), .val (.int q2), .val (.int q3), .val (.int q4), .val (.int q5), .val (.int (0 : Int32)), .val (.ref a_10), .unset] [(.ref a_64)]))
    refine g_astore X_64 hx 69 #[.val (.int q1), .val (.int q2), .val (.int q3), .val (.int q4), .val (.int q5), .val (.int (0 : Int32)), .val (.ref a_10), .val (.ref a_64)] (hb hby at_67) rfl rfl rfl ?_
    refine g_aload X_64 hx 71 (.ref a_64) (hb hby at_69) rfl rfl rfl ?_
    obtain ⟨_, T_71, L_71, X_71, ⟨rfl, rfl, e_71⟩, st_71⟩ := g_callV X_64 hx hZ  (C := "java/lang/String") (own := "com/example/marble_cache/marblecache/command/WordsLowerCasePinLaw") (index := 22) (y := (⟨"java/lang/String", "length", "()I"⟩ : MethodName)) (z := (⟨"java/lang/String", "length", "()I"⟩ : MethodName)) (a := a_64) (as' := []) hown (hw _ (List.mem_of_getElem? (i := 27) rfl)) (hw _ (List.mem_of_getElem? (i := 28) rfl)) (hw _ (List.mem_of_getElem? (i := 30) rfl)) (hw _ (List.mem_of_getElem? (i := 30) rfl)) (hw _ (List.mem_of_getElem? (i := 29) rfl)) (hw _ (List.mem_of_getElem? (i := 9) rfl)) (hw _ (List.mem_of_getElem? (i := 31) rfl)) (by decide) rfl Q_64.1 (rm_len l Z a0 hw a_64 T_64.heap h0.size O_64 cs hcs SC (0 : Int32) rfl _ [] (0 : Int32) (0 : Int32) rfl rfl Q_64) pd_len rfl 0 (by decide) (by decide) (by decide) (by decide) (pc := 71) (Ls := #[.val (.int q1), .val (.int q2), .val (.int q3), .val (.int q4), .val (.int q5), .val (.int (0 : Int32)), .val (.ref a_10), .val (.ref a_64)]) (rest := []) (st := [(.ref a_64)]) (by rw [hml]; rfl) rfl (Nat.le_of_eq rfl) (hb hby at_71)
    refine st_71 ?_
    rw [List.append_nil] at X_71
    show Go p e below _ (T_71.setTop (mkF m 74 #[.val (.int q1), .val (.int q2), .val (.int q3), .val (.int q4), .val (.int q5), .val (.int (0 : Int32)), .val (.ref a_10), .val (.ref a_64)] [(.int (0 : Int32))]))
    refine g_iload X_71 hx 76 (0 : Int32) (hb hby at_74) rfl rfl ?_
    refine g_icmpY X_71 hx 81 (hb hby at_76) (XT.ii_eq_t (by decide)) (by decide) (by decide) ?_
    refine g_iload X_71 hx 83 (0 : Int32) (hb hby at_81) rfl rfl ?_
    refine g_ifY X_71 hx 110 (hb hby at_83) (XT.i0_le_t (by decide)) (by decide) (by decide) ?_
    refine g_iload X_71 hx 112 (0 : Int32) (hb hby at_110) rfl rfl ?_
    refine g_iconst X_71 hx 113 (1 : Int32) (hb hby at_112) rfl rfl ?_
    refine g_icmpY X_71 hx 140 (hb hby at_113) (XT.ii_le_t (by decide)) (by decide) (by decide) ?_
    refine g_iload X_71 hx 142 (0 : Int32) (hb hby at_140) rfl rfl ?_
    refine g_iconst X_71 hx 143 (2 : Int32) (hb hby at_142) rfl rfl ?_
    refine g_icmpY X_71 hx 170 (hb hby at_143) (XT.ii_le_t (by decide)) (by decide) (by decide) ?_
    refine g_iload X_71 hx 172 (0 : Int32) (hb hby at_170) rfl rfl ?_
    refine g_iconst X_71 hx 173 (3 : Int32) (hb hby at_172) rfl rfl ?_
    refine g_icmpY X_71 hx 202 (hb hby at_173) (XT.ii_le_t (by decide)) (by decide) (by decide) ?_
    refine g_iconst X_71 hx 203 (1 : Int32) (hb hby at_202) rfl rfl ?_
    exact GoW.ret X_71 hS (by rw [e_71]; exact (Nat.le_refl _)) hx hlk Bd.returns (hb hby at_203) rfl (Or.inl ⟨rfl, by decide, _, rfl⟩) (by decide) (by decide) ⟨rfl, N_64⟩
  ·
    refine g_iload X0 hx 10 (1 : Int32) (hb hby at_8) rfl rfl ?_
    obtain ⟨T_10x1, h_10x1, a_10x1, k_10x1, X_10x1, e_10x1, ga_10x1, E_10x1, A_10x1, st_10x1⟩ := g_newP X0 hx hZ (aty := .byte) (n := (1 : Int32)) (hw _ (List.mem_of_getElem? (i := 1) rfl)) e0 1 (by decide) (by decide) (by decide) (by decide) (by decide) 12 (hb hby at_10) rfl
    refine st_10x1 ?_
    have g_10x1 : h0.size ≤ a_10x1 := by rw [ga_10x1]; exact (Nat.le_refl _)
    have gh_10x1 : h0.size ≤ a_10x1 := by rw [ga_10x1]; exact (Nat.le_refl _)
    have Z_10x1 : h0.size ≤ h_10x1.size := Nat.le_trans (Nat.le_refl _) E_10x1.1
    have O_10x1 := Old.ext XO E_10x1
    have hk_10x1 := Nat.le_trans hk0 E_10x1.1
    have G_10x1 : Arl Z h_10x1 a_10x1 .byte [(.int (0 : Int32))] := Arl.new A_10x1 rfl
    refine g_astore X_10x1 hx 14 #[.val (.int q1), .val (.int q2), .val (.int q3), .val (.int q4), .val (.int q5), .val (.int (1 : Int32)), .val (.ref a_10x1), .unset] (hb hby at_12) rfl rfl rfl ?_
    refine g_iload X_10x1 hx 16 (1 : Int32) (hb hby at_14) rfl rfl ?_
    refine g_ifN X_10x1 hx 19 (hb hby at_16) (XT.i0_le_f (by decide)) rfl ?_
    refine g_aload X_10x1 hx 21 (.ref a_10x1) (hb hby at_19) rfl rfl rfl ?_
    refine g_iconst X_10x1 hx 22 (0 : Int32) (hb hby at_21) rfl rfl ?_
    refine g_iload_n X_10x1 hx 23 q2 (hb hby at_22) rfl rfl ?_
    refine g_i2b X_10x1 hx 24 (hb hby at_23) rfl ?_
    obtain ⟨T_24, h_24, X_24, e_24, W_24, B_24, st_24⟩ := g_bastore X_10x1 hx hZ e_10x1 G_10x1 (j := (0 : Int32)) (q2.toInt8.toInt32) (k := 0) rfl (Nat.le_of_ble_eq_true rfl) 25 (hb hby at_24) rfl
    refine st_24 ?_
    have C_24 : Arl Z h_24 a_10x1 .byte [(.int (q2.toInt8.toInt32))] := by have z := B_24; rw [show (nar .byte (q2.toInt8.toInt32)) = (q2.toInt8.toInt32) from own_nb _] at z; exact z
    have F_24_0 : Arl Z h_24 a_10x1 .byte [(.int (q2.toInt8.toInt32))] := C_24
    have N_24 := Fr.snoc X_24 (Fr.nil _) g_10x1
    have Z_24 : h0.size ≤ h_24.size := by rw [W_24.size]; exact Z_10x1
    have O_24 := Old.wr O_10x1 W_24 g_10x1
    have hk_24 := Nat.le_trans hk_10x1 (Nat.le_of_eq W_24.size.symm)
    refine g_iload X_24 hx 27 (1 : Int32) (hb hby at_25) rfl rfl ?_
    refine g_iconst X_24 hx 28 (1 : Int32) (hb hby at_27) rfl rfl ?_
    refine g_icmpY X_24 hx 37 (hb hby at_28) (XT.ii_le_t (by decide)) (by decide) (by decide) ?_
    refine g_iload X_24 hx 39 (1 : Int32) (hb hby at_37) rfl rfl ?_
    refine g_iconst X_24 hx 40 (2 : Int32) (hb hby at_39) rfl rfl ?_
    refine g_icmpY X_24 hx 49 (hb hby at_40) (XT.ii_le_t (by decide)) (by decide) (by decide) ?_
    refine g_iload X_24 hx 51 (1 : Int32) (hb hby at_49) rfl rfl ?_
    refine g_iconst X_24 hx 52 (3 : Int32) (hb hby at_51) rfl rfl ?_
    refine g_icmpY X_24 hx 62 (hb hby at_52) (XT.ii_le_t (by decide)) (by decide) (by decide) ?_
    refine g_aload X_24 hx 64 (.ref a_10x1) (hb hby at_62) rfl rfl rfl ?_
    obtain ⟨_, T_64x1, L_64x1, X_64x1, ⟨a_64x1, b_64x1, rfl, M_64x1, K_64x1, Q_64x1⟩, st_64x1⟩ := g_callS X_24 hx hZ  (own := "com/example/marble_cache/marblecache/command/WordsLowerCasePinLaw") (index := 16) (y := (⟨"com/example/marble_cache/marblecache/command/Words", "lowerCase", "([B)Ljava/lang/String;"⟩ : MethodName)) (as' := [(.ref a_10x1)]) hown (hw _ (List.mem_of_getElem? (i := 2) rfl)) (hw _ (List.mem_of_getElem? (i := 3) rfl)) (hw _ (List.mem_of_getElem? (i := 4) rfl)) (hw _ (List.mem_of_getElem? (i := 5) rfl)) (by decide) e_24 (rm_low_1 l Z a0 hw a_10x1 h_24 h0.size O_24 cs hcs SC (q2.toInt8.toInt32) F_24_0) pd_low_1 rfl 0 (by decide) (by decide) (by decide) (by decide) (pc := 64) (Ls := #[.val (.int q1), .val (.int q2), .val (.int q3), .val (.int q4), .val (.int q5), .val (.int (1 : Int32)), .val (.ref a_10x1), .unset]) (rest := []) (st := [(.ref a_10x1)]) (by rw [hml]; rfl) rfl (Nat.le_of_eq rfl) (hb hby at_64)
    refine Go.of ?_ st_64x1
    have F_64x1_0 : Arl Z T_64x1.heap a_10x1 .byte [(.int (q2.toInt8.toInt32))] := F_24_0.keep K_64x1 nin0
    have N_64x1 := Fr.app N_24 M_64x1
    have Z_64x1 : h0.size ≤ T_64x1.heap.size := Nat.le_trans Z_24 K_64x1.1
    have O_64x1 := Old.keep O_24 K_64x1 all0
    have hk_64x1 := Nat.le_trans hk_24 K_64x1.1
    have hI : LC Z [] s.vm T_64x1.heap := Or.inl hI
    show Go p e below _ (T_64x1.setTop (mkF m 67 #[.val (.int q1), .val (.int q2), .val (.int q3), .val (.int q4), .val (.int q5), .val (.int (1 : Int32)), .val (.ref a_10x1), .unset] [(.ref a_64x1)]))
    refine g_astore X_64x1 hx 69 #[.val (.int q1), .val (.int q2), .val (.int q3), .val (.int q4), .val (.int q5), .val (.int (1 : Int32)), .val (.ref a_10x1), .val (.ref a_64x1)] (hb hby at_67) rfl rfl rfl ?_
    refine g_aload X_64x1 hx 71 (.ref a_64x1) (hb hby at_69) rfl rfl rfl ?_
    obtain ⟨_, T_71x1, L_71x1, X_71x1, ⟨rfl, rfl, e_71x1⟩, st_71x1⟩ := g_callV X_64x1 hx hZ  (C := "java/lang/String") (own := "com/example/marble_cache/marblecache/command/WordsLowerCasePinLaw") (index := 22) (y := (⟨"java/lang/String", "length", "()I"⟩ : MethodName)) (z := (⟨"java/lang/String", "length", "()I"⟩ : MethodName)) (a := a_64x1) (as' := []) hown (hw _ (List.mem_of_getElem? (i := 27) rfl)) (hw _ (List.mem_of_getElem? (i := 28) rfl)) (hw _ (List.mem_of_getElem? (i := 30) rfl)) (hw _ (List.mem_of_getElem? (i := 30) rfl)) (hw _ (List.mem_of_getElem? (i := 29) rfl)) (hw _ (List.mem_of_getElem? (i := 9) rfl)) (hw _ (List.mem_of_getElem? (i := 31) rfl)) (by decide) rfl Q_64x1.1 (rm_len l Z a0 hw a_64x1 T_64x1.heap h0.size O_64x1 cs hcs SC (0 : Int32) rfl _ [(.int ((lcb (q2.toInt8.toInt32)).toInt8.toInt32))] (1 : Int32) (1 : Int32) rfl rfl Q_64x1) pd_len rfl 0 (by decide) (by decide) (by decide) (by decide) (pc := 71) (Ls := #[.val (.int q1), .val (.int q2), .val (.int q3), .val (.int q4), .val (.int q5), .val (.int (1 : Int32)), .val (.ref a_10x1), .val (.ref a_64x1)]) (rest := []) (st := [(.ref a_64x1)]) (by rw [hml]; rfl) rfl (Nat.le_of_eq rfl) (hb hby at_71)
    refine st_71x1 ?_
    rw [List.append_nil] at X_71x1
    show Go p e below _ (T_71x1.setTop (mkF m 74 #[.val (.int q1), .val (.int q2), .val (.int q3), .val (.int q4), .val (.int q5), .val (.int (1 : Int32)), .val (.ref a_10x1), .val (.ref a_64x1)] [(.int (1 : Int32))]))
    refine g_iload X_71x1 hx 76 (1 : Int32) (hb hby at_74) rfl rfl ?_
    refine g_icmpY X_71x1 hx 81 (hb hby at_76) (XT.ii_eq_t (by decide)) (by decide) (by decide) ?_
    refine g_iload X_71x1 hx 83 (1 : Int32) (hb hby at_81) rfl rfl ?_
    refine g_ifN X_71x1 hx 86 (hb hby at_83) (XT.i0_le_f (by decide)) rfl ?_
    refine g_aload X_71x1 hx 88 (.ref a_64x1) (hb hby at_86) rfl rfl rfl ?_
    refine g_iconst X_71x1 hx 89 (0 : Int32) (hb hby at_88) rfl rfl ?_
    obtain ⟨_, T_89, L_89, X_89, ⟨rfl, rfl, e_89⟩, st_89⟩ := g_callV X_71x1 hx hZ  (C := "java/lang/String") (own := "com/example/marble_cache/marblecache/command/WordsLowerCasePinLaw") (index := 9) (y := (⟨"java/lang/String", "charAt", "(I)C"⟩ : MethodName)) (z := (⟨"java/lang/String", "charAt", "(I)C"⟩ : MethodName)) (a := a_64x1) (as' := [(.int (0 : Int32))]) hown (hw _ (List.mem_of_getElem? (i := 51) rfl)) (hw _ (List.mem_of_getElem? (i := 52) rfl)) (hw _ (List.mem_of_getElem? (i := 54) rfl)) (hw _ (List.mem_of_getElem? (i := 54) rfl)) (hw _ (List.mem_of_getElem? (i := 53) rfl)) (hw _ (List.mem_of_getElem? (i := 9) rfl)) (hw _ (List.mem_of_getElem? (i := 55) rfl)) (by decide) e_71x1 Q_64x1.1 (rm_cat l Z a0 hw a_64x1 (0 : Int32) T_64x1.heap h0.size O_64x1 cs hcs SC fv hfv SF _ [(.int ((lcb (q2.toInt8.toInt32)).toInt8.toInt32))] (1 : Int32) rfl (by decide) (by decide) 0 rfl ((lcb (q2.toInt8.toInt32)).toInt8.toInt32) rfl (lcb q2) (by rw [own_char (lcb_rng _).1 (lcb_rng _).2, lcb_b]) Q_64x1) pd_cat rfl 0 (by decide) (by decide) (by decide) (by decide) (pc := 89) (Ls := #[.val (.int q1), .val (.int q2), .val (.int q3), .val (.int q4), .val (.int q5), .val (.int (1 : Int32)), .val (.ref a_10x1), .val (.ref a_64x1)]) (rest := []) (st := [(.int (0 : Int32)), (.ref a_64x1)]) (by rw [hml]; rfl) rfl (Nat.le_of_eq rfl) (hb hby at_89)
    refine st_89 ?_
    rw [List.append_nil] at X_89
    show Go p e below _ (T_89.setTop (mkF m 92 #[.val (.int q1), .val (.int q2), .val (.int q3), .val (.int q4), .val (.int q5), .val (.int (1 : Int32)), .val (.ref a_10x1), .val (.ref a_64x1)] [(.int (lcb q2))]))
    refine g_iload_n X_89 hx 93 q2 (hb hby at_92) rfl rfl ?_
    obtain ⟨_, T_93, L_93, X_93, hS, hZ, hown, hW_93, ⟨rfl, rfl, E_93, hI⟩, st_93⟩ := g_callSW X_89 hx hZ hS hk_64x1  (own := "com/example/marble_cache/marblecache/command/WordsLowerCasePinLaw") (index := 26) (y := (⟨"com/example/marble_cache/marblecache/command/WordsLowerCasePinLaw", "expected", "(I)C"⟩ : MethodName)) (as' := [(.int q2)]) hown (hw _ (List.mem_of_getElem? (i := 73) rfl)) (hw _ (List.mem_of_getElem? (i := 74) rfl)) (hw _ (List.mem_of_getElem? (i := 75) rfl)) (hw _ (List.mem_of_getElem? (i := 76) rfl)) (by decide) e_89 (fun vm₁ hw₁ => lc_warm hI hw₁) (rm_exp l Z a0 hw q2 T_64x1.heap h0.size O_64x1 cs hcs SC fv hfv SF [] (by simp) hh1 hcw) pd_exp rfl 1 (by decide) (by decide) (by decide) (by decide) (pc := 93) (Ls := #[.val (.int q1), .val (.int q2), .val (.int q3), .val (.int q4), .val (.int q5), .val (.int (1 : Int32)), .val (.ref a_10x1), .val (.ref a_64x1)]) (rest := [(.int (lcb q2))]) (st := [(.int q2), (.int (lcb q2))]) (by rw [hml]; rfl) rfl (Nat.le_of_eq rfl) (hb hby at_93)
    refine st_93 ?_
    rw [List.append_nil] at X_93
    have F_93_0 : Arl Z T_93.heap a_10x1 .byte [(.int (q2.toInt8.toInt32))] := F_64x1_0.ext E_93
    have F_93_1 : Exa Z T_93.heap a_64x1 "java/lang/String" := Q_64x1.1.ext E_93
    have Z_93 : h0.size ≤ T_93.heap.size := Nat.le_trans Z_64x1 E_93.1
    have O_93 := Old.ext O_64x1 E_93
    have str_93 := Stl.ext Q_64x1 E_93
    show Go p e below _ (T_93.setTop (mkF m 96 #[.val (.int q1), .val (.int q2), .val (.int q3), .val (.int q4), .val (.int q5), .val (.int (1 : Int32)), .val (.ref a_10x1), .val (.ref a_64x1)] [(.int (lcb q2)), (.int (lcb q2))]))
    refine g_icmpN X_93 hx 99 (hb hby at_96) (XT.ii_ne_f rfl) rfl ?_
    refine g_aload X_93 hx 101 (.ref a_10x1) (hb hby at_99) rfl rfl rfl ?_
    refine g_iconst X_93 hx 102 (0 : Int32) (hb hby at_101) rfl rfl ?_
    refine g_baload X_93 hx hZ rfl F_93_0 (k := 0) rfl (.int (q2.toInt8.toInt32)) rfl 103 (hb hby at_102) rfl ?_
    refine g_iload_n X_93 hx 104 q2 (hb hby at_103) rfl rfl ?_
    refine g_i2b X_93 hx 105 (hb hby at_104) rfl ?_
    refine g_icmpY X_93 hx 110 (hb hby at_105) (XT.ii_eq_t rfl) (by decide) (by decide) ?_
    refine g_iload X_93 hx 112 (1 : Int32) (hb hby at_110) rfl rfl ?_
    refine g_iconst X_93 hx 113 (1 : Int32) (hb hby at_112) rfl rfl ?_
    refine g_icmpY X_93 hx 140 (hb hby at_113) (XT.ii_le_t (by decide)) (by decide) (by decide) ?_
    refine g_iload X_93 hx 142 (1 : Int32) (hb hby at_140) rfl rfl ?_
    refine g_iconst X_93 hx 143 (2 : Int32) (hb hby at_142) rfl rfl ?_
    refine g_icmpY X_93 hx 170 (hb hby at_143) (XT.ii_le_t (by decide)) (by decide) (by decide) ?_
    refine g_iload X_93 hx 172 (1 : Int32) (hb hby at_170) rfl rfl ?_
    refine g_iconst X_93 hx 173 (3 : Int32) (hb hby at_172) rfl rfl ?_
    refine g_icmpY X_93 hx 202 (hb hby at_173) (XT.ii_le_t (by decide)) (by decide) (by decide) ?_
    refine g_iconst X_93 hx 203 (1 : Int32) (hb hby at_202) rfl rfl ?_
    exact GoW.ret X_93 hS (Nat.le_refl _) hx hlk Bd.returns (hb hby at_203) rfl (Or.inl ⟨rfl, by decide, _, rfl⟩) (by decide) (by decide) ⟨rfl, N_64x1⟩
  ·
    refine g_iload X0 hx 10 (2 : Int32) (hb hby at_8) rfl rfl ?_
    obtain ⟨T_10x2, h_10x2, a_10x2, k_10x2, X_10x2, e_10x2, ga_10x2, E_10x2, A_10x2, st_10x2⟩ := g_newP X0 hx hZ (aty := .byte) (n := (2 : Int32)) (hw _ (List.mem_of_getElem? (i := 1) rfl)) e0 2 (by decide) (by decide) (by decide) (by decide) (by decide) 12 (hb hby at_10) rfl
    refine st_10x2 ?_
    have g_10x2 : h0.size ≤ a_10x2 := by rw [ga_10x2]; exact (Nat.le_refl _)
    have gh_10x2 : h0.size ≤ a_10x2 := by rw [ga_10x2]; exact (Nat.le_refl _)
    have Z_10x2 : h0.size ≤ h_10x2.size := Nat.le_trans (Nat.le_refl _) E_10x2.1
    have O_10x2 := Old.ext XO E_10x2
    have hk_10x2 := Nat.le_trans hk0 E_10x2.1
    have G_10x2 : Arl Z h_10x2 a_10x2 .byte [(.int (0 : Int32)), (.int (0 : Int32))] := Arl.new A_10x2 rfl
    refine g_astore X_10x2 hx 14 #[.val (.int q1), .val (.int q2), .val (.int q3), .val (.int q4), .val (.int q5), .val (.int (2 : Int32)), .val (.ref a_10x2), .unset] (hb hby at_12) rfl rfl rfl ?_
    refine g_iload X_10x2 hx 16 (2 : Int32) (hb hby at_14) rfl rfl ?_
    refine g_ifN X_10x2 hx 19 (hb hby at_16) (XT.i0_le_f (by decide)) rfl ?_
    refine g_aload X_10x2 hx 21 (.ref a_10x2) (hb hby at_19) rfl rfl rfl ?_
    refine g_iconst X_10x2 hx 22 (0 : Int32) (hb hby at_21) rfl rfl ?_
    refine g_iload_n X_10x2 hx 23 q2 (hb hby at_22) rfl rfl ?_
    refine g_i2b X_10x2 hx 24 (hb hby at_23) rfl ?_
    obtain ⟨T_24x1, h_24x1, X_24x1, e_24x1, W_24x1, B_24x1, st_24x1⟩ := g_bastore X_10x2 hx hZ e_10x2 G_10x2 (j := (0 : Int32)) (q2.toInt8.toInt32) (k := 0) rfl (Nat.le_of_ble_eq_true rfl) 25 (hb hby at_24) rfl
    refine st_24x1 ?_
    have C_24x1 : Arl Z h_24x1 a_10x2 .byte [(.int (q2.toInt8.toInt32)), (.int (0 : Int32))] := by have z := B_24x1; rw [show (nar .byte (q2.toInt8.toInt32)) = (q2.toInt8.toInt32) from own_nb _] at z; exact z
    have F_24x1_0 : Arl Z h_24x1 a_10x2 .byte [(.int (q2.toInt8.toInt32)), (.int (0 : Int32))] := C_24x1
    have N_24x1 := Fr.snoc X_24x1 (Fr.nil _) g_10x2
    have Z_24x1 : h0.size ≤ h_24x1.size := by rw [W_24x1.size]; exact Z_10x2
    have O_24x1 := Old.wr O_10x2 W_24x1 g_10x2
    have hk_24x1 := Nat.le_trans hk_10x2 (Nat.le_of_eq W_24x1.size.symm)
    refine g_iload X_24x1 hx 27 (2 : Int32) (hb hby at_25) rfl rfl ?_
    refine g_iconst X_24x1 hx 28 (1 : Int32) (hb hby at_27) rfl rfl ?_
    refine g_icmpN X_24x1 hx 31 (hb hby at_28) (XT.ii_le_f (by decide)) rfl ?_
    refine g_aload X_24x1 hx 33 (.ref a_10x2) (hb hby at_31) rfl rfl rfl ?_
    refine g_iconst X_24x1 hx 34 (1 : Int32) (hb hby at_33) rfl rfl ?_
    refine g_iload_n X_24x1 hx 35 q3 (hb hby at_34) rfl rfl ?_
    refine g_i2b X_24x1 hx 36 (hb hby at_35) rfl ?_
    obtain ⟨T_36, h_36, X_36, e_36, W_36, B_36, st_36⟩ := g_bastore X_24x1 hx hZ e_24x1 F_24x1_0 (j := (1 : Int32)) (q3.toInt8.toInt32) (k := 1) rfl (Nat.le_of_ble_eq_true rfl) 37 (hb hby at_36) rfl
    refine st_36 ?_
    have C_36 : Arl Z h_36 a_10x2 .byte [(.int (q2.toInt8.toInt32)), (.int (q3.toInt8.toInt32))] := by have z := B_36; rw [show (nar .byte (q3.toInt8.toInt32)) = (q3.toInt8.toInt32) from own_nb _] at z; exact z
    have F_36_0 : Arl Z h_36 a_10x2 .byte [(.int (q2.toInt8.toInt32)), (.int (q3.toInt8.toInt32))] := C_36
    have N_36 := Fr.snoc X_36 N_24x1 g_10x2
    have Z_36 : h0.size ≤ h_36.size := by rw [W_36.size]; exact Z_24x1
    have O_36 := Old.wr O_24x1 W_36 g_10x2
    have hk_36 := Nat.le_trans hk_24x1 (Nat.le_of_eq W_36.size.symm)
    refine g_iload X_36 hx 39 (2 : Int32) (hb hby at_37) rfl rfl ?_
    refine g_iconst X_36 hx 40 (2 : Int32) (hb hby at_39) rfl rfl ?_
    refine g_icmpY X_36 hx 49 (hb hby at_40) (XT.ii_le_t (by decide)) (by decide) (by decide) ?_
    refine g_iload X_36 hx 51 (2 : Int32) (hb hby at_49) rfl rfl ?_
    refine g_iconst X_36 hx 52 (3 : Int32) (hb hby at_51) rfl rfl ?_
    refine g_icmpY X_36 hx 62 (hb hby at_52) (XT.ii_le_t (by decide)) (by decide) (by decide) ?_
    refine g_aload X_36 hx 64 (.ref a_10x2) (hb hby at_62) rfl rfl rfl ?_
    obtain ⟨_, T_64x2, L_64x2, X_64x2, ⟨a_64x2, b_64x2, rfl, M_64x2, K_64x2, Q_64x2⟩, st_64x2⟩ := g_callS X_36 hx hZ  (own := "com/example/marble_cache/marblecache/command/WordsLowerCasePinLaw") (index := 16) (y := (⟨"com/example/marble_cache/marblecache/command/Words", "lowerCase", "([B)Ljava/lang/String;"⟩ : MethodName)) (as' := [(.ref a_10x2)]) hown (hw _ (List.mem_of_getElem? (i := 2) rfl)) (hw _ (List.mem_of_getElem? (i := 3) rfl)) (hw _ (List.mem_of_getElem? (i := 4) rfl)) (hw _ (List.mem_of_getElem? (i := 5) rfl)) (by decide) e_36 (rm_low_2 l Z a0 hw a_10x2 h_36 h0.size O_36 cs hcs SC (q2.toInt8.toInt32) (q3.toInt8.toInt32) F_36_0) pd_low_2 rfl 0 (by decide) (by decide) (by decide) (by decide) (pc := 64) (Ls := #[.val (.int q1), .val (.int q2), .val (.int q3), .val (.int q4), .val (.int q5), .val (.int (2 : Int32)), .val (.ref a_10x2), .unset]) (rest := []) (st := [(.ref a_10x2)]) (by rw [hml]; rfl) rfl (Nat.le_of_eq rfl) (hb hby at_64)
    refine Go.of ?_ st_64x2
    have F_64x2_0 : Arl Z T_64x2.heap a_10x2 .byte [(.int (q2.toInt8.toInt32)), (.int (q3.toInt8.toInt32))] := F_36_0.keep K_64x2 nin0
    have N_64x2 := Fr.app N_36 M_64x2
    have Z_64x2 : h0.size ≤ T_64x2.heap.size := Nat.le_trans Z_36 K_64x2.1
    have O_64x2 := Old.keep O_36 K_64x2 all0
    have hk_64x2 := Nat.le_trans hk_36 K_64x2.1
    have hI : LC Z [] s.vm T_64x2.heap := Or.inl hI
    show Go p e below _ (T_64x2.setTop (mkF m 67 #[.val (.int q1), .val (.int q2), .val (.int q3), .val (.int q4), .val (.int q5), .val (.int (2 : Int32)), .val (.ref a_10x2), .unset] [(.ref a_64x2)]))
    refine g_astore X_64x2 hx 69 #[.val (.int q1), .val (.int q2), .val (.int q3), .val (.int q4), .val (.int q5), .val (.int (2 : Int32)), .val (.ref a_10x2), .val (.ref a_64x2)] (hb hby at_67) rfl rfl rfl ?_
    refine g_aload X_64x2 hx 71 (.ref a_64x2) (hb hby at_69) rfl rfl rfl ?_
    obtain ⟨_, T_71x2, L_71x2, X_71x2, ⟨rfl, rfl, e_71x2⟩, st_71x2⟩ := g_callV X_64x2 hx hZ  (C := "java/lang/String") (own := "com/example/marble_cache/marblecache/command/WordsLowerCasePinLaw") (index := 22) (y := (⟨"java/lang/String", "length", "()I"⟩ : MethodName)) (z := (⟨"java/lang/String", "length", "()I"⟩ : MethodName)) (a := a_64x2) (as' := []) hown (hw _ (List.mem_of_getElem? (i := 27) rfl)) (hw _ (List.mem_of_getElem? (i := 28) rfl)) (hw _ (List.mem_of_getElem? (i := 30) rfl)) (hw _ (List.mem_of_getElem? (i := 30) rfl)) (hw _ (List.mem_of_getElem? (i := 29) rfl)) (hw _ (List.mem_of_getElem? (i := 9) rfl)) (hw _ (List.mem_of_getElem? (i := 31) rfl)) (by decide) rfl Q_64x2.1 (rm_len l Z a0 hw a_64x2 T_64x2.heap h0.size O_64x2 cs hcs SC (0 : Int32) rfl _ [(.int ((lcb (q2.toInt8.toInt32)).toInt8.toInt32)), (.int ((lcb (q3.toInt8.toInt32)).toInt8.toInt32))] (2 : Int32) (2 : Int32) rfl rfl Q_64x2) pd_len rfl 0 (by decide) (by decide) (by decide) (by decide) (pc := 71) (Ls := #[.val (.int q1), .val (.int q2), .val (.int q3), .val (.int q4), .val (.int q5), .val (.int (2 : Int32)), .val (.ref a_10x2), .val (.ref a_64x2)]) (rest := []) (st := [(.ref a_64x2)]) (by rw [hml]; rfl) rfl (Nat.le_of_eq rfl) (hb hby at_71)
    refine st_71x2 ?_
    rw [List.append_nil] at X_71x2
    show Go p e below _ (T_71x2.setTop (mkF m 74 #[.val (.int q1), .val (.int q2), .val (.int q3), .val (.int q4), .val (.int q5), .val (.int (2 : Int32)), .val (.ref a_10x2), .val (.ref a_64x2)] [(.int (2 : Int32))]))
    refine g_iload X_71x2 hx 76 (2 : Int32) (hb hby at_74) rfl rfl ?_
    refine g_icmpY X_71x2 hx 81 (hb hby at_76) (XT.ii_eq_t (by decide)) (by decide) (by decide) ?_
    refine g_iload X_71x2 hx 83 (2 : Int32) (hb hby at_81) rfl rfl ?_
    refine g_ifN X_71x2 hx 86 (hb hby at_83) (XT.i0_le_f (by decide)) rfl ?_
    refine g_aload X_71x2 hx 88 (.ref a_64x2) (hb hby at_86) rfl rfl rfl ?_
    refine g_iconst X_71x2 hx 89 (0 : Int32) (hb hby at_88) rfl rfl ?_
    obtain ⟨_, T_89x1, L_89x1, X_89x1, ⟨rfl, rfl, e_89x1⟩, st_89x1⟩ := g_callV X_71x2 hx hZ  (C := "java/lang/String") (own := "com/example/marble_cache/marblecache/command/WordsLowerCasePinLaw") (index := 9) (y := (⟨"java/lang/String", "charAt", "(I)C"⟩ : MethodName)) (z := (⟨"java/lang/String", "charAt", "(I)C"⟩ : MethodName)) (a := a_64x2) (as' := [(.int (0 : Int32))]) hown (hw _ (List.mem_of_getElem? (i := 51) rfl)) (hw _ (List.mem_of_getElem? (i := 52) rfl)) (hw _ (List.mem_of_getElem? (i := 54) rfl)) (hw _ (List.mem_of_getElem? (i := 54) rfl)) (hw _ (List.mem_of_getElem? (i := 53) rfl)) (hw _ (List.mem_of_getElem? (i := 9) rfl)) (hw _ (List.mem_of_getElem? (i := 55) rfl)) (by decide) e_71x2 Q_64x2.1 (rm_cat l Z a0 hw a_64x2 (0 : Int32) T_64x2.heap h0.size O_64x2 cs hcs SC fv hfv SF _ [(.int ((lcb (q2.toInt8.toInt32)).toInt8.toInt32)), (.int ((lcb (q3.toInt8.toInt32)).toInt8.toInt32))] (2 : Int32) rfl (by decide) (by decide) 0 rfl ((lcb (q2.toInt8.toInt32)).toInt8.toInt32) rfl (lcb q2) (by rw [own_char (lcb_rng _).1 (lcb_rng _).2, lcb_b]) Q_64x2) pd_cat rfl 0 (by decide) (by decide) (by decide) (by decide) (pc := 89) (Ls := #[.val (.int q1), .val (.int q2), .val (.int q3), .val (.int q4), .val (.int q5), .val (.int (2 : Int32)), .val (.ref a_10x2), .val (.ref a_64x2)]) (rest := []) (st := [(.int (0 : Int32)), (.ref a_64x2)]) (by rw [hml]; rfl) rfl (Nat.le_of_eq rfl) (hb hby at_89)
    refine st_89x1 ?_
    rw [List.append_nil] at X_89x1
    show Go p e below _ (T_89x1.setTop (mkF m 92 #[.val (.int q1), .val (.int q2), .val (.int q3), .val (.int q4), .val (.int q5), .val (.int (2 : Int32)), .val (.ref a_10x2), .val (.ref a_64x2)] [(.int (lcb q2))]))
    refine g_iload_n X_89x1 hx 93 q2 (hb hby at_92) rfl rfl ?_
    obtain ⟨_, T_93x1, L_93x1, X_93x1, hS, hZ, hown, hW_93x1, ⟨rfl, rfl, E_93x1, hI⟩, st_93x1⟩ := g_callSW X_89x1 hx hZ hS hk_64x2  (own := "com/example/marble_cache/marblecache/command/WordsLowerCasePinLaw") (index := 26) (y := (⟨"com/example/marble_cache/marblecache/command/WordsLowerCasePinLaw", "expected", "(I)C"⟩ : MethodName)) (as' := [(.int q2)]) hown (hw _ (List.mem_of_getElem? (i := 73) rfl)) (hw _ (List.mem_of_getElem? (i := 74) rfl)) (hw _ (List.mem_of_getElem? (i := 75) rfl)) (hw _ (List.mem_of_getElem? (i := 76) rfl)) (by decide) e_89x1 (fun vm₁ hw₁ => lc_warm hI hw₁) (rm_exp l Z a0 hw q2 T_64x2.heap h0.size O_64x2 cs hcs SC fv hfv SF [] (by simp) hh1 hcw) pd_exp rfl 1 (by decide) (by decide) (by decide) (by decide) (pc := 93) (Ls := #[.val (.int q1), .val (.int q2), .val (.int q3), .val (.int q4), .val (.int q5), .val (.int (2 : Int32)), .val (.ref a_10x2), .val (.ref a_64x2)]) (rest := [(.int (lcb q2))]) (st := [(.int q2), (.int (lcb q2))]) (by rw [hml]; rfl) rfl (Nat.le_of_eq rfl) (hb hby at_93)
    refine st_93x1 ?_
    rw [List.append_nil] at X_93x1
    have F_93x1_0 : Arl Z T_93x1.heap a_10x2 .byte [(.int (q2.toInt8.toInt32)), (.int (q3.toInt8.toInt32))] := F_64x2_0.ext E_93x1
    have F_93x1_1 : Exa Z T_93x1.heap a_64x2 "java/lang/String" := Q_64x2.1.ext E_93x1
    have Z_93x1 : h0.size ≤ T_93x1.heap.size := Nat.le_trans Z_64x2 E_93x1.1
    have O_93x1 := Old.ext O_64x2 E_93x1
    have str_93x1 := Stl.ext Q_64x2 E_93x1
    show Go p e below _ (T_93x1.setTop (mkF m 96 #[.val (.int q1), .val (.int q2), .val (.int q3), .val (.int q4), .val (.int q5), .val (.int (2 : Int32)), .val (.ref a_10x2), .val (.ref a_64x2)] [(.int (lcb q2)), (.int (lcb q2))]))
    refine g_icmpN X_93x1 hx 99 (hb hby at_96) (XT.ii_ne_f rfl) rfl ?_
    refine g_aload X_93x1 hx 101 (.ref a_10x2) (hb hby at_99) rfl rfl rfl ?_
    refine g_iconst X_93x1 hx 102 (0 : Int32) (hb hby at_101) rfl rfl ?_
    refine g_baload X_93x1 hx hZ rfl F_93x1_0 (k := 0) rfl (.int (q2.toInt8.toInt32)) rfl 103 (hb hby at_102) rfl ?_
    refine g_iload_n X_93x1 hx 104 q2 (hb hby at_103) rfl rfl ?_
    refine g_i2b X_93x1 hx 105 (hb hby at_104) rfl ?_
    refine g_icmpY X_93x1 hx 110 (hb hby at_105) (XT.ii_eq_t rfl) (by decide) (by decide) ?_
    refine g_iload X_93x1 hx 112 (2 : Int32) (hb hby at_110) rfl rfl ?_
    refine g_iconst X_93x1 hx 113 (1 : Int32) (hb hby at_112) rfl rfl ?_
    refine g_icmpN X_93x1 hx 116 (hb hby at_113) (XT.ii_le_f (by decide)) rfl ?_
    refine g_aload X_93x1 hx 118 (.ref a_64x2) (hb hby at_116) rfl rfl rfl ?_
    refine g_iconst X_93x1 hx 119 (1 : Int32) (hb hby at_118) rfl rfl ?_
    obtain ⟨_, T_119, L_119, X_119, ⟨rfl, rfl, e_119⟩, st_119⟩ := g_callV X_93x1 hx hZ  (C := "java/lang/String") (own := "com/example/marble_cache/marblecache/command/WordsLowerCasePinLaw") (index := 9) (y := (⟨"java/lang/String", "charAt", "(I)C"⟩ : MethodName)) (z := (⟨"java/lang/String", "charAt", "(I)C"⟩ : MethodName)) (a := a_64x2) (as' := [(.int (1 : Int32))]) hown (hw _ (List.mem_of_getElem? (i := 51) rfl)) (hw _ (List.mem_of_getElem? (i := 52) rfl)) (hw _ (List.mem_of_getElem? (i := 54) rfl)) (hw _ (List.mem_of_getElem? (i := 54) rfl)) (hw _ (List.mem_of_getElem? (i := 53) rfl)) (hw _ (List.mem_of_getElem? (i := 9) rfl)) (hw _ (List.mem_of_getElem? (i := 55) rfl)) (by decide) rfl str_93x1.1 (rm_cat l Z a0 hw a_64x2 (1 : Int32) T_93x1.heap h0.size O_93x1 cs hcs SC fv hfv SF _ [(.int ((lcb (q2.toInt8.toInt32)).toInt8.toInt32)), (.int ((lcb (q3.toInt8.toInt32)).toInt8.toInt32))] (2 : Int32) rfl (by decide) (by decide) 1 rfl ((lcb (q3.toInt8.toInt32)).toInt8.toInt32) rfl (lcb q3) (by rw [own_char (lcb_rng _).1 (lcb_rng _).2, lcb_b]) str_93x1) pd_cat rfl 0 (by decide) (by decide) (by decide) (by decide) (pc := 119) (Ls := #[.val (.int q1), .val (.int q2), .val (.int q3), .val (.int q4), .val (.int q5), .val (.int (2 : Int32)), .val (.ref a_10x2), .val (.ref a_64x2)]) (rest := []) (st := [(.int (1 : Int32)), (.ref a_64x2)]) (by rw [hml]; rfl) rfl (Nat.le_of_eq rfl) (hb hby at_119)
    refine st_119 ?_
    rw [List.append_nil] at X_119
    show Go p e below _ (T_119.setTop (mkF m 122 #[.val (.int q1), .val (.int q2), .val (.int q3), .val (.int q4), .val (.int q5), .val (.int (2 : Int32)), .val (.ref a_10x2), .val (.ref a_64x2)] [(.int (lcb q3))]))
    refine g_iload_n X_119 hx 123 q3 (hb hby at_122) rfl rfl ?_
    obtain ⟨_, T_123, L_123, X_123, hS, hZ, hown, hW_123, ⟨rfl, rfl, E_123, hI⟩, st_123⟩ := g_callSW X_119 hx hZ hS (Nat.le_refl _)  (own := "com/example/marble_cache/marblecache/command/WordsLowerCasePinLaw") (index := 26) (y := (⟨"com/example/marble_cache/marblecache/command/WordsLowerCasePinLaw", "expected", "(I)C"⟩ : MethodName)) (as' := [(.int q3)]) hown (hw _ (List.mem_of_getElem? (i := 73) rfl)) (hw _ (List.mem_of_getElem? (i := 74) rfl)) (hw _ (List.mem_of_getElem? (i := 75) rfl)) (hw _ (List.mem_of_getElem? (i := 76) rfl)) (by decide) e_119 (fun vm₁ hw₁ => lc_warm hI hw₁) (rm_exp l Z a0 hw q3 T_93x1.heap h0.size O_93x1 cs hcs SC fv hfv SF [] (by simp) hh1 hcw) pd_exp rfl 1 (by decide) (by decide) (by decide) (by decide) (pc := 123) (Ls := #[.val (.int q1), .val (.int q2), .val (.int q3), .val (.int q4), .val (.int q5), .val (.int (2 : Int32)), .val (.ref a_10x2), .val (.ref a_64x2)]) (rest := [(.int (lcb q3))]) (st := [(.int q3), (.int (lcb q3))]) (by rw [hml]; rfl) rfl (Nat.le_of_eq rfl) (hb hby at_123)
    refine st_123 ?_
    rw [List.append_nil] at X_123
    have F_123_0 : Arl Z T_123.heap a_10x2 .byte [(.int (q2.toInt8.toInt32)), (.int (q3.toInt8.toInt32))] := F_93x1_0.ext E_123
    have F_123_1 : Exa Z T_123.heap a_64x2 "java/lang/String" := str_93x1.1.ext E_123
    have Z_123 : h0.size ≤ T_123.heap.size := Nat.le_trans Z_93x1 E_123.1
    have O_123 := Old.ext O_93x1 E_123
    have str_123 := Stl.ext str_93x1 E_123
    show Go p e below _ (T_123.setTop (mkF m 126 #[.val (.int q1), .val (.int q2), .val (.int q3), .val (.int q4), .val (.int q5), .val (.int (2 : Int32)), .val (.ref a_10x2), .val (.ref a_64x2)] [(.int (lcb q3)), (.int (lcb q3))]))
    refine g_icmpN X_123 hx 129 (hb hby at_126) (XT.ii_ne_f rfl) rfl ?_
    refine g_aload X_123 hx 131 (.ref a_10x2) (hb hby at_129) rfl rfl rfl ?_
    refine g_iconst X_123 hx 132 (1 : Int32) (hb hby at_131) rfl rfl ?_
    refine g_baload X_123 hx hZ rfl F_123_0 (k := 1) rfl (.int (q3.toInt8.toInt32)) rfl 133 (hb hby at_132) rfl ?_
    refine g_iload_n X_123 hx 134 q3 (hb hby at_133) rfl rfl ?_
    refine g_i2b X_123 hx 135 (hb hby at_134) rfl ?_
    refine g_icmpY X_123 hx 140 (hb hby at_135) (XT.ii_eq_t rfl) (by decide) (by decide) ?_
    refine g_iload X_123 hx 142 (2 : Int32) (hb hby at_140) rfl rfl ?_
    refine g_iconst X_123 hx 143 (2 : Int32) (hb hby at_142) rfl rfl ?_
    refine g_icmpY X_123 hx 170 (hb hby at_143) (XT.ii_le_t (by decide)) (by decide) (by decide) ?_
    refine g_iload X_123 hx 172 (2 : Int32) (hb hby at_170) rfl rfl ?_
    refine g_iconst X_123 hx 173 (3 : Int32) (hb hby at_172) rfl rfl ?_
    refine g_icmpY X_123 hx 202 (hb hby at_173) (XT.ii_le_t (by decide)) (by decide) (by decide) ?_
    refine g_iconst X_123 hx 203 (1 : Int32) (hb hby at_202) rfl rfl ?_
    exact GoW.ret X_123 hS (Nat.le_refl _) hx hlk Bd.returns (hb hby at_203) rfl (Or.inl ⟨rfl, by decide, _, rfl⟩) (by decide) (by decide) ⟨rfl, N_64x2⟩
  ·
    refine g_iload X0 hx 10 (3 : Int32) (hb hby at_8) rfl rfl ?_
    obtain ⟨T_10x3, h_10x3, a_10x3, k_10x3, X_10x3, e_10x3, ga_10x3, E_10x3, A_10x3, st_10x3⟩ := g_newP X0 hx hZ (aty := .byte) (n := (3 : Int32)) (hw _ (List.mem_of_getElem? (i := 1) rfl)) e0 3 (by decide) (by decide) (by decide) (by decide) (by decide) 12 (hb hby at_10) rfl
    refine st_10x3 ?_
    have g_10x3 : h0.size ≤ a_10x3 := by rw [ga_10x3]; exact (Nat.le_refl _)
    have gh_10x3 : h0.size ≤ a_10x3 := by rw [ga_10x3]; exact (Nat.le_refl _)
    have Z_10x3 : h0.size ≤ h_10x3.size := Nat.le_trans (Nat.le_refl _) E_10x3.1
    have O_10x3 := Old.ext XO E_10x3
    have hk_10x3 := Nat.le_trans hk0 E_10x3.1
    have G_10x3 : Arl Z h_10x3 a_10x3 .byte [(.int (0 : Int32)), (.int (0 : Int32)), (.int (0 : Int32))] := Arl.new A_10x3 rfl
    refine g_astore X_10x3 hx 14 #[.val (.int q1), .val (.int q2), .val (.int q3), .val (.int q4), .val (.int q5), .val (.int (3 : Int32)), .val (.ref a_10x3), .unset] (hb hby at_12) rfl rfl rfl ?_
    refine g_iload X_10x3 hx 16 (3 : Int32) (hb hby at_14) rfl rfl ?_
    refine g_ifN X_10x3 hx 19 (hb hby at_16) (XT.i0_le_f (by decide)) rfl ?_
    refine g_aload X_10x3 hx 21 (.ref a_10x3) (hb hby at_19) rfl rfl rfl ?_
    refine g_iconst X_10x3 hx 22 (0 : Int32) (hb hby at_21) rfl rfl ?_
    refine g_iload_n X_10x3 hx 23 q2 (hb hby at_22) rfl rfl ?_
    refine g_i2b X_10x3 hx 24 (hb hby at_23) rfl ?_
    obtain ⟨T_24x2, h_24x2, X_24x2, e_24x2, W_24x2, B_24x2, st_24x2⟩ := g_bastore X_10x3 hx hZ e_10x3 G_10x3 (j := (0 : Int32)) (q2.toInt8.toInt32) (k := 0) rfl (Nat.le_of_ble_eq_true rfl) 25 (hb hby at_24) rfl
    refine st_24x2 ?_
    have C_24x2 : Arl Z h_24x2 a_10x3 .byte [(.int (q2.toInt8.toInt32)), (.int (0 : Int32)), (.int (0 : Int32))] := by have z := B_24x2; rw [show (nar .byte (q2.toInt8.toInt32)) = (q2.toInt8.toInt32) from own_nb _] at z; exact z
    have F_24x2_0 : Arl Z h_24x2 a_10x3 .byte [(.int (q2.toInt8.toInt32)), (.int (0 : Int32)), (.int (0 : Int32))] := C_24x2
    have N_24x2 := Fr.snoc X_24x2 (Fr.nil _) g_10x3
    have Z_24x2 : h0.size ≤ h_24x2.size := by rw [W_24x2.size]; exact Z_10x3
    have O_24x2 := Old.wr O_10x3 W_24x2 g_10x3
    have hk_24x2 := Nat.le_trans hk_10x3 (Nat.le_of_eq W_24x2.size.symm)
    refine g_iload X_24x2 hx 27 (3 : Int32) (hb hby at_25) rfl rfl ?_
    refine g_iconst X_24x2 hx 28 (1 : Int32) (hb hby at_27) rfl rfl ?_
    refine g_icmpN X_24x2 hx 31 (hb hby at_28) (XT.ii_le_f (by decide)) rfl ?_
    refine g_aload X_24x2 hx 33 (.ref a_10x3) (hb hby at_31) rfl rfl rfl ?_
    refine g_iconst X_24x2 hx 34 (1 : Int32) (hb hby at_33) rfl rfl ?_
    refine g_iload_n X_24x2 hx 35 q3 (hb hby at_34) rfl rfl ?_
    refine g_i2b X_24x2 hx 36 (hb hby at_35) rfl ?_
    obtain ⟨T_36x1, h_36x1, X_36x1, e_36x1, W_36x1, B_36x1, st_36x1⟩ := g_bastore X_24x2 hx hZ e_24x2 F_24x2_0 (j := (1 : Int32)) (q3.toInt8.toInt32) (k := 1) rfl (Nat.le_of_ble_eq_true rfl) 37 (hb hby at_36) rfl
    refine st_36x1 ?_
    have C_36x1 : Arl Z h_36x1 a_10x3 .byte [(.int (q2.toInt8.toInt32)), (.int (q3.toInt8.toInt32)), (.int (0 : Int32))] := by have z := B_36x1; rw [show (nar .byte (q3.toInt8.toInt32)) = (q3.toInt8.toInt32) from own_nb _] at z; exact z
    have F_36x1_0 : Arl Z h_36x1 a_10x3 .byte [(.int (q2.toInt8.toInt32)), (.int (q3.toInt8.toInt32)), (.int (0 : Int32))] := C_36x1
    have N_36x1 := Fr.snoc X_36x1 N_24x2 g_10x3
    have Z_36x1 : h0.size ≤ h_36x1.size := by rw [W_36x1.size]; exact Z_24x2
    have O_36x1 := Old.wr O_24x2 W_36x1 g_10x3
    have hk_36x1 := Nat.le_trans hk_24x2 (Nat.le_of_eq W_36x1.size.symm)
    refine g_iload X_36x1 hx 39 (3 : Int32) (hb hby at_37) rfl rfl ?_
    refine g_iconst X_36x1 hx 40 (2 : Int32) (hb hby at_39) rfl rfl ?_
    refine g_icmpN X_36x1 hx 43 (hb hby at_40) (XT.ii_le_f (by decide)) rfl ?_
    refine g_aload X_36x1 hx 45 (.ref a_10x3) (hb hby at_43) rfl rfl rfl ?_
    refine g_iconst X_36x1 hx 46 (2 : Int32) (hb hby at_45) rfl rfl ?_
    refine g_iload_n X_36x1 hx 47 q4 (hb hby at_46) rfl rfl ?_
    refine g_i2b X_36x1 hx 48 (hb hby at_47) rfl ?_
    obtain ⟨T_48, h_48, X_48, e_48, W_48, B_48, st_48⟩ := g_bastore X_36x1 hx hZ e_36x1 F_36x1_0 (j := (2 : Int32)) (q4.toInt8.toInt32) (k := 2) rfl (Nat.le_of_ble_eq_true rfl) 49 (hb hby at_48) rfl
    refine st_48 ?_
    have C_48 : Arl Z h_48 a_10x3 .byte [(.int (q2.toInt8.toInt32)), (.int (q3.toInt8.toInt32)), (.int (q4.toInt8.toInt32))] := by have z := B_48; rw [show (nar .byte (q4.toInt8.toInt32)) = (q4.toInt8.toInt32) from own_nb _] at z; exact z
    have F_48_0 : Arl Z h_48 a_10x3 .byte [(.int (q2.toInt8.toInt32)), (.int (q3.toInt8.toInt32)), (.int (q4.toInt8.toInt32))] := C_48
    have N_48 := Fr.snoc X_48 N_36x1 g_10x3
    have Z_48 : h0.size ≤ h_48.size := by rw [W_48.size]; exact Z_36x1
    have O_48 := Old.wr O_36x1 W_48 g_10x3
    have hk_48 := Nat.le_trans hk_36x1 (Nat.le_of_eq W_48.size.symm)
    refine g_iload X_48 hx 51 (3 : Int32) (hb hby at_49) rfl rfl ?_
    refine g_iconst X_48 hx 52 (3 : Int32) (hb hby at_51) rfl rfl ?_
    refine g_icmpY X_48 hx 62 (hb hby at_52) (XT.ii_le_t (by decide)) (by decide) (by decide) ?_
    refine g_aload X_48 hx 64 (.ref a_10x3) (hb hby at_62) rfl rfl rfl ?_
    obtain ⟨_, T_64x3, L_64x3, X_64x3, ⟨a_64x3, b_64x3, rfl, M_64x3, K_64x3, Q_64x3⟩, st_64x3⟩ := g_callS X_48 hx hZ  (own := "com/example/marble_cache/marblecache/command/WordsLowerCasePinLaw") (index := 16) (y := (⟨"com/example/marble_cache/marblecache/command/Words", "lowerCase", "([B)Ljava/lang/String;"⟩ : MethodName)) (as' := [(.ref a_10x3)]) hown (hw _ (List.mem_of_getElem? (i := 2) rfl)) (hw _ (List.mem_of_getElem? (i := 3) rfl)) (hw _ (List.mem_of_getElem? (i := 4) rfl)) (hw _ (List.mem_of_getElem? (i := 5) rfl)) (by decide) e_48 (rm_low_3 l Z a0 hw a_10x3 h_48 h0.size O_48 cs hcs SC (q2.toInt8.toInt32) (q3.toInt8.toInt32) (q4.toInt8.toInt32) F_48_0) pd_low_3 rfl 0 (by decide) (by decide) (by decide) (by decide) (pc := 64) (Ls := #[.val (.int q1), .val (.int q2), .val (.int q3), .val (.int q4), .val (.int q5), .val (.int (3 : Int32)), .val (.ref a_10x3), .unset]) (rest := []) (st := [(.ref a_10x3)]) (by rw [hml]; rfl) rfl (Nat.le_of_eq rfl) (hb hby at_64)
    refine Go.of ?_ st_64x3
    have F_64x3_0 : Arl Z T_64x3.heap a_10x3 .byte [(.int (q2.toInt8.toInt32)), (.int (q3.toInt8.toInt32)), (.int (q4.toInt8.toInt32))] := F_48_0.keep K_64x3 nin0
    have N_64x3 := Fr.app N_48 M_64x3
    have Z_64x3 : h0.size ≤ T_64x3.heap.size := Nat.le_trans Z_48 K_64x3.1
    have O_64x3 := Old.keep O_48 K_64x3 all0
    have hk_64x3 := Nat.le_trans hk_48 K_64x3.1
    have hI : LC Z [] s.vm T_64x3.heap := Or.inl hI
    show Go p e below _ (T_64x3.setTop (mkF m 67 #[.val (.int q1), .val (.int q2), .val (.int q3), .val (.int q4), .val (.int q5), .val (.int (3 : Int32)), .val (.ref a_10x3), .unset] [(.ref a_64x3)]))
    refine g_astore X_64x3 hx 69 #[.val (.int q1), .val (.int q2), .val (.int q3), .val (.int q4), .val (.int q5), .val (.int (3 : Int32)), .val (.ref a_10x3), .val (.ref a_64x3)] (hb hby at_67) rfl rfl rfl ?_
    refine g_aload X_64x3 hx 71 (.ref a_64x3) (hb hby at_69) rfl rfl rfl ?_
    obtain ⟨_, T_71x3, L_71x3, X_71x3, ⟨rfl, rfl, e_71x3⟩, st_71x3⟩ := g_callV X_64x3 hx hZ  (C := "java/lang/String") (own := "com/example/marble_cache/marblecache/command/WordsLowerCasePinLaw") (index := 22) (y := (⟨"java/lang/String", "length", "()I"⟩ : MethodName)) (z := (⟨"java/lang/String", "length", "()I"⟩ : MethodName)) (a := a_64x3) (as' := []) hown (hw _ (List.mem_of_getElem? (i := 27) rfl)) (hw _ (List.mem_of_getElem? (i := 28) rfl)) (hw _ (List.mem_of_getElem? (i := 30) rfl)) (hw _ (List.mem_of_getElem? (i := 30) rfl)) (hw _ (List.mem_of_getElem? (i := 29) rfl)) (hw _ (List.mem_of_getElem? (i := 9) rfl)) (hw _ (List.mem_of_getElem? (i := 31) rfl)) (by decide) rfl Q_64x3.1 (rm_len l Z a0 hw a_64x3 T_64x3.heap h0.size O_64x3 cs hcs SC (0 : Int32) rfl _ [(.int ((lcb (q2.toInt8.toInt32)).toInt8.toInt32)), (.int ((lcb (q3.toInt8.toInt32)).toInt8.toInt32)), (.int ((lcb (q4.toInt8.toInt32)).toInt8.toInt32))] (3 : Int32) (3 : Int32) rfl rfl Q_64x3) pd_len rfl 0 (by decide) (by decide) (by decide) (by decide) (pc := 71) (Ls := #[.val (.int q1), .val (.int q2), .val (.int q3), .val (.int q4), .val (.int q5), .val (.int (3 : Int32)), .val (.ref a_10x3), .val (.ref a_64x3)]) (rest := []) (st := [(.ref a_64x3)]) (by rw [hml]; rfl) rfl (Nat.le_of_eq rfl) (hb hby at_71)
    refine st_71x3 ?_
    rw [List.append_nil] at X_71x3
    show Go p e below _ (T_71x3.setTop (mkF m 74 #[.val (.int q1), .val (.int q2), .val (.int q3), .val (.int q4), .val (.int q5), .val (.int (3 : Int32)), .val (.ref a_10x3), .val (.ref a_64x3)] [(.int (3 : Int32))]))
    refine g_iload X_71x3 hx 76 (3 : Int32) (hb hby at_74) rfl rfl ?_
    refine g_icmpY X_71x3 hx 81 (hb hby at_76) (XT.ii_eq_t (by decide)) (by decide) (by decide) ?_
    refine g_iload X_71x3 hx 83 (3 : Int32) (hb hby at_81) rfl rfl ?_
    refine g_ifN X_71x3 hx 86 (hb hby at_83) (XT.i0_le_f (by decide)) rfl ?_
    refine g_aload X_71x3 hx 88 (.ref a_64x3) (hb hby at_86) rfl rfl rfl ?_
    refine g_iconst X_71x3 hx 89 (0 : Int32) (hb hby at_88) rfl rfl ?_
    obtain ⟨_, T_89x2, L_89x2, X_89x2, ⟨rfl, rfl, e_89x2⟩, st_89x2⟩ := g_callV X_71x3 hx hZ  (C := "java/lang/String") (own := "com/example/marble_cache/marblecache/command/WordsLowerCasePinLaw") (index := 9) (y := (⟨"java/lang/String", "charAt", "(I)C"⟩ : MethodName)) (z := (⟨"java/lang/String", "charAt", "(I)C"⟩ : MethodName)) (a := a_64x3) (as' := [(.int (0 : Int32))]) hown (hw _ (List.mem_of_getElem? (i := 51) rfl)) (hw _ (List.mem_of_getElem? (i := 52) rfl)) (hw _ (List.mem_of_getElem? (i := 54) rfl)) (hw _ (List.mem_of_getElem? (i := 54) rfl)) (hw _ (List.mem_of_getElem? (i := 53) rfl)) (hw _ (List.mem_of_getElem? (i := 9) rfl)) (hw _ (List.mem_of_getElem? (i := 55) rfl)) (by decide) e_71x3 Q_64x3.1 (rm_cat l Z a0 hw a_64x3 (0 : Int32) T_64x3.heap h0.size O_64x3 cs hcs SC fv hfv SF _ [(.int ((lcb (q2.toInt8.toInt32)).toInt8.toInt32)), (.int ((lcb (q3.toInt8.toInt32)).toInt8.toInt32)), (.int ((lcb (q4.toInt8.toInt32)).toInt8.toInt32))] (3 : Int32) rfl (by decide) (by decide) 0 rfl ((lcb (q2.toInt8.toInt32)).toInt8.toInt32) rfl (lcb q2) (by rw [own_char (lcb_rng _).1 (lcb_rng _).2, lcb_b]) Q_64x3) pd_cat rfl 0 (by decide) (by decide) (by decide) (by decide) (pc := 89) (Ls := #[.val (.int q1), .val (.int q2), .val (.int q3), .val (.int q4), .val (.int q5), .val (.int (3 : Int32)), .val (.ref a_10x3), .val (.ref a_64x3)]) (rest := []) (st := [(.int (0 : Int32)), (.ref a_64x3)]) (by rw [hml]; rfl) rfl (Nat.le_of_eq rfl) (hb hby at_89)
    refine st_89x2 ?_
    rw [List.append_nil] at X_89x2
    show Go p e below _ (T_89x2.setTop (mkF m 92 #[.val (.int q1), .val (.int q2), .val (.int q3), .val (.int q4), .val (.int q5), .val (.int (3 : Int32)), .val (.ref a_10x3), .val (.ref a_64x3)] [(.int (lcb q2))]))
    refine g_iload_n X_89x2 hx 93 q2 (hb hby at_92) rfl rfl ?_
    obtain ⟨_, T_93x2, L_93x2, X_93x2, hS, hZ, hown, hW_93x2, ⟨rfl, rfl, E_93x2, hI⟩, st_93x2⟩ := g_callSW X_89x2 hx hZ hS hk_64x3  (own := "com/example/marble_cache/marblecache/command/WordsLowerCasePinLaw") (index := 26) (y := (⟨"com/example/marble_cache/marblecache/command/WordsLowerCasePinLaw", "expected", "(I)C"⟩ : MethodName)) (as' := [(.int q2)]) hown (hw _ (List.mem_of_getElem? (i := 73) rfl)) (hw _ (List.mem_of_getElem? (i := 74) rfl)) (hw _ (List.mem_of_getElem? (i := 75) rfl)) (hw _ (List.mem_of_getElem? (i := 76) rfl)) (by decide) e_89x2 (fun vm₁ hw₁ => lc_warm hI hw₁) (rm_exp l Z a0 hw q2 T_64x3.heap h0.size O_64x3 cs hcs SC fv hfv SF [] (by simp) hh1 hcw) pd_exp rfl 1 (by decide) (by decide) (by decide) (by decide) (pc := 93) (Ls := #[.val (.int q1), .val (.int q2), .val (.int q3), .val (.int q4), .val (.int q5), .val (.int (3 : Int32)), .val (.ref a_10x3), .val (.ref a_64x3)]) (rest := [(.int (lcb q2))]) (st := [(.int q2), (.int (lcb q2))]) (by rw [hml]; rfl) rfl (Nat.le_of_eq rfl) (hb hby at_93)
    refine st_93x2 ?_
    rw [List.append_nil] at X_93x2
    have F_93x2_0 : Arl Z T_93x2.heap a_10x3 .byte [(.int (q2.toInt8.toInt32)), (.int (q3.toInt8.toInt32)), (.int (q4.toInt8.toInt32))] := F_64x3_0.ext E_93x2
    have F_93x2_1 : Exa Z T_93x2.heap a_64x3 "java/lang/String" := Q_64x3.1.ext E_93x2
    have Z_93x2 : h0.size ≤ T_93x2.heap.size := Nat.le_trans Z_64x3 E_93x2.1
    have O_93x2 := Old.ext O_64x3 E_93x2
    have str_93x2 := Stl.ext Q_64x3 E_93x2
    show Go p e below _ (T_93x2.setTop (mkF m 96 #[.val (.int q1), .val (.int q2), .val (.int q3), .val (.int q4), .val (.int q5), .val (.int (3 : Int32)), .val (.ref a_10x3), .val (.ref a_64x3)] [(.int (lcb q2)), (.int (lcb q2))]))
    refine g_icmpN X_93x2 hx 99 (hb hby at_96) (XT.ii_ne_f rfl) rfl ?_
    refine g_aload X_93x2 hx 101 (.ref a_10x3) (hb hby at_99) rfl rfl rfl ?_
    refine g_iconst X_93x2 hx 102 (0 : Int32) (hb hby at_101) rfl rfl ?_
    refine g_baload X_93x2 hx hZ rfl F_93x2_0 (k := 0) rfl (.int (q2.toInt8.toInt32)) rfl 103 (hb hby at_102) rfl ?_
    refine g_iload_n X_93x2 hx 104 q2 (hb hby at_103) rfl rfl ?_
    refine g_i2b X_93x2 hx 105 (hb hby at_104) rfl ?_
    refine g_icmpY X_93x2 hx 110 (hb hby at_105) (XT.ii_eq_t rfl) (by decide) (by decide) ?_
    refine g_iload X_93x2 hx 112 (3 : Int32) (hb hby at_110) rfl rfl ?_
    refine g_iconst X_93x2 hx 113 (1 : Int32) (hb hby at_112) rfl rfl ?_
    refine g_icmpN X_93x2 hx 116 (hb hby at_113) (XT.ii_le_f (by decide)) rfl ?_
    refine g_aload X_93x2 hx 118 (.ref a_64x3) (hb hby at_116) rfl rfl rfl ?_
    refine g_iconst X_93x2 hx 119 (1 : Int32) (hb hby at_118) rfl rfl ?_
    obtain ⟨_, T_119x1, L_119x1, X_119x1, ⟨rfl, rfl, e_119x1⟩, st_119x1⟩ := g_callV X_93x2 hx hZ  (C := "java/lang/String") (own := "com/example/marble_cache/marblecache/command/WordsLowerCasePinLaw") (index := 9) (y := (⟨"java/lang/String", "charAt", "(I)C"⟩ : MethodName)) (z := (⟨"java/lang/String", "charAt", "(I)C"⟩ : MethodName)) (a := a_64x3) (as' := [(.int (1 : Int32))]) hown (hw _ (List.mem_of_getElem? (i := 51) rfl)) (hw _ (List.mem_of_getElem? (i := 52) rfl)) (hw _ (List.mem_of_getElem? (i := 54) rfl)) (hw _ (List.mem_of_getElem? (i := 54) rfl)) (hw _ (List.mem_of_getElem? (i := 53) rfl)) (hw _ (List.mem_of_getElem? (i := 9) rfl)) (hw _ (List.mem_of_getElem? (i := 55) rfl)) (by decide) rfl str_93x2.1 (rm_cat l Z a0 hw a_64x3 (1 : Int32) T_93x2.heap h0.size O_93x2 cs hcs SC fv hfv SF _ [(.int ((lcb (q2.toInt8.toInt32)).toInt8.toInt32)), (.int ((lcb (q3.toInt8.toInt32)).toInt8.toInt32)), (.int ((lcb (q4.toInt8.toInt32)).toInt8.toInt32))] (3 : Int32) rfl (by decide) (by decide) 1 rfl ((lcb (q3.toInt8.toInt32)).toInt8.toInt32) rfl (lcb q3) (by rw [own_char (lcb_rng _).1 (lcb_rng _).2, lcb_b]) str_93x2) pd_cat rfl 0 (by decide) (by decide) (by decide) (by decide) (pc := 119) (Ls := #[.val (.int q1), .val (.int q2), .val (.int q3), .val (.int q4), .val (.int q5), .val (.int (3 : Int32)), .val (.ref a_10x3), .val (.ref a_64x3)]) (rest := []) (st := [(.int (1 : Int32)), (.ref a_64x3)]) (by rw [hml]; rfl) rfl (Nat.le_of_eq rfl) (hb hby at_119)
    refine st_119x1 ?_
    rw [List.append_nil] at X_119x1
    show Go p e below _ (T_119x1.setTop (mkF m 122 #[.val (.int q1), .val (.int q2), .val (.int q3), .val (.int q4), .val (.int q5), .val (.int (3 : Int32)), .val (.ref a_10x3), .val (.ref a_64x3)] [(.int (lcb q3))]))
    refine g_iload_n X_119x1 hx 123 q3 (hb hby at_122) rfl rfl ?_
    obtain ⟨_, T_123x1, L_123x1, X_123x1, hS, hZ, hown, hW_123x1, ⟨rfl, rfl, E_123x1, hI⟩, st_123x1⟩ := g_callSW X_119x1 hx hZ hS (Nat.le_refl _)  (own := "com/example/marble_cache/marblecache/command/WordsLowerCasePinLaw") (index := 26) (y := (⟨"com/example/marble_cache/marblecache/command/WordsLowerCasePinLaw", "expected", "(I)C"⟩ : MethodName)) (as' := [(.int q3)]) hown (hw _ (List.mem_of_getElem? (i := 73) rfl)) (hw _ (List.mem_of_getElem? (i := 74) rfl)) (hw _ (List.mem_of_getElem? (i := 75) rfl)) (hw _ (List.mem_of_getElem? (i := 76) rfl)) (by decide) e_119x1 (fun vm₁ hw₁ => lc_warm hI hw₁) (rm_exp l Z a0 hw q3 T_93x2.heap h0.size O_93x2 cs hcs SC fv hfv SF [] (by simp) hh1 hcw) pd_exp rfl 1 (by decide) (by decide) (by decide) (by decide) (pc := 123) (Ls := #[.val (.int q1), .val (.int q2), .val (.int q3), .val (.int q4), .val (.int q5), .val (.int (3 : Int32)), .val (.ref a_10x3), .val (.ref a_64x3)]) (rest := [(.int (lcb q3))]) (st := [(.int q3), (.int (lcb q3))]) (by rw [hml]; rfl) rfl (Nat.le_of_eq rfl) (hb hby at_123)
    refine st_123x1 ?_
    rw [List.append_nil] at X_123x1
    have F_123x1_0 : Arl Z T_123x1.heap a_10x3 .byte [(.int (q2.toInt8.toInt32)), (.int (q3.toInt8.toInt32)), (.int (q4.toInt8.toInt32))] := F_93x2_0.ext E_123x1
    have F_123x1_1 : Exa Z T_123x1.heap a_64x3 "java/lang/String" := str_93x2.1.ext E_123x1
    have Z_123x1 : h0.size ≤ T_123x1.heap.size := Nat.le_trans Z_93x2 E_123x1.1
    have O_123x1 := Old.ext O_93x2 E_123x1
    have str_123x1 := Stl.ext str_93x2 E_123x1
    show Go p e below _ (T_123x1.setTop (mkF m 126 #[.val (.int q1), .val (.int q2), .val (.int q3), .val (.int q4), .val (.int q5), .val (.int (3 : Int32)), .val (.ref a_10x3), .val (.ref a_64x3)] [(.int (lcb q3)), (.int (lcb q3))]))
    refine g_icmpN X_123x1 hx 129 (hb hby at_126) (XT.ii_ne_f rfl) rfl ?_
    refine g_aload X_123x1 hx 131 (.ref a_10x3) (hb hby at_129) rfl rfl rfl ?_
    refine g_iconst X_123x1 hx 132 (1 : Int32) (hb hby at_131) rfl rfl ?_
    refine g_baload X_123x1 hx hZ rfl F_123x1_0 (k := 1) rfl (.int (q3.toInt8.toInt32)) rfl 133 (hb hby at_132) rfl ?_
    refine g_iload_n X_123x1 hx 134 q3 (hb hby at_133) rfl rfl ?_
    refine g_i2b X_123x1 hx 135 (hb hby at_134) rfl ?_
    refine g_icmpY X_123x1 hx 140 (hb hby at_135) (XT.ii_eq_t rfl) (by decide) (by decide) ?_
    refine g_iload X_123x1 hx 142 (3 : Int32) (hb hby at_140) rfl rfl ?_
    refine g_iconst X_123x1 hx 143 (2 : Int32) (hb hby at_142) rfl rfl ?_
    refine g_icmpN X_123x1 hx 146 (hb hby at_143) (XT.ii_le_f (by decide)) rfl ?_
    refine g_aload X_123x1 hx 148 (.ref a_64x3) (hb hby at_146) rfl rfl rfl ?_
    refine g_iconst X_123x1 hx 149 (2 : Int32) (hb hby at_148) rfl rfl ?_
    obtain ⟨_, T_149, L_149, X_149, ⟨rfl, rfl, e_149⟩, st_149⟩ := g_callV X_123x1 hx hZ  (C := "java/lang/String") (own := "com/example/marble_cache/marblecache/command/WordsLowerCasePinLaw") (index := 9) (y := (⟨"java/lang/String", "charAt", "(I)C"⟩ : MethodName)) (z := (⟨"java/lang/String", "charAt", "(I)C"⟩ : MethodName)) (a := a_64x3) (as' := [(.int (2 : Int32))]) hown (hw _ (List.mem_of_getElem? (i := 51) rfl)) (hw _ (List.mem_of_getElem? (i := 52) rfl)) (hw _ (List.mem_of_getElem? (i := 54) rfl)) (hw _ (List.mem_of_getElem? (i := 54) rfl)) (hw _ (List.mem_of_getElem? (i := 53) rfl)) (hw _ (List.mem_of_getElem? (i := 9) rfl)) (hw _ (List.mem_of_getElem? (i := 55) rfl)) (by decide) rfl str_123x1.1 (rm_cat l Z a0 hw a_64x3 (2 : Int32) T_123x1.heap h0.size O_123x1 cs hcs SC fv hfv SF _ [(.int ((lcb (q2.toInt8.toInt32)).toInt8.toInt32)), (.int ((lcb (q3.toInt8.toInt32)).toInt8.toInt32)), (.int ((lcb (q4.toInt8.toInt32)).toInt8.toInt32))] (3 : Int32) rfl (by decide) (by decide) 2 rfl ((lcb (q4.toInt8.toInt32)).toInt8.toInt32) rfl (lcb q4) (by rw [own_char (lcb_rng _).1 (lcb_rng _).2, lcb_b]) str_123x1) pd_cat rfl 0 (by decide) (by decide) (by decide) (by decide) (pc := 149) (Ls := #[.val (.int q1), .val (.int q2), .val (.int q3), .val (.int q4), .val (.int q5), .val (.int (3 : Int32)), .val (.ref a_10x3), .val (.ref a_64x3)]) (rest := []) (st := [(.int (2 : Int32)), (.ref a_64x3)]) (by rw [hml]; rfl) rfl (Nat.le_of_eq rfl) (hb hby at_149)
    refine st_149 ?_
    rw [List.append_nil] at X_149
    show Go p e below _ (T_149.setTop (mkF m 152 #[.val (.int q1), .val (.int q2), .val (.int q3), .val (.int q4), .val (.int q5), .val (.int (3 : Int32)), .val (.ref a_10x3), .val (.ref a_64x3)] [(.int (lcb q4))]))
    refine g_iload_n X_149 hx 153 q4 (hb hby at_152) rfl rfl ?_
    obtain ⟨_, T_153, L_153, X_153, hS, hZ, hown, hW_153, ⟨rfl, rfl, E_153, hI⟩, st_153⟩ := g_callSW X_149 hx hZ hS (Nat.le_refl _)  (own := "com/example/marble_cache/marblecache/command/WordsLowerCasePinLaw") (index := 26) (y := (⟨"com/example/marble_cache/marblecache/command/WordsLowerCasePinLaw", "expected", "(I)C"⟩ : MethodName)) (as' := [(.int q4)]) hown (hw _ (List.mem_of_getElem? (i := 73) rfl)) (hw _ (List.mem_of_getElem? (i := 74) rfl)) (hw _ (List.mem_of_getElem? (i := 75) rfl)) (hw _ (List.mem_of_getElem? (i := 76) rfl)) (by decide) e_149 (fun vm₁ hw₁ => lc_warm hI hw₁) (rm_exp l Z a0 hw q4 T_123x1.heap h0.size O_123x1 cs hcs SC fv hfv SF [] (by simp) hh1 hcw) pd_exp rfl 1 (by decide) (by decide) (by decide) (by decide) (pc := 153) (Ls := #[.val (.int q1), .val (.int q2), .val (.int q3), .val (.int q4), .val (.int q5), .val (.int (3 : Int32)), .val (.ref a_10x3), .val (.ref a_64x3)]) (rest := [(.int (lcb q4))]) (st := [(.int q4), (.int (lcb q4))]) (by rw [hml]; rfl) rfl (Nat.le_of_eq rfl) (hb hby at_153)
    refine st_153 ?_
    rw [List.append_nil] at X_153
    have F_153_0 : Arl Z T_153.heap a_10x3 .byte [(.int (q2.toInt8.toInt32)), (.int (q3.toInt8.toInt32)), (.int (q4.toInt8.toInt32))] := F_123x1_0.ext E_153
    have F_153_1 : Exa Z T_153.heap a_64x3 "java/lang/String" := str_123x1.1.ext E_153
    have Z_153 : h0.size ≤ T_153.heap.size := Nat.le_trans Z_123x1 E_153.1
    have O_153 := Old.ext O_123x1 E_153
    have str_153 := Stl.ext str_123x1 E_153
    show Go p e below _ (T_153.setTop (mkF m 156 #[.val (.int q1), .val (.int q2), .val (.int q3), .val (.int q4), .val (.int q5), .val (.int (3 : Int32)), .val (.ref a_10x3), .val (.ref a_64x3)] [(.int (lcb q4)), (.int (lcb q4))]))
    refine g_icmpN X_153 hx 159 (hb hby at_156) (XT.ii_ne_f rfl) rfl ?_
    refine g_aload X_153 hx 161 (.ref a_10x3) (hb hby at_159) rfl rfl rfl ?_
    refine g_iconst X_153 hx 162 (2 : Int32) (hb hby at_161) rfl rfl ?_
    refine g_baload X_153 hx hZ rfl F_153_0 (k := 2) rfl (.int (q4.toInt8.toInt32)) rfl 163 (hb hby at_162) rfl ?_
    refine g_iload_n X_153 hx 164 q4 (hb hby at_163) rfl rfl ?_
    refine g_i2b X_153 hx 165 (hb hby at_164) rfl ?_
    refine g_icmpY X_153 hx 170 (hb hby at_165) (XT.ii_eq_t rfl) (by decide) (by decide) ?_
    refine g_iload X_153 hx 172 (3 : Int32) (hb hby at_170) rfl rfl ?_
    refine g_iconst X_153 hx 173 (3 : Int32) (hb hby at_172) rfl rfl ?_
    refine g_icmpY X_153 hx 202 (hb hby at_173) (XT.ii_le_t (by decide)) (by decide) (by decide) ?_
    refine g_iconst X_153 hx 203 (1 : Int32) (hb hby at_202) rfl rfl ?_
    exact GoW.ret X_153 hS (Nat.le_refl _) hx hlk Bd.returns (hb hby at_203) rfl (Or.inl ⟨rfl, by decide, _, rfl⟩) (by decide) (by decide) ⟨rfl, N_64x3⟩
  ·
    refine g_iload X0 hx 10 (4 : Int32) (hb hby at_8) rfl rfl ?_
    obtain ⟨T_10x4, h_10x4, a_10x4, k_10x4, X_10x4, e_10x4, ga_10x4, E_10x4, A_10x4, st_10x4⟩ := g_newP X0 hx hZ (aty := .byte) (n := (4 : Int32)) (hw _ (List.mem_of_getElem? (i := 1) rfl)) e0 4 (by decide) (by decide) (by decide) (by decide) (by decide) 12 (hb hby at_10) rfl
    refine st_10x4 ?_
    have g_10x4 : h0.size ≤ a_10x4 := by rw [ga_10x4]; exact (Nat.le_refl _)
    have gh_10x4 : h0.size ≤ a_10x4 := by rw [ga_10x4]; exact (Nat.le_refl _)
    have Z_10x4 : h0.size ≤ h_10x4.size := Nat.le_trans (Nat.le_refl _) E_10x4.1
    have O_10x4 := Old.ext XO E_10x4
    have hk_10x4 := Nat.le_trans hk0 E_10x4.1
    have G_10x4 : Arl Z h_10x4 a_10x4 .byte [(.int (0 : Int32)), (.int (0 : Int32)), (.int (0 : Int32)), (.int (0 : Int32))] := Arl.new A_10x4 rfl
    refine g_astore X_10x4 hx 14 #[.val (.int q1), .val (.int q2), .val (.int q3), .val (.int q4), .val (.int q5), .val (.int (4 : Int32)), .val (.ref a_10x4), .unset] (hb hby at_12) rfl rfl rfl ?_
    refine g_iload X_10x4 hx 16 (4 : Int32) (hb hby at_14) rfl rfl ?_
    refine g_ifN X_10x4 hx 19 (hb hby at_16) (XT.i0_le_f (by decide)) rfl ?_
    refine g_aload X_10x4 hx 21 (.ref a_10x4) (hb hby at_19) rfl rfl rfl ?_
    refine g_iconst X_10x4 hx 22 (0 : Int32) (hb hby at_21) rfl rfl ?_
    refine g_iload_n X_10x4 hx 23 q2 (hb hby at_22) rfl rfl ?_
    refine g_i2b X_10x4 hx 24 (hb hby at_23) rfl ?_
    obtain ⟨T_24x3, h_24x3, X_24x3, e_24x3, W_24x3, B_24x3, st_24x3⟩ := g_bastore X_10x4 hx hZ e_10x4 G_10x4 (j := (0 : Int32)) (q2.toInt8.toInt32) (k := 0) rfl (Nat.le_of_ble_eq_true rfl) 25 (hb hby at_24) rfl
    refine st_24x3 ?_
    have C_24x3 : Arl Z h_24x3 a_10x4 .byte [(.int (q2.toInt8.toInt32)), (.int (0 : Int32)), (.int (0 : Int32)), (.int (0 : Int32))] := by have z := B_24x3; rw [show (nar .byte (q2.toInt8.toInt32)) = (q2.toInt8.toInt32) from own_nb _] at z; exact z
    have F_24x3_0 : Arl Z h_24x3 a_10x4 .byte [(.int (q2.toInt8.toInt32)), (.int (0 : Int32)), (.int (0 : Int32)), (.int (0 : Int32))] := C_24x3
    have N_24x3 := Fr.snoc X_24x3 (Fr.nil _) g_10x4
    have Z_24x3 : h0.size ≤ h_24x3.size := by rw [W_24x3.size]; exact Z_10x4
    have O_24x3 := Old.wr O_10x4 W_24x3 g_10x4
    have hk_24x3 := Nat.le_trans hk_10x4 (Nat.le_of_eq W_24x3.size.symm)
    refine g_iload X_24x3 hx 27 (4 : Int32) (hb hby at_25) rfl rfl ?_
    refine g_iconst X_24x3 hx 28 (1 : Int32) (hb hby at_27) rfl rfl ?_
    refine g_icmpN X_24x3 hx 31 (hb hby at_28) (XT.ii_le_f (by decide)) rfl ?_
    refine g_aload X_24x3 hx 33 (.ref a_10x4) (hb hby at_31) rfl rfl rfl ?_
    refine g_iconst X_24x3 hx 34 (1 : Int32) (hb hby at_33) rfl rfl ?_
    refine g_iload_n X_24x3 hx 35 q3 (hb hby at_34) rfl rfl ?_
    refine g_i2b X_24x3 hx 36 (hb hby at_35) rfl ?_
    obtain ⟨T_36x2, h_36x2, X_36x2, e_36x2, W_36x2, B_36x2, st_36x2⟩ := g_bastore X_24x3 hx hZ e_24x3 F_24x3_0 (j := (1 : Int32)) (q3.toInt8.toInt32) (k := 1) rfl (Nat.le_of_ble_eq_true rfl) 37 (hb hby at_36) rfl
    refine st_36x2 ?_
    have C_36x2 : Arl Z h_36x2 a_10x4 .byte [(.int (q2.toInt8.toInt32)), (.int (q3.toInt8.toInt32)), (.int (0 : Int32)), (.int (0 : Int32))] := by have z := B_36x2; rw [show (nar .byte (q3.toInt8.toInt32)) = (q3.toInt8.toInt32) from own_nb _] at z; exact z
    have F_36x2_0 : Arl Z h_36x2 a_10x4 .byte [(.int (q2.toInt8.toInt32)), (.int (q3.toInt8.toInt32)), (.int (0 : Int32)), (.int (0 : Int32))] := C_36x2
    have N_36x2 := Fr.snoc X_36x2 N_24x3 g_10x4
    have Z_36x2 : h0.size ≤ h_36x2.size := by rw [W_36x2.size]; exact Z_24x3
    have O_36x2 := Old.wr O_24x3 W_36x2 g_10x4
    have hk_36x2 := Nat.le_trans hk_24x3 (Nat.le_of_eq W_36x2.size.symm)
    refine g_iload X_36x2 hx 39 (4 : Int32) (hb hby at_37) rfl rfl ?_
    refine g_iconst X_36x2 hx 40 (2 : Int32) (hb hby at_39) rfl rfl ?_
    refine g_icmpN X_36x2 hx 43 (hb hby at_40) (XT.ii_le_f (by decide)) rfl ?_
    refine g_aload X_36x2 hx 45 (.ref a_10x4) (hb hby at_43) rfl rfl rfl ?_
    refine g_iconst X_36x2 hx 46 (2 : Int32) (hb hby at_45) rfl rfl ?_
    refine g_iload_n X_36x2 hx 47 q4 (hb hby at_46) rfl rfl ?_
    refine g_i2b X_36x2 hx 48 (hb hby at_47) rfl ?_
    obtain ⟨T_48x1, h_48x1, X_48x1, e_48x1, W_48x1, B_48x1, st_48x1⟩ := g_bastore X_36x2 hx hZ e_36x2 F_36x2_0 (j := (2 : Int32)) (q4.toInt8.toInt32) (k := 2) rfl (Nat.le_of_ble_eq_true rfl) 49 (hb hby at_48) rfl
    refine st_48x1 ?_
    have C_48x1 : Arl Z h_48x1 a_10x4 .byte [(.int (q2.toInt8.toInt32)), (.int (q3.toInt8.toInt32)), (.int (q4.toInt8.toInt32)), (.int (0 : Int32))] := by have z := B_48x1; rw [show (nar .byte (q4.toInt8.toInt32)) = (q4.toInt8.toInt32) from own_nb _] at z; exact z
    have F_48x1_0 : Arl Z h_48x1 a_10x4 .byte [(.int (q2.toInt8.toInt32)), (.int (q3.toInt8.toInt32)), (.int (q4.toInt8.toInt32)), (.int (0 : Int32))] := C_48x1
    have N_48x1 := Fr.snoc X_48x1 N_36x2 g_10x4
    have Z_48x1 : h0.size ≤ h_48x1.size := by rw [W_48x1.size]; exact Z_36x2
    have O_48x1 := Old.wr O_36x2 W_48x1 g_10x4
    have hk_48x1 := Nat.le_trans hk_36x2 (Nat.le_of_eq W_48x1.size.symm)
    refine g_iload X_48x1 hx 51 (4 : Int32) (hb hby at_49) rfl rfl ?_
    refine g_iconst X_48x1 hx 52 (3 : Int32) (hb hby at_51) rfl rfl ?_
    refine g_icmpN X_48x1 hx 55 (hb hby at_52) (XT.ii_le_f (by decide)) rfl ?_
    refine g_aload X_48x1 hx 57 (.ref a_10x4) (hb hby at_55) rfl rfl rfl ?_
    refine g_iconst X_48x1 hx 58 (3 : Int32) (hb hby at_57) rfl rfl ?_
    refine g_iload X_48x1 hx 60 q5 (hb hby at_58) rfl rfl ?_
    refine g_i2b X_48x1 hx 61 (hb hby at_60) rfl ?_
    obtain ⟨T_61, h_61, X_61, e_61, W_61, B_61, st_61⟩ := g_bastore X_48x1 hx hZ e_48x1 F_48x1_0 (j := (3 : Int32)) (q5.toInt8.toInt32) (k := 3) rfl (Nat.le_of_ble_eq_true rfl) 62 (hb hby at_61) rfl
    refine st_61 ?_
    have C_61 : Arl Z h_61 a_10x4 .byte [(.int (q2.toInt8.toInt32)), (.int (q3.toInt8.toInt32)), (.int (q4.toInt8.toInt32)), (.int (q5.toInt8.toInt32))] := by have z := B_61; rw [show (nar .byte (q5.toInt8.toInt32)) = (q5.toInt8.toInt32) from own_nb _] at z; exact z
    have F_61_0 : Arl Z h_61 a_10x4 .byte [(.int (q2.toInt8.toInt32)), (.int (q3.toInt8.toInt32)), (.int (q4.toInt8.toInt32)), (.int (q5.toInt8.toInt32))] := C_61
    have N_61 := Fr.snoc X_61 N_48x1 g_10x4
    have Z_61 : h0.size ≤ h_61.size := by rw [W_61.size]; exact Z_48x1
    have O_61 := Old.wr O_48x1 W_61 g_10x4
    have hk_61 := Nat.le_trans hk_48x1 (Nat.le_of_eq W_61.size.symm)
    refine g_aload X_61 hx 64 (.ref a_10x4) (hb hby at_62) rfl rfl rfl ?_
    obtain ⟨_, T_64x4, L_64x4, X_64x4, ⟨a_64x4, b_64x4, rfl, M_64x4, K_64x4, Q_64x4⟩, st_64x4⟩ := g_callS X_61 hx hZ  (own := "com/example/marble_cache/marblecache/command/WordsLowerCasePinLaw") (index := 16) (y := (⟨"com/example/marble_cache/marblecache/command/Words", "lowerCase", "([B)Ljava/lang/String;"⟩ : MethodName)) (as' := [(.ref a_10x4)]) hown (hw _ (List.mem_of_getElem? (i := 2) rfl)) (hw _ (List.mem_of_getElem? (i := 3) rfl)) (hw _ (List.mem_of_getElem? (i := 4) rfl)) (hw _ (List.mem_of_getElem? (i := 5) rfl)) (by decide) e_61 (rm_low_4 l Z a0 hw a_10x4 h_61 h0.size O_61 cs hcs SC (q2.toInt8.toInt32) (q3.toInt8.toInt32) (q4.toInt8.toInt32) (q5.toInt8.toInt32) F_61_0) pd_low_4 rfl 0 (by decide) (by decide) (by decide) (by decide) (pc := 64) (Ls := #[.val (.int q1), .val (.int q2), .val (.int q3), .val (.int q4), .val (.int q5), .val (.int (4 : Int32)), .val (.ref a_10x4), .unset]) (rest := []) (st := [(.ref a_10x4)]) (by rw [hml]; rfl) rfl (Nat.le_of_eq rfl) (hb hby at_64)
    refine Go.of ?_ st_64x4
    have F_64x4_0 : Arl Z T_64x4.heap a_10x4 .byte [(.int (q2.toInt8.toInt32)), (.int (q3.toInt8.toInt32)), (.int (q4.toInt8.toInt32)), (.int (q5.toInt8.toInt32))] := F_61_0.keep K_64x4 nin0
    have N_64x4 := Fr.app N_61 M_64x4
    have Z_64x4 : h0.size ≤ T_64x4.heap.size := Nat.le_trans Z_61 K_64x4.1
    have O_64x4 := Old.keep O_61 K_64x4 all0
    have hk_64x4 := Nat.le_trans hk_61 K_64x4.1
    have hI : LC Z [] s.vm T_64x4.heap := Or.inl hI
    show Go p e below _ (T_64x4.setTop (mkF m 67 #[.val (.int q1), .val (.int q2), .val (.int q3), .val (.int q4), .val (.int q5), .val (.int (4 : Int32)), .val (.ref a_10x4), .unset] [(.ref a_64x4)]))
    refine g_astore X_64x4 hx 69 #[.val (.int q1), .val (.int q2), .val (.int q3), .val (.int q4), .val (.int q5), .val (.int (4 : Int32)), .val (.ref a_10x4), .val (.ref a_64x4)] (hb hby at_67) rfl rfl rfl ?_
    refine g_aload X_64x4 hx 71 (.ref a_64x4) (hb hby at_69) rfl rfl rfl ?_
    obtain ⟨_, T_71x4, L_71x4, X_71x4, ⟨rfl, rfl, e_71x4⟩, st_71x4⟩ := g_callV X_64x4 hx hZ  (C := "java/lang/String") (own := "com/example/marble_cache/marblecache/command/WordsLowerCasePinLaw") (index := 22) (y := (⟨"java/lang/String", "length", "()I"⟩ : MethodName)) (z := (⟨"java/lang/String", "length", "()I"⟩ : MethodName)) (a := a_64x4) (as' := []) hown (hw _ (List.mem_of_getElem? (i := 27) rfl)) (hw _ (List.mem_of_getElem? (i := 28) rfl)) (hw _ (List.mem_of_getElem? (i := 30) rfl)) (hw _ (List.mem_of_getElem? (i := 30) rfl)) (hw _ (List.mem_of_getElem? (i := 29) rfl)) (hw _ (List.mem_of_getElem? (i := 9) rfl)) (hw _ (List.mem_of_getElem? (i := 31) rfl)) (by decide) rfl Q_64x4.1 (rm_len l Z a0 hw a_64x4 T_64x4.heap h0.size O_64x4 cs hcs SC (0 : Int32) rfl _ [(.int ((lcb (q2.toInt8.toInt32)).toInt8.toInt32)), (.int ((lcb (q3.toInt8.toInt32)).toInt8.toInt32)), (.int ((lcb (q4.toInt8.toInt32)).toInt8.toInt32)), (.int ((lcb (q5.toInt8.toInt32)).toInt8.toInt32))] (4 : Int32) (4 : Int32) rfl rfl Q_64x4) pd_len rfl 0 (by decide) (by decide) (by decide) (by decide) (pc := 71) (Ls := #[.val (.int q1), .val (.int q2), .val (.int q3), .val (.int q4), .val (.int q5), .val (.int (4 : Int32)), .val (.ref a_10x4), .val (.ref a_64x4)]) (rest := []) (st := [(.ref a_64x4)]) (by rw [hml]; rfl) rfl (Nat.le_of_eq rfl) (hb hby at_71)
    refine st_71x4 ?_
    rw [List.append_nil] at X_71x4
    show Go p e below _ (T_71x4.setTop (mkF m 74 #[.val (.int q1), .val (.int q2), .val (.int q3), .val (.int q4), .val (.int q5), .val (.int (4 : Int32)), .val (.ref a_10x4), .val (.ref a_64x4)] [(.int (4 : Int32))]))
    refine g_iload X_71x4 hx 76 (4 : Int32) (hb hby at_74) rfl rfl ?_
    refine g_icmpY X_71x4 hx 81 (hb hby at_76) (XT.ii_eq_t (by decide)) (by decide) (by decide) ?_
    refine g_iload X_71x4 hx 83 (4 : Int32) (hb hby at_81) rfl rfl ?_
    refine g_ifN X_71x4 hx 86 (hb hby at_83) (XT.i0_le_f (by decide)) rfl ?_
    refine g_aload X_71x4 hx 88 (.ref a_64x4) (hb hby at_86) rfl rfl rfl ?_
    refine g_iconst X_71x4 hx 89 (0 : Int32) (hb hby at_88) rfl rfl ?_
    obtain ⟨_, T_89x3, L_89x3, X_89x3, ⟨rfl, rfl, e_89x3⟩, st_89x3⟩ := g_callV X_71x4 hx hZ  (C := "java/lang/String") (own := "com/example/marble_cache/marblecache/command/WordsLowerCasePinLaw") (index := 9) (y := (⟨"java/lang/String", "charAt", "(I)C"⟩ : MethodName)) (z := (⟨"java/lang/String", "charAt", "(I)C"⟩ : MethodName)) (a := a_64x4) (as' := [(.int (0 : Int32))]) hown (hw _ (List.mem_of_getElem? (i := 51) rfl)) (hw _ (List.mem_of_getElem? (i := 52) rfl)) (hw _ (List.mem_of_getElem? (i := 54) rfl)) (hw _ (List.mem_of_getElem? (i := 54) rfl)) (hw _ (List.mem_of_getElem? (i := 53) rfl)) (hw _ (List.mem_of_getElem? (i := 9) rfl)) (hw _ (List.mem_of_getElem? (i := 55) rfl)) (by decide) e_71x4 Q_64x4.1 (rm_cat l Z a0 hw a_64x4 (0 : Int32) T_64x4.heap h0.size O_64x4 cs hcs SC fv hfv SF _ [(.int ((lcb (q2.toInt8.toInt32)).toInt8.toInt32)), (.int ((lcb (q3.toInt8.toInt32)).toInt8.toInt32)), (.int ((lcb (q4.toInt8.toInt32)).toInt8.toInt32)), (.int ((lcb (q5.toInt8.toInt32)).toInt8.toInt32))] (4 : Int32) rfl (by decide) (by decide) 0 rfl ((lcb (q2.toInt8.toInt32)).toInt8.toInt32) rfl (lcb q2) (by rw [own_char (lcb_rng _).1 (lcb_rng _).2, lcb_b]) Q_64x4) pd_cat rfl 0 (by decide) (by decide) (by decide) (by decide) (pc := 89) (Ls := #[.val (.int q1), .val (.int q2), .val (.int q3), .val (.int q4), .val (.int q5), .val (.int (4 : Int32)), .val (.ref a_10x4), .val (.ref a_64x4)]) (rest := []) (st := [(.int (0 : Int32)), (.ref a_64x4)]) (by rw [hml]; rfl) rfl (Nat.le_of_eq rfl) (hb hby at_89)
    refine st_89x3 ?_
    rw [List.append_nil] at X_89x3
    show Go p e below _ (T_89x3.setTop (mkF m 92 #[.val (.int q1), .val (.int q2), .val (.int q3), .val (.int q4), .val (.int q5), .val (.int (4 : Int32)), .val (.ref a_10x4), .val (.ref a_64x4)] [(.int (lcb q2))]))
    refine g_iload_n X_89x3 hx 93 q2 (hb hby at_92) rfl rfl ?_
    obtain ⟨_, T_93x3, L_93x3, X_93x3, hS, hZ, hown, hW_93x3, ⟨rfl, rfl, E_93x3, hI⟩, st_93x3⟩ := g_callSW X_89x3 hx hZ hS hk_64x4  (own := "com/example/marble_cache/marblecache/command/WordsLowerCasePinLaw") (index := 26) (y := (⟨"com/example/marble_cache/marblecache/command/WordsLowerCasePinLaw", "expected", "(I)C"⟩ : MethodName)) (as' := [(.int q2)]) hown (hw _ (List.mem_of_getElem? (i := 73) rfl)) (hw _ (List.mem_of_getElem? (i := 74) rfl)) (hw _ (List.mem_of_getElem? (i := 75) rfl)) (hw _ (List.mem_of_getElem? (i := 76) rfl)) (by decide) e_89x3 (fun vm₁ hw₁ => lc_warm hI hw₁) (rm_exp l Z a0 hw q2 T_64x4.heap h0.size O_64x4 cs hcs SC fv hfv SF [] (by simp) hh1 hcw) pd_exp rfl 1 (by decide) (by decide) (by decide) (by decide) (pc := 93) (Ls := #[.val (.int q1), .val (.int q2), .val (.int q3), .val (.int q4), .val (.int q5), .val (.int (4 : Int32)), .val (.ref a_10x4), .val (.ref a_64x4)]) (rest := [(.int (lcb q2))]) (st := [(.int q2), (.int (lcb q2))]) (by rw [hml]; rfl) rfl (Nat.le_of_eq rfl) (hb hby at_93)
    refine st_93x3 ?_
    rw [List.append_nil] at X_93x3
    have F_93x3_0 : Arl Z T_93x3.heap a_10x4 .byte [(.int (q2.toInt8.toInt32)), (.int (q3.toInt8.toInt32)), (.int (q4.toInt8.toInt32)), (.int (q5.toInt8.toInt32))] := F_64x4_0.ext E_93x3
    have F_93x3_1 : Exa Z T_93x3.heap a_64x4 "java/lang/String" := Q_64x4.1.ext E_93x3
    have Z_93x3 : h0.size ≤ T_93x3.heap.size := Nat.le_trans Z_64x4 E_93x3.1
    have O_93x3 := Old.ext O_64x4 E_93x3
    have str_93x3 := Stl.ext Q_64x4 E_93x3
    show Go p e below _ (T_93x3.setTop (mkF m 96 #[.val (.int q1), .val (.int q2), .val (.int q3), .val (.int q4), .val (.int q5), .val (.int (4 : Int32)), .val (.ref a_10x4), .val (.ref a_64x4)] [(.int (lcb q2)), (.int (lcb q2))]))
    refine g_icmpN X_93x3 hx 99 (hb hby at_96) (XT.ii_ne_f rfl) rfl ?_
    refine g_aload X_93x3 hx 101 (.ref a_10x4) (hb hby at_99) rfl rfl rfl ?_
    refine g_iconst X_93x3 hx 102 (0 : Int32) (hb hby at_101) rfl rfl ?_
    refine g_baload X_93x3 hx hZ rfl F_93x3_0 (k := 0) rfl (.int (q2.toInt8.toInt32)) rfl 103 (hb hby at_102) rfl ?_
    refine g_iload_n X_93x3 hx 104 q2 (hb hby at_103) rfl rfl ?_
    refine g_i2b X_93x3 hx 105 (hb hby at_104) rfl ?_
    refine g_icmpY X_93x3 hx 110 (hb hby at_105) (XT.ii_eq_t rfl) (by decide) (by decide) ?_
    refine g_iload X_93x3 hx 112 (4 : Int32) (hb hby at_110) rfl rfl ?_
    refine g_iconst X_93x3 hx 113 (1 : Int32) (hb hby at_112) rfl rfl ?_
    refine g_icmpN X_93x3 hx 116 (hb hby at_113) (XT.ii_le_f (by decide)) rfl ?_
    refine g_aload X_93x3 hx 118 (.ref a_64x4) (hb hby at_116) rfl rfl rfl ?_
    refine g_iconst X_93x3 hx 119 (1 : Int32) (hb hby at_118) rfl rfl ?_
    obtain ⟨_, T_119x2, L_119x2, X_119x2, ⟨rfl, rfl, e_119x2⟩, st_119x2⟩ := g_callV X_93x3 hx hZ  (C := "java/lang/String") (own := "com/example/marble_cache/marblecache/command/WordsLowerCasePinLaw") (index := 9) (y := (⟨"java/lang/String", "charAt", "(I)C"⟩ : MethodName)) (z := (⟨"java/lang/String", "charAt", "(I)C"⟩ : MethodName)) (a := a_64x4) (as' := [(.int (1 : Int32))]) hown (hw _ (List.mem_of_getElem? (i := 51) rfl)) (hw _ (List.mem_of_getElem? (i := 52) rfl)) (hw _ (List.mem_of_getElem? (i := 54) rfl)) (hw _ (List.mem_of_getElem? (i := 54) rfl)) (hw _ (List.mem_of_getElem? (i := 53) rfl)) (hw _ (List.mem_of_getElem? (i := 9) rfl)) (hw _ (List.mem_of_getElem? (i := 55) rfl)) (by decide) rfl str_93x3.1 (rm_cat l Z a0 hw a_64x4 (1 : Int32) T_93x3.heap h0.size O_93x3 cs hcs SC fv hfv SF _ [(.int ((lcb (q2.toInt8.toInt32)).toInt8.toInt32)), (.int ((lcb (q3.toInt8.toInt32)).toInt8.toInt32)), (.int ((lcb (q4.toInt8.toInt32)).toInt8.toInt32)), (.int ((lcb (q5.toInt8.toInt32)).toInt8.toInt32))] (4 : Int32) rfl (by decide) (by decide) 1 rfl ((lcb (q3.toInt8.toInt32)).toInt8.toInt32) rfl (lcb q3) (by rw [own_char (lcb_rng _).1 (lcb_rng _).2, lcb_b]) str_93x3) pd_cat rfl 0 (by decide) (by decide) (by decide) (by decide) (pc := 119) (Ls := #[.val (.int q1), .val (.int q2), .val (.int q3), .val (.int q4), .val (.int q5), .val (.int (4 : Int32)), .val (.ref a_10x4), .val (.ref a_64x4)]) (rest := []) (st := [(.int (1 : Int32)), (.ref a_64x4)]) (by rw [hml]; rfl) rfl (Nat.le_of_eq rfl) (hb hby at_119)
    refine st_119x2 ?_
    rw [List.append_nil] at X_119x2
    show Go p e below _ (T_119x2.setTop (mkF m 122 #[.val (.int q1), .val (.int q2), .val (.int q3), .val (.int q4), .val (.int q5), .val (.int (4 : Int32)), .val (.ref a_10x4), .val (.ref a_64x4)] [(.int (lcb q3))]))
    refine g_iload_n X_119x2 hx 123 q3 (hb hby at_122) rfl rfl ?_
    obtain ⟨_, T_123x2, L_123x2, X_123x2, hS, hZ, hown, hW_123x2, ⟨rfl, rfl, E_123x2, hI⟩, st_123x2⟩ := g_callSW X_119x2 hx hZ hS (Nat.le_refl _)  (own := "com/example/marble_cache/marblecache/command/WordsLowerCasePinLaw") (index := 26) (y := (⟨"com/example/marble_cache/marblecache/command/WordsLowerCasePinLaw", "expected", "(I)C"⟩ : MethodName)) (as' := [(.int q3)]) hown (hw _ (List.mem_of_getElem? (i := 73) rfl)) (hw _ (List.mem_of_getElem? (i := 74) rfl)) (hw _ (List.mem_of_getElem? (i := 75) rfl)) (hw _ (List.mem_of_getElem? (i := 76) rfl)) (by decide) e_119x2 (fun vm₁ hw₁ => lc_warm hI hw₁) (rm_exp l Z a0 hw q3 T_93x3.heap h0.size O_93x3 cs hcs SC fv hfv SF [] (by simp) hh1 hcw) pd_exp rfl 1 (by decide) (by decide) (by decide) (by decide) (pc := 123) (Ls := #[.val (.int q1), .val (.int q2), .val (.int q3), .val (.int q4), .val (.int q5), .val (.int (4 : Int32)), .val (.ref a_10x4), .val (.ref a_64x4)]) (rest := [(.int (lcb q3))]) (st := [(.int q3), (.int (lcb q3))]) (by rw [hml]; rfl) rfl (Nat.le_of_eq rfl) (hb hby at_123)
    refine st_123x2 ?_
    rw [List.append_nil] at X_123x2
    have F_123x2_0 : Arl Z T_123x2.heap a_10x4 .byte [(.int (q2.toInt8.toInt32)), (.int (q3.toInt8.toInt32)), (.int (q4.toInt8.toInt32)), (.int (q5.toInt8.toInt32))] := F_93x3_0.ext E_123x2
    have F_123x2_1 : Exa Z T_123x2.heap a_64x4 "java/lang/String" := str_93x3.1.ext E_123x2
    have Z_123x2 : h0.size ≤ T_123x2.heap.size := Nat.le_trans Z_93x3 E_123x2.1
    have O_123x2 := Old.ext O_93x3 E_123x2
    have str_123x2 := Stl.ext str_93x3 E_123x2
    show Go p e below _ (T_123x2.setTop (mkF m 126 #[.val (.int q1), .val (.int q2), .val (.int q3), .val (.int q4), .val (.int q5), .val (.int (4 : Int32)), .val (.ref a_10x4), .val (.ref a_64x4)] [(.int (lcb q3)), (.int (lcb q3))]))
    refine g_icmpN X_123x2 hx 129 (hb hby at_126) (XT.ii_ne_f rfl) rfl ?_
    refine g_aload X_123x2 hx 131 (.ref a_10x4) (hb hby at_129) rfl rfl rfl ?_
    refine g_iconst X_123x2 hx 132 (1 : Int32) (hb hby at_131) rfl rfl ?_
    refine g_baload X_123x2 hx hZ rfl F_123x2_0 (k := 1) rfl (.int (q3.toInt8.toInt32)) rfl 133 (hb hby at_132) rfl ?_
    refine g_iload_n X_123x2 hx 134 q3 (hb hby at_133) rfl rfl ?_
    refine g_i2b X_123x2 hx 135 (hb hby at_134) rfl ?_
    refine g_icmpY X_123x2 hx 140 (hb hby at_135) (XT.ii_eq_t rfl) (by decide) (by decide) ?_
    refine g_iload X_123x2 hx 142 (4 : Int32) (hb hby at_140) rfl rfl ?_
    refine g_iconst X_123x2 hx 143 (2 : Int32) (hb hby at_142) rfl rfl ?_
    refine g_icmpN X_123x2 hx 146 (hb hby at_143) (XT.ii_le_f (by decide)) rfl ?_
    refine g_aload X_123x2 hx 148 (.ref a_64x4) (hb hby at_146) rfl rfl rfl ?_
    refine g_iconst X_123x2 hx 149 (2 : Int32) (hb hby at_148) rfl rfl ?_
    obtain ⟨_, T_149x1, L_149x1, X_149x1, ⟨rfl, rfl, e_149x1⟩, st_149x1⟩ := g_callV X_123x2 hx hZ  (C := "java/lang/String") (own := "com/example/marble_cache/marblecache/command/WordsLowerCasePinLaw") (index := 9) (y := (⟨"java/lang/String", "charAt", "(I)C"⟩ : MethodName)) (z := (⟨"java/lang/String", "charAt", "(I)C"⟩ : MethodName)) (a := a_64x4) (as' := [(.int (2 : Int32))]) hown (hw _ (List.mem_of_getElem? (i := 51) rfl)) (hw _ (List.mem_of_getElem? (i := 52) rfl)) (hw _ (List.mem_of_getElem? (i := 54) rfl)) (hw _ (List.mem_of_getElem? (i := 54) rfl)) (hw _ (List.mem_of_getElem? (i := 53) rfl)) (hw _ (List.mem_of_getElem? (i := 9) rfl)) (hw _ (List.mem_of_getElem? (i := 55) rfl)) (by decide) rfl str_123x2.1 (rm_cat l Z a0 hw a_64x4 (2 : Int32) T_123x2.heap h0.size O_123x2 cs hcs SC fv hfv SF _ [(.int ((lcb (q2.toInt8.toInt32)).toInt8.toInt32)), (.int ((lcb (q3.toInt8.toInt32)).toInt8.toInt32)), (.int ((lcb (q4.toInt8.toInt32)).toInt8.toInt32)), (.int ((lcb (q5.toInt8.toInt32)).toInt8.toInt32))] (4 : Int32) rfl (by decide) (by decide) 2 rfl ((lcb (q4.toInt8.toInt32)).toInt8.toInt32) rfl (lcb q4) (by rw [own_char (lcb_rng _).1 (lcb_rng _).2, lcb_b]) str_123x2) pd_cat rfl 0 (by decide) (by decide) (by decide) (by decide) (pc := 149) (Ls := #[.val (.int q1), .val (.int q2), .val (.int q3), .val (.int q4), .val (.int q5), .val (.int (4 : Int32)), .val (.ref a_10x4), .val (.ref a_64x4)]) (rest := []) (st := [(.int (2 : Int32)), (.ref a_64x4)]) (by rw [hml]; rfl) rfl (Nat.le_of_eq rfl) (hb hby at_149)
    refine st_149x1 ?_
    rw [List.append_nil] at X_149x1
    show Go p e below _ (T_149x1.setTop (mkF m 152 #[.val (.int q1), .val (.int q2), .val (.int q3), .val (.int q4), .val (.int q5), .val (.int (4 : Int32)), .val (.ref a_10x4), .val (.ref a_64x4)] [(.int (lcb q4))]))
    refine g_iload_n X_149x1 hx 153 q4 (hb hby at_152) rfl rfl ?_
    obtain ⟨_, T_153x1, L_153x1, X_153x1, hS, hZ, hown, hW_153x1, ⟨rfl, rfl, E_153x1, hI⟩, st_153x1⟩ := g_callSW X_149x1 hx hZ hS (Nat.le_refl _)  (own := "com/example/marble_cache/marblecache/command/WordsLowerCasePinLaw") (index := 26) (y := (⟨"com/example/marble_cache/marblecache/command/WordsLowerCasePinLaw", "expected", "(I)C"⟩ : MethodName)) (as' := [(.int q4)]) hown (hw _ (List.mem_of_getElem? (i := 73) rfl)) (hw _ (List.mem_of_getElem? (i := 74) rfl)) (hw _ (List.mem_of_getElem? (i := 75) rfl)) (hw _ (List.mem_of_getElem? (i := 76) rfl)) (by decide) e_149x1 (fun vm₁ hw₁ => lc_warm hI hw₁) (rm_exp l Z a0 hw q4 T_123x2.heap h0.size O_123x2 cs hcs SC fv hfv SF [] (by simp) hh1 hcw) pd_exp rfl 1 (by decide) (by decide) (by decide) (by decide) (pc := 153) (Ls := #[.val (.int q1), .val (.int q2), .val (.int q3), .val (.int q4), .val (.int q5), .val (.int (4 : Int32)), .val (.ref a_10x4), .val (.ref a_64x4)]) (rest := [(.int (lcb q4))]) (st := [(.int q4), (.int (lcb q4))]) (by rw [hml]; rfl) rfl (Nat.le_of_eq rfl) (hb hby at_153)
    refine st_153x1 ?_
    rw [List.append_nil] at X_153x1
    have F_153x1_0 : Arl Z T_153x1.heap a_10x4 .byte [(.int (q2.toInt8.toInt32)), (.int (q3.toInt8.toInt32)), (.int (q4.toInt8.toInt32)), (.int (q5.toInt8.toInt32))] := F_123x2_0.ext E_153x1
    have F_153x1_1 : Exa Z T_153x1.heap a_64x4 "java/lang/String" := str_123x2.1.ext E_153x1
    have Z_153x1 : h0.size ≤ T_153x1.heap.size := Nat.le_trans Z_123x2 E_153x1.1
    have O_153x1 := Old.ext O_123x2 E_153x1
    have str_153x1 := Stl.ext str_123x2 E_153x1
    show Go p e below _ (T_153x1.setTop (mkF m 156 #[.val (.int q1), .val (.int q2), .val (.int q3), .val (.int q4), .val (.int q5), .val (.int (4 : Int32)), .val (.ref a_10x4), .val (.ref a_64x4)] [(.int (lcb q4)), (.int (lcb q4))]))
    refine g_icmpN X_153x1 hx 159 (hb hby at_156) (XT.ii_ne_f rfl) rfl ?_
    refine g_aload X_153x1 hx 161 (.ref a_10x4) (hb hby at_159) rfl rfl rfl ?_
    refine g_iconst X_153x1 hx 162 (2 : Int32) (hb hby at_161) rfl rfl ?_
    refine g_baload X_153x1 hx hZ rfl F_153x1_0 (k := 2) rfl (.int (q4.toInt8.toInt32)) rfl 163 (hb hby at_162) rfl ?_
    refine g_iload_n X_153x1 hx 164 q4 (hb hby at_163) rfl rfl ?_
    refine g_i2b X_153x1 hx 165 (hb hby at_164) rfl ?_
    refine g_icmpY X_153x1 hx 170 (hb hby at_165) (XT.ii_eq_t rfl) (by decide) (by decide) ?_
    refine g_iload X_153x1 hx 172 (4 : Int32) (hb hby at_170) rfl rfl ?_
    refine g_iconst X_153x1 hx 173 (3 : Int32) (hb hby at_172) rfl rfl ?_
    refine g_icmpN X_153x1 hx 176 (hb hby at_173) (XT.ii_le_f (by decide)) rfl ?_
    refine g_aload X_153x1 hx 178 (.ref a_64x4) (hb hby at_176) rfl rfl rfl ?_
    refine g_iconst X_153x1 hx 179 (3 : Int32) (hb hby at_178) rfl rfl ?_
    obtain ⟨_, T_179, L_179, X_179, ⟨rfl, rfl, e_179⟩, st_179⟩ := g_callV X_153x1 hx hZ  (C := "java/lang/String") (own := "com/example/marble_cache/marblecache/command/WordsLowerCasePinLaw") (index := 9) (y := (⟨"java/lang/String", "charAt", "(I)C"⟩ : MethodName)) (z := (⟨"java/lang/String", "charAt", "(I)C"⟩ : MethodName)) (a := a_64x4) (as' := [(.int (3 : Int32))]) hown (hw _ (List.mem_of_getElem? (i := 51) rfl)) (hw _ (List.mem_of_getElem? (i := 52) rfl)) (hw _ (List.mem_of_getElem? (i := 54) rfl)) (hw _ (List.mem_of_getElem? (i := 54) rfl)) (hw _ (List.mem_of_getElem? (i := 53) rfl)) (hw _ (List.mem_of_getElem? (i := 9) rfl)) (hw _ (List.mem_of_getElem? (i := 55) rfl)) (by decide) rfl str_153x1.1 (rm_cat l Z a0 hw a_64x4 (3 : Int32) T_153x1.heap h0.size O_153x1 cs hcs SC fv hfv SF _ [(.int ((lcb (q2.toInt8.toInt32)).toInt8.toInt32)), (.int ((lcb (q3.toInt8.toInt32)).toInt8.toInt32)), (.int ((lcb (q4.toInt8.toInt32)).toInt8.toInt32)), (.int ((lcb (q5.toInt8.toInt32)).toInt8.toInt32))] (4 : Int32) rfl (by decide) (by decide) 3 rfl ((lcb (q5.toInt8.toInt32)).toInt8.toInt32) rfl (lcb q5) (by rw [own_char (lcb_rng _).1 (lcb_rng _).2, lcb_b]) str_153x1) pd_cat rfl 0 (by decide) (by decide) (by decide) (by decide) (pc := 179) (Ls := #[.val (.int q1), .val (.int q2), .val (.int q3), .val (.int q4), .val (.int q5), .val (.int (4 : Int32)), .val (.ref a_10x4), .val (.ref a_64x4)]) (rest := []) (st := [(.int (3 : Int32)), (.ref a_64x4)]) (by rw [hml]; rfl) rfl (Nat.le_of_eq rfl) (hb hby at_179)
    refine st_179 ?_
    rw [List.append_nil] at X_179
    show Go p e below _ (T_179.setTop (mkF m 182 #[.val (.int q1), .val (.int q2), .val (.int q3), .val (.int q4), .val (.int q5), .val (.int (4 : Int32)), .val (.ref a_10x4), .val (.ref a_64x4)] [(.int (lcb q5))]))
    refine g_iload X_179 hx 184 q5 (hb hby at_182) rfl rfl ?_
    obtain ⟨_, T_184, L_184, X_184, hS, hZ, hown, hW_184, ⟨rfl, rfl, E_184, hI⟩, st_184⟩ := g_callSW X_179 hx hZ hS (Nat.le_refl _)  (own := "com/example/marble_cache/marblecache/command/WordsLowerCasePinLaw") (index := 26) (y := (⟨"com/example/marble_cache/marblecache/command/WordsLowerCasePinLaw", "expected", "(I)C"⟩ : MethodName)) (as' := [(.int q5)]) hown (hw _ (List.mem_of_getElem? (i := 73) rfl)) (hw _ (List.mem_of_getElem? (i := 74) rfl)) (hw _ (List.mem_of_getElem? (i := 75) rfl)) (hw _ (List.mem_of_getElem? (i := 76) rfl)) (by decide) e_179 (fun vm₁ hw₁ => lc_warm hI hw₁) (rm_exp l Z a0 hw q5 T_153x1.heap h0.size O_153x1 cs hcs SC fv hfv SF [] (by simp) hh1 hcw) pd_exp rfl 1 (by decide) (by decide) (by decide) (by decide) (pc := 184) (Ls := #[.val (.int q1), .val (.int q2), .val (.int q3), .val (.int q4), .val (.int q5), .val (.int (4 : Int32)), .val (.ref a_10x4), .val (.ref a_64x4)]) (rest := [(.int (lcb q5))]) (st := [(.int q5), (.int (lcb q5))]) (by rw [hml]; rfl) rfl (Nat.le_of_eq rfl) (hb hby at_184)
    refine st_184 ?_
    rw [List.append_nil] at X_184
    have F_184_0 : Arl Z T_184.heap a_10x4 .byte [(.int (q2.toInt8.toInt32)), (.int (q3.toInt8.toInt32)), (.int (q4.toInt8.toInt32)), (.int (q5.toInt8.toInt32))] := F_153x1_0.ext E_184
    have F_184_1 : Exa Z T_184.heap a_64x4 "java/lang/String" := str_153x1.1.ext E_184
    have Z_184 : h0.size ≤ T_184.heap.size := Nat.le_trans Z_153x1 E_184.1
    have O_184 := Old.ext O_153x1 E_184
    have str_184 := Stl.ext str_153x1 E_184
    show Go p e below _ (T_184.setTop (mkF m 187 #[.val (.int q1), .val (.int q2), .val (.int q3), .val (.int q4), .val (.int q5), .val (.int (4 : Int32)), .val (.ref a_10x4), .val (.ref a_64x4)] [(.int (lcb q5)), (.int (lcb q5))]))
    refine g_icmpN X_184 hx 190 (hb hby at_187) (XT.ii_ne_f rfl) rfl ?_
    refine g_aload X_184 hx 192 (.ref a_10x4) (hb hby at_190) rfl rfl rfl ?_
    refine g_iconst X_184 hx 193 (3 : Int32) (hb hby at_192) rfl rfl ?_
    refine g_baload X_184 hx hZ rfl F_184_0 (k := 3) rfl (.int (q5.toInt8.toInt32)) rfl 194 (hb hby at_193) rfl ?_
    refine g_iload X_184 hx 196 q5 (hb hby at_194) rfl rfl ?_
    refine g_i2b X_184 hx 197 (hb hby at_196) rfl ?_
    refine g_icmpY X_184 hx 202 (hb hby at_197) (XT.ii_eq_t rfl) (by decide) (by decide) ?_
    refine g_iconst X_184 hx 203 (1 : Int32) (hb hby at_202) rfl rfl ?_
    exact GoW.ret X_184 hS (Nat.le_refl _) hx hlk Bd.returns (hb hby at_203) rfl (Or.inl ⟨rfl, by decide, _, rfl⟩) (by decide) (by decide) ⟨rfl, N_64x4⟩
set_option maxRecDepth 65536 in
set_option maxHeartbeats 40000000 in
theorem comes_1 {Post : Tables → Env → Array Value → State → Outcome → State → Prop} (hpost : ∀ tb e args s v u, (limb_1_1.after args s (.returned v) u = true ∧ limb_1_2.after args s (.returned v) u = true ∧ True) → ReturnedEndW s (.returned v) u (Jvm.fieldLocs frame_1_writes args s ++ Jvm.arrayLocs frame_1_arrays args s ++ Jvm.staticLocs frame_1_statics s) 24 2176 → Post tb e args s (.returned v) u) :
    ArmFor flags0 classFile x code maxLocals ret World_1 tables_1 room_1 Calls_1 rest_1 Pre_1 Post := by
  intro l hfl _ _ p e ha hc hk s m args below hf hA hF happ hP
  obtain ⟨hcalls, hrest, hpre⟩ := hP
  obtain ⟨-, -, -, hnamed, -, -, -, hat⟩ := (Spec.applies_iff hf).mp happ
  obtain ⟨hg, hn⟩ := and_e (Cond.before_iff.mp (show (Jvm.Cond.and given_1 narrow_1).before args s = true from hpre))
  obtain ⟨h1, g_0⟩ := and_e hg
  obtain ⟨k0, g_1⟩ := and_e g_0
  obtain ⟨k1, g_2⟩ := and_e g_1
  obtain ⟨k2, g_3⟩ := and_e g_2
  obtain ⟨k3, g_4⟩ := and_e g_3
  obtain ⟨w0, w1, w2, w3, w4, rfl⟩ : ∃ w0 w1 w2 w3 w4 : Value, args = #[w0, w1, w2, w3, w4] := by
    have hs : args.size = 5 := by simpa [Cond.value, given_1] using h1
    obtain ⟨L⟩ := args
    match L, hs with
    | [w0, w1, w2, w3, w4], _ => exact ⟨w0, w1, w2, w3, w4, rfl⟩
  have hw := fun d (hd : d ∈ tables_1) => atoms_spec (ws := Jvm.Cond.code x code maxLocals ret :: tables_1) hat d (List.mem_cons_of_mem _ hd)
  obtain ⟨i0, e_0⟩ := is_v k0
  obtain rfl : w0 = (.int i0) := Option.some.inj e_0
  obtain ⟨i1, e_1⟩ := is_v k1
  obtain rfl : w1 = (.int i1) := Option.some.inj e_1
  obtain ⟨i2, e_2⟩ := is_v k2
  obtain rfl : w2 = (.int i2) := Option.some.inj e_2
  obtain ⟨i3, e_3⟩ := is_v k3
  obtain rfl : w3 = (.int i3) := Option.some.inj e_3
  obtain ⟨i4, e_4⟩ := is_v g_4
  obtain rfl : w4 = (.int i4) := Option.some.inj e_4
  obtain ⟨hsets, hown0⟩ := atoms_of _ (rest_1_c_eq ▸ (show rest_1_c.before _ s = true from hrest))
  have n5 := not_v (Cond.before_iff.mp (hsets _ (List.mem_of_getElem? (i := 2) rfl)))
  obtain ⟨cs, e10⟩ := is_v (Cond.before_iff.mp (hsets _ (List.mem_of_getElem? (i := 1) rfl)))
  have SC : Sta s s.heap "java/lang/String" "COMPACT_STRINGS" "Z" (.int cs) := Sta.start e10 (Or.inl (hsets _ (List.mem_of_getElem? (i := 0) rfl)))
  obtain ⟨fv, e14, hfv⟩ := isR_v (Cond.before_iff.mp (hsets _ (List.mem_of_getElem? (i := 8) rfl)))
  have SF := Sta.start e14 (Or.inl (hsets _ (List.mem_of_getElem? (i := 7) rfl)))
  have hcs : ¬ (cs = (0 : Int32)) := gotF (Cond.eq_ints e10 (Term.int_eval (0))) n5
  have hh1 := hcalls.1 _ (List.mem_of_getElem? (i := 0) rfl)
  have hh0 := hcalls.1 _ (List.mem_of_getElem? (i := 1) rfl)
  obtain ⟨n, o, h1, h2, h3, _, L, rfl, ⟨rfl, N⟩, hq⟩ := rm_law l s _ hw tables_1 i0 i1 i2 i3 i4 s.heap (Old.start s) cs hcs SC fv hfv SF hh1 hh0 (hsets _ (List.mem_of_getElem? (i := 2) rfl)) p e ha hc hk s m _ below hf ((Spec.applies_iff_loose hf).mp happ).1 ⟨rfl, State.Warmed39.refl s, rfl, IB.start⟩ trivial
  refine ⟨n, _, h1, h2, h3, hpost _ _ _ _ _ _ ⟨Cond.after_iff.mpr rfl, Cond.after_iff.mpr (eq_i res_at (Term.int_eval (1)) rfl), trivial⟩ ⟨hq.1, hq.2.1, hq.2.2.1, (hq.2.2.2.sift fun y hy => Or.inr (N y hy)).mono (by decide) (by decide)⟩⟩
theorem main_1_1 : Claimed_1_1 := comes_1 fun _ _ _ _ _ _ h hF => ⟨h.1, hF⟩
theorem main_1_2 : Claimed_1_2 := comes_1 fun _ _ _ _ _ _ h hF => ⟨h.2.1, hF⟩
end Jvm.Pilot.@@N@@
namespace Jvm.Pilot.@@N@@
open Jvm Jvm.ClassFile Sem Op Lib Jvm.Free Jvm.Stand Jvm.Pilot.@@N@@.Jvm.D
/-! MADE BY PROGRAM (witnessworld.py) out of the Statement's table words and the real class files: 20 classes; the members and pool entries that the words name. The judged class is class 1, her method 2. -/
namespace start1
open Jvm.ClassFile
def u (s : String) : CpInfo := .utf8 (stringToUtf16 s)
/-- a pool by its gaps: so many unusable entries, then the entry; so many at the end -/
def gap : Nat → List CpInfo → List CpInfo
  | 0, r => r
  | n + 1, r => .unusable :: gap n r
def poolList (es : List (Nat × CpInfo)) (last : Nat) : List CpInfo := es.foldr (fun e r => gap e.1 (e.2 :: r)) (gap last [])
def pool (es : List (Nat × CpInfo)) (last : Nat) : Array CpInfo := ⟨poolList es last⟩
def fileOf (pool : Array CpInfo) (this : Nat) (attrs : Array Attribute := #[]) (ms : Array MethodInfo := #[]) (fl : Nat := 33) (sup : Nat := 0) (ifs : Array Nat := #[]) (fds : Array FieldInfo := #[]) : ClassFile where
  minorVersion := 0
  majorVersion := 65
  constantPool := pool
  accessFlags := fl
  thisClass := this
  superClass := sup
  interfaces := ifs
  fields := fds
  methods := ms
  attributes := attrs
def plain (name : String) (sup : Option ClassId) : Class where
  name := name
  kind := .ordinary
  loader := none
  accessFlags := 33
  super := sup
  interfaces := #[]
  cf := none
  fields := #[]
  methods := #[]
  instanceTypes := #[]
  staticTypes := #[]
  resolved := #[]
  callSites := []
  init := .initialized
  statics := none
  mirror := none

def pool0 : Array CpInfo := pool [(5, u "<init>"), (0, u "()V"), (1, .class_ 10), (1, u "java/lang/Object")] 113

def k0c0 : Code := { maxStack := 0, maxLocals := 1, code := object_method_1_code, exceptionTable := #[], attributes := #[] }
def k0m0 : Method := { name := "<init>", desc := "()V", sig := { parameters := [], returnType := none }, accessFlags := 1, code := some k0c0 }
/-- java/lang/Object -/
def k0 : Class := { plain "java/lang/Object" none with
  accessFlags := 33
  interfaces := #[]
  cf := some (fileOf pool0 8 #[] #[{ accessFlags := 1, nameIndex := 5, descriptorIndex := 6, attributes := #[] }] 33 0 #[] #[])
  fields := #[]
  methods := #[k0m0]
  instanceTypes := #[]
  staticTypes := #[]
  resolved := Array.replicate 124 none
  statics := none }

def pool1 : Array CpInfo := pool [(2, .class_ 4), (1, u "java/lang/Object"), (0, u "<init>"), (0, u "()V"), (0, .string 8), (0, u "abcdefghijklmnopqrstuvwxyz"), (0, .methodref 10 11), (0, .class_ 12), (0, .nameAndType 13 14), (0, u "java/lang/String"), (0, u "charAt"), (0, u "(I)C"), (0, .integer 2147483647), (0, .methodref 17 18), (0, .class_ 19), (0, .nameAndType 20 21), (0, u "com/example/marble_cache/marblecache/command/Words"), (0, u "lowerCase"), (0, u "([B)Ljava/lang/String;"), (0, .methodref 10 23), (0, .nameAndType 24 25), (0, u "length"), (0, u "()I"), (0, .methodref 27 28), (0, .class_ 29), (0, .nameAndType 30 14), (0, u "com/example/marble_cache/marblecache/command/WordsLowerCasePinLaw"), (0, u "expected"), (3, u "law"), (0, u "(IIIII)Z")] 4

def k1m0 : Method := { name := "<init>", desc := "()V", sig := { parameters := [], returnType := none }, accessFlags := 2, code := none }
def k1c1 : Code := { maxStack := 3, maxLocals := 2, code := method_2_code, exceptionTable := #[], attributes := #[] }
def k1m1 : Method := { name := "expected", desc := "(I)C", sig := { parameters := [.int], returnType := some .char }, accessFlags := 10, code := some k1c1 }
def k1c2 : Code := { maxStack := 3, maxLocals := 8, code := code, exceptionTable := #[], attributes := #[] }
def k1m2 : Method := { name := "law", desc := "(IIIII)Z", sig := { parameters := [.int, .int, .int, .int, .int], returnType := some .boolean }, accessFlags := 9, code := some k1c2 }
/-- com/example/marble_cache/marblecache/command/WordsLowerCasePinLaw -/
def k1 : Class := { plain "com/example/marble_cache/marblecache/command/WordsLowerCasePinLaw" (some 0) with
  accessFlags := 49
  interfaces := #[]
  cf := some (fileOf pool1 27 #[] #[{ accessFlags := 2, nameIndex := 5, descriptorIndex := 6, attributes := #[] }, { accessFlags := 10, nameIndex := 30, descriptorIndex := 14, attributes := #[] }, { accessFlags := 9, nameIndex := 34, descriptorIndex := 35, attributes := #[] }] 49 2 #[] #[])
  fields := #[]
  methods := #[k1m0, k1m1, k1m2]
  instanceTypes := #[]
  staticTypes := #[]
  resolved := Array.replicate 40 none
  statics := none }

def pool2 : Array CpInfo := pool [(2, .class_ 4), (1, u "java/lang/Object"), (0, u "<init>"), (0, u "()V"), (0, .class_ 8), (0, u "com/example/marble_cache/marblecache/command/Words"), (58, u "MAX_TIMEOUT_MILLIS"), (0, u "Ljava/math/BigDecimal;"), (19, .class_ 90), (1, u "java/lang/String"), (22, .methodref 7 114), (0, .nameAndType 115 116), (0, u "lowerCase"), (0, u "(B)C"), (20, .methodref 88 138), (0, .nameAndType 5 139), (0, u "([C)V"), (6, u "NOT_AN_INTEGER"), (0, u "Ljava/lang/String;"), (1, u "NEGATIVE_COUNT"), (2, u "TIMEOUT_OUT_OF_RANGE"), (0, u "NOT_A_TIMEOUT"), (0, u "NEGATIVE_TIMEOUT"), (0, u "MAX_INTEGER_LENGTH"), (0, u "I"), (22, u "([B)Ljava/lang/String;")] 5

def k2m0 : Method := { name := "<init>", desc := "()V", sig := { parameters := [], returnType := none }, accessFlags := 2, code := none }
def k2c1 : Code := { maxStack := 4, maxLocals := 3, code := prog_58_method_13_code, exceptionTable := #[], attributes := #[] }
def k2m1 : Method := { name := "lowerCase", desc := "([B)Ljava/lang/String;", sig := { parameters := [(.array .byte)], returnType := some (.object "java/lang/String") }, accessFlags := 8, code := some k2c1 }
def k2c2 : Code := { maxStack := 2, maxLocals := 2, code := prog_58_method_14_code, exceptionTable := #[], attributes := #[] }
def k2m2 : Method := { name := "lowerCase", desc := "(B)C", sig := { parameters := [.byte], returnType := some .char }, accessFlags := 8, code := some k2c2 }
/-- com/example/marble_cache/marblecache/command/Words -/
def k2 : Class := { plain "com/example/marble_cache/marblecache/command/Words" (some 0) with
  accessFlags := 48
  interfaces := #[]
  cf := some (fileOf pool2 7 #[] #[{ accessFlags := 2, nameIndex := 5, descriptorIndex := 6, attributes := #[] }, { accessFlags := 8, nameIndex := 115, descriptorIndex := 179, attributes := #[] }, { accessFlags := 8, nameIndex := 115, descriptorIndex := 116, attributes := #[] }] 48 2 #[] #[{ accessFlags := 24, nameIndex := 146, descriptorIndex := 147, attributes := #[] }, { accessFlags := 24, nameIndex := 149, descriptorIndex := 147, attributes := #[] }, { accessFlags := 24, nameIndex := 152, descriptorIndex := 147, attributes := #[] }, { accessFlags := 26, nameIndex := 153, descriptorIndex := 147, attributes := #[] }, { accessFlags := 26, nameIndex := 154, descriptorIndex := 147, attributes := #[] }, { accessFlags := 26, nameIndex := 67, descriptorIndex := 68, attributes := #[] }, { accessFlags := 26, nameIndex := 155, descriptorIndex := 156, attributes := #[] }])
  fields := #[{ name := "NOT_AN_INTEGER", type := (.object "java/lang/String"), accessFlags := 24, slot := 0, constantValue := 0 }, { name := "NEGATIVE_COUNT", type := (.object "java/lang/String"), accessFlags := 24, slot := 1, constantValue := 0 }, { name := "TIMEOUT_OUT_OF_RANGE", type := (.object "java/lang/String"), accessFlags := 24, slot := 2, constantValue := 0 }, { name := "NOT_A_TIMEOUT", type := (.object "java/lang/String"), accessFlags := 26, slot := 3, constantValue := 0 }, { name := "NEGATIVE_TIMEOUT", type := (.object "java/lang/String"), accessFlags := 26, slot := 4, constantValue := 0 }, { name := "MAX_TIMEOUT_MILLIS", type := (.object "java/math/BigDecimal"), accessFlags := 26, slot := 5, constantValue := 0 }, { name := "MAX_INTEGER_LENGTH", type := .int, accessFlags := 26, slot := 6, constantValue := 0 }]
  methods := #[k2m0, k2m1, k2m2]
  instanceTypes := #[]
  staticTypes := #[(.object "java/lang/String"), (.object "java/lang/String"), (.object "java/lang/String"), (.object "java/lang/String"), (.object "java/lang/String"), (.object "java/math/BigDecimal"), .int]
  resolved := Array.replicate 185 none
  statics := none }

def pool3 : Array CpInfo := pool [(1, .class_ 2), (0, u "java/io/Serializable"), (0, .class_ 4), (0, u "java/lang/Object")] 2

/-- java/io/Serializable -/
def k3 : Class := { plain "java/io/Serializable" (some 0) with
  accessFlags := 1537
  interfaces := #[]
  cf := some (fileOf pool3 1 #[] #[] 1537 3 #[] #[])
  fields := #[]
  methods := #[]
  instanceTypes := #[]
  staticTypes := #[]
  resolved := Array.replicate 7 none
  statics := none }

def pool4 : Array CpInfo := pool [(1, .class_ 2), (0, u "java/lang/Comparable"), (0, .class_ 4), (0, u "java/lang/Object")] 7

/-- java/lang/Comparable -/
def k4 : Class := { plain "java/lang/Comparable" (some 0) with
  accessFlags := 1537
  interfaces := #[]
  cf := some (fileOf pool4 1 #[] #[] 1537 3 #[] #[])
  fields := #[]
  methods := #[]
  instanceTypes := #[]
  staticTypes := #[]
  resolved := Array.replicate 12 none
  statics := none }

def pool5 : Array CpInfo := pool [(2, .class_ 4), (1, u "java/lang/CharSequence"), (42, .class_ 48), (0, u "java/lang/CharSequence$1CodePointIterator"), (10, .class_ 60), (0, u "java/lang/CharSequence$1CharIterator"), (5, .class_ 67), (0, u "java/lang/Object")] 63

/-- java/lang/CharSequence -/
def k5 : Class := { plain "java/lang/CharSequence" (some 0) with
  accessFlags := 1537
  interfaces := #[]
  cf := some (fileOf pool5 2 #[.nestMembers #[47, 59]] #[] 1537 66 #[] #[])
  fields := #[]
  methods := #[]
  instanceTypes := #[]
  staticTypes := #[]
  resolved := Array.replicate 131 none
  statics := none }

def pool6 : Array CpInfo := pool [(1, .class_ 2), (0, u "java/lang/constant/Constable"), (0, .class_ 4), (0, u "java/lang/Object")] 6

/-- java/lang/constant/Constable -/
def k6 : Class := { plain "java/lang/constant/Constable" (some 0) with
  accessFlags := 1537
  interfaces := #[]
  cf := some (fileOf pool6 1 #[] #[] 1537 3 #[] #[])
  fields := #[]
  methods := #[]
  instanceTypes := #[]
  staticTypes := #[]
  resolved := Array.replicate 11 none
  statics := none }

def pool7 : Array CpInfo := pool [(1, .class_ 2), (0, u "java/lang/constant/ConstantDesc"), (0, .class_ 4), (0, u "java/lang/Object")] 32

/-- java/lang/constant/ConstantDesc -/
def k7 : Class := { plain "java/lang/constant/ConstantDesc" (some 0) with
  accessFlags := 1537
  interfaces := #[]
  cf := some (fileOf pool7 1 #[] #[] 1537 3 #[] #[])
  fields := #[]
  methods := #[]
  instanceTypes := #[]
  staticTypes := #[]
  resolved := Array.replicate 37 none
  statics := none }

def pool8 : Array CpInfo := pool [(1, .methodref 2 3), (0, .class_ 4), (0, .nameAndType 5 6), (0, u "java/lang/Object"), (0, u "<init>"), (0, u "()V"), (0, .string 8), (0, u ""), (0, .fieldref 10 11), (0, .class_ 12), (0, .nameAndType 13 14), (0, u "java/lang/String"), (0, u "value"), (0, u "[B"), (0, .fieldref 10 16), (0, .nameAndType 17 18), (0, u "coder"), (0, u "B"), (2, u "hash"), (0, u "I"), (2, u "hashIsZero"), (0, u "Z"), (0, .methodref 10 28), (0, .nameAndType 5 29), (0, u "([CIILjava/lang/Void;)V"), (8, .fieldref 10 39), (0, .nameAndType 40 26), (0, u "COMPACT_STRINGS"), (1, .class_ 44), (1, u "java/lang/StringUTF16"), (0, u "compress"), (1, .methodref 42 48), (0, .nameAndType 49 50), (0, u "coderFromArrayLen"), (0, u "([BI)B"), (56, .class_ 109), (1, u "java/lang/StringLatin1"), (32, u "()Z"), (34, .methodref 42 178), (0, .nameAndType 45 179), (0, u "([CII)[B"), (154, u "()I"), (0, .methodref 10 336), (0, .nameAndType 17 337), (0, u "()B"), (25, u "([BI)C"), (27, u "(II)V"), (35, u "(I)C"), (64, .methodref 10 493), (0, .nameAndType 494 142), (0, u "isLatin1"), (0, .methodref 107 496), (0, .nameAndType 497 363), (0, u "charAt"), (3, u "checkIndex"), (5, u "length"), (67, .class_ 576), (0, u "java/lang/CharSequence"), (22, u "CASE_INSENSITIVE_ORDER"), (0, u "Ljava/util/Comparator;"), (409, u "([C)V"), (42, .fieldref 1054 1055), (0, .class_ 1056), (0, .nameAndType 1057 1058), (0, u "jdk/internal/util/Preconditions"), (0, u "SIOOBE_FORMATTER"), (0, u "Ljava/util/function/BiFunction;"), (0, .methodref 1054 1060), (0, .nameAndType 501 1061), (0, u "(IILjava/util/function/BiFunction;)I"), (39, u "serialPersistentFields"), (0, u "[Ljava/io/ObjectStreamField;"), (0, .class_ 1104), (0, u "java/lang/String$CaseInsensitiveComparator"), (1, .class_ 1107), (0, u "java/io/Serializable"), (0, .class_ 1109), (0, u "java/lang/Comparable"), (0, .class_ 1111), (0, u "java/lang/constant/Constable"), (0, .class_ 1113), (0, u "java/lang/constant/ConstantDesc"), (2, u "serialVersionUID"), (0, u "J"), (3, u "REPL"), (0, u "C"), (2, u "LATIN1"), (1, u "UTF16")] 323

def k8m0 : Method := { name := "<init>", desc := "()V", sig := { parameters := [], returnType := none }, accessFlags := 1, code := none }
def k8c1 : Code := { maxStack := 5, maxLocals := 2, code := jdk_42_method_3_code, exceptionTable := #[], attributes := #[] }
def k8m1 : Method := { name := "<init>", desc := "([C)V", sig := { parameters := [(.array .char)], returnType := none }, accessFlags := 1, code := some k8c1 }
def k8c2 : Code := { maxStack := 2, maxLocals := 1, code := jdk_42_method_54_code, exceptionTable := #[], attributes := #[] }
def k8m2 : Method := { name := "length", desc := "()I", sig := { parameters := [], returnType := some .int }, accessFlags := 1, code := some k8c2 }
def k8c3 : Code := { maxStack := 2, maxLocals := 2, code := jdk_42_method_56_code, exceptionTable := #[], attributes := #[] }
def k8m3 : Method := { name := "charAt", desc := "(I)C", sig := { parameters := [.int], returnType := some .char }, accessFlags := 1, code := some k8c3 }
def k8c4 : Code := { maxStack := 4, maxLocals := 6, code := jdk_42_method_149_code, exceptionTable := #[], attributes := #[] }
def k8m4 : Method := { name := "<init>", desc := "([CIILjava/lang/Void;)V", sig := { parameters := [(.array .char), .int, .int, (.object "java/lang/Void")], returnType := none }, accessFlags := 2, code := some k8c4 }
def k8c5 : Code := { maxStack := 1, maxLocals := 1, code := jdk_42_method_152_code, exceptionTable := #[], attributes := #[] }
def k8m5 : Method := { name := "coder", desc := "()B", sig := { parameters := [], returnType := some .byte }, accessFlags := 0, code := some k8c5 }
def k8c6 : Code := { maxStack := 1, maxLocals := 1, code := jdk_42_method_154_code, exceptionTable := #[], attributes := #[] }
def k8m6 : Method := { name := "isLatin1", desc := "()Z", sig := { parameters := [], returnType := some .boolean }, accessFlags := 0, code := some k8c6 }
def k8c7 : Code := { maxStack := 3, maxLocals := 2, code := jdk_42_method_155_code, exceptionTable := #[], attributes := #[] }
def k8m7 : Method := { name := "checkIndex", desc := "(II)V", sig := { parameters := [.int, .int], returnType := none }, accessFlags := 8, code := some k8c7 }
/-- java/lang/String -/
def k8 : Class := { plain "java/lang/String" (some 0) with
  accessFlags := 49
  interfaces := #[3, 4, 5, 6, 7]
  cf := some (fileOf pool8 10 #[.nestMembers #[1103]] #[{ accessFlags := 1, nameIndex := 5, descriptorIndex := 6, attributes := #[] }, { accessFlags := 1, nameIndex := 5, descriptorIndex := 1010, attributes := #[] }, { accessFlags := 1, nameIndex := 507, descriptorIndex := 334, attributes := #[] }, { accessFlags := 1, nameIndex := 497, descriptorIndex := 427, attributes := #[] }, { accessFlags := 2, nameIndex := 5, descriptorIndex := 29, attributes := #[] }, { accessFlags := 0, nameIndex := 17, descriptorIndex := 337, attributes := #[] }, { accessFlags := 0, nameIndex := 494, descriptorIndex := 142, attributes := #[] }, { accessFlags := 8, nameIndex := 501, descriptorIndex := 391, attributes := #[] }] 49 2 #[1106, 1108, 575, 1110, 1112] #[{ accessFlags := 18, nameIndex := 13, descriptorIndex := 14, attributes := #[] }, { accessFlags := 18, nameIndex := 17, descriptorIndex := 18, attributes := #[] }, { accessFlags := 2, nameIndex := 21, descriptorIndex := 22, attributes := #[] }, { accessFlags := 2, nameIndex := 25, descriptorIndex := 26, attributes := #[] }, { accessFlags := 26, nameIndex := 1116, descriptorIndex := 1117, attributes := #[] }, { accessFlags := 24, nameIndex := 40, descriptorIndex := 26, attributes := #[] }, { accessFlags := 26, nameIndex := 1101, descriptorIndex := 1102, attributes := #[] }, { accessFlags := 26, nameIndex := 1121, descriptorIndex := 1122, attributes := #[] }, { accessFlags := 25, nameIndex := 599, descriptorIndex := 600, attributes := #[] }, { accessFlags := 24, nameIndex := 1125, descriptorIndex := 18, attributes := #[] }, { accessFlags := 24, nameIndex := 1127, descriptorIndex := 18, attributes := #[] }])
  fields := #[{ name := "value", type := (.array .byte), accessFlags := 18, slot := 0, constantValue := 0 }, { name := "coder", type := .byte, accessFlags := 18, slot := 1, constantValue := 0 }, { name := "hash", type := .int, accessFlags := 2, slot := 2, constantValue := 0 }, { name := "hashIsZero", type := .boolean, accessFlags := 2, slot := 3, constantValue := 0 }, { name := "serialVersionUID", type := .long, accessFlags := 26, slot := 0, constantValue := 0 }, { name := "COMPACT_STRINGS", type := .boolean, accessFlags := 24, slot := 1, constantValue := 0 }, { name := "serialPersistentFields", type := (.array (.object "java/io/ObjectStreamField")), accessFlags := 26, slot := 2, constantValue := 0 }, { name := "REPL", type := .char, accessFlags := 26, slot := 3, constantValue := 0 }, { name := "CASE_INSENSITIVE_ORDER", type := (.object "java/util/Comparator"), accessFlags := 25, slot := 4, constantValue := 0 }, { name := "LATIN1", type := .byte, accessFlags := 24, slot := 5, constantValue := 0 }, { name := "UTF16", type := .byte, accessFlags := 24, slot := 6, constantValue := 0 }]
  methods := #[k8m0, k8m1, k8m2, k8m3, k8m4, k8m5, k8m6, k8m7]
  instanceTypes := #[(.array .byte), .byte, .int, .boolean]
  staticTypes := #[.long, .boolean, (.array (.object "java/io/ObjectStreamField")), .char, (.object "java/util/Comparator"), .byte, .byte]
  resolved := Array.replicate 1451 none
  statics := some 0 }

def pool9 : Array CpInfo := pool [(6, .class_ 8), (1, u "java/lang/Object"), (0, u "<init>"), (0, u "()V"), (1, .class_ 14), (1, u "java/lang/StringUTF16"), (31, u "$assertionsDisabled"), (0, u "Z"), (13, u "HI_BYTE_SHIFT"), (0, u "I"), (2, u "LO_BYTE_SHIFT"), (49, .methodref 12 116), (0, .nameAndType 117 118), (0, u "compress"), (0, u "([CI[BII)I"), (3, u "([CII)[B"), (138, u "coderFromArrayLen"), (0, u "([BI)B"), (106, .class_ 371), (1, u "java/lang/StringUTF16$LinesSpliterator"), (58, u "MAX_LENGTH"), (196, .class_ 628), (0, u "java/lang/StringUTF16$CodePointsSpliterator"), (0, .class_ 630), (0, u "java/lang/StringUTF16$CharsSpliterator")] 4

def k9m0 : Method := { name := "<init>", desc := "()V", sig := { parameters := [], returnType := none }, accessFlags := 0, code := none }
def k9c1 : Code := { maxStack := 2, maxLocals := 2, code := jdk_52_method_15_code, exceptionTable := #[], attributes := #[] }
def k9m1 : Method := { name := "coderFromArrayLen", desc := "([BI)B", sig := { parameters := [(.array .byte), .int], returnType := some .byte }, accessFlags := 8, code := some k9c1 }
def k9c2 : Code := { maxStack := 5, maxLocals := 6, code := jdk_52_method_16_code, exceptionTable := #[], attributes := #[] }
def k9m2 : Method := { name := "compress", desc := "([CII)[B", sig := { parameters := [(.array .char), .int, .int], returnType := some (.array .byte) }, accessFlags := 9, code := some k9c2 }
def k9c3 : Code := { maxStack := 3, maxLocals := 7, code := jdk_52_method_21_code, exceptionTable := #[], attributes := #[] }
def k9m3 : Method := { name := "compress", desc := "([CI[BII)I", sig := { parameters := [(.array .char), .int, (.array .byte), .int, .int], returnType := some .int }, accessFlags := 9, code := some k9c3 }
/-- java/lang/StringUTF16 -/
def k9 : Class := { plain "java/lang/StringUTF16" (some 0) with
  accessFlags := 48
  interfaces := #[]
  cf := some (fileOf pool9 12 #[.nestMembers #[627, 629, 369]] #[{ accessFlags := 0, nameIndex := 9, descriptorIndex := 10, attributes := #[] }, { accessFlags := 8, nameIndex := 261, descriptorIndex := 262, attributes := #[] }, { accessFlags := 9, nameIndex := 117, descriptorIndex := 122, attributes := #[] }, { accessFlags := 9, nameIndex := 117, descriptorIndex := 118, attributes := #[] }] 48 6 #[] #[{ accessFlags := 26, nameIndex := 61, descriptorIndex := 62, attributes := #[] }, { accessFlags := 26, nameIndex := 65, descriptorIndex := 62, attributes := #[] }, { accessFlags := 24, nameIndex := 430, descriptorIndex := 62, attributes := #[] }, { accessFlags := 4120, nameIndex := 46, descriptorIndex := 47, attributes := #[] }])
  fields := #[{ name := "HI_BYTE_SHIFT", type := .int, accessFlags := 26, slot := 0, constantValue := 0 }, { name := "LO_BYTE_SHIFT", type := .int, accessFlags := 26, slot := 1, constantValue := 0 }, { name := "MAX_LENGTH", type := .int, accessFlags := 24, slot := 2, constantValue := 0 }, { name := "$assertionsDisabled", type := .boolean, accessFlags := 4120, slot := 3, constantValue := 0 }]
  methods := #[k9m0, k9m1, k9m2, k9m3]
  instanceTypes := #[]
  staticTypes := #[.int, .int, .int, .boolean]
  resolved := Array.replicate 635 none
  statics := none }

def pool10 : Array CpInfo := pool [(1, .class_ 2), (0, u "java/lang/String"), (1, .class_ 6), (1, u "java/lang/Object"), (0, u "<init>"), (0, u "()V"), (0, .methodref 1 10), (0, .nameAndType 11 12), (0, u "checkIndex"), (0, u "(II)V"), (1, .class_ 16), (1, u "java/lang/StringLatin1"), (36, u "([BI)C"), (67, u "$assertionsDisabled"), (0, u "Z"), (98, .class_ 223), (1, u "java/lang/StringLatin1$LinesSpliterator"), (28, u "charAt"), (137, .class_ 391), (0, u "java/lang/StringLatin1$CharsSpliterator")] 3

def k10m0 : Method := { name := "<init>", desc := "()V", sig := { parameters := [], returnType := none }, accessFlags := 0, code := none }
def k10c1 : Code := { maxStack := 2, maxLocals := 2, code := jdk_43_method_2_code, exceptionTable := #[], attributes := #[] }
def k10m1 : Method := { name := "charAt", desc := "([BI)C", sig := { parameters := [(.array .byte), .int], returnType := some .char }, accessFlags := 9, code := some k10c1 }
/-- java/lang/StringLatin1 -/
def k10 : Class := { plain "java/lang/StringLatin1" (some 0) with
  accessFlags := 48
  interfaces := #[]
  cf := some (fileOf pool10 14 #[.nestMembers #[390, 221]] #[{ accessFlags := 0, nameIndex := 7, descriptorIndex := 8, attributes := #[] }, { accessFlags := 9, nameIndex := 252, descriptorIndex := 53, attributes := #[] }] 48 4 #[] #[{ accessFlags := 4120, nameIndex := 121, descriptorIndex := 122, attributes := #[] }])
  fields := #[{ name := "$assertionsDisabled", type := .boolean, accessFlags := 4120, slot := 0, constantValue := 0 }]
  methods := #[k10m0, k10m1]
  instanceTypes := #[]
  staticTypes := #[.boolean]
  resolved := Array.replicate 395 none
  statics := none }

def pool11 : Array CpInfo := pool [(2, .class_ 4), (1, u "java/lang/Object"), (0, u "<init>"), (0, u "()V"), (17, .class_ 26), (1, u "jdk/internal/util/Preconditions"), (6, u "checkIndex"), (21, .class_ 56), (0, u "jdk/internal/util/Preconditions$4"), (57, .class_ 115), (0, u "jdk/internal/util/Preconditions$1"), (7, u "SIOOBE_FORMATTER"), (0, u "Ljava/util/function/BiFunction;"), (0, .class_ 126), (0, u "jdk/internal/util/Preconditions$2"), (3, u "AIOOBE_FORMATTER"), (0, .class_ 132), (0, u "jdk/internal/util/Preconditions$3"), (3, u "IOOBE_FORMATTER"), (41, u "(IILjava/util/function/BiFunction;)I")] 15

def k11m0 : Method := { name := "<init>", desc := "()V", sig := { parameters := [], returnType := none }, accessFlags := 1, code := none }
def k11c1 : Code := { maxStack := 3, maxLocals := 3, code := jdk_41_method_11_code, exceptionTable := #[], attributes := #[] }
def k11m1 : Method := { name := "checkIndex", desc := "(IILjava/util/function/BiFunction;)I", sig := { parameters := [.int, .int, (.object "java/util/function/BiFunction")], returnType := some .int }, accessFlags := 9, code := some k11c1 }
/-- jdk/internal/util/Preconditions -/
def k11 : Class := { plain "jdk/internal/util/Preconditions" (some 0) with
  accessFlags := 33
  interfaces := #[]
  cf := some (fileOf pool11 24 #[.nestMembers #[55, 131, 125, 114]] #[{ accessFlags := 1, nameIndex := 5, descriptorIndex := 6, attributes := #[] }, { accessFlags := 9, nameIndex := 33, descriptorIndex := 178, attributes := #[] }] 33 2 #[] #[{ accessFlags := 25, nameIndex := 123, descriptorIndex := 124, attributes := #[] }, { accessFlags := 25, nameIndex := 130, descriptorIndex := 124, attributes := #[] }, { accessFlags := 25, nameIndex := 136, descriptorIndex := 124, attributes := #[] }])
  fields := #[{ name := "SIOOBE_FORMATTER", type := (.object "java/util/function/BiFunction"), accessFlags := 25, slot := 0, constantValue := 0 }, { name := "AIOOBE_FORMATTER", type := (.object "java/util/function/BiFunction"), accessFlags := 25, slot := 1, constantValue := 0 }, { name := "IOOBE_FORMATTER", type := (.object "java/util/function/BiFunction"), accessFlags := 25, slot := 2, constantValue := 0 }]
  methods := #[k11m0, k11m1]
  instanceTypes := #[]
  staticTypes := #[(.object "java/util/function/BiFunction"), (.object "java/util/function/BiFunction"), (.object "java/util/function/BiFunction")]
  resolved := Array.replicate 194 none
  statics := some 1 }

def pool12 : Array CpInfo := pool [(9, u "<init>"), (6, .class_ 18), (1, u "java/lang/Object"), (0, u "()V"), (1, .class_ 23), (1, u "jdk/internal/util/ArraysSupport"), (0, u "LOG2_ARRAY_LONG_INDEX_SCALE"), (0, u "I"), (2, u "U"), (0, u "Ljdk/internal/misc/Unsafe;"), (8, u "BIG_ENDIAN"), (0, u "Z"), (8, u "LOG2_BYTE_BIT_SIZE"), (4, u "LOG2_ARRAY_INT_INDEX_SCALE"), (54, u "JLA"), (0, u "Ljdk/internal/access/JavaLangAccess;"), (11, u "LOG2_ARRAY_BOOLEAN_INDEX_SCALE"), (9, u "LOG2_ARRAY_BYTE_INDEX_SCALE"), (5, u "LOG2_ARRAY_CHAR_INDEX_SCALE"), (5, u "LOG2_ARRAY_SHORT_INDEX_SCALE"), (18, u "LOG2_ARRAY_FLOAT_INDEX_SCALE"), (24, u "LOG2_ARRAY_DOUBLE_INDEX_SCALE"), (89, u "T_BOOLEAN"), (2, u "T_CHAR"), (1, u "T_FLOAT"), (1, u "T_DOUBLE"), (1, u "T_BYTE"), (1, u "T_SHORT"), (1, u "T_INT"), (1, u "T_LONG"), (1, u "SOFT_MAX_ARRAY_LENGTH")] 83

def k12m0 : Method := { name := "<init>", desc := "()V", sig := { parameters := [], returnType := none }, accessFlags := 2, code := none }
/-- jdk/internal/util/ArraysSupport -/
def k12 : Class := { plain "jdk/internal/util/ArraysSupport" (some 0) with
  accessFlags := 33
  interfaces := #[]
  cf := some (fileOf pool12 21 #[] #[{ accessFlags := 2, nameIndex := 9, descriptorIndex := 19, attributes := #[] }] 33 16 #[] #[{ accessFlags := 24, nameIndex := 28, descriptorIndex := 29, attributes := #[] }, { accessFlags := 26, nameIndex := 38, descriptorIndex := 39, attributes := #[] }, { accessFlags := 25, nameIndex := 121, descriptorIndex := 25, attributes := #[] }, { accessFlags := 25, nameIndex := 131, descriptorIndex := 25, attributes := #[] }, { accessFlags := 25, nameIndex := 137, descriptorIndex := 25, attributes := #[] }, { accessFlags := 25, nameIndex := 143, descriptorIndex := 25, attributes := #[] }, { accessFlags := 25, nameIndex := 53, descriptorIndex := 25, attributes := #[] }, { accessFlags := 25, nameIndex := 24, descriptorIndex := 25, attributes := #[] }, { accessFlags := 25, nameIndex := 162, descriptorIndex := 25, attributes := #[] }, { accessFlags := 25, nameIndex := 187, descriptorIndex := 25, attributes := #[] }, { accessFlags := 26, nameIndex := 48, descriptorIndex := 25, attributes := #[] }, { accessFlags := 25, nameIndex := 277, descriptorIndex := 25, attributes := #[] }, { accessFlags := 25, nameIndex := 280, descriptorIndex := 25, attributes := #[] }, { accessFlags := 25, nameIndex := 282, descriptorIndex := 25, attributes := #[] }, { accessFlags := 25, nameIndex := 284, descriptorIndex := 25, attributes := #[] }, { accessFlags := 25, nameIndex := 286, descriptorIndex := 25, attributes := #[] }, { accessFlags := 25, nameIndex := 288, descriptorIndex := 25, attributes := #[] }, { accessFlags := 25, nameIndex := 290, descriptorIndex := 25, attributes := #[] }, { accessFlags := 25, nameIndex := 292, descriptorIndex := 25, attributes := #[] }, { accessFlags := 26, nameIndex := 108, descriptorIndex := 109, attributes := #[] }, { accessFlags := 25, nameIndex := 294, descriptorIndex := 25, attributes := #[] }])
  fields := #[{ name := "U", type := (.object "jdk/internal/misc/Unsafe"), accessFlags := 24, slot := 0, constantValue := 0 }, { name := "BIG_ENDIAN", type := .boolean, accessFlags := 26, slot := 1, constantValue := 0 }, { name := "LOG2_ARRAY_BOOLEAN_INDEX_SCALE", type := .int, accessFlags := 25, slot := 2, constantValue := 0 }, { name := "LOG2_ARRAY_BYTE_INDEX_SCALE", type := .int, accessFlags := 25, slot := 3, constantValue := 0 }, { name := "LOG2_ARRAY_CHAR_INDEX_SCALE", type := .int, accessFlags := 25, slot := 4, constantValue := 0 }, { name := "LOG2_ARRAY_SHORT_INDEX_SCALE", type := .int, accessFlags := 25, slot := 5, constantValue := 0 }, { name := "LOG2_ARRAY_INT_INDEX_SCALE", type := .int, accessFlags := 25, slot := 6, constantValue := 0 }, { name := "LOG2_ARRAY_LONG_INDEX_SCALE", type := .int, accessFlags := 25, slot := 7, constantValue := 0 }, { name := "LOG2_ARRAY_FLOAT_INDEX_SCALE", type := .int, accessFlags := 25, slot := 8, constantValue := 0 }, { name := "LOG2_ARRAY_DOUBLE_INDEX_SCALE", type := .int, accessFlags := 25, slot := 9, constantValue := 0 }, { name := "LOG2_BYTE_BIT_SIZE", type := .int, accessFlags := 26, slot := 10, constantValue := 0 }, { name := "T_BOOLEAN", type := .int, accessFlags := 25, slot := 11, constantValue := 0 }, { name := "T_CHAR", type := .int, accessFlags := 25, slot := 12, constantValue := 0 }, { name := "T_FLOAT", type := .int, accessFlags := 25, slot := 13, constantValue := 0 }, { name := "T_DOUBLE", type := .int, accessFlags := 25, slot := 14, constantValue := 0 }, { name := "T_BYTE", type := .int, accessFlags := 25, slot := 15, constantValue := 0 }, { name := "T_SHORT", type := .int, accessFlags := 25, slot := 16, constantValue := 0 }, { name := "T_INT", type := .int, accessFlags := 25, slot := 17, constantValue := 0 }, { name := "T_LONG", type := .int, accessFlags := 25, slot := 18, constantValue := 0 }, { name := "JLA", type := (.object "jdk/internal/access/JavaLangAccess"), accessFlags := 26, slot := 19, constantValue := 0 }, { name := "SOFT_MAX_ARRAY_LENGTH", type := .int, accessFlags := 25, slot := 20, constantValue := 0 }]
  methods := #[k12m0]
  instanceTypes := #[]
  staticTypes := #[(.object "jdk/internal/misc/Unsafe"), .boolean, .int, .int, .int, .int, .int, .int, .int, .int, .int, .int, .int, .int, .int, .int, .int, .int, .int, (.object "jdk/internal/access/JavaLangAccess"), .int]
  resolved := Array.replicate 378 none
  statics := none }

def pool13 : Array CpInfo := pool [(1, u "java/lang/Cloneable"), (0, .class_ 1), (0, u "java/lang/Object"), (0, .class_ 3)] 3

/-- java/lang/Cloneable -/
def k13 : Class := { plain "java/lang/Cloneable" (some 0) with
  accessFlags := 1537
  interfaces := #[]
  cf := some (fileOf pool13 2 #[] #[] 1537 4 #[] #[])
  fields := #[]
  methods := #[]
  instanceTypes := #[]
  staticTypes := #[]
  resolved := Array.replicate 8 none
  statics := none }

/-- the primitive byte -/
def k14 : Class := { plain "byte" none with kind := .primitive 'B', accessFlags := 0x411 }
/-- [B -/
def k15 : Class := { plain "[B" (some 0) with kind := .array 14 .byte, interfaces := #[13, 3], accessFlags := 1041 }

/-- the primitive char -/
def k16 : Class := { plain "char" none with kind := .primitive 'C', accessFlags := 0x411 }
/-- [C -/
def k17 : Class := { plain "[C" (some 0) with kind := .array 16 .char, interfaces := #[13, 3], accessFlags := 1041 }

/-- the primitive int -/
def k18 : Class := { plain "int" none with kind := .primitive 'I', accessFlags := 0x411 }
/-- [I -/
def k19 : Class := { plain "[I" (some 0) with kind := .array 18 .int, interfaces := #[13, 3], accessFlags := 1041 }

def heap : Heap := #[{ cls := 8, slots := #[.long 0, .int 1, .null, .int 0, .null, .int 0, .int 0], vm := .statics 8 },
  { cls := 11, slots := #[.null, .null, .null], vm := .statics 11 }]
def classes : Array Class := #[k0, k1, k2, k3, k4, k5, k6, k7, k8, k9, k10, k11, k12, k13, k14, k15, k16, k17, k18, k19]
def interned : List (Array UInt16 × Addr) := []
def slotsUsed : Nat := 10
def theMethod : MethodId := ⟨1, 2⟩
def args0 : Array Value := #[.int 3, .int 65, .int 66, .int 98, .int 5]
def aboutOver (below : List Frame) : State where
  vm := { classes := classes, interned := interned.toArray }
  heap := heap
  slotsUsed := slotsUsed
  threads := #[{ frames := .invoking theMethod args0 :: below }]
def below0 : List Frame := [.native { method := ⟨0, 0⟩, args := #[] }]
def about1 : State := aboutOver below0
def p0 : Program := .bare "" "" ""
def e0 : Env := launch0.env 0 0 0
theorem w_frames : about1.frames = Frame.invoking theMethod args0 :: below0 := rfl
set_option maxRecDepth 65536 in
theorem w_args : argsFit about1.vm theMethod args0 = true := by decide +kernel
set_option maxRecDepth 65536 in
theorem w_heap : heapFits about1 = true := by decide +kernel
set_option maxRecDepth 65536 in
theorem w_runnable : about1.curStatus? = some .runnable := by decide +kernel
set_option maxRecDepth 65536 in
theorem w_alone : about1.alone = true := by decide +kernel
set_option maxRecDepth 65536 in
theorem w_named : about1.methodNamed? x = some theMethod := by decide +kernel
set_option maxRecDepth 65536 in
theorem w_hears : about1.hears theMethod below0 = true := by decide +kernel
set_option maxRecDepth 65536 in
theorem w_ripe : about1.ripe theMethod args0 below0 = true := by decide +kernel
theorem w_running : about1.status = .running := rfl
set_option maxRecDepth 65536 in
theorem w_room : about1.hasRoom e0.platform room_1 = true :=
  launch0.hasRoom_least _ room_1 (by decide +kernel) (by decide +kernel) (by decide +kernel) (by decide +kernel) (by decide +kernel) (by decide +kernel)
theorem allAtoms_all (ts : List Jvm.Cond) (a : Array Jvm.Value) (st : Jvm.State) : (allAtoms ts).before a st = ts.all (fun c => c.before a st) := by
  induction ts with
  | nil => rfl
  | cons c t ih =>
    show (Jvm.Cond.and c (allAtoms t)).before a st = _
    rw [Jvm.Cond.before_and, ih, List.all_cons]
def words1 : List Jvm.Cond := Jvm.Cond.code x code maxLocals ret :: tables_1
/-- a 'code' word, met by the world's own term for the bytes: nothing is compared byte by byte -/
theorem code_word {y : MethodName} {bytes : ByteArray} {mx : Nat} {rt : Option FieldType} {a : Array Value} {s : State} {m : MethodId} {meth : Method} {c : Code} (h1 : s.methodNamed? y = some m) (h2 : s.vm.method? m = some meth) (h3 : meth.code = some c) (h4 : c.code = bytes)
    (h5 : (c.maxLocals == mx && c.exceptionTable.isEmpty && decide (c.maxStack ≤ mostOperands) && decide (meth.sig.returnType = rt) && !meth.locks && decide (parseMethodDescriptor y.desc = some meth.sig)) = true) : (Jvm.Cond.code y bytes mx rt).before a s = true := by
  simp only [Bool.and_eq_true, beq_iff_eq, Bool.not_eq_true', decide_eq_true_eq] at h5
  obtain ⟨⟨⟨⟨⟨g1, g2⟩, g3⟩, g4⟩, g5⟩, g6⟩ := h5
  simp [Cond.before, Cond.holds, Cond.value, h1, h2, h3, h4, g1, g2, g3, g4, g5, g6]
def isCode : Jvm.Cond → Bool
  | .code _ _ _ _ => true
  | _ => false
theorem all_split {L : List Jvm.Cond} {P : Jvm.Cond → Bool} (h1 : L.all (fun c => isCode c || P c) = true) (h2 : ∀ c ∈ L.filter isCode, P c = true) : L.all P = true := by
  refine List.all_eq_true.mpr fun c hc => ?_
  have h := List.all_eq_true.mp h1 c hc
  rcases Bool.eq_false_or_eq_true (isCode c) with hi | hi
  · exact h2 c (List.mem_filter.mpr ⟨hc, hi⟩)
  · simpa [hi] using h
set_option maxRecDepth 65536 in
theorem w_c0 : (Jvm.Cond.code x code maxLocals ret).before args0 about1 = true := code_word (m := ⟨1, 2⟩) (meth := k1m2) (c := k1c2) (by decide +kernel) rfl rfl rfl (by decide +kernel)
set_option maxRecDepth 65536 in
theorem w_c1 : (Jvm.Cond.code ({ cls := "com/example/marble_cache/marblecache/command/Words", name := "lowerCase", desc := "([B)Ljava/lang/String;" } : Jvm.MethodName) prog_58_method_13_code (3 : Nat) (Option.some (Jvm.ClassFile.FieldType.object "java/lang/String"))).before args0 about1 = true := code_word (m := ⟨2, 1⟩) (meth := k2m1) (c := k2c1) (by decide +kernel) rfl rfl rfl (by decide +kernel)
set_option maxRecDepth 65536 in
theorem w_c2 : (Jvm.Cond.code ({ cls := "java/lang/String", name := "<init>", desc := "([C)V" } : Jvm.MethodName) jdk_42_method_3_code (2 : Nat) (Option.none : Option Jvm.ClassFile.FieldType)).before args0 about1 = true := code_word (m := ⟨8, 1⟩) (meth := k8m1) (c := k8c1) (by decide +kernel) rfl rfl rfl (by decide +kernel)
set_option maxRecDepth 65536 in
theorem w_c3 : (Jvm.Cond.code ({ cls := "java/lang/String", name := "<init>", desc := "([CIILjava/lang/Void;)V" } : Jvm.MethodName) jdk_42_method_149_code (6 : Nat) (Option.none : Option Jvm.ClassFile.FieldType)).before args0 about1 = true := code_word (m := ⟨8, 4⟩) (meth := k8m4) (c := k8c4) (by decide +kernel) rfl rfl rfl (by decide +kernel)
set_option maxRecDepth 65536 in
theorem w_c4 : (Jvm.Cond.code ({ cls := "java/lang/Object", name := "<init>", desc := "()V" } : Jvm.MethodName) object_method_1_code (1 : Nat) (Option.none : Option Jvm.ClassFile.FieldType)).before args0 about1 = true := code_word (m := ⟨0, 0⟩) (meth := k0m0) (c := k0c0) (by decide +kernel) rfl rfl rfl (by decide +kernel)
set_option maxRecDepth 65536 in
theorem w_c5 : (Jvm.Cond.code ({ cls := "java/lang/String", name := "length", desc := "()I" } : Jvm.MethodName) jdk_42_method_54_code (1 : Nat) (Option.some Jvm.ClassFile.FieldType.int)).before args0 about1 = true := code_word (m := ⟨8, 2⟩) (meth := k8m2) (c := k8c2) (by decide +kernel) rfl rfl rfl (by decide +kernel)
set_option maxRecDepth 65536 in
theorem w_c6 : (Jvm.Cond.code ({ cls := "java/lang/String", name := "coder", desc := "()B" } : Jvm.MethodName) jdk_42_method_152_code (1 : Nat) (Option.some Jvm.ClassFile.FieldType.byte)).before args0 about1 = true := code_word (m := ⟨8, 5⟩) (meth := k8m5) (c := k8c5) (by decide +kernel) rfl rfl rfl (by decide +kernel)
set_option maxRecDepth 65536 in
theorem w_c7 : (Jvm.Cond.code ({ cls := "com/example/marble_cache/marblecache/command/Words", name := "lowerCase", desc := "(B)C" } : Jvm.MethodName) prog_58_method_14_code (2 : Nat) (Option.some Jvm.ClassFile.FieldType.char)).before args0 about1 = true := code_word (m := ⟨2, 2⟩) (meth := k2m2) (c := k2c2) (by decide +kernel) rfl rfl rfl (by decide +kernel)
set_option maxRecDepth 65536 in
theorem w_c8 : (Jvm.Cond.code ({ cls := "java/lang/StringUTF16", name := "compress", desc := "([CII)[B" } : Jvm.MethodName) jdk_52_method_16_code (6 : Nat) (Option.some (Jvm.ClassFile.FieldType.array Jvm.ClassFile.FieldType.byte))).before args0 about1 = true := code_word (m := ⟨9, 2⟩) (meth := k9m2) (c := k9c2) (by decide +kernel) rfl rfl rfl (by decide +kernel)
set_option maxRecDepth 65536 in
theorem w_c9 : (Jvm.Cond.code ({ cls := "java/lang/StringUTF16", name := "compress", desc := "([CI[BII)I" } : Jvm.MethodName) jdk_52_method_21_code (7 : Nat) (Option.some Jvm.ClassFile.FieldType.int)).before args0 about1 = true := code_word (m := ⟨9, 3⟩) (meth := k9m3) (c := k9c3) (by decide +kernel) rfl rfl rfl (by decide +kernel)
set_option maxRecDepth 65536 in
theorem w_c10 : (Jvm.Cond.code ({ cls := "java/lang/StringUTF16", name := "coderFromArrayLen", desc := "([BI)B" } : Jvm.MethodName) jdk_52_method_15_code (2 : Nat) (Option.some Jvm.ClassFile.FieldType.byte)).before args0 about1 = true := code_word (m := ⟨9, 1⟩) (meth := k9m1) (c := k9c1) (by decide +kernel) rfl rfl rfl (by decide +kernel)
set_option maxRecDepth 65536 in
theorem w_c11 : (Jvm.Cond.code ({ cls := "java/lang/String", name := "charAt", desc := "(I)C" } : Jvm.MethodName) jdk_42_method_56_code (2 : Nat) (Option.some Jvm.ClassFile.FieldType.char)).before args0 about1 = true := code_word (m := ⟨8, 3⟩) (meth := k8m3) (c := k8c3) (by decide +kernel) rfl rfl rfl (by decide +kernel)
set_option maxRecDepth 65536 in
theorem w_c12 : (Jvm.Cond.code ({ cls := "java/lang/String", name := "isLatin1", desc := "()Z" } : Jvm.MethodName) jdk_42_method_154_code (1 : Nat) (Option.some Jvm.ClassFile.FieldType.boolean)).before args0 about1 = true := code_word (m := ⟨8, 6⟩) (meth := k8m6) (c := k8c6) (by decide +kernel) rfl rfl rfl (by decide +kernel)
set_option maxRecDepth 65536 in
theorem w_c13 : (Jvm.Cond.code ({ cls := "java/lang/StringLatin1", name := "charAt", desc := "([BI)C" } : Jvm.MethodName) jdk_43_method_2_code (2 : Nat) (Option.some Jvm.ClassFile.FieldType.char)).before args0 about1 = true := code_word (m := ⟨10, 1⟩) (meth := k10m1) (c := k10c1) (by decide +kernel) rfl rfl rfl (by decide +kernel)
set_option maxRecDepth 65536 in
theorem w_c14 : (Jvm.Cond.code ({ cls := "java/lang/String", name := "checkIndex", desc := "(II)V" } : Jvm.MethodName) jdk_42_method_155_code (2 : Nat) (Option.none : Option Jvm.ClassFile.FieldType)).before args0 about1 = true := code_word (m := ⟨8, 7⟩) (meth := k8m7) (c := k8c7) (by decide +kernel) rfl rfl rfl (by decide +kernel)
set_option maxRecDepth 65536 in
theorem w_c15 : (Jvm.Cond.code ({ cls := "jdk/internal/util/Preconditions", name := "checkIndex", desc := "(IILjava/util/function/BiFunction;)I" } : Jvm.MethodName) jdk_41_method_11_code (3 : Nat) (Option.some Jvm.ClassFile.FieldType.int)).before args0 about1 = true := code_word (m := ⟨11, 1⟩) (meth := k11m1) (c := k11c1) (by decide +kernel) rfl rfl rfl (by decide +kernel)
set_option maxRecDepth 65536 in
theorem w_c16 : (Jvm.Cond.code ({ cls := "com/example/marble_cache/marblecache/command/WordsLowerCasePinLaw", name := "expected", desc := "(I)C" } : Jvm.MethodName) method_2_code (2 : Nat) (Option.some Jvm.ClassFile.FieldType.char)).before args0 about1 = true := code_word (m := ⟨1, 1⟩) (meth := k1m1) (c := k1c1) (by decide +kernel) rfl rfl rfl (by decide +kernel)
def codes1 : List Jvm.Cond := [Jvm.Cond.code x code maxLocals ret, Jvm.Cond.code ({ cls := "com/example/marble_cache/marblecache/command/Words", name := "lowerCase", desc := "([B)Ljava/lang/String;" } : Jvm.MethodName) prog_58_method_13_code (3 : Nat) (Option.some (Jvm.ClassFile.FieldType.object "java/lang/String")), Jvm.Cond.code ({ cls := "java/lang/String", name := "<init>", desc := "([C)V" } : Jvm.MethodName) jdk_42_method_3_code (2 : Nat) (Option.none : Option Jvm.ClassFile.FieldType), Jvm.Cond.code ({ cls := "java/lang/String", name := "<init>", desc := "([CIILjava/lang/Void;)V" } : Jvm.MethodName) jdk_42_method_149_code (6 : Nat) (Option.none : Option Jvm.ClassFile.FieldType), Jvm.Cond.code ({ cls := "java/lang/Object", name := "<init>", desc := "()V" } : Jvm.MethodName) object_method_1_code (1 : Nat) (Option.none : Option Jvm.ClassFile.FieldType), Jvm.Cond.code ({ cls := "java/lang/String", name := "length", desc := "()I" } : Jvm.MethodName) jdk_42_method_54_code (1 : Nat) (Option.some Jvm.ClassFile.FieldType.int), Jvm.Cond.code ({ cls := "java/lang/String", name := "coder", desc := "()B" } : Jvm.MethodName) jdk_42_method_152_code (1 : Nat) (Option.some Jvm.ClassFile.FieldType.byte), Jvm.Cond.code ({ cls := "com/example/marble_cache/marblecache/command/Words", name := "lowerCase", desc := "(B)C" } : Jvm.MethodName) prog_58_method_14_code (2 : Nat) (Option.some Jvm.ClassFile.FieldType.char), Jvm.Cond.code ({ cls := "java/lang/StringUTF16", name := "compress", desc := "([CII)[B" } : Jvm.MethodName) jdk_52_method_16_code (6 : Nat) (Option.some (Jvm.ClassFile.FieldType.array Jvm.ClassFile.FieldType.byte)), Jvm.Cond.code ({ cls := "java/lang/StringUTF16", name := "compress", desc := "([CI[BII)I" } : Jvm.MethodName) jdk_52_method_21_code (7 : Nat) (Option.some Jvm.ClassFile.FieldType.int), Jvm.Cond.code ({ cls := "java/lang/StringUTF16", name := "coderFromArrayLen", desc := "([BI)B" } : Jvm.MethodName) jdk_52_method_15_code (2 : Nat) (Option.some Jvm.ClassFile.FieldType.byte), Jvm.Cond.code ({ cls := "java/lang/String", name := "charAt", desc := "(I)C" } : Jvm.MethodName) jdk_42_method_56_code (2 : Nat) (Option.some Jvm.ClassFile.FieldType.char), Jvm.Cond.code ({ cls := "java/lang/String", name := "isLatin1", desc := "()Z" } : Jvm.MethodName) jdk_42_method_154_code (1 : Nat) (Option.some Jvm.ClassFile.FieldType.boolean), Jvm.Cond.code ({ cls := "java/lang/StringLatin1", name := "charAt", desc := "([BI)C" } : Jvm.MethodName) jdk_43_method_2_code (2 : Nat) (Option.some Jvm.ClassFile.FieldType.char), Jvm.Cond.code ({ cls := "java/lang/String", name := "checkIndex", desc := "(II)V" } : Jvm.MethodName) jdk_42_method_155_code (2 : Nat) (Option.none : Option Jvm.ClassFile.FieldType), Jvm.Cond.code ({ cls := "jdk/internal/util/Preconditions", name := "checkIndex", desc := "(IILjava/util/function/BiFunction;)I" } : Jvm.MethodName) jdk_41_method_11_code (3 : Nat) (Option.some Jvm.ClassFile.FieldType.int), Jvm.Cond.code ({ cls := "com/example/marble_cache/marblecache/command/WordsLowerCasePinLaw", name := "expected", desc := "(I)C" } : Jvm.MethodName) method_2_code (2 : Nat) (Option.some Jvm.ClassFile.FieldType.char)]
set_option maxRecDepth 65536 in
theorem codes_eq : words1.filter isCode = codes1 := rfl
theorem w_codes : ∀ c ∈ words1.filter isCode, c.before args0 about1 = true := by
  rw [codes_eq]
  intro c hc
  simp only [codes1, List.mem_cons, List.not_mem_nil, or_false] at hc
  rcases hc with rfl | rfl | rfl | rfl | rfl | rfl | rfl | rfl | rfl | rfl | rfl | rfl | rfl | rfl | rfl | rfl | rfl
  · exact w_c0
  · exact w_c1
  · exact w_c2
  · exact w_c3
  · exact w_c4
  · exact w_c5
  · exact w_c6
  · exact w_c7
  · exact w_c8
  · exact w_c9
  · exact w_c10
  · exact w_c11
  · exact w_c12
  · exact w_c13
  · exact w_c14
  · exact w_c15
  · exact w_c16
set_option maxRecDepth 65536 in
theorem w_t1 : (words1.take 24).all (fun c => isCode c || c.before args0 about1) = true := by decide +kernel
set_option maxRecDepth 65536 in
theorem w_t2 : ((words1.drop 24).take 24).all (fun c => isCode c || c.before args0 about1) = true := by decide +kernel
set_option maxRecDepth 65536 in
theorem w_t3 : (((words1.drop 24).drop 24).take 24).all (fun c => isCode c || c.before args0 about1) = true := by decide +kernel
set_option maxRecDepth 65536 in
theorem w_t4 : (((words1.drop 24).drop 24).drop 24).all (fun c => isCode c || c.before args0 about1) = true := by decide +kernel
theorem w_tables : (allAtoms (Jvm.Cond.code x code maxLocals ret :: tables_1)).before args0 about1 = true := by
  rw [allAtoms_all]
  show words1.all (fun c => c.before args0 about1) = true
  refine all_split ?_ w_codes
  rw [← List.take_append_drop 24 words1, List.all_append, w_t1, ← List.take_append_drop 24 (words1.drop 24), List.all_append, w_t2, ← List.take_append_drop 24 ((words1.drop 24).drop 24), List.all_append, w_t3, w_t4]
  rfl
set_option maxRecDepth 65536 in
theorem w_rest : rest_1_c.before args0 about1 = true := by decide +kernel
set_option maxRecDepth 65536 in
theorem w_case : (Jvm.Cond.and given_1 narrow_1).before args0 about1 = true := by decide +kernel
set_option maxRecDepth 65536 in
theorem w_consts : constsHeld consts_1 about1 := Jvm.Lit.constsHeldB_iff.mp (by decide +kernel)
theorem w_applies : (headSpec (Jvm.Cond.code x code maxLocals ret :: tables_1) room_1).applies x e0.platform about1 = true :=
  (Spec.applies_iff w_frames).mpr ⟨w_running, w_runnable, w_alone, w_named, w_hears, w_ripe, w_room, w_tables⟩
theorem atStart : AtStart classFile x code maxLocals ret World_1 tables_1 room_1 Calls_1 rest_1 Pre_1 launch0 p0 e0 about1 theMethod args0 below0 :=
  ⟨lists_1, trivial, launch0.admits_env _ _ _, launch0.least_env, fairChoices_fair.cas, fairChoices_fair.clock, w_frames, w_args, w_heap, w_applies, ⟨w_consts, trivial⟩, w_rest, w_case⟩
end start1
theorem witness_1 : WitnessClaimed_1 := ⟨start1.p0, start1.e0, start1.about1, start1.theMethod, start1.args0, start1.below0, start1.atStart⟩
end Jvm.Pilot.@@N@@
