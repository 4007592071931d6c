import JvmDerived
import JvmDerived.Pilot.@@N@@Statement
import JvmDerived.Pilot.@@N@@Code
set_option linter.unusedVariables false
set_option linter.unusedSimpArgs false
@@BLOCK:NumsL.lean.txt@@
namespace Jvm.Pilot.@@N@@
open Jvm Jvm.ClassFile Sem Op Lib Jvm.Free Jvm.Stand Jvm.LawKit Jvm.RoadKit Bundle Jvm.Pilot.@@N@@.Jvm.D
section Own
variable {p : Program} {l : Launch} {e : Env} {R : Room} {s : State} {m : MethodId} {args : Array Value} {below : List Frame} {meth : Method} {c : Code} {T : State} {locs : List Loc} {cells slots : Nat} {Z : State} {a0 : Array Value} {h : Heap} {Q : Option Value → Heap → List Loc → Prop} {kc ks : Nat} {P : State → Outcome → Prop}
/-- from s₀ the run comes to an end at which P holds -/
def Go (p : Program) (e : Env) (below : List Frame) (P : State → Outcome → Prop) (s₀ : State) : Prop := ∃ s₂ o, Steps p.tables e below s₀ s₂ ∧ P s₂ o
/-- the method's end: Q holds of what it returns and leaves -/
def EndN (below : List Frame) (s : State) (Q : Option Value → Heap → List Loc → Prop) (kc ks : Nat) (s₂ : State) (o : Outcome) : Prop := s₂.status = .running ∧ Ended s₂ below o ∧ ∃ v L, o = .returned v ∧ Q v s₂.heap L ∧ FrameEnd s o s₂ L kc ks
theorem Go.of {P : State → Outcome → Prop} {s₀ s₁ : State} (G : Go p e below P s₁) (f : ∀ t, Steps p.tables e below s₁ t → Steps p.tables e below s₀ t) : Go p e below P s₀ := by
  obtain ⟨a, b, c1, d⟩ := G; exact ⟨a, b, f _ c1, d⟩
theorem Go.ret (X : Stand p l e R s m args below meth c T locs cells slots) (hx : p.tables.exec = Jvm.exec) (hlk : meth.locks = false) {pc : Nat} {Ls : Array Slot} {w : Value} {t : FieldType} {i : Instr} {rest : List Value} (hret : meth.sig.returnType = some t) (hd : decode c.code pc = .ok (i, 1)) (hn : narrow t w = w)
    (hi : (i = .ireturn ∧ (t = .int ∨ t = .boolean ∨ t = .byte ∨ t = .char ∨ t = .short) ∧ ∃ z, w = .int z) ∨ (i = .lreturn ∧ t = .long ∧ ∃ z, w = .long z) ∨ (i = .dreturn ∧ t = .double ∧ ∃ z, w = .double z) ∨ (i = .freturn ∧ t = .float ∧ ∃ z, w = .float z) ∨ (i = .areturn ∧ t.isReference = true ∧ w.isRef = true))
    (hc : cells ≤ kc) (hs : slots ≤ ks) (hQ : Q (some w) T.heap locs) : Go p e below (EndN below s Q kc ks) (T.setTop (mkF m pc Ls (w :: rest))) := by
  obtain ⟨fs, hr, hrun, hended, hW, hsame⟩ := X.leave (v := some w) (fun h => by rw [hret] at h; cases h) hlk
  exact ⟨_, _, retOut X hx hret hn hi hd hr, hrun, hended, _, _, rfl, hQ, ⟨_, rfl⟩, hW, hsame.mono hc hs⟩
theorem Go.retV (X : Stand p l e R s m args below meth c T locs cells slots) (hx : p.tables.exec = Jvm.exec) (hlk : meth.locks = false) {pc : Nat} {Ls : Array Slot} (hret : meth.sig.returnType = none) (hd : decode c.code pc = .ok (.return_, 1))
    (hc : cells ≤ kc) (hs : slots ≤ ks) (hQ : Q none T.heap locs) : Go p e below (EndN below s Q kc ks) (T.setTop (mkF m pc Ls [])) := by
  obtain ⟨fs, hr, hrun, hended, hW, hsame⟩ := X.leave (v := none) (fun _ => rfl) hlk
  exact ⟨_, _, X.returnOut hx hret hd hr, hrun, hended, _, _, rfl, hQ, ⟨_, rfl⟩, hW, hsame.mono hc hs⟩
theorem Go.retI (X : Stand p l e R s m args below meth c T locs cells slots) (hx : p.tables.exec = Jvm.exec) (hlk : meth.locks = false) {pc : Nat} {Ls : Array Slot} {z : Int32} {rest : List Value} (hret : meth.sig.returnType = some .int) (hd : decode c.code pc = .ok (.ireturn, 1))
    (hc : cells ≤ kc) (hs : slots ≤ ks) (hQ : Q (some (.int z)) T.heap locs) : Go p e below (EndN below s Q kc ks) (T.setTop (mkF m pc Ls (.int z :: rest))) :=
  Go.ret X hx hlk hret hd rfl (Or.inl ⟨rfl, Or.inl rfl, z, rfl⟩) hc hs hQ
theorem Go.retL (X : Stand p l e R s m args below meth c T locs cells slots) (hx : p.tables.exec = Jvm.exec) (hlk : meth.locks = false) {pc : Nat} {Ls : Array Slot} {z : Int64} {rest : List Value} (hret : meth.sig.returnType = some .long) (hd : decode c.code pc = .ok (.lreturn, 1))
    (hc : cells ≤ kc) (hs : slots ≤ ks) (hQ : Q (some (.long z)) T.heap locs) : Go p e below (EndN below s Q kc ks) (T.setTop (mkF m pc Ls (.long z :: rest))) :=
  Go.ret X hx hlk hret hd rfl (Or.inr (Or.inl ⟨rfl, rfl, z, rfl⟩)) hc hs hQ
theorem Go.retA (X : Stand p l e R s m args below meth c T locs cells slots) (hx : p.tables.exec = Jvm.exec) (hlk : meth.locks = false) {pc : Nat} {Ls : Array Slot} {w : Value} {t : FieldType} {rest : List Value} (hret : meth.sig.returnType = some t) (ht : t.isReference = true) (hw : w.isRef = true) (hd : decode c.code pc = .ok (.areturn, 1))
    (hc : cells ≤ kc) (hs : slots ≤ ks) (hQ : Q (some w) T.heap locs) : Go p e below (EndN below s Q kc ks) (T.setTop (mkF m pc Ls (w :: rest))) :=
  Go.ret X hx hlk hret hd (by cases t <;> first | (cases ht; done) | rfl) (Or.inr (Or.inr (Or.inr (Or.inr ⟨rfl, ht, hw⟩)))) hc hs hQ
theorem Go.retZ (X : Stand p l e R s m args below meth c T locs cells slots) (hx : p.tables.exec = Jvm.exec) (hlk : meth.locks = false) {pc : Nat} {Ls : Array Slot} {z : Int32} {t : FieldType} {rest : List Value} (hret : meth.sig.returnType = some t) (ht : t = .boolean ∨ t = .byte ∨ t = .char ∨ t = .short) (hd : decode c.code pc = .ok (.ireturn, 1))
    (hc : cells ≤ kc) (hs : slots ≤ ks) (hQ : Q (some (.int (nar t z))) T.heap locs) : Go p e below (EndN below s Q kc ks) (T.setTop (mkF m pc Ls (.int z :: rest))) := by
  obtain ⟨fs, hr, hrun, hended, hW, hsame⟩ := X.leave (v := some (.int (nar t z))) (fun h => by rw [hret] at h; cases h) hlk
  exact ⟨_, _, retN X hx hret ht hd hr, hrun, hended, _, _, rfl, hQ, ⟨_, rfl⟩, hW, hsame.mono hc hs⟩

theorem g_iconst (X : Stand p l e R s m args below meth c T locs cells slots) (hx : p.tables.exec = Jvm.exec) {pc : Nat} (pc' : Nat) {Ls : Array Slot} {st : List Value} {i : Int} (v : Int32) (hd : decode c.code pc = .ok (.iconst i, 1)) (hv : Int32.ofInt i = v) (hp : pc + 1 = pc') (G : Go p e below P (T.setTop (mkF m pc' Ls (.int v :: st)))) : Go p e below P (T.setTop (mkF m pc Ls (st))) := by
  subst hp; exact Go.of G fun _ q => XT.iconstV X.here hx rfl v hd hv q
theorem g_bipush (X : Stand p l e R s m args below meth c T locs cells slots) (hx : p.tables.exec = Jvm.exec) {pc : Nat} (pc' : Nat) {Ls : Array Slot} {st : List Value} {i : Int} (v : Int32) (hd : decode c.code pc = .ok (.bipush i, 2)) (hv : (Int8.ofInt i).toInt32 = v) (hp : pc + 2 = pc') (G : Go p e below P (T.setTop (mkF m pc' Ls (.int v :: st)))) : Go p e below P (T.setTop (mkF m pc Ls (st))) := by
  subst hp; exact Go.of G fun _ q => XT.bipushV X.here hx rfl v hd hv q
theorem g_sipush (X : Stand p l e R s m args below meth c T locs cells slots) (hx : p.tables.exec = Jvm.exec) {pc : Nat} (pc' : Nat) {Ls : Array Slot} {st : List Value} {i : Int} (v : Int32) (hd : decode c.code pc = .ok (.sipush i, 3)) (hv : (Int16.ofInt i).toInt32 = v) (hp : pc + 3 = pc') (G : Go p e below P (T.setTop (mkF m pc' Ls (.int v :: st)))) : Go p e below P (T.setTop (mkF m pc Ls (st))) := by
  subst hp; exact Go.of G fun _ q => XT.sipushV X.here hx rfl v hd hv q
theorem g_lconst (X : Stand p l e R s m args below meth c T locs cells slots) (hx : p.tables.exec = Jvm.exec) {pc : Nat} (pc' : Nat) {Ls : Array Slot} {st : List Value} {i : Fin 2} (v : Int64) (hd : decode c.code pc = .ok (.lconst i, 1)) (hv : Int64.ofNat i = v) (hp : pc + 1 = pc') (G : Go p e below P (T.setTop (mkF m pc' Ls (.long v :: st)))) : Go p e below P (T.setTop (mkF m pc Ls (st))) := by
  subst hp; exact Go.of G fun _ q => XT.lconstV X.here hx rfl v hd hv q
theorem g_aconst_null (X : Stand p l e R s m args below meth c T locs cells slots) (hx : p.tables.exec = Jvm.exec) {pc : Nat} (pc' : Nat) {Ls : Array Slot} {st : List Value}  (hd : decode c.code pc = .ok (.aconst_null, 1))  (hp : pc + 1 = pc') (G : Go p e below P (T.setTop (mkF m pc' Ls (.null :: st)))) : Go p e below P (T.setTop (mkF m pc Ls (st))) := by
  subst hp; exact Go.of G fun _ q => XS.aconstNull X.here hx rfl hd q
theorem g_iload_n (X : Stand p l e R s m args below meth c T locs cells slots) (hx : p.tables.exec = Jvm.exec) {pc : Nat} (pc' : Nat) {Ls : Array Slot} {st : List Value} {i : Fin 4} (v : Int32) (hd : decode c.code pc = .ok (.iload_n i, 1)) (hv : Ls[i.val]? = some (.val (.int v))) (hp : pc + 1 = pc') (G : Go p e below P (T.setTop (mkF m pc' Ls (.int v :: st)))) : Go p e below P (T.setTop (mkF m pc Ls (st))) := by
  subst hp; exact Go.of G fun _ q => XS.iloadN X.here hx rfl hd hv q
theorem g_iload (X : Stand p l e R s m args below meth c T locs cells slots) (hx : p.tables.exec = Jvm.exec) {pc : Nat} (pc' : Nat) {Ls : Array Slot} {st : List Value} {i : Nat} (v : Int32) (hd : decode c.code pc = .ok (.iload i, 2)) (hv : Ls[i]? = some (.val (.int v))) (hp : pc + 2 = pc') (G : Go p e below P (T.setTop (mkF m pc' Ls (.int v :: st)))) : Go p e below P (T.setTop (mkF m pc Ls (st))) := by
  subst hp; exact Go.of G fun _ q => XS.iload X.here hx rfl hd hv q
theorem g_lload_n (X : Stand p l e R s m args below meth c T locs cells slots) (hx : p.tables.exec = Jvm.exec) {pc : Nat} (pc' : Nat) {Ls : Array Slot} {st : List Value} {i : Fin 4} (v : Int64) (hd : decode c.code pc = .ok (.lload_n i, 1)) (hv : Ls[i.val]? = some (.val (.long v))) (hp : pc + 1 = pc') (G : Go p e below P (T.setTop (mkF m pc' Ls (.long v :: st)))) : Go p e below P (T.setTop (mkF m pc Ls (st))) := by
  subst hp; exact Go.of G fun _ q => XT.lloadN X.here hx rfl hd hv q
theorem g_lload (X : Stand p l e R s m args below meth c T locs cells slots) (hx : p.tables.exec = Jvm.exec) {pc : Nat} (pc' : Nat) {Ls : Array Slot} {st : List Value} {i : Nat} (v : Int64) (hd : decode c.code pc = .ok (.lload i, 2)) (hv : Ls[i]? = some (.val (.long v))) (hp : pc + 2 = pc') (G : Go p e below P (T.setTop (mkF m pc' Ls (.long v :: st)))) : Go p e below P (T.setTop (mkF m pc Ls (st))) := by
  subst hp; exact Go.of G fun _ q => XT.lload X.here hx rfl hd hv q
theorem g_aload_n (X : Stand p l e R s m args below meth c T locs cells slots) (hx : p.tables.exec = Jvm.exec) {pc : Nat} (pc' : Nat) {Ls : Array Slot} {st : List Value} {i : Fin 4} (v : Value) (hd : decode c.code pc = .ok (.aload_n i, 1)) (hv : Ls[i.val]? = some (.val v)) (hr : v.isRef = true) (hp : pc + 1 = pc') (G : Go p e below P (T.setTop (mkF m pc' Ls (v :: st)))) : Go p e below P (T.setTop (mkF m pc Ls (st))) := by
  subst hp; exact Go.of G fun _ q => XS.aloadN X.here hx rfl hd hv hr q
theorem g_aload (X : Stand p l e R s m args below meth c T locs cells slots) (hx : p.tables.exec = Jvm.exec) {pc : Nat} (pc' : Nat) {Ls : Array Slot} {st : List Value} {i : Nat} (v : Value) (hd : decode c.code pc = .ok (.aload i, 2)) (hv : Ls[i]? = some (.val v)) (hr : v.isRef = true) (hp : pc + 2 = pc') (G : Go p e below P (T.setTop (mkF m pc' Ls (v :: st)))) : Go p e below P (T.setTop (mkF m pc Ls (st))) := by
  subst hp; exact Go.of G fun _ q => XS.aload X.here hx rfl hd hv hr q
theorem g_istore_n (X : Stand p l e R s m args below meth c T locs cells slots) (hx : p.tables.exec = Jvm.exec) {pc : Nat} (pc' : Nat) {Ls : Array Slot} {st : List Value} {i : Fin 4} {v : Int32} (Ls' : Array Slot) (hd : decode c.code pc = .ok (.istore_n i, 1)) (hv : storeLocals Ls i.val (.int v) = some Ls') (hp : pc + 1 = pc') (G : Go p e below P (T.setTop (mkF m pc' Ls' (st)))) : Go p e below P (T.setTop (mkF m pc Ls (.int v :: st))) := by
  subst hp; exact Go.of G fun _ q => XS.istoreN X.here hx rfl hd rfl hv q
theorem g_istore (X : Stand p l e R s m args below meth c T locs cells slots) (hx : p.tables.exec = Jvm.exec) {pc : Nat} (pc' : Nat) {Ls : Array Slot} {st : List Value} {i : Nat} {v : Int32} (Ls' : Array Slot) (hd : decode c.code pc = .ok (.istore i, 2)) (hv : storeLocals Ls i (.int v) = some Ls') (hp : pc + 2 = pc') (G : Go p e below P (T.setTop (mkF m pc' Ls' (st)))) : Go p e below P (T.setTop (mkF m pc Ls (.int v :: st))) := by
  subst hp; exact Go.of G fun _ q => XS.istore X.here hx rfl hd rfl hv q
theorem g_lstore_n (X : Stand p l e R s m args below meth c T locs cells slots) (hx : p.tables.exec = Jvm.exec) {pc : Nat} (pc' : Nat) {Ls : Array Slot} {st : List Value} {i : Fin 4} {v : Int64} (Ls' : Array Slot) (hd : decode c.code pc = .ok (.lstore_n i, 1)) (hv : storeLocals Ls i.val (.long v) = some Ls') (hp : pc + 1 = pc') (G : Go p e below P (T.setTop (mkF m pc' Ls' (st)))) : Go p e below P (T.setTop (mkF m pc Ls (.long v :: st))) := by
  subst hp; exact Go.of G fun _ q => XT.lstoreN X.here hx rfl hd rfl hv q
theorem g_lstore (X : Stand p l e R s m args below meth c T locs cells slots) (hx : p.tables.exec = Jvm.exec) {pc : Nat} (pc' : Nat) {Ls : Array Slot} {st : List Value} {i : Nat} {v : Int64} (Ls' : Array Slot) (hd : decode c.code pc = .ok (.lstore i, 2)) (hv : storeLocals Ls i (.long v) = some Ls') (hp : pc + 2 = pc') (G : Go p e below P (T.setTop (mkF m pc' Ls' (st)))) : Go p e below P (T.setTop (mkF m pc Ls (.long v :: st))) := by
  subst hp; exact Go.of G fun _ q => XT.lstore X.here hx rfl hd rfl hv q
theorem g_astore_n (X : Stand p l e R s m args below meth c T locs cells slots) (hx : p.tables.exec = Jvm.exec) {pc : Nat} (pc' : Nat) {Ls : Array Slot} {st : List Value} {i : Fin 4} {v : Value} (Ls' : Array Slot) (hd : decode c.code pc = .ok (.astore_n i, 1)) (hr : v.isRef = true) (hv : storeLocals Ls i.val v = some Ls') (hp : pc + 1 = pc') (G : Go p e below P (T.setTop (mkF m pc' Ls' (st)))) : Go p e below P (T.setTop (mkF m pc Ls (v :: st))) := by
  subst hp; exact Go.of G fun _ q => XS.astoreN X.here hx rfl hd rfl hr hv q
theorem g_astore (X : Stand p l e R s m args below meth c T locs cells slots) (hx : p.tables.exec = Jvm.exec) {pc : Nat} (pc' : Nat) {Ls : Array Slot} {st : List Value} {i : Nat} {v : Value} (Ls' : Array Slot) (hd : decode c.code pc = .ok (.astore i, 2)) (hr : v.isRef = true) (hv : storeLocals Ls i v = some Ls') (hp : pc + 2 = pc') (G : Go p e below P (T.setTop (mkF m pc' Ls' (st)))) : Go p e below P (T.setTop (mkF m pc Ls (v :: st))) := by
  subst hp; exact Go.of G fun _ q => XS.astore X.here hx rfl hd rfl hr hv q
theorem g_iinc (X : Stand p l e R s m args below meth c T locs cells slots) (hx : p.tables.exec = Jvm.exec) {pc : Nat} (pc' : Nat) {Ls : Array Slot} {st : List Value} {i : Nat} {k : Int} {x : Int32} (v : Int32) (Ls' : Array Slot) (hd : decode c.code pc = .ok (.iinc i k, 3)) (hk : Int32.ofInt k = v) (hv : Ls[i]? = some (.val (.int x))) (hl : storeLocals Ls i (.int (x + v)) = some Ls') (hp : pc + 3 = pc') (G : Go p e below P (T.setTop (mkF m pc' Ls' (st)))) : Go p e below P (T.setTop (mkF m pc Ls (st))) := by
  subst hp; exact Go.of G fun _ q => XT.iincV X.here hx rfl v hd hk hv hl q
theorem g_iadd (X : Stand p l e R s m args below meth c T locs cells slots) (hx : p.tables.exec = Jvm.exec) {pc : Nat} (pc' : Nat) {Ls : Array Slot} {st : List Value} {x y : Int32} (hd : decode c.code pc = .ok (.iadd, 1))  (hp : pc + 1 = pc') (G : Go p e below P (T.setTop (mkF m pc' Ls (.int (x + y) :: st)))) : Go p e below P (T.setTop (mkF m pc Ls (.int y :: .int x :: st))) := by
  subst hp; exact Go.of G fun _ q => XS.iadd X.here hx rfl hd rfl q
theorem g_isub (X : Stand p l e R s m args below meth c T locs cells slots) (hx : p.tables.exec = Jvm.exec) {pc : Nat} (pc' : Nat) {Ls : Array Slot} {st : List Value} {x y : Int32} (hd : decode c.code pc = .ok (.isub, 1))  (hp : pc + 1 = pc') (G : Go p e below P (T.setTop (mkF m pc' Ls (.int (x - y) :: st)))) : Go p e below P (T.setTop (mkF m pc Ls (.int y :: .int x :: st))) := by
  subst hp; exact Go.of G fun _ q => XS.isub X.here hx rfl hd rfl q
theorem g_iand (X : Stand p l e R s m args below meth c T locs cells slots) (hx : p.tables.exec = Jvm.exec) {pc : Nat} (pc' : Nat) {Ls : Array Slot} {st : List Value} {x y : Int32} (hd : decode c.code pc = .ok (.iand, 1))  (hp : pc + 1 = pc') (G : Go p e below P (T.setTop (mkF m pc' Ls (.int (x &&& y) :: st)))) : Go p e below P (T.setTop (mkF m pc Ls (.int y :: .int x :: st))) := by
  subst hp; exact Go.of G fun _ q => XS.iand X.here hx rfl hd rfl q
theorem g_imul (X : Stand p l e R s m args below meth c T locs cells slots) (hx : p.tables.exec = Jvm.exec) {pc : Nat} (pc' : Nat) {Ls : Array Slot} {st : List Value} {x y : Int32} (hd : decode c.code pc = .ok (.imul, 1))  (hp : pc + 1 = pc') (G : Go p e below P (T.setTop (mkF m pc' Ls (.int (x * y) :: st)))) : Go p e below P (T.setTop (mkF m pc Ls (.int y :: .int x :: st))) := by
  subst hp; exact Go.of G fun _ q => XS.imul X.here hx rfl hd rfl q
theorem g_ior (X : Stand p l e R s m args below meth c T locs cells slots) (hx : p.tables.exec = Jvm.exec) {pc : Nat} (pc' : Nat) {Ls : Array Slot} {st : List Value} {x y : Int32} (hd : decode c.code pc = .ok (.ior, 1))  (hp : pc + 1 = pc') (G : Go p e below P (T.setTop (mkF m pc' Ls (.int (x ||| y) :: st)))) : Go p e below P (T.setTop (mkF m pc Ls (.int y :: .int x :: st))) := by
  subst hp; exact Go.of G fun _ q => XT.ior X.here hx rfl hd rfl q
theorem g_ixor (X : Stand p l e R s m args below meth c T locs cells slots) (hx : p.tables.exec = Jvm.exec) {pc : Nat} (pc' : Nat) {Ls : Array Slot} {st : List Value} {x y : Int32} (hd : decode c.code pc = .ok (.ixor, 1))  (hp : pc + 1 = pc') (G : Go p e below P (T.setTop (mkF m pc' Ls (.int (x ^^^ y) :: st)))) : Go p e below P (T.setTop (mkF m pc Ls (.int y :: .int x :: st))) := by
  subst hp; exact Go.of G fun _ q => XT.ixor X.here hx rfl hd rfl q
theorem g_ishl (X : Stand p l e R s m args below meth c T locs cells slots) (hx : p.tables.exec = Jvm.exec) {pc : Nat} (pc' : Nat) {Ls : Array Slot} {st : List Value} {x y : Int32} (hd : decode c.code pc = .ok (.ishl, 1))  (hp : pc + 1 = pc') (G : Go p e below P (T.setTop (mkF m pc' Ls (.int (x <<< (y &&& 31)) :: st)))) : Go p e below P (T.setTop (mkF m pc Ls (.int y :: .int x :: st))) := by
  subst hp; exact Go.of G fun _ q => XT.ishl X.here hx rfl hd rfl q
theorem g_ishr (X : Stand p l e R s m args below meth c T locs cells slots) (hx : p.tables.exec = Jvm.exec) {pc : Nat} (pc' : Nat) {Ls : Array Slot} {st : List Value} {x y : Int32} (hd : decode c.code pc = .ok (.ishr, 1))  (hp : pc + 1 = pc') (G : Go p e below P (T.setTop (mkF m pc' Ls (.int (x >>> (y &&& 31)) :: st)))) : Go p e below P (T.setTop (mkF m pc Ls (.int y :: .int x :: st))) := by
  subst hp; exact Go.of G fun _ q => XT.ishr X.here hx rfl hd rfl q
theorem g_iushr (X : Stand p l e R s m args below meth c T locs cells slots) (hx : p.tables.exec = Jvm.exec) {pc : Nat} (pc' : Nat) {Ls : Array Slot} {st : List Value} {x y : Int32} (hd : decode c.code pc = .ok (.iushr, 1))  (hp : pc + 1 = pc') (G : Go p e below P (T.setTop (mkF m pc' Ls (.int (XT.ushr x y) :: st)))) : Go p e below P (T.setTop (mkF m pc Ls (.int y :: .int x :: st))) := by
  subst hp; exact Go.of G fun _ q => XT.iushr X.here hx rfl hd rfl q
theorem g_idiv (X : Stand p l e R s m args below meth c T locs cells slots) (hx : p.tables.exec = Jvm.exec) {pc : Nat} (pc' : Nat) {Ls : Array Slot} {st : List Value} {x y : Int32} (hd : decode c.code pc = .ok (.idiv, 1)) (hy : y ≠ 0) (hp : pc + 1 = pc') (G : Go p e below P (T.setTop (mkF m pc' Ls (.int (x / y) :: st)))) : Go p e below P (T.setTop (mkF m pc Ls (.int y :: .int x :: st))) := by
  subst hp; exact Go.of G fun _ q => XS.idiv X.here hx rfl hd rfl hy q
theorem g_irem (X : Stand p l e R s m args below meth c T locs cells slots) (hx : p.tables.exec = Jvm.exec) {pc : Nat} (pc' : Nat) {Ls : Array Slot} {st : List Value} {x y : Int32} (hd : decode c.code pc = .ok (.irem, 1)) (hy : y ≠ 0) (hp : pc + 1 = pc') (G : Go p e below P (T.setTop (mkF m pc' Ls (.int (x % y) :: st)))) : Go p e below P (T.setTop (mkF m pc Ls (.int y :: .int x :: st))) := by
  subst hp; exact Go.of G fun _ q => iremM X hx rfl hd rfl hy q
theorem g_ineg (X : Stand p l e R s m args below meth c T locs cells slots) (hx : p.tables.exec = Jvm.exec) {pc : Nat} (pc' : Nat) {Ls : Array Slot} {st : List Value} {x : Int32} (hd : decode c.code pc = .ok (.ineg, 1))  (hp : pc + 1 = pc') (G : Go p e below P (T.setTop (mkF m pc' Ls (.int (-x) :: st)))) : Go p e below P (T.setTop (mkF m pc Ls (.int x :: st))) := by
  subst hp; exact Go.of G fun _ q => XS.ineg X.here hx rfl hd rfl q
theorem g_ladd (X : Stand p l e R s m args below meth c T locs cells slots) (hx : p.tables.exec = Jvm.exec) {pc : Nat} (pc' : Nat) {Ls : Array Slot} {st : List Value} {x y : Int64} (hd : decode c.code pc = .ok (.ladd, 1))  (hp : pc + 1 = pc') (G : Go p e below P (T.setTop (mkF m pc' Ls (.long (x + y) :: st)))) : Go p e below P (T.setTop (mkF m pc Ls (.long y :: .long x :: st))) := by
  subst hp; exact Go.of G fun _ q => XT.ladd X.here hx rfl hd rfl q
theorem g_lsub (X : Stand p l e R s m args below meth c T locs cells slots) (hx : p.tables.exec = Jvm.exec) {pc : Nat} (pc' : Nat) {Ls : Array Slot} {st : List Value} {x y : Int64} (hd : decode c.code pc = .ok (.lsub, 1))  (hp : pc + 1 = pc') (G : Go p e below P (T.setTop (mkF m pc' Ls (.long (x - y) :: st)))) : Go p e below P (T.setTop (mkF m pc Ls (.long y :: .long x :: st))) := by
  subst hp; exact Go.of G fun _ q => XT.lsub X.here hx rfl hd rfl q
theorem g_lmul (X : Stand p l e R s m args below meth c T locs cells slots) (hx : p.tables.exec = Jvm.exec) {pc : Nat} (pc' : Nat) {Ls : Array Slot} {st : List Value} {x y : Int64} (hd : decode c.code pc = .ok (.lmul, 1))  (hp : pc + 1 = pc') (G : Go p e below P (T.setTop (mkF m pc' Ls (.long (x * y) :: st)))) : Go p e below P (T.setTop (mkF m pc Ls (.long y :: .long x :: st))) := by
  subst hp; exact Go.of G fun _ q => XT.lmul X.here hx rfl hd rfl q
theorem g_land (X : Stand p l e R s m args below meth c T locs cells slots) (hx : p.tables.exec = Jvm.exec) {pc : Nat} (pc' : Nat) {Ls : Array Slot} {st : List Value} {x y : Int64} (hd : decode c.code pc = .ok (.land, 1))  (hp : pc + 1 = pc') (G : Go p e below P (T.setTop (mkF m pc' Ls (.long (x &&& y) :: st)))) : Go p e below P (T.setTop (mkF m pc Ls (.long y :: .long x :: st))) := by
  subst hp; exact Go.of G fun _ q => XT.land X.here hx rfl hd rfl q
theorem g_lor (X : Stand p l e R s m args below meth c T locs cells slots) (hx : p.tables.exec = Jvm.exec) {pc : Nat} (pc' : Nat) {Ls : Array Slot} {st : List Value} {x y : Int64} (hd : decode c.code pc = .ok (.lor, 1))  (hp : pc + 1 = pc') (G : Go p e below P (T.setTop (mkF m pc' Ls (.long (x ||| y) :: st)))) : Go p e below P (T.setTop (mkF m pc Ls (.long y :: .long x :: st))) := by
  subst hp; exact Go.of G fun _ q => XT.lor X.here hx rfl hd rfl q
theorem g_lxor (X : Stand p l e R s m args below meth c T locs cells slots) (hx : p.tables.exec = Jvm.exec) {pc : Nat} (pc' : Nat) {Ls : Array Slot} {st : List Value} {x y : Int64} (hd : decode c.code pc = .ok (.lxor, 1))  (hp : pc + 1 = pc') (G : Go p e below P (T.setTop (mkF m pc' Ls (.long (x ^^^ y) :: st)))) : Go p e below P (T.setTop (mkF m pc Ls (.long y :: .long x :: st))) := by
  subst hp; exact Go.of G fun _ q => XT.lxor X.here hx rfl hd rfl q
theorem g_ldiv (X : Stand p l e R s m args below meth c T locs cells slots) (hx : p.tables.exec = Jvm.exec) {pc : Nat} (pc' : Nat) {Ls : Array Slot} {st : List Value} {x y : Int64} (hd : decode c.code pc = .ok (.ldiv, 1)) (hy : y ≠ 0) (hp : pc + 1 = pc') (G : Go p e below P (T.setTop (mkF m pc' Ls (.long (x / y) :: st)))) : Go p e below P (T.setTop (mkF m pc Ls (.long y :: .long x :: st))) := by
  subst hp; exact Go.of G fun _ q => XT.ldiv X.here hx rfl hd rfl hy q
theorem g_lrem (X : Stand p l e R s m args below meth c T locs cells slots) (hx : p.tables.exec = Jvm.exec) {pc : Nat} (pc' : Nat) {Ls : Array Slot} {st : List Value} {x y : Int64} (hd : decode c.code pc = .ok (.lrem, 1)) (hy : y ≠ 0) (hp : pc + 1 = pc') (G : Go p e below P (T.setTop (mkF m pc' Ls (.long (x % y) :: st)))) : Go p e below P (T.setTop (mkF m pc Ls (.long y :: .long x :: st))) := by
  subst hp; exact Go.of G fun _ q => XT.lrem X.here hx rfl hd rfl hy (by rw [Jvm.RoadKit.lrem_mod]; exact q)
theorem g_lneg (X : Stand p l e R s m args below meth c T locs cells slots) (hx : p.tables.exec = Jvm.exec) {pc : Nat} (pc' : Nat) {Ls : Array Slot} {st : List Value} {x : Int64} (hd : decode c.code pc = .ok (.lneg, 1))  (hp : pc + 1 = pc') (G : Go p e below P (T.setTop (mkF m pc' Ls (.long (-x) :: st)))) : Go p e below P (T.setTop (mkF m pc Ls (.long x :: st))) := by
  subst hp; exact Go.of G fun _ q => XT.lneg X.here hx rfl hd rfl q
theorem g_lshl (X : Stand p l e R s m args below meth c T locs cells slots) (hx : p.tables.exec = Jvm.exec) {pc : Nat} (pc' : Nat) {Ls : Array Slot} {st : List Value} {x : Int64} {y : Int32} (hd : decode c.code pc = .ok (.lshl, 1))  (hp : pc + 1 = pc') (G : Go p e below P (T.setTop (mkF m pc' Ls (.long (x <<< (y.toInt64 &&& 63)) :: st)))) : Go p e below P (T.setTop (mkF m pc Ls (.int y :: .long x :: st))) := by
  subst hp; exact Go.of G fun _ q => XT.lshl X.here hx rfl hd rfl q
theorem g_lshr (X : Stand p l e R s m args below meth c T locs cells slots) (hx : p.tables.exec = Jvm.exec) {pc : Nat} (pc' : Nat) {Ls : Array Slot} {st : List Value} {x : Int64} {y : Int32} (hd : decode c.code pc = .ok (.lshr, 1))  (hp : pc + 1 = pc') (G : Go p e below P (T.setTop (mkF m pc' Ls (.long (x >>> (y.toInt64 &&& 63)) :: st)))) : Go p e below P (T.setTop (mkF m pc Ls (.int y :: .long x :: st))) := by
  subst hp; exact Go.of G fun _ q => XT.lshr X.here hx rfl hd rfl q
theorem g_lushr (X : Stand p l e R s m args below meth c T locs cells slots) (hx : p.tables.exec = Jvm.exec) {pc : Nat} (pc' : Nat) {Ls : Array Slot} {st : List Value} {x : Int64} {y : Int32} (hd : decode c.code pc = .ok (.lushr, 1))  (hp : pc + 1 = pc') (G : Go p e below P (T.setTop (mkF m pc' Ls (.long (XT.ushrL x y) :: st)))) : Go p e below P (T.setTop (mkF m pc Ls (.int y :: .long x :: st))) := by
  subst hp; exact Go.of G fun _ q => XT.lushr X.here hx rfl hd rfl q
theorem g_lcmp (X : Stand p l e R s m args below meth c T locs cells slots) (hx : p.tables.exec = Jvm.exec) {pc : Nat} (pc' : Nat) {Ls : Array Slot} {st : List Value} {x y : Int64} (hd : decode c.code pc = .ok (.lcmp, 1))  (hp : pc + 1 = pc') (G : Go p e below P (T.setTop (mkF m pc' Ls (.int (XT.cmpL x y) :: st)))) : Go p e below P (T.setTop (mkF m pc Ls (.long y :: .long x :: st))) := by
  subst hp; exact Go.of G fun _ q => XT.lcmp X.here hx rfl hd rfl q
theorem g_i2l (X : Stand p l e R s m args below meth c T locs cells slots) (hx : p.tables.exec = Jvm.exec) {pc : Nat} (pc' : Nat) {Ls : Array Slot} {st : List Value} {x : Int32} (hd : decode c.code pc = .ok (.i2l, 1))  (hp : pc + 1 = pc') (G : Go p e below P (T.setTop (mkF m pc' Ls (.long (x.toInt64) :: st)))) : Go p e below P (T.setTop (mkF m pc Ls (.int x :: st))) := by
  subst hp; exact Go.of G fun _ q => XT.i2l X.here hx rfl hd rfl q
theorem g_l2i (X : Stand p l e R s m args below meth c T locs cells slots) (hx : p.tables.exec = Jvm.exec) {pc : Nat} (pc' : Nat) {Ls : Array Slot} {st : List Value} {x : Int64} (hd : decode c.code pc = .ok (.l2i, 1))  (hp : pc + 1 = pc') (G : Go p e below P (T.setTop (mkF m pc' Ls (.int (x.toInt32) :: st)))) : Go p e below P (T.setTop (mkF m pc Ls (.long x :: st))) := by
  subst hp; exact Go.of G fun _ q => XT.l2i X.here hx rfl hd rfl q
theorem g_i2b (X : Stand p l e R s m args below meth c T locs cells slots) (hx : p.tables.exec = Jvm.exec) {pc : Nat} (pc' : Nat) {Ls : Array Slot} {st : List Value} {x : Int32} (hd : decode c.code pc = .ok (.i2b, 1))  (hp : pc + 1 = pc') (G : Go p e below P (T.setTop (mkF m pc' Ls (.int (x.toInt8.toInt32) :: st)))) : Go p e below P (T.setTop (mkF m pc Ls (.int x :: st))) := by
  subst hp; exact Go.of G fun _ q => XT.i2b X.here hx rfl hd rfl q
theorem g_i2c (X : Stand p l e R s m args below meth c T locs cells slots) (hx : p.tables.exec = Jvm.exec) {pc : Nat} (pc' : Nat) {Ls : Array Slot} {st : List Value} {x : Int32} (hd : decode c.code pc = .ok (.i2c, 1))  (hp : pc + 1 = pc') (G : Go p e below P (T.setTop (mkF m pc' Ls (.int (x.toUInt32.toUInt16.toUInt32.toInt32) :: st)))) : Go p e below P (T.setTop (mkF m pc Ls (.int x :: st))) := by
  subst hp; exact Go.of G fun _ q => XT.i2c X.here hx rfl hd rfl q
theorem g_i2s (X : Stand p l e R s m args below meth c T locs cells slots) (hx : p.tables.exec = Jvm.exec) {pc : Nat} (pc' : Nat) {Ls : Array Slot} {st : List Value} {x : Int32} (hd : decode c.code pc = .ok (.i2s, 1))  (hp : pc + 1 = pc') (G : Go p e below P (T.setTop (mkF m pc' Ls (.int (x.toInt16.toInt32) :: st)))) : Go p e below P (T.setTop (mkF m pc Ls (.int x :: st))) := by
  subst hp; exact Go.of G fun _ q => XT.i2s X.here hx rfl hd rfl q
theorem g_dup (X : Stand p l e R s m args below meth c T locs cells slots) (hx : p.tables.exec = Jvm.exec) {pc : Nat} (pc' : Nat) {Ls : Array Slot} {st : List Value} {x : Value} (hd : decode c.code pc = .ok (.dup, 1)) (hc : x.category = 1) (hp : pc + 1 = pc') (G : Go p e below P (T.setTop (mkF m pc' Ls (x :: x :: st)))) : Go p e below P (T.setTop (mkF m pc Ls (x :: st))) := by
  subst hp; exact Go.of G fun _ q => XS.dup X.here hx rfl hd rfl hc q
theorem g_pop (X : Stand p l e R s m args below meth c T locs cells slots) (hx : p.tables.exec = Jvm.exec) {pc : Nat} (pc' : Nat) {Ls : Array Slot} {st : List Value} {x : Value} (hd : decode c.code pc = .ok (.pop, 1)) (hc : x.category = 1) (hp : pc + 1 = pc') (G : Go p e below P (T.setTop (mkF m pc' Ls (st)))) : Go p e below P (T.setTop (mkF m pc Ls (x :: st))) := by
  subst hp; exact Go.of G fun _ q => XT.pop X.here hx rfl hd rfl hc q
theorem g_dup_x1 (X : Stand p l e R s m args below meth c T locs cells slots) (hx : p.tables.exec = Jvm.exec) {pc : Nat} (pc' : Nat) {Ls : Array Slot} {st : List Value} {x y : Value} (hd : decode c.code pc = .ok (.dup_x1, 1)) (hc : x.category = 1) (hc' : y.category = 1) (hp : pc + 1 = pc') (G : Go p e below P (T.setTop (mkF m pc' Ls (x :: y :: x :: st)))) : Go p e below P (T.setTop (mkF m pc Ls (x :: y :: st))) := by
  subst hp; exact Go.of G fun _ q => XT.dupX1 X.here hx rfl hd rfl hc hc' q
theorem g_dup2 (X : Stand p l e R s m args below meth c T locs cells slots) (hx : p.tables.exec = Jvm.exec) {pc : Nat} (pc' : Nat) {Ls : Array Slot} {st : List Value} {x y : Value} (hd : decode c.code pc = .ok (.dup2, 1)) (hc : x.category = 1) (hc' : y.category = 1) (hp : pc + 1 = pc') (G : Go p e below P (T.setTop (mkF m pc' Ls (x :: y :: x :: y :: st)))) : Go p e below P (T.setTop (mkF m pc Ls (x :: y :: st))) := by
  subst hp; exact Go.of G fun _ q => XT.dup2 X.here hx rfl hd rfl hc hc' q
theorem g_ldc (X : Stand p l e R s m args below meth c T locs cells slots) (hx : p.tables.exec = Jvm.exec) {pc : Nat} (pc' : Nat) {Ls : Array Slot} {st : List Value} {own : String} {i : Nat} {v : Int32} (hd : decode c.code pc = .ok (.ldc i, 2)) (hown : s.vm.findClass own = some m.cls) (hw : (Jvm.Cond.constant own i v).before args s = true) (hp : pc + 2 = pc') (G : Go p e below P (T.setTop (mkF m pc' Ls (.int v :: st)))) : Go p e below P (T.setTop (mkF m pc Ls (st))) := by
  subst hp; exact Go.of G fun _ q => X.ldcI hx hown hw rfl hd q
theorem g_ldc2_w (X : Stand p l e R s m args below meth c T locs cells slots) (hx : p.tables.exec = Jvm.exec) {pc : Nat} (pc' : Nat) {Ls : Array Slot} {st : List Value} {own : String} {i : Nat} {v : Int64} (hd : decode c.code pc = .ok (.ldc2_w i, 3)) (hown : s.vm.findClass own = some m.cls) (hw : (Jvm.Cond.constantLong own i v).before args s = true) (hp : pc + 3 = pc') (G : Go p e below P (T.setTop (mkF m pc' Ls (.long v :: st)))) : Go p e below P (T.setTop (mkF m pc Ls (st))) := by
  subst hp; exact Go.of G fun _ q => X.ldc2J hx hown hw rfl hd q
theorem g_ifN (X : Stand p l e R s m args below meth c T locs cells slots) (hx : p.tables.exec = Jvm.exec) {pc : Nat} (pc' : Nat) {Ls : Array Slot} {st : List Value} {cd : ClassFile.Cond} {o : Int} {x : Int32} (hd : decode c.code pc = .ok (.ifCond cd o, 3)) (hc : ifCond.holds cd x = false) (hp : pc + 3 = pc') (G : Go p e below P (T.setTop (mkF m pc' Ls (st)))) : Go p e below P (T.setTop (mkF m pc Ls (.int x :: st))) := by
  subst hp; exact Go.of G fun _ q => XS.ifNo X.here hx rfl hd rfl hc q
theorem g_icmpN (X : Stand p l e R s m args below meth c T locs cells slots) (hx : p.tables.exec = Jvm.exec) {pc : Nat} (pc' : Nat) {Ls : Array Slot} {st : List Value} {cd : ClassFile.Cond} {o : Int} {x y : Int32} (hd : decode c.code pc = .ok (.if_icmp cd o, 3)) (hc : if_icmp.holds cd x y = false) (hp : pc + 3 = pc') (G : Go p e below P (T.setTop (mkF m pc' Ls (st)))) : Go p e below P (T.setTop (mkF m pc Ls (.int y :: .int x :: st))) := by
  subst hp; exact Go.of G fun _ q => XS.icmpNo X.here hx rfl hd rfl hc q
theorem g_acmpN (X : Stand p l e R s m args below meth c T locs cells slots) (hx : p.tables.exec = Jvm.exec) {pc : Nat} (pc' : Nat) {Ls : Array Slot} {st : List Value} {cd : ClassFile.ACond} {o : Int} {x y : Value} (hd : decode c.code pc = .ok (.if_acmp cd o, 3)) (hx' : x.isRef = true) (hy' : y.isRef = true) (hc : XT.acmp cd x y = false) (hp : pc + 3 = pc') (G : Go p e below P (T.setTop (mkF m pc' Ls (st)))) : Go p e below P (T.setTop (mkF m pc Ls (y :: x :: st))) := by
  subst hp; exact Go.of G fun _ q => XT.acmpNo X.here hx rfl hd rfl hx' hy' hc q
theorem g_ifnullN (X : Stand p l e R s m args below meth c T locs cells slots) (hx : p.tables.exec = Jvm.exec) {pc : Nat} (pc' : Nat) {Ls : Array Slot} {st : List Value} {o : Int} {b : Addr} (hd : decode c.code pc = .ok (.ifnull o, 3))  (hp : pc + 3 = pc') (G : Go p e below P (T.setTop (mkF m pc' Ls (st)))) : Go p e below P (T.setTop (mkF m pc Ls (.ref b :: st))) := by
  subst hp; exact Go.of G fun _ q => XS.ifnullNo X.here hx rfl hd rfl q
theorem g_ifnonnullN (X : Stand p l e R s m args below meth c T locs cells slots) (hx : p.tables.exec = Jvm.exec) {pc : Nat} (pc' : Nat) {Ls : Array Slot} {st : List Value} {o : Int} (hd : decode c.code pc = .ok (.ifnonnull o, 3))  (hp : pc + 3 = pc') (G : Go p e below P (T.setTop (mkF m pc' Ls (st)))) : Go p e below P (T.setTop (mkF m pc Ls (.null :: st))) := by
  subst hp; exact Go.of G fun _ q => XT.ifnonnullNo X.here hx rfl hd rfl q
theorem g_goto (X : Stand p l e R s m args below meth c T locs cells slots) (hx : p.tables.exec = Jvm.exec) {pc : Nat} (pc' : Nat) {o : Int} {Ls : Array Slot} {st : List Value}  (hd : decode c.code pc = .ok (.goto o, 3))  (ho : 0 ≤ (pc : Int) + o) (hp : ((pc : Int) + o).toNat = pc') (G : Go p e below P (T.setTop (mkF m pc' Ls st))) : Go p e below P (T.setTop (mkF m pc Ls (st))) :=
  Go.of G fun _ q => XS.goto X.here hx rfl (pc0 := pc) rfl hd ho hp q
theorem g_ifY (X : Stand p l e R s m args below meth c T locs cells slots) (hx : p.tables.exec = Jvm.exec) {pc : Nat} (pc' : Nat) {o : Int} {Ls : Array Slot} {st : List Value} {cd : ClassFile.Cond} {x : Int32} (hd : decode c.code pc = .ok (.ifCond cd o, 3)) (hc : ifCond.holds cd x = true) (ho : 0 ≤ (pc : Int) + o) (hp : ((pc : Int) + o).toNat = pc') (G : Go p e below P (T.setTop (mkF m pc' Ls st))) : Go p e below P (T.setTop (mkF m pc Ls (.int x :: st))) :=
  Go.of G fun _ q => XS.ifYes X.here hx rfl (pc0 := pc) rfl hd rfl hc ho hp q
theorem g_icmpY (X : Stand p l e R s m args below meth c T locs cells slots) (hx : p.tables.exec = Jvm.exec) {pc : Nat} (pc' : Nat) {o : Int} {Ls : Array Slot} {st : List Value} {cd : ClassFile.Cond} {x y : Int32} (hd : decode c.code pc = .ok (.if_icmp cd o, 3)) (hc : if_icmp.holds cd x y = true) (ho : 0 ≤ (pc : Int) + o) (hp : ((pc : Int) + o).toNat = pc') (G : Go p e below P (T.setTop (mkF m pc' Ls st))) : Go p e below P (T.setTop (mkF m pc Ls (.int y :: .int x :: st))) :=
  Go.of G fun _ q => XS.icmpYes X.here hx rfl (pc0 := pc) rfl hd rfl hc ho hp q
theorem g_acmpY (X : Stand p l e R s m args below meth c T locs cells slots) (hx : p.tables.exec = Jvm.exec) {pc : Nat} (pc' : Nat) {o : Int} {Ls : Array Slot} {st : List Value} {cd : ClassFile.ACond} {x y : Value} (hd : decode c.code pc = .ok (.if_acmp cd o, 3)) (hx' : x.isRef = true) (hy' : y.isRef = true) (hc : XT.acmp cd x y = true) (ho : 0 ≤ (pc : Int) + o) (hp : ((pc : Int) + o).toNat = pc') (G : Go p e below P (T.setTop (mkF m pc' Ls st))) : Go p e below P (T.setTop (mkF m pc Ls (y :: x :: st))) :=
  Go.of G fun _ q => XT.acmpYes X.here hx rfl (pc0 := pc) rfl hd rfl hx' hy' hc ho hp q
theorem g_ifnullY (X : Stand p l e R s m args below meth c T locs cells slots) (hx : p.tables.exec = Jvm.exec) {pc : Nat} (pc' : Nat) {o : Int} {Ls : Array Slot} {st : List Value}  (hd : decode c.code pc = .ok (.ifnull o, 3))  (ho : 0 ≤ (pc : Int) + o) (hp : ((pc : Int) + o).toNat = pc') (G : Go p e below P (T.setTop (mkF m pc' Ls st))) : Go p e below P (T.setTop (mkF m pc Ls (.null :: st))) :=
  Go.of G fun _ q => XS.ifnullYes X.here hx rfl (pc0 := pc) rfl hd rfl ho hp q
theorem g_ifnonnullY (X : Stand p l e R s m args below meth c T locs cells slots) (hx : p.tables.exec = Jvm.exec) {pc : Nat} (pc' : Nat) {o : Int} {Ls : Array Slot} {st : List Value} {b : Addr} (hd : decode c.code pc = .ok (.ifnonnull o, 3))  (ho : 0 ≤ (pc : Int) + o) (hp : ((pc : Int) + o).toNat = pc') (G : Go p e below P (T.setTop (mkF m pc' Ls st))) : Go p e below P (T.setTop (mkF m pc Ls (.ref b :: st))) :=
  Go.of G fun _ q => XT.ifnonnullYes X.here hx rfl (pc0 := pc) rfl hd rfl ho hp q

theorem g_callS (X : Stand p l e R s m args below meth c T locs cells slots) (hx : p.tables.exec = Jvm.exec) (hZ : Z.Warmed39 s.vm) {own : String} {index : Nat} {y : MethodName} {bytes : ByteArray} {maxL : Nat} {ret : Option FieldType} {rm : Room} {as' : List Value} {Q' : Option Value → Heap → List Loc → Prop}
    (hown : s.vm.findClass own = some m.cls) (w1 : (Jvm.Cond.methodLink own index y).before a0 Z = true) (w2 : (Jvm.Cond.static y).before a0 Z = true) (w3 : (Jvm.Cond.initialized y.cls).before a0 Z = true) (w4 : (Jvm.Cond.code y bytes maxL ret).before a0 Z = true)
    (np : y.cls ≠ "java/lang/invoke/MethodHandle" ∧ y.cls ≠ "java/lang/invoke/VarHandle") (eT : T.heap = h)
    (hM : MetFree l y (head1 [Jvm.Cond.code y bytes maxL ret] rm) (fun a U => a = as'.toArray ∧ Z.Warmed39 U.vm ∧ U.heap = h) (fun _ _ _ _ _ => True) (fun _ U o U' => ∃ v L, o = .returned v ∧ Q' v U'.heap L ∧ FrameEnd U o U' L rm.cells rm.slots))
    {ps : List FieldType} {rt : Option FieldType} (pd : parseMethodDescriptor y.desc = some ⟨ps, rt⟩) (hlen : as'.length = ps.length)
    (W : Nat) (hf : rm.frames + 1 ≤ R.frames) (hl : W + (maxL + 11) + rm.locals ≤ R.locals) (hc : cells + rm.cells ≤ R.cells) (hs : slots + rm.slots ≤ R.slots)
    {pc : Nat} {Ls : Array Slot} {rest st : List Value} (hsz : Ls.size = c.maxLocals) (hst : st = as'.reverse ++ rest) (hW : (rest.map fun v => v.category).sum ≤ W) (hd : decode c.code pc = .ok (.invokestatic index, 3)) :
    ∃ v T' L, Stand p l e R s m args below meth c T' (locs ++ L) (cells + rm.cells) (slots + rm.slots) ∧ Q' v T'.heap L ∧ ∀ t, Steps p.tables e below (T'.setTop (mkF m (pc + 3) Ls (v.toList ++ rest))) t → Steps p.tables e below (T.setTop (mkF m pc Ls st)) t := by
  obtain ⟨v, _, ⟨T', L', k', n'⟩, -, X', ⟨L, hQ, l1, y1, z1⟩, st'⟩ := Jvm.LawKit.callS X hx (y := y) hown (mvT hZ w1) (mvT hZ w2) (mvT hZ w3) (mvT hZ w4) np (backOf (W := W) hM hZ w4 w3 hf hl) (g := mkF m pc Ls st) rfl hsz (argsL := as') (rest := rest) (lenOf pd hlen) hst (by show 2 * 0 + _ ≤ _; omega) hd (fun _ _ => ⟨rfl, eT, hc, hs⟩)
  dsimp only [Pt.U, Pt.locs, Pt.cells, Pt.slots] at X' l1 y1 z1 st' hQ
  subst l1 y1 z1
  exact ⟨v, T', L, X', hQ, st'⟩
/-- a callee that only answers -/
def Pur (w : Option Value) (h0 : Heap) (v : Option Value) (h : Heap) (L : List Loc) : Prop := v = w ∧ L = [] ∧ h = h0
theorem g_callSP (X : Stand p l e R s m args below meth c T locs cells slots) (hx : p.tables.exec = Jvm.exec) (hZ : Z.Warmed39 s.vm) {own : String} {index : Nat} {y : MethodName} {bytes : ByteArray} {maxL : Nat} {ret : Option FieldType} {rm : Room} {as' : List Value} {w : Option Value}
    (hown : s.vm.findClass own = some m.cls) (w1 : (Jvm.Cond.methodLink own index y).before a0 Z = true) (w2 : (Jvm.Cond.static y).before a0 Z = true) (w3 : (Jvm.Cond.initialized y.cls).before a0 Z = true) (w4 : (Jvm.Cond.code y bytes maxL ret).before a0 Z = true)
    (np : y.cls ≠ "java/lang/invoke/MethodHandle" ∧ y.cls ≠ "java/lang/invoke/VarHandle") (eT : T.heap = h)
    (hM : MetFree l y (head1 [Jvm.Cond.code y bytes maxL ret] rm) (fun a U => a = as'.toArray ∧ Z.Warmed39 U.vm ∧ U.heap = h) (fun _ _ _ _ _ => True) (fun _ U o U' => ∃ v L, o = .returned v ∧ Pur w h v U'.heap L ∧ FrameEnd U o U' L rm.cells rm.slots))
    {ps : List FieldType} {rt : Option FieldType} (pd : parseMethodDescriptor y.desc = some ⟨ps, rt⟩) (hlen : as'.length = ps.length)
    (W : Nat) (hf : rm.frames + 1 ≤ R.frames) (hl : W + (maxL + 11) + rm.locals ≤ R.locals) (hc : cells + rm.cells ≤ R.cells) (hs : slots + rm.slots ≤ R.slots) (h0 : rm.cells = 0) (h1 : rm.slots = 0)
    {pc pc' : Nat} {Ls : Array Slot} {rest st : List Value} (hsz : Ls.size = c.maxLocals) (hst : st = as'.reverse ++ rest) (hW : (rest.map fun v => v.category).sum ≤ W) (hd : decode c.code pc = .ok (.invokestatic index, 3)) (hp : pc + 3 = pc') :
    ∃ T', Stand p l e R s m args below meth c T' locs cells slots ∧ T'.heap = h ∧ ∀ {P : State → Outcome → Prop}, Go p e below P (T'.setTop (mkF m pc' Ls (w.toList ++ rest))) → Go p e below P (T.setTop (mkF m pc Ls st)) := by
  obtain ⟨v, T', L, X', ⟨rfl, rfl, e1⟩, st'⟩ := g_callS X hx hZ hown w1 w2 w3 w4 np eT hM pd hlen W hf hl hc hs hsz hst hW hd
  subst hp
  rw [h0, h1, List.append_nil] at X'
  exact ⟨T', X', e1, fun G => Go.of G st'⟩


theorem g_getF (X : Stand p l e R s m args below meth c T locs cells slots) (hx : p.tables.exec = Jvm.exec) (hZ : Z.Warmed39 s.vm) {own R0 O n d : String} {index : Nat} (hown : s.vm.findClass own = some m.cls) (w : (Jvm.Cond.fieldLink own index R0 n d).before a0 Z = true) (via : Via Z R0 O n d) (eT : T.heap = h) {a : Addr} {v : Value} (F : Fld Z h a O n d v)
    {pc : Nat} (pc' : Nat) {Ls : Array Slot} {st : List Value} (hd : decode c.code pc = .ok (.getfield index, 3)) (hp : pc + 3 = pc') :
    ∃ T', Stand p l e R s m args below meth c T' locs cells slots ∧ T'.heap = h ∧ ∀ {P : State → Outcome → Prop}, Go p e below P (T'.setTop (mkF m pc' Ls (v :: st))) → Go p e below P (T.setTop (mkF m pc Ls (.ref a :: st))) := by
  subst hp
  obtain ⟨T', X', e', f⟩ := getF X hx hZ hown (host := "") (Or.inl w) via eT F (g := mkF m pc Ls (.ref a :: st)) rfl rfl hd
  exact ⟨T', X', e', fun G => Go.of G f⟩
theorem g_getS (X : Stand p l e R s m args below meth c T locs cells slots) (hx : p.tables.exec = Jvm.exec) (hZ : Z.Warmed39 s.vm) {own O n d : String} {index : Nat} (hown : s.vm.findClass own = some m.cls) (w : (Jvm.Cond.fieldLink own index O n d).before a0 Z = true) (eT : T.heap = h) {v : Value} (F : Sta Z h O n d v)
    {pc : Nat} (pc' : Nat) {Ls : Array Slot} {st : List Value} (hd : decode c.code pc = .ok (.getstatic index, 3)) (hp : pc + 3 = pc') :
    ∃ T', Stand p l e R s m args below meth c T' locs cells slots ∧ T'.heap = h ∧ ∀ {P : State → Outcome → Prop}, Go p e below P (T'.setTop (mkF m pc' Ls (v :: st))) → Go p e below P (T.setTop (mkF m pc Ls st)) := by
  subst hp
  obtain ⟨T', X', e', f⟩ := getS X hx hZ hown (host := "") w Via.refl eT F (g := mkF m pc Ls st) rfl hd
  exact ⟨T', X', e', fun G => Go.of G f⟩
theorem g_putF (X : Stand p l e R s m args below meth c T locs cells slots) (hx : p.tables.exec = Jvm.exec) (hZ : Z.Warmed39 s.vm) {own R0 O n d C : String} {index kk : Nat} {ty : FieldType} (hown : s.vm.findClass own = some m.cls) (w : (Jvm.Cond.fieldLink own index R0 n d).before a0 Z = true) (via : Via Z R0 O n d) (eT : T.heap = h) {a : Addr} {v old : Value} (F : Fld Z h a O n d old) (E : Exa Z h a C)
    (L : (Jvm.Cond.lays C O n d).before a0 Z = true ∨ ((Jvm.Cond.laysFinal C O n d).before a0 Z = true ∧ own = O ∧ meth.name = "<init>")) (wi : (Jvm.Cond.instantiable C kk).before a0 Z = true) (hty : parseFieldDescriptor d = some ty) (hn : narrow ty v = v) (hf : fits ty v = true)
    {pc : Nat} (pc' : Nat) {Ls : Array Slot} {st : List Value} (hd : decode c.code pc = .ok (.putfield index, 3)) (hp : pc + 3 = pc') :
    ∃ T' h', Stand p l e R s m args below meth c T' (locs ++ [⟨a, Jvm.RoadKit.slotOf Z O n d⟩]) cells slots ∧ T'.heap = h' ∧ Wr h h' a (Jvm.RoadKit.slotOf Z O n d) v ∧ ∀ {P : State → Outcome → Prop}, Go p e below P (T'.setTop (mkF m pc' Ls st)) → Go p e below P (T.setTop (mkF m pc Ls (v :: .ref a :: st))) := by
  subst hp
  obtain ⟨T', h', X', e', W, f⟩ := putF X hx hZ hown (host := "") (Or.inl w) via eT F E L wi hty hn hf (g := mkF m pc Ls (v :: .ref a :: st)) rfl rfl hd
  exact ⟨T', h', X', e', W, fun G => Go.of G f⟩
theorem g_newO (X : Stand p l e R s m args below meth c T locs cells slots) (hx : p.tables.exec = Jvm.exec) (hZ : Z.Warmed39 s.vm) {own C : String} {index n : Nat} (hown : s.vm.findClass own = some m.cls) (w : (Jvm.Cond.classLink own index C).before a0 Z = true) (wi : (Jvm.Cond.instantiable C n).before a0 Z = true) (wz : (Jvm.Cond.initialized C).before a0 Z = true) (eT : T.heap = h)
    {pc : Nat} (pc' : Nat) {Ls : Array Slot} {st : List Value} (hd : decode c.code pc = .ok (.new index, 3)) (hp : pc + 3 = pc') (hc : cells + 1 ≤ R.cells) (hl : slots + n ≤ R.slots) :
    ∃ T' h' a, Stand p l e R s m args below meth c T' locs (cells + 1) (slots + n) ∧ T'.heap = h' ∧ a = h.size ∧ Ext h h' ∧ Exa Z h' a C ∧ (∀ {O nm d : String} {ty : FieldType}, Laid Z a0 C O nm d → parseFieldDescriptor d = some ty → Fld Z h' a O nm d (defaultValue ty)) ∧
      ∀ {P : State → Outcome → Prop}, Go p e below P (T'.setTop (mkF m pc' Ls (.ref a :: st))) → Go p e below P (T.setTop (mkF m pc Ls st)) := by
  subst hp
  obtain ⟨T', h', X', e', E, A, D, -, f⟩ := newO X hx hZ hown w wi wz eT (g := mkF m pc Ls st) rfl hd hc hl
  exact ⟨T', h', _, X', e', rfl, E, A, D, fun G => Go.of G f⟩
theorem g_initO (X : Stand p l e R s m args below meth c T locs cells slots) (hx : p.tables.exec = Jvm.exec) (hZ : Z.Warmed39 s.vm) {own : String} {idx : Nat} (hown : s.vm.findClass own = some m.cls) (w1 : (Jvm.Cond.methodLink own idx Lib.objectInit).before a0 Z = true) (w2 : (Jvm.Cond.instanceMethod Lib.objectInit).before a0 Z = true)
    (w3 : (Jvm.Cond.code Lib.objectInit ⟨#[0xb1]⟩ 1 none).before a0 Z = true) (eT : T.heap = h) (W : Nat) (hf : 1 ≤ R.frames) (hl : W + 12 ≤ R.locals) {a : Addr} {pc : Nat} (pc' : Nat) {Ls : Array Slot} {st : List Value} (hsz : Ls.size = c.maxLocals) (hW : (st.map fun v => v.category).sum ≤ W) (hd : decode c.code pc = .ok (.invokespecial idx, 3)) (hp : pc + 3 = pc') :
    ∃ T', Stand p l e R s m args below meth c T' locs cells slots ∧ T'.heap = h ∧ ∀ {P : State → Outcome → Prop}, Go p e below P (T'.setTop (mkF m pc' Ls st)) → Go p e below P (T.setTop (mkF m pc Ls (.ref a :: st))) := by
  subst hp
  obtain ⟨T', X', e', f⟩ := initO X hx hZ hown w1 w2 w3 eT (g := mkF m pc Ls (.ref a :: st)) rfl hsz rfl hd hf (W := W) (by show 2 * 0 + _ ≤ _; omega) hl
  exact ⟨T', X', e', fun G => Go.of G f⟩
theorem g_newP (X : Stand p l e R s m args below meth c T locs cells slots) (hx : p.tables.exec = Jvm.exec) (hZ : Z.Warmed39 s.vm) {aty : ArrayType} (w : (Jvm.Cond.arrayClass (newarray.typeOf aty)).before a0 Z = true) (eT : T.heap = h) {n : Int32} (cap : Nat) (hn : ¬ n < 0) (hcap : n.toNatClampNeg ≤ cap) (hbig : cap * 8 ≤ 536870912) (hc : cells + 1 ≤ R.cells) (hl : slots + cap ≤ R.slots)
    {pc : Nat} (pc' : Nat) {Ls : Array Slot} {st : List Value} (hd : decode c.code pc = .ok (.newarray aty, 2)) (hp : pc + 2 = pc') :
    ∃ T' h' a cA, Stand p l e R s m args below meth c T' locs (cells + 1) (slots + cap) ∧ T'.heap = h' ∧ a = h.size ∧ Ext h h' ∧ Arr Z h' a (newA cA (newarray.typeOf aty) n) (newarray.typeOf aty) ∧
      ∀ {P : State → Outcome → Prop}, Go p e below P (T'.setTop (mkF m pc' Ls (.ref a :: st))) → Go p e below P (T.setTop (mkF m pc Ls (.int n :: st))) := by
  subst hp
  obtain ⟨T', h', cA, X', e', E, A, f⟩ := newP X hx hZ w eT (g := mkF m pc Ls (.int n :: st)) rfl hd rfl hn hcap hbig hc hl
  exact ⟨T', h', _, cA, X', e', rfl, E, A, fun G => Go.of G f⟩
theorem g_callI (X : Stand p l e R s m args below meth c T locs cells slots) (hx : p.tables.exec = Jvm.exec) (hZ : Z.Warmed39 s.vm) {own : String} {index : Nat} {y : MethodName} {bytes : ByteArray} {maxL : Nat} {rm : Room} {a : Addr} {as' : List Value} {Q' : Option Value → Heap → List Loc → Prop} (hy1 : y.name = "<init>")
    (hown : s.vm.findClass own = some m.cls) (w1 : (Jvm.Cond.methodLink own index y).before a0 Z = true) (w2 : (Jvm.Cond.instanceMethod y).before a0 Z = true) (w3 : (Jvm.Cond.initialized y.cls).before a0 Z = true) (w4 : (Jvm.Cond.code y bytes maxL none).before a0 Z = true)
    (np : y.cls ≠ "java/lang/invoke/MethodHandle" ∧ y.cls ≠ "java/lang/invoke/VarHandle") (eT : T.heap = h)
    (hM : MetFree l y (head1 [Jvm.Cond.code y bytes maxL none] rm) (fun b U => b = (.ref a :: as').toArray ∧ Z.Warmed39 U.vm ∧ U.heap = h) (fun _ _ _ _ _ => True) (fun _ U o U' => ∃ v L, o = .returned v ∧ Q' v U'.heap L ∧ FrameEnd U o U' L rm.cells rm.slots))
    {ps : List FieldType} {rt : Option FieldType} (pd : parseMethodDescriptor y.desc = some ⟨ps, rt⟩) (hlen : as'.length = ps.length)
    (W : Nat) (hf : rm.frames + 1 ≤ R.frames) (hl : W + (maxL + 11) + rm.locals ≤ R.locals) (hc : cells + rm.cells ≤ R.cells) (hs : slots + rm.slots ≤ R.slots)
    {pc : Nat} {Ls : Array Slot} {rest st : List Value} (hsz : Ls.size = c.maxLocals) (hst : st = as'.reverse ++ .ref a :: rest) (hW : (rest.map fun v => v.category).sum ≤ W) (hd : decode c.code pc = .ok (.invokespecial index, 3)) :
    ∃ v T' L, Stand p l e R s m args below meth c T' (locs ++ L) (cells + rm.cells) (slots + rm.slots) ∧ Q' v T'.heap L ∧ ∀ {P : State → Outcome → Prop}, Go p e below P (T'.setTop (mkF m (pc + 3) Ls (v.toList ++ rest))) → Go p e below P (T.setTop (mkF m pc Ls st)) := by
  obtain ⟨v, _, ⟨T', L', k', n'⟩, -, X', ⟨L, hQ, l1, y1, z1⟩, st'⟩ := X.specialBack hx (y := y) hy1 hown (mvT hZ w1) (mvT hZ w2) (mvT hZ w4) np (backOf (W := W) hM hZ w4 w3 hf hl) (g := mkF m pc Ls st) rfl hsz (Steps.refl _) (a := a) (argsL := as') (rest := rest) (lenOf pd hlen) hst (by show 2 * 0 + _ ≤ _; omega) hd (fun _ _ => ⟨rfl, eT, hc, hs⟩)
  dsimp only [Pt.U, Pt.locs, Pt.cells, Pt.slots] at X' l1 y1 z1 st' hQ
  subst l1 y1 z1
  exact ⟨v, T', L, X', hQ, fun G => Go.of G fun _ q => st'.trans q⟩
theorem g_callV (X : Stand p l e R s m args below meth c T locs cells slots) (hx : p.tables.exec = Jvm.exec) (hZ : Z.Warmed39 s.vm) {own C : String} {index : Nat} {y z : MethodName} {bytes : ByteArray} {maxL : Nat} {ret : Option FieldType} {rm : Room} {a : Addr} {as' : List Value} {Q' : Option Value → Heap → List Loc → Prop}
    (hown : s.vm.findClass own = some m.cls) (w1 : (Jvm.Cond.methodLink own index y).before a0 Z = true) (w2 : (Jvm.Cond.declares y).before a0 Z = true) (w5 : (Jvm.Cond.selects y.cls y y).before a0 Z = true) (w6 : (Jvm.Cond.selects C y z).before a0 Z = true) (w7 : (Jvm.Cond.instanceMethod z).before a0 Z = true) (w3 : (Jvm.Cond.initialized z.cls).before a0 Z = true) (w4 : (Jvm.Cond.code z bytes maxL ret).before a0 Z = true)
    (np : y.cls ≠ "java/lang/invoke/MethodHandle" ∧ y.cls ≠ "java/lang/invoke/VarHandle") (eT : T.heap = h) (E : Exa Z h a C)
    (hM : MetFree l z (head1 [Jvm.Cond.code z bytes maxL ret] rm) (fun b U => b = (.ref a :: as').toArray ∧ Z.Warmed39 U.vm ∧ U.heap = h) (fun _ _ _ _ _ => True) (fun _ U o U' => ∃ v L, o = .returned v ∧ Q' v U'.heap L ∧ FrameEnd U o U' L rm.cells rm.slots))
    {ps : List FieldType} {rt : Option FieldType} (pd : parseMethodDescriptor y.desc = some ⟨ps, rt⟩) (hlen : as'.length = ps.length)
    (W : Nat) (hf : rm.frames + 1 ≤ R.frames) (hl : W + (maxL + 11) + rm.locals ≤ R.locals) (hc : cells + rm.cells ≤ R.cells) (hs : slots + rm.slots ≤ R.slots)
    {pc : Nat} {Ls : Array Slot} {rest st : List Value} (hsz : Ls.size = c.maxLocals) (hst : st = as'.reverse ++ .ref a :: rest) (hW : (rest.map fun v => v.category).sum ≤ W) (hd : decode c.code pc = .ok (.invokevirtual index, 3)) :
    ∃ v T' L, Stand p l e R s m args below meth c T' (locs ++ L) (cells + rm.cells) (slots + rm.slots) ∧ Q' v T'.heap L ∧ ∀ {P : State → Outcome → Prop}, Go p e below P (T'.setTop (mkF m (pc + 3) Ls (v.toList ++ rest))) → Go p e below P (T.setTop (mkF m pc Ls st)) := by
  obtain ⟨cq, kq, qa, qb, qc⟩ := isOf hZ eT E
  obtain ⟨v, _, ⟨T', L', k', n'⟩, -, X', ⟨L, hQ, l1, y1, z1⟩, st'⟩ := X.virtualBack hx (y := y) (z := z) hown (mvT hZ w1) (mvT hZ w2) (notFace_of_selects (args := #[]) (mvT hZ w5)) (mvT hZ w6) (mvT hZ w7) np (backOf (W := W) hM hZ w4 w3 hf hl) qa qc (g := mkF m pc Ls st) rfl hsz (Steps.refl _) (argsL := as') (rest := rest) (lenOf pd hlen) hst (by show 2 * 0 + _ ≤ _; omega) hd (fun _ _ => ⟨rfl, eT, hc, hs⟩)
  dsimp only [Pt.U, Pt.locs, Pt.cells, Pt.slots] at X' l1 y1 z1 st' hQ
  subst l1 y1 z1
  exact ⟨v, T', L, X', hQ, fun G => Go.of G fun _ q => st'.trans q⟩
theorem g_callVP (X : Stand p l e R s m args below meth c T locs cells slots) (hx : p.tables.exec = Jvm.exec) (hZ : Z.Warmed39 s.vm) {own C : String} {index : Nat} {y z : MethodName} {bytes : ByteArray} {maxL : Nat} {ret : Option FieldType} {rm : Room} {a : Addr} {as' : List Value} {w : Option Value}
    (hown : s.vm.findClass own = some m.cls) (w1 : (Jvm.Cond.methodLink own index y).before a0 Z = true) (w2 : (Jvm.Cond.declares y).before a0 Z = true) (w5 : (Jvm.Cond.selects y.cls y y).before a0 Z = true) (w6 : (Jvm.Cond.selects C y z).before a0 Z = true) (w7 : (Jvm.Cond.instanceMethod z).before a0 Z = true) (w3 : (Jvm.Cond.initialized z.cls).before a0 Z = true) (w4 : (Jvm.Cond.code z bytes maxL ret).before a0 Z = true)
    (np : y.cls ≠ "java/lang/invoke/MethodHandle" ∧ y.cls ≠ "java/lang/invoke/VarHandle") (eT : T.heap = h) (E : Exa Z h a C)
    (hM : MetFree l z (head1 [Jvm.Cond.code z bytes maxL ret] rm) (fun b U => b = (.ref a :: as').toArray ∧ Z.Warmed39 U.vm ∧ U.heap = h) (fun _ _ _ _ _ => True) (fun _ U o U' => ∃ v L, o = .returned v ∧ Pur w h v U'.heap L ∧ FrameEnd U o U' L rm.cells rm.slots))
    {ps : List FieldType} {rt : Option FieldType} (pd : parseMethodDescriptor y.desc = some ⟨ps, rt⟩) (hlen : as'.length = ps.length)
    (W : Nat) (hf : rm.frames + 1 ≤ R.frames) (hl : W + (maxL + 11) + rm.locals ≤ R.locals) (hc : cells + rm.cells ≤ R.cells) (hs : slots + rm.slots ≤ R.slots) (h0 : rm.cells = 0) (h1 : rm.slots = 0)
    {pc pc' : Nat} {Ls : Array Slot} {rest st : List Value} (hsz : Ls.size = c.maxLocals) (hst : st = as'.reverse ++ .ref a :: rest) (hW : (rest.map fun v => v.category).sum ≤ W) (hd : decode c.code pc = .ok (.invokevirtual index, 3)) (hp : pc + 3 = pc') :
    ∃ T', Stand p l e R s m args below meth c T' locs cells slots ∧ T'.heap = h ∧ ∀ {P : State → Outcome → Prop}, Go p e below P (T'.setTop (mkF m pc' Ls (w.toList ++ rest))) → Go p e below P (T.setTop (mkF m pc Ls st)) := by
  obtain ⟨v, T', L, X', ⟨rfl, rfl, e1⟩, st'⟩ := g_callV X hx hZ hown w1 w2 w5 w6 w7 w3 w4 np eT E hM pd hlen W hf hl hc hs hsz hst hW hd
  subst hp
  rw [h0, h1, List.append_nil] at X'
  exact ⟨T', X', e1, st'⟩

end Own
def LQ (h0 : Heap) (v : Option Value) (h : Heap) (L : List Loc) : Prop := v = some (.int 1) ∧ Fr h0.size L
def b2i (p : Prop) [Decidable p] : Int32 := if p then 1 else 0
theorem b2i_t {p : Prop} [Decidable p] (h : p) : b2i p = 1 := if_pos h
theorem b2i_f {p : Prop} [Decidable p] (h : ¬ p) : b2i p = 0 := if_neg h
theorem own_use1 (x : Int64) : (x ||| (-9223372036854775808 : Int64)) &&& (9223372036854775807 : Int64) = x &&& (9223372036854775807 : Int64) := by
  apply Int64.toBitVec_inj.mp
  simp only [Int64.toBitVec_and, Int64.toBitVec_or]
  rw [BitVec.and_comm, BitVec.and_or_distrib_left, BitVec.and_comm _ (Int64.toBitVec (-9223372036854775808))]
  rw [show (Int64.toBitVec (-9223372036854775808)) &&& (Int64.toBitVec 9223372036854775807) = 0#64 from by decide, BitVec.or_zero, BitVec.and_comm]
theorem own_use2 (x : Int64) : (x &&& (9223372036854775807 : Int64)) &&& (9223372036854775807 : Int64) = x &&& (9223372036854775807 : Int64) := by
  rw [Int64.and_assoc, Int64.and_self]
theorem own_neg (x : Int64) : (x ||| (-9223372036854775808 : Int64)) < (0 : Int64) := by
  rw [Int64.lt_iff_toInt_lt]; exact (c_orSL x (-9223372036854775808 : Int64)).2.2 (by decide)
theorem own_nonneg (x : Int64) : ¬ (x &&& (9223372036854775807 : Int64)) < (0 : Int64) := by
  rw [Int64.lt_iff_toInt_lt]; have := (c_andSL x (9223372036854775807 : Int64)).2.2 (by decide); have e : (0 : Int64).toInt = 0 := rfl; omega
theorem own_u1 {st s : Int64} (h : st &&& (9223372036854775807 : Int64) = s) : (s ||| ((0 : Int64) &&& (-9223372036854775808 : Int64))) &&& (9223372036854775807 : Int64) = s := by
  rw [Int64.zero_and, Int64.or_zero, ← h, own_use2]
theorem own_ua {u s : Int64} (h : u &&& (9223372036854775807 : Int64) = s) : (u ||| (-9223372036854775808 : Int64)) &&& (9223372036854775807 : Int64) = s := by rw [own_use1, h]
theorem own_ub {u s : Int64} (h : u &&& (9223372036854775807 : Int64) = s) : (u &&& (9223372036854775807 : Int64)) &&& (9223372036854775807 : Int64) = s := by rw [own_use2, h]
def NQ (Z : State) (a : Addr) (h0 : Heap) (n0 : Nat) (q3 : Int32) (q4 : Int64) (v : Option Value) (h : Heap) (L : List Loc) : Prop := v = none ∧ Fr n0 L ∧ Keep h0 h [a] ∧ Fld Z h a "com/example/marble_cache/marblecache/store/Entry" "place" "I" (.int q3) ∧ Fld Z h a "com/example/marble_cache/marblecache/store/Entry" "use" "J" (.long q4)
theorem node_0 : decode prog_86_method_1_code 0 = .ok (.aload_n 0, 1) := by decide +kernel
theorem node_1 : decode prog_86_method_1_code 1 = .ok (.invokespecial 1, 3) := by decide +kernel
theorem node_4 : decode prog_86_method_1_code 4 = .ok (.aload_n 0, 1) := by decide +kernel
theorem node_5 : decode prog_86_method_1_code 5 = .ok (.aload_n 1, 1) := by decide +kernel
theorem node_6 : decode prog_86_method_1_code 6 = .ok (.putfield 7, 3) := by decide +kernel
theorem node_9 : decode prog_86_method_1_code 9 = .ok (.aload_n 0, 1) := by decide +kernel
theorem node_10 : decode prog_86_method_1_code 10 = .ok (.iload_n 2, 1) := by decide +kernel
theorem node_11 : decode prog_86_method_1_code 11 = .ok (.putfield 13, 3) := by decide +kernel
theorem node_14 : decode prog_86_method_1_code 14 = .ok (.return_, 1) := by decide +kernel
theorem pn_node : plainFor (⟨"com/example/marble_cache/marblecache/store/KeyTable$Node", "<init>", "([BI)V"⟩ : MethodName) = true := by first | exact plainFor_of_name (by first | (simp [plainName, overriddenIn]; done) | decide +kernel) | decide +kernel
theorem ef_node (m : MethodId) (qa : Addr) (qk : Addr) (q1 : Int32) : entryFrame m #[(.ref qa), (.ref qk), (.int q1)] 3 = mkF m 0 #[.val (.ref qa), .val (.ref qk), .val (.int q1)] [] := by first | (simp [entryFrame, mkF, argsToLocals, Value.category, maxLocals]; done) | rfl
theorem pd_node : parseMethodDescriptor "([BI)V" = some ⟨[.array (.byte), .int], none⟩ := by decide +kernel
set_option maxRecDepth 65536 in
set_option maxHeartbeats 40000000 in
theorem rm_node (l : Launch) (Z : State) (a0 : Array Value) (hw : ∀ d ∈ tables_1, d.before a0 Z = true)  (qa : Addr) (qk : Addr) (q1 : Int32) (h0 : Heap) (n0 : Nat) (ga : n0 ≤ qa) (E1 : Exa Z h0 qa "com/example/marble_cache/marblecache/store/Entry") (q3 : Int32) (q4 : Int64) (F1 : Fld Z h0 qa "com/example/marble_cache/marblecache/store/Entry" "place" "I" (.int q3))(F2 : Fld Z h0 qa "com/example/marble_cache/marblecache/store/Entry" "use" "J" (.long q4))(F3 : Fld Z h0 qa "com/example/marble_cache/marblecache/store/KeyTable$Node" "key" "[B" .null)(F4 : Fld Z h0 qa "com/example/marble_cache/marblecache/store/KeyTable$Node" "hash" "I" (.int (0 : Int32))) :
    MetFree l (⟨"com/example/marble_cache/marblecache/store/KeyTable$Node", "<init>", "([BI)V"⟩ : MethodName) (head1 [Jvm.Cond.code (⟨"com/example/marble_cache/marblecache/store/KeyTable$Node", "<init>", "([BI)V"⟩ : MethodName) prog_86_method_1_code 3 none] ({ frames := 1, cells := 0, slots := 0, locals := 12 } : Room)) (fun a U => a = #[(.ref qa), (.ref qk), (.int q1)] ∧ Z.Warmed39 U.vm ∧ U.heap = h0) (fun _ _ _ _ _ => True) (fun _ U o U' => ∃ v L, o = .returned v ∧ NQ Z qa h0 n0 q3 q4 v U'.heap L ∧ FrameEnd U o U' L ({ frames := 1, cells := 0, slots := 0, locals := 12 } : Room).cells ({ frames := 1, cells := 0, slots := 0, locals := 12 } : Room).slots) := by
  refine MetFree.of_bodySF pn_node hisR ?_
  intro p e s m args below meth c s₁ Bd hml0 hP hK
  obtain ⟨rfl, hZ, hh⟩ := hP
  have hx := Bd.exec
  have hby := Bd.bytes
  have hml : c.maxLocals = 3 := hml0
  have hown : s.vm.findClass "com/example/marble_cache/marblecache/store/KeyTable$Node" = some m.cls := findClass_of_methodNamed Bd.named
  have hnm := (name_of_methodNamed Bd.named Bd.method).1
  have hlk : meth.locks = false := BodyLoose.notSynchronized Bd
  have X0 : Stand p l e ({ frames := 1, cells := 0, slots := 0, locals := 12 } : Room) s m #[(.ref qa), (.ref qk), (.int q1)] below meth c s₁ [] 0 0 := Stand.of_body Bd
  have e0 : s₁.heap = h0 := by rw [← hh, Bd.state]; rfl
  show Go p e below (EndN below s (NQ Z qa h0 n0 q3 q4) ({ frames := 1, cells := 0, slots := 0, locals := 12 } : Room).cells ({ frames := 1, cells := 0, slots := 0, locals := 12 } : Room).slots) (s₁.setTop (entryFrame m #[(.ref qa), (.ref qk), (.int q1)] 3))
  rw [ef_node]
  refine g_aload_n X0 hx 1 (.ref qa) (hb hby node_0) rfl rfl rfl ?_
  obtain ⟨T_1, X_1, e_1, st_1⟩ := g_initO X0 hx hZ hown (hw _ (List.mem_of_getElem? (i := 12) rfl)) (hw _ (List.mem_of_getElem? (i := 13) rfl)) (hw _ (List.mem_of_getElem? (i := 14) rfl)) e0 0 (by decide) (by decide) 4 (a := qa) (Ls := #[.val (.ref qa), .val (.ref qk), .val (.int q1)]) (st := []) (by rw [hml]; rfl) (Nat.le_of_eq rfl) (hb hby node_1) rfl
  refine st_1 ?_
  refine g_aload_n X_1 hx 5 (.ref qa) (hb hby node_4) rfl rfl rfl ?_
  refine g_aload_n X_1 hx 6 (.ref qk) (hb hby node_5) rfl rfl rfl ?_
  obtain ⟨T_6, h_6, X_6, e_6, W_6, st_6⟩ := g_putF X_1 hx hZ hown (hw _ (List.mem_of_getElem? (i := 15) rfl)) Via.refl e_1 F3 E1 (Or.inr ⟨hw _ (List.mem_of_getElem? (i := 16) rfl), rfl, hnm⟩) (hw _ (List.mem_of_getElem? (i := 2) rfl)) (ty := .array (.byte)) (v := (.ref qk)) (by decide) rfl rfl 9 (hb hby node_6) rfl
  refine st_6 ?_
  have F_6_0 : Fld Z h_6 qa "com/example/marble_cache/marblecache/store/Entry" "place" "I" (.int q3) := (F1.other W_6 (Or.inr (Jvm.RoadKit.slot_ne (Or.inl (hw _ (List.mem_of_getElem? (i := 20) rfl))) (Or.inr (hw _ (List.mem_of_getElem? (i := 16) rfl))) (by decide) (t := .int) (t' := .array (.byte)) (by decide) (by decide))))
  have F_6_1 : Fld Z h_6 qa "com/example/marble_cache/marblecache/store/Entry" "use" "J" (.long q4) := (F2.other W_6 (Or.inr (Jvm.RoadKit.slot_ne (Or.inl (hw _ (List.mem_of_getElem? (i := 28) rfl))) (Or.inr (hw _ (List.mem_of_getElem? (i := 16) rfl))) (by decide) (t := .long) (t' := .array (.byte)) (by decide) (by decide))))
  have F_6_2 : Fld Z h_6 qa "com/example/marble_cache/marblecache/store/KeyTable$Node" "key" "[B" (.ref qk) := (F3.same W_6)
  have F_6_3 : Fld Z h_6 qa "com/example/marble_cache/marblecache/store/KeyTable$Node" "hash" "I" (.int (0 : Int32)) := (F4.other W_6 (Or.inr (Jvm.RoadKit.slot_ne (Or.inr (hw _ (List.mem_of_getElem? (i := 18) rfl))) (Or.inr (hw _ (List.mem_of_getElem? (i := 16) rfl))) (by decide) (t := .int) (t' := .array (.byte)) (by decide) (by decide))))
  have N_6 := Fr.snoc X_6 (Fr.nil _) ga
  have Z_6 : h0.size ≤ h_6.size := by rw [W_6.size]; exact (Nat.le_refl _)
  refine g_aload_n X_6 hx 10 (.ref qa) (hb hby node_9) rfl rfl rfl ?_
  refine g_iload_n X_6 hx 11 q1 (hb hby node_10) rfl rfl ?_
  obtain ⟨T_11, h_11, X_11, e_11, W_11, st_11⟩ := g_putF X_6 hx hZ hown (hw _ (List.mem_of_getElem? (i := 17) rfl)) Via.refl e_6 F_6_3 (E1.wr W_6) (Or.inr ⟨hw _ (List.mem_of_getElem? (i := 18) rfl), rfl, hnm⟩) (hw _ (List.mem_of_getElem? (i := 2) rfl)) (ty := .int) (v := (.int q1)) (by decide) rfl rfl 14 (hb hby node_11) rfl
  refine st_11 ?_
  have F_11_0 : Fld Z h_11 qa "com/example/marble_cache/marblecache/store/Entry" "place" "I" (.int q3) := (F_6_0.other W_11 (Or.inr (Jvm.RoadKit.slot_ne (Or.inl (hw _ (List.mem_of_getElem? (i := 20) rfl))) (Or.inr (hw _ (List.mem_of_getElem? (i := 18) rfl))) (by decide) (t := .int) (t' := .int) (by decide) (by decide))))
  have F_11_1 : Fld Z h_11 qa "com/example/marble_cache/marblecache/store/Entry" "use" "J" (.long q4) := (F_6_1.other W_11 (Or.inr (Jvm.RoadKit.slot_ne (Or.inl (hw _ (List.mem_of_getElem? (i := 28) rfl))) (Or.inr (hw _ (List.mem_of_getElem? (i := 18) rfl))) (by decide) (t := .long) (t' := .int) (by decide) (by decide))))
  have F_11_2 : Fld Z h_11 qa "com/example/marble_cache/marblecache/store/KeyTable$Node" "key" "[B" (.ref qk) := (F_6_2.other W_11 (Or.inr (Jvm.RoadKit.slot_ne (Or.inr (hw _ (List.mem_of_getElem? (i := 16) rfl))) (Or.inr (hw _ (List.mem_of_getElem? (i := 18) rfl))) (by decide) (t := .array (.byte)) (t' := .int) (by decide) (by decide))))
  have F_11_3 : Fld Z h_11 qa "com/example/marble_cache/marblecache/store/KeyTable$Node" "hash" "I" (.int q1) := (F_6_3.same W_11)
  have N_11 := Fr.snoc X_11 N_6 ga
  have Z_11 : h0.size ≤ h_11.size := by rw [W_11.size]; exact Z_6
  refine Go.retV X_11 hx hlk Bd.returns (hb hby node_14) (by decide) (by decide) ⟨rfl, N_11, ?_, ?_, ?_⟩
  · rw [e_11]; exact (((Keep.refl _ _).wr W_6 (Or.inl (by simp))).wr W_11 (Or.inl (by simp)))
  · rw [e_11]; exact F_11_0
  · rw [e_11]; exact F_11_1
theorem init_0 : decode prog_73_method_1_code 0 = .ok (.aload_n 0, 1) := by decide +kernel
theorem init_1 : decode prog_73_method_1_code 1 = .ok (.aload_n 1, 1) := by decide +kernel
theorem init_2 : decode prog_73_method_1_code 2 = .ok (.iload_n 2, 1) := by decide +kernel
theorem init_3 : decode prog_73_method_1_code 3 = .ok (.invokespecial 1, 3) := by decide +kernel
theorem init_6 : decode prog_73_method_1_code 6 = .ok (.aload_n 0, 1) := by decide +kernel
theorem init_7 : decode prog_73_method_1_code 7 = .ok (.iconst (-1), 1) := by decide +kernel
theorem init_8 : decode prog_73_method_1_code 8 = .ok (.putfield 9, 3) := by decide +kernel
theorem init_11 : decode prog_73_method_1_code 11 = .ok (.return_, 1) := by decide +kernel
theorem pn_init : plainFor (⟨"com/example/marble_cache/marblecache/store/Entry", "<init>", "([BI)V"⟩ : MethodName) = true := by first | exact plainFor_of_name (by first | (simp [plainName, overriddenIn]; done) | decide +kernel) | decide +kernel
theorem ef_init (m : MethodId) (qa : Addr) (qk : Addr) (q1 : Int32) : entryFrame m #[(.ref qa), (.ref qk), (.int q1)] 3 = mkF m 0 #[.val (.ref qa), .val (.ref qk), .val (.int q1)] [] := by first | (simp [entryFrame, mkF, argsToLocals, Value.category, maxLocals]; done) | rfl
theorem pd_init : parseMethodDescriptor "([BI)V" = some ⟨[.array (.byte), .int], none⟩ := by decide +kernel
set_option maxRecDepth 65536 in
set_option maxHeartbeats 40000000 in
theorem rm_init (l : Launch) (Z : State) (a0 : Array Value) (hw : ∀ d ∈ tables_1, d.before a0 Z = true)  (qa : Addr) (qk : Addr) (q1 : Int32) (h0 : Heap) (n0 : Nat) (ga : n0 ≤ qa) (E1 : Exa Z h0 qa "com/example/marble_cache/marblecache/store/Entry") (F1 : Fld Z h0 qa "com/example/marble_cache/marblecache/store/Entry" "place" "I" (.int (0 : Int32)))(F2 : Fld Z h0 qa "com/example/marble_cache/marblecache/store/Entry" "use" "J" (.long (0 : Int64)))(F3 : Fld Z h0 qa "com/example/marble_cache/marblecache/store/KeyTable$Node" "key" "[B" .null)(F4 : Fld Z h0 qa "com/example/marble_cache/marblecache/store/KeyTable$Node" "hash" "I" (.int (0 : Int32))) :
    MetFree l (⟨"com/example/marble_cache/marblecache/store/Entry", "<init>", "([BI)V"⟩ : MethodName) (head1 [Jvm.Cond.code (⟨"com/example/marble_cache/marblecache/store/Entry", "<init>", "([BI)V"⟩ : MethodName) prog_73_method_1_code 3 none] ({ frames := 2, cells := 0, slots := 0, locals := 26 } : Room)) (fun a U => a = #[(.ref qa), (.ref qk), (.int q1)] ∧ Z.Warmed39 U.vm ∧ U.heap = h0) (fun _ _ _ _ _ => True) (fun _ U o U' => ∃ v L, o = .returned v ∧ NQ Z qa h0 n0 (-1 : Int32) (0 : Int64) v U'.heap L ∧ FrameEnd U o U' L ({ frames := 2, cells := 0, slots := 0, locals := 26 } : Room).cells ({ frames := 2, cells := 0, slots := 0, locals := 26 } : Room).slots) := by
  refine MetFree.of_bodySF pn_init hisR ?_
  intro p e s m args below meth c s₁ Bd hml0 hP hK
  obtain ⟨rfl, hZ, hh⟩ := hP
  have hx := Bd.exec
  have hby := Bd.bytes
  have hml : c.maxLocals = 3 := hml0
  have hown : s.vm.findClass "com/example/marble_cache/marblecache/store/Entry" = some m.cls := findClass_of_methodNamed Bd.named
  have hnm := (name_of_methodNamed Bd.named Bd.method).1
  have hlk : meth.locks = false := BodyLoose.notSynchronized Bd
  have X0 : Stand p l e ({ frames := 2, cells := 0, slots := 0, locals := 26 } : Room) s m #[(.ref qa), (.ref qk), (.int q1)] below meth c s₁ [] 0 0 := Stand.of_body Bd
  have e0 : s₁.heap = h0 := by rw [← hh, Bd.state]; rfl
  show Go p e below (EndN below s (NQ Z qa h0 n0 (-1 : Int32) (0 : Int64)) ({ frames := 2, cells := 0, slots := 0, locals := 26 } : Room).cells ({ frames := 2, cells := 0, slots := 0, locals := 26 } : Room).slots) (s₁.setTop (entryFrame m #[(.ref qa), (.ref qk), (.int q1)] 3))
  rw [ef_init]
  refine g_aload_n X0 hx 1 (.ref qa) (hb hby init_0) rfl rfl rfl ?_
  refine g_aload_n X0 hx 2 (.ref qk) (hb hby init_1) rfl rfl rfl ?_
  refine g_iload_n X0 hx 3 q1 (hb hby init_2) rfl rfl ?_
  obtain ⟨_, T_3, L_3, X_3, ⟨rfl, NN, KN, FN1, FN2⟩, st_3⟩ := g_callI X0 hx hZ (own := "com/example/marble_cache/marblecache/store/Entry") (index := 1) (y := (⟨"com/example/marble_cache/marblecache/store/KeyTable$Node", "<init>", "([BI)V"⟩ : MethodName)) (a := qa) (as' := [(.ref qk), (.int q1)]) rfl hown (hw _ (List.mem_of_getElem? (i := 7) rfl)) (hw _ (List.mem_of_getElem? (i := 8) rfl)) (hw _ (List.mem_of_getElem? (i := 10) rfl)) (hw _ (List.mem_of_getElem? (i := 11) rfl)) (by decide) e0 (rm_node l Z a0 hw qa qk q1 h0 n0 ga E1 (0 : Int32) (0 : Int64) F1 F2 F3 F4) pd_node rfl 0 (by decide) (by decide) (by decide) (by decide) (pc := 3) (Ls := #[.val (.ref qa), .val (.ref qk), .val (.int q1)]) (rest := []) (st := [(.int q1), (.ref qk), (.ref qa)]) (by rw [hml]; rfl) rfl (Nat.le_of_eq rfl) (hb hby init_3)
  refine st_3 ?_
  have N_3 := Fr.app (Fr.nil _) NN
  have E_3 := E1.keep KN
  have Z_3 : h0.size ≤ T_3.heap.size := KN.1
  show Go p e below _ (T_3.setTop (mkF m 6 #[.val (.ref qa), .val (.ref qk), .val (.int q1)] []))
  refine g_aload_n X_3 hx 7 (.ref qa) (hb hby init_6) rfl rfl rfl ?_
  refine g_iconst X_3 hx 8 (-1 : Int32) (hb hby init_7) rfl rfl ?_
  obtain ⟨T_8, h_8, X_8, e_8, W_8, st_8⟩ := g_putF X_3 hx hZ hown (hw _ (List.mem_of_getElem? (i := 19) rfl)) Via.refl rfl FN1 E_3 (Or.inl (hw _ (List.mem_of_getElem? (i := 20) rfl))) (hw _ (List.mem_of_getElem? (i := 2) rfl)) (ty := .int) (v := (.int (-1 : Int32))) (by decide) rfl rfl 11 (hb hby init_8) rfl
  refine st_8 ?_
  have F_8_0 : Fld Z h_8 qa "com/example/marble_cache/marblecache/store/Entry" "place" "I" (.int (-1 : Int32)) := (FN1.same W_8)
  have F_8_1 : Fld Z h_8 qa "com/example/marble_cache/marblecache/store/Entry" "use" "J" (.long (0 : Int64)) := (FN2.other W_8 (Or.inr (Jvm.RoadKit.slot_ne (Or.inl (hw _ (List.mem_of_getElem? (i := 28) rfl))) (Or.inl (hw _ (List.mem_of_getElem? (i := 20) rfl))) (by decide) (t := .long) (t' := .int) (by decide) (by decide))))
  have N_8 := Fr.snoc X_8 N_3 ga
  have Z_8 : h0.size ≤ h_8.size := by rw [W_8.size]; exact Z_3
  refine Go.retV X_8 hx hlk Bd.returns (hb hby init_11) (by decide) (by decide) ⟨rfl, N_8, ?_, ?_, ?_⟩
  · rw [e_8]; exact (((Keep.refl _ _).trans KN (fun x hx => Or.inl hx)).wr W_8 (Or.inl (by simp)))
  · rw [e_8]; exact F_8_0
  · rw [e_8]; exact F_8_1
theorem setu_0 : decode prog_73_method_7_code 0 = .ok (.aload_n 0, 1) := by decide +kernel
theorem setu_1 : decode prog_73_method_7_code 1 = .ok (.lload_n 1, 1) := by decide +kernel
theorem setu_2 : decode prog_73_method_7_code 2 = .ok (.aload_n 0, 1) := by decide +kernel
theorem setu_3 : decode prog_73_method_7_code 3 = .ok (.getfield 17, 3) := by decide +kernel
theorem setu_6 : decode prog_73_method_7_code 6 = .ok (.ldc2_w 25, 3) := by decide +kernel
theorem setu_9 : decode prog_73_method_7_code 9 = .ok (.land, 1) := by decide +kernel
theorem setu_10 : decode prog_73_method_7_code 10 = .ok (.lor, 1) := by decide +kernel
theorem setu_11 : decode prog_73_method_7_code 11 = .ok (.putfield 17, 3) := by decide +kernel
theorem setu_14 : decode prog_73_method_7_code 14 = .ok (.return_, 1) := by decide +kernel
theorem pn_setu : plainFor (⟨"com/example/marble_cache/marblecache/store/Entry", "setUse", "(J)V"⟩ : MethodName) = true := by first | exact plainFor_of_name (by first | (simp [plainName, overriddenIn]; done) | decide +kernel) | decide +kernel
theorem ef_setu (m : MethodId) (qa : Addr) (q1 : Int64) : entryFrame m #[(.ref qa), (.long q1)] 3 = mkF m 0 #[.val (.ref qa), .val (.long q1), .second] [] := by first | (simp [entryFrame, mkF, argsToLocals, Value.category, maxLocals]; done) | rfl
theorem pd_setu : parseMethodDescriptor "(J)V" = some ⟨[.long], none⟩ := by decide +kernel
set_option maxRecDepth 65536 in
set_option maxHeartbeats 40000000 in
theorem rm_setu (l : Launch) (Z : State) (a0 : Array Value) (hw : ∀ d ∈ tables_1, d.before a0 Z = true)  (qa : Addr) (q1 : Int64) (h0 : Heap) (n0 : Nat) (ga : n0 ≤ qa) (E1 : Exa Z h0 qa "com/example/marble_cache/marblecache/store/Entry") (q3 : Int32) (q4 : Int64) (F1 : Fld Z h0 qa "com/example/marble_cache/marblecache/store/Entry" "place" "I" (.int q3))(F2 : Fld Z h0 qa "com/example/marble_cache/marblecache/store/Entry" "use" "J" (.long q4)) :
    MetFree l (⟨"com/example/marble_cache/marblecache/store/Entry", "setUse", "(J)V"⟩ : MethodName) (head1 [Jvm.Cond.code (⟨"com/example/marble_cache/marblecache/store/Entry", "setUse", "(J)V"⟩ : MethodName) prog_73_method_7_code 3 none] ({ frames := 0, cells := 0, slots := 0, locals := 0 } : Room)) (fun a U => a = #[(.ref qa), (.long q1)] ∧ Z.Warmed39 U.vm ∧ U.heap = h0) (fun _ _ _ _ _ => True) (fun _ U o U' => ∃ v L, o = .returned v ∧ NQ Z qa h0 n0 q3 (q1 ||| (q4 &&& (-9223372036854775808 : Int64))) v U'.heap L ∧ FrameEnd U o U' L ({ frames := 0, cells := 0, slots := 0, locals := 0 } : Room).cells ({ frames := 0, cells := 0, slots := 0, locals := 0 } : Room).slots) := by
  refine MetFree.of_bodySF pn_setu hisR ?_
  intro p e s m args below meth c s₁ Bd hml0 hP hK
  obtain ⟨rfl, hZ, hh⟩ := hP
  have hx := Bd.exec
  have hby := Bd.bytes
  have hml : c.maxLocals = 3 := hml0
  have hown : s.vm.findClass "com/example/marble_cache/marblecache/store/Entry" = some m.cls := findClass_of_methodNamed Bd.named
  have hnm := (name_of_methodNamed Bd.named Bd.method).1
  have hlk : meth.locks = false := BodyLoose.notSynchronized Bd
  have X0 : Stand p l e ({ frames := 0, cells := 0, slots := 0, locals := 0 } : Room) s m #[(.ref qa), (.long q1)] below meth c s₁ [] 0 0 := Stand.of_body Bd
  have e0 : s₁.heap = h0 := by rw [← hh, Bd.state]; rfl
  show Go p e below (EndN below s (NQ Z qa h0 n0 q3 (q1 ||| (q4 &&& (-9223372036854775808 : Int64)))) ({ frames := 0, cells := 0, slots := 0, locals := 0 } : Room).cells ({ frames := 0, cells := 0, slots := 0, locals := 0 } : Room).slots) (s₁.setTop (entryFrame m #[(.ref qa), (.long q1)] 3))
  rw [ef_setu]
  refine g_aload_n X0 hx 1 (.ref qa) (hb hby setu_0) rfl rfl rfl ?_
  refine g_lload_n X0 hx 2 q1 (hb hby setu_1) rfl rfl ?_
  refine g_aload_n X0 hx 3 (.ref qa) (hb hby setu_2) rfl rfl rfl ?_
  obtain ⟨T_3, X_3, e_3, st_3⟩ := g_getF X0 hx hZ hown (hw _ (List.mem_of_getElem? (i := 27) rfl)) Via.refl e0 F2 6 (hb hby setu_3) rfl
  refine st_3 ?_
  refine g_ldc2_w X_3 hx 9 (hb hby setu_6) hown (mvT hZ (hw _ (List.mem_of_getElem? (i := 29) rfl))) rfl ?_
  refine g_land X_3 hx 10 (hb hby setu_9) rfl ?_
  refine g_lor X_3 hx 11 (hb hby setu_10) rfl ?_
  obtain ⟨T_11, h_11, X_11, e_11, W_11, st_11⟩ := g_putF X_3 hx hZ hown (hw _ (List.mem_of_getElem? (i := 27) rfl)) Via.refl e_3 F2 E1 (Or.inl (hw _ (List.mem_of_getElem? (i := 28) rfl))) (hw _ (List.mem_of_getElem? (i := 2) rfl)) (ty := .long) (v := (.long (q1 ||| (q4 &&& (-9223372036854775808 : Int64))))) (by decide) rfl rfl 14 (hb hby setu_11) rfl
  refine st_11 ?_
  have F_11_0 : Fld Z h_11 qa "com/example/marble_cache/marblecache/store/Entry" "place" "I" (.int q3) := (F1.other W_11 (Or.inr (Jvm.RoadKit.slot_ne (Or.inl (hw _ (List.mem_of_getElem? (i := 20) rfl))) (Or.inl (hw _ (List.mem_of_getElem? (i := 28) rfl))) (by decide) (t := .int) (t' := .long) (by decide) (by decide))))
  have F_11_1 : Fld Z h_11 qa "com/example/marble_cache/marblecache/store/Entry" "use" "J" (.long (q1 ||| (q4 &&& (-9223372036854775808 : Int64)))) := (F2.same W_11)
  have N_11 := Fr.snoc X_11 (Fr.nil _) ga
  have Z_11 : h0.size ≤ h_11.size := by rw [W_11.size]; exact (Nat.le_refl _)
  refine Go.retV X_11 hx hlk Bd.returns (hb hby setu_14) (by decide) (by decide) ⟨rfl, N_11, ?_, ?_, ?_⟩
  · rw [e_11]; exact ((Keep.refl _ _).wr W_11 (Or.inl (by simp)))
  · rw [e_11]; exact F_11_0
  · rw [e_11]; exact F_11_1
theorem setm_0 : decode prog_73_method_9_code 0 = .ok (.aload_n 0, 1) := by decide +kernel
theorem setm_1 : decode prog_73_method_9_code 1 = .ok (.iload_n 1, 1) := by decide +kernel
theorem setm_2 : decode prog_73_method_9_code 2 = .ok (.ifCond .eq 14, 3) := by decide +kernel
theorem setm_5 : decode prog_73_method_9_code 5 = .ok (.aload_n 0, 1) := by decide +kernel
theorem setm_6 : decode prog_73_method_9_code 6 = .ok (.getfield 17, 3) := by decide +kernel
theorem setm_9 : decode prog_73_method_9_code 9 = .ok (.ldc2_w 25, 3) := by decide +kernel
theorem setm_12 : decode prog_73_method_9_code 12 = .ok (.lor, 1) := by decide +kernel
theorem setm_13 : decode prog_73_method_9_code 13 = .ok (.goto 11, 3) := by decide +kernel
theorem setm_16 : decode prog_73_method_9_code 16 = .ok (.aload_n 0, 1) := by decide +kernel
theorem setm_17 : decode prog_73_method_9_code 17 = .ok (.getfield 17, 3) := by decide +kernel
theorem setm_20 : decode prog_73_method_9_code 20 = .ok (.ldc2_w 23, 3) := by decide +kernel
theorem setm_23 : decode prog_73_method_9_code 23 = .ok (.land, 1) := by decide +kernel
theorem setm_24 : decode prog_73_method_9_code 24 = .ok (.putfield 17, 3) := by decide +kernel
theorem setm_27 : decode prog_73_method_9_code 27 = .ok (.return_, 1) := by decide +kernel
theorem pn_setm : plainFor (⟨"com/example/marble_cache/marblecache/store/Entry", "setMark", "(Z)V"⟩ : MethodName) = true := by first | exact plainFor_of_name (by first | (simp [plainName, overriddenIn]; done) | decide +kernel) | decide +kernel
theorem ef_setm (m : MethodId) (qa : Addr) (q1 : Int32) : entryFrame m #[(.ref qa), (.int q1)] 2 = mkF m 0 #[.val (.ref qa), .val (.int q1)] [] := by first | (simp [entryFrame, mkF, argsToLocals, Value.category, maxLocals]; done) | rfl
theorem pd_setm : parseMethodDescriptor "(Z)V" = some ⟨[.boolean], none⟩ := by decide +kernel
set_option maxRecDepth 65536 in
set_option maxHeartbeats 40000000 in
theorem rm_setm (l : Launch) (Z : State) (a0 : Array Value) (hw : ∀ d ∈ tables_1, d.before a0 Z = true)  (qa : Addr) (q1 : Int32) (h0 : Heap) (n0 : Nat) (ga : n0 ≤ qa) (E1 : Exa Z h0 qa "com/example/marble_cache/marblecache/store/Entry") (q3 : Int32) (q4 q5 : Int64) (hz : (if q1 = (0 : Int32) then q4 &&& (9223372036854775807 : Int64) else q4 ||| (-9223372036854775808 : Int64)) = q5) (F1 : Fld Z h0 qa "com/example/marble_cache/marblecache/store/Entry" "place" "I" (.int q3))(F2 : Fld Z h0 qa "com/example/marble_cache/marblecache/store/Entry" "use" "J" (.long q4)) :
    MetFree l (⟨"com/example/marble_cache/marblecache/store/Entry", "setMark", "(Z)V"⟩ : MethodName) (head1 [Jvm.Cond.code (⟨"com/example/marble_cache/marblecache/store/Entry", "setMark", "(Z)V"⟩ : MethodName) prog_73_method_9_code 2 none] ({ frames := 0, cells := 0, slots := 0, locals := 0 } : Room)) (fun a U => a = #[(.ref qa), (.int q1)] ∧ Z.Warmed39 U.vm ∧ U.heap = h0) (fun _ _ _ _ _ => True) (fun _ U o U' => ∃ v L, o = .returned v ∧ NQ Z qa h0 n0 q3 q5 v U'.heap L ∧ FrameEnd U o U' L ({ frames := 0, cells := 0, slots := 0, locals := 0 } : Room).cells ({ frames := 0, cells := 0, slots := 0, locals := 0 } : Room).slots) := by
  refine MetFree.of_bodySF pn_setm hisR ?_
  intro p e s m args below meth c s₁ Bd hml0 hP hK
  obtain ⟨rfl, hZ, hh⟩ := hP
  have hx := Bd.exec
  have hby := Bd.bytes
  have hml : c.maxLocals = 2 := hml0
  have hown : s.vm.findClass "com/example/marble_cache/marblecache/store/Entry" = some m.cls := findClass_of_methodNamed Bd.named
  have hnm := (name_of_methodNamed Bd.named Bd.method).1
  have hlk : meth.locks = false := BodyLoose.notSynchronized Bd
  have X0 : Stand p l e ({ frames := 0, cells := 0, slots := 0, locals := 0 } : Room) s m #[(.ref qa), (.int q1)] below meth c s₁ [] 0 0 := Stand.of_body Bd
  have e0 : s₁.heap = h0 := by rw [← hh, Bd.state]; rfl
  show Go p e below (EndN below s (NQ Z qa h0 n0 q3 q5) ({ frames := 0, cells := 0, slots := 0, locals := 0 } : Room).cells ({ frames := 0, cells := 0, slots := 0, locals := 0 } : Room).slots) (s₁.setTop (entryFrame m #[(.ref qa), (.int q1)] 2))
  rw [ef_setm]
  refine g_aload_n X0 hx 1 (.ref qa) (hb hby setm_0) rfl rfl rfl ?_
  refine g_iload_n X0 hx 2 q1 (hb hby setm_1) rfl rfl ?_
  by_cases c2 : q1 = (0 : Int32)
  ·
    refine g_ifY X0 hx 16 (hb hby setm_2) (XT.i0_eq_t c2) (by decide) (by decide) ?_
    refine g_aload_n X0 hx 17 (.ref qa) (hb hby setm_16) rfl rfl rfl ?_
    obtain ⟨T_17, X_17, e_17, st_17⟩ := g_getF X0 hx hZ hown (hw _ (List.mem_of_getElem? (i := 27) rfl)) Via.refl e0 F2 20 (hb hby setm_17) rfl
    refine st_17 ?_
    refine g_ldc2_w X_17 hx 23 (hb hby setm_20) hown (mvT hZ (hw _ (List.mem_of_getElem? (i := 35) rfl))) rfl ?_
    refine g_land X_17 hx 24 (hb hby setm_23) rfl ?_
    obtain ⟨T_24, h_24, X_24, e_24, W_24, st_24⟩ := g_putF X_17 hx hZ hown (hw _ (List.mem_of_getElem? (i := 27) rfl)) Via.refl e_17 F2 E1 (Or.inl (hw _ (List.mem_of_getElem? (i := 28) rfl))) (hw _ (List.mem_of_getElem? (i := 2) rfl)) (ty := .long) (v := (.long (q4 &&& (9223372036854775807 : Int64)))) (by decide) rfl rfl 27 (hb hby setm_24) rfl
    refine st_24 ?_
    have F_24_0 : Fld Z h_24 qa "com/example/marble_cache/marblecache/store/Entry" "place" "I" (.int q3) := (F1.other W_24 (Or.inr (Jvm.RoadKit.slot_ne (Or.inl (hw _ (List.mem_of_getElem? (i := 20) rfl))) (Or.inl (hw _ (List.mem_of_getElem? (i := 28) rfl))) (by decide) (t := .int) (t' := .long) (by decide) (by decide))))
    have F_24_1 : Fld Z h_24 qa "com/example/marble_cache/marblecache/store/Entry" "use" "J" (.long (q4 &&& (9223372036854775807 : Int64))) := (F2.same W_24)
    have N_24 := Fr.snoc X_24 (Fr.nil _) ga
    have Z_24 : h0.size ≤ h_24.size := by rw [W_24.size]; exact (Nat.le_refl _)
    subst hz; rw [if_pos c2]
    refine Go.retV X_24 hx hlk Bd.returns (hb hby setm_27) (by decide) (by decide) ⟨rfl, N_24, ?_, ?_, ?_⟩
    · rw [e_24]; exact ((Keep.refl _ _).wr W_24 (Or.inl (by simp)))
    · rw [e_24]; exact F_24_0
    · rw [e_24]; exact F_24_1
  ·
    refine g_ifN X0 hx 5 (hb hby setm_2) (XT.i0_eq_f c2) rfl ?_
    refine g_aload_n X0 hx 6 (.ref qa) (hb hby setm_5) rfl rfl rfl ?_
    obtain ⟨T_6, X_6, e_6, st_6⟩ := g_getF X0 hx hZ hown (hw _ (List.mem_of_getElem? (i := 27) rfl)) Via.refl e0 F2 9 (hb hby setm_6) rfl
    refine st_6 ?_
    refine g_ldc2_w X_6 hx 12 (hb hby setm_9) hown (mvT hZ (hw _ (List.mem_of_getElem? (i := 29) rfl))) rfl ?_
    refine g_lor X_6 hx 13 (hb hby setm_12) rfl ?_
    refine g_goto X_6 hx 24 (hb hby setm_13) (by decide) (by decide) ?_
    obtain ⟨T_24, h_24, X_24, e_24, W_24, st_24⟩ := g_putF X_6 hx hZ hown (hw _ (List.mem_of_getElem? (i := 27) rfl)) Via.refl e_6 F2 E1 (Or.inl (hw _ (List.mem_of_getElem? (i := 28) rfl))) (hw _ (List.mem_of_getElem? (i := 2) rfl)) (ty := .long) (v := (.long (q4 ||| (-9223372036854775808 : Int64)))) (by decide) rfl rfl 27 (hb hby setm_24) rfl
    refine st_24 ?_
    have F_24_0 : Fld Z h_24 qa "com/example/marble_cache/marblecache/store/Entry" "place" "I" (.int q3) := (F1.other W_24 (Or.inr (Jvm.RoadKit.slot_ne (Or.inl (hw _ (List.mem_of_getElem? (i := 20) rfl))) (Or.inl (hw _ (List.mem_of_getElem? (i := 28) rfl))) (by decide) (t := .int) (t' := .long) (by decide) (by decide))))
    have F_24_1 : Fld Z h_24 qa "com/example/marble_cache/marblecache/store/Entry" "use" "J" (.long (q4 ||| (-9223372036854775808 : Int64))) := (F2.same W_24)
    have N_24 := Fr.snoc X_24 (Fr.nil _) ga
    have Z_24 : h0.size ≤ h_24.size := by rw [W_24.size]; exact (Nat.le_refl _)
    subst hz; rw [if_neg c2]
    refine Go.retV X_24 hx hlk Bd.returns (hb hby setm_27) (by decide) (by decide) ⟨rfl, N_24, ?_, ?_, ?_⟩
    · rw [e_24]; exact ((Keep.refl _ _).wr W_24 (Or.inl (by simp)))
    · rw [e_24]; exact F_24_0
    · rw [e_24]; exact F_24_1
theorem mark_0 : decode prog_73_method_8_code 0 = .ok (.aload_n 0, 1) := by decide +kernel
theorem mark_1 : decode prog_73_method_8_code 1 = .ok (.getfield 17, 3) := by decide +kernel
theorem mark_4 : decode prog_73_method_8_code 4 = .ok (.lconst 0, 1) := by decide +kernel
theorem mark_5 : decode prog_73_method_8_code 5 = .ok (.lcmp, 1) := by decide +kernel
theorem mark_6 : decode prog_73_method_8_code 6 = .ok (.ifCond .ge 7, 3) := by decide +kernel
theorem mark_9 : decode prog_73_method_8_code 9 = .ok (.iconst 1, 1) := by decide +kernel
theorem mark_10 : decode prog_73_method_8_code 10 = .ok (.goto 4, 3) := by decide +kernel
theorem mark_13 : decode prog_73_method_8_code 13 = .ok (.iconst 0, 1) := by decide +kernel
theorem mark_14 : decode prog_73_method_8_code 14 = .ok (.ireturn, 1) := by decide +kernel
theorem pn_mark : plainFor (⟨"com/example/marble_cache/marblecache/store/Entry", "mark", "()Z"⟩ : MethodName) = true := by first | exact plainFor_of_name (by first | (simp [plainName, overriddenIn]; done) | decide +kernel) | decide +kernel
theorem ef_mark (m : MethodId) (qa : Addr) : entryFrame m #[(.ref qa)] 1 = mkF m 0 #[.val (.ref qa)] [] := by first | (simp [entryFrame, mkF, argsToLocals, Value.category, maxLocals]; done) | rfl
theorem pd_mark : parseMethodDescriptor "()Z" = some ⟨[], some (.boolean)⟩ := by decide +kernel
set_option maxRecDepth 65536 in
set_option maxHeartbeats 40000000 in
theorem rm_mark (l : Launch) (Z : State) (a0 : Array Value) (hw : ∀ d ∈ tables_1, d.before a0 Z = true)  (qa : Addr) (h0 : Heap) (q4 : Int64) (q5 : Int32) (hz : b2i (q4 < (0 : Int64)) = q5) (F2 : Fld Z h0 qa "com/example/marble_cache/marblecache/store/Entry" "use" "J" (.long q4)) :
    MetFree l (⟨"com/example/marble_cache/marblecache/store/Entry", "mark", "()Z"⟩ : MethodName) (head1 [Jvm.Cond.code (⟨"com/example/marble_cache/marblecache/store/Entry", "mark", "()Z"⟩ : MethodName) prog_73_method_8_code 1 (some Jvm.ClassFile.FieldType.boolean)] ({ frames := 0, cells := 0, slots := 0, locals := 0 } : Room)) (fun a U => a = #[(.ref qa)] ∧ Z.Warmed39 U.vm ∧ U.heap = h0) (fun _ _ _ _ _ => True) (fun _ U o U' => ∃ v L, o = .returned v ∧ Pur (some (.int q5)) h0 v U'.heap L ∧ FrameEnd U o U' L ({ frames := 0, cells := 0, slots := 0, locals := 0 } : Room).cells ({ frames := 0, cells := 0, slots := 0, locals := 0 } : Room).slots) := by
  refine MetFree.of_bodySF pn_mark hisR ?_
  intro p e s m args below meth c s₁ Bd hml0 hP hK
  obtain ⟨rfl, hZ, hh⟩ := hP
  have hx := Bd.exec
  have hby := Bd.bytes
  have hml : c.maxLocals = 1 := hml0
  have hown : s.vm.findClass "com/example/marble_cache/marblecache/store/Entry" = some m.cls := findClass_of_methodNamed Bd.named
  have hnm := (name_of_methodNamed Bd.named Bd.method).1
  have hlk : meth.locks = false := BodyLoose.notSynchronized Bd
  have X0 : Stand p l e ({ frames := 0, cells := 0, slots := 0, locals := 0 } : Room) s m #[(.ref qa)] below meth c s₁ [] 0 0 := Stand.of_body Bd
  have e0 : s₁.heap = h0 := by rw [← hh, Bd.state]; rfl
  show Go p e below (EndN below s (Pur (some (.int q5)) h0) ({ frames := 0, cells := 0, slots := 0, locals := 0 } : Room).cells ({ frames := 0, cells := 0, slots := 0, locals := 0 } : Room).slots) (s₁.setTop (entryFrame m #[(.ref qa)] 1))
  rw [ef_mark]
  refine g_aload_n X0 hx 1 (.ref qa) (hb hby mark_0) rfl rfl rfl ?_
  obtain ⟨T_1, X_1, e_1, st_1⟩ := g_getF X0 hx hZ hown (hw _ (List.mem_of_getElem? (i := 27) rfl)) Via.refl e0 F2 4 (hb hby mark_1) rfl
  refine st_1 ?_
  refine g_lconst X_1 hx 5 (0 : Int64) (hb hby mark_4) rfl rfl ?_
  refine g_lcmp X_1 hx 6 (hb hby mark_5) rfl ?_
  by_cases c6 : q4 < (0 : Int64)
  ·
    refine g_ifN X_1 hx 9 (hb hby mark_6) (XT.ll_ge_f c6) rfl ?_
    refine g_iconst X_1 hx 10 (1 : Int32) (hb hby mark_9) rfl rfl ?_
    refine g_goto X_1 hx 14 (hb hby mark_10) (by decide) (by decide) ?_
    exact Go.retZ X_1 hx hlk Bd.returns (by simp) (hb hby mark_14) (by decide) (by decide) ⟨by rw [← hz, b2i_t c6]; rfl, rfl, e_1⟩
  ·
    refine g_ifY X_1 hx 13 (hb hby mark_6) (XT.ll_ge_t c6) (by decide) (by decide) ?_
    refine g_iconst X_1 hx 14 (0 : Int32) (hb hby mark_13) rfl rfl ?_
    exact Go.retZ X_1 hx hlk Bd.returns (by simp) (hb hby mark_14) (by decide) (by decide) ⟨by rw [← hz, b2i_f c6]; rfl, rfl, e_1⟩
theorem use_0 : decode prog_73_method_6_code 0 = .ok (.aload_n 0, 1) := by decide +kernel
theorem use_1 : decode prog_73_method_6_code 1 = .ok (.getfield 17, 3) := by decide +kernel
theorem use_4 : decode prog_73_method_6_code 4 = .ok (.ldc2_w 23, 3) := by decide +kernel
theorem use_7 : decode prog_73_method_6_code 7 = .ok (.land, 1) := by decide +kernel
theorem use_8 : decode prog_73_method_6_code 8 = .ok (.lreturn, 1) := by decide +kernel
theorem pn_use : plainFor (⟨"com/example/marble_cache/marblecache/store/Entry", "use", "()J"⟩ : MethodName) = true := by first | exact plainFor_of_name (by first | (simp [plainName, overriddenIn]; done) | decide +kernel) | decide +kernel
theorem ef_use (m : MethodId) (qa : Addr) : entryFrame m #[(.ref qa)] 1 = mkF m 0 #[.val (.ref qa)] [] := by first | (simp [entryFrame, mkF, argsToLocals, Value.category, maxLocals]; done) | rfl
theorem pd_use : parseMethodDescriptor "()J" = some ⟨[], some (.long)⟩ := by decide +kernel
set_option maxRecDepth 65536 in
set_option maxHeartbeats 40000000 in
theorem rm_use (l : Launch) (Z : State) (a0 : Array Value) (hw : ∀ d ∈ tables_1, d.before a0 Z = true)  (qa : Addr) (h0 : Heap) (q4 : Int64) (F2 : Fld Z h0 qa "com/example/marble_cache/marblecache/store/Entry" "use" "J" (.long q4)) :
    MetFree l (⟨"com/example/marble_cache/marblecache/store/Entry", "use", "()J"⟩ : MethodName) (head1 [Jvm.Cond.code (⟨"com/example/marble_cache/marblecache/store/Entry", "use", "()J"⟩ : MethodName) prog_73_method_6_code 1 (some Jvm.ClassFile.FieldType.long)] ({ frames := 0, cells := 0, slots := 0, locals := 0 } : Room)) (fun a U => a = #[(.ref qa)] ∧ Z.Warmed39 U.vm ∧ U.heap = h0) (fun _ _ _ _ _ => True) (fun _ U o U' => ∃ v L, o = .returned v ∧ Pur (some (.long (q4 &&& (9223372036854775807 : Int64)))) h0 v U'.heap L ∧ FrameEnd U o U' L ({ frames := 0, cells := 0, slots := 0, locals := 0 } : Room).cells ({ frames := 0, cells := 0, slots := 0, locals := 0 } : Room).slots) := by
  refine MetFree.of_bodySF pn_use hisR ?_
  intro p e s m args below meth c s₁ Bd hml0 hP hK
  obtain ⟨rfl, hZ, hh⟩ := hP
  have hx := Bd.exec
  have hby := Bd.bytes
  have hml : c.maxLocals = 1 := hml0
  have hown : s.vm.findClass "com/example/marble_cache/marblecache/store/Entry" = some m.cls := findClass_of_methodNamed Bd.named
  have hnm := (name_of_methodNamed Bd.named Bd.method).1
  have hlk : meth.locks = false := BodyLoose.notSynchronized Bd
  have X0 : Stand p l e ({ frames := 0, cells := 0, slots := 0, locals := 0 } : Room) s m #[(.ref qa)] below meth c s₁ [] 0 0 := Stand.of_body Bd
  have e0 : s₁.heap = h0 := by rw [← hh, Bd.state]; rfl
  show Go p e below (EndN below s (Pur (some (.long (q4 &&& (9223372036854775807 : Int64)))) h0) ({ frames := 0, cells := 0, slots := 0, locals := 0 } : Room).cells ({ frames := 0, cells := 0, slots := 0, locals := 0 } : Room).slots) (s₁.setTop (entryFrame m #[(.ref qa)] 1))
  rw [ef_use]
  refine g_aload_n X0 hx 1 (.ref qa) (hb hby use_0) rfl rfl rfl ?_
  obtain ⟨T_1, X_1, e_1, st_1⟩ := g_getF X0 hx hZ hown (hw _ (List.mem_of_getElem? (i := 27) rfl)) Via.refl e0 F2 4 (hb hby use_1) rfl
  refine st_1 ?_
  refine g_ldc2_w X_1 hx 7 (hb hby use_4) hown (mvT hZ (hw _ (List.mem_of_getElem? (i := 35) rfl))) rfl ?_
  refine g_land X_1 hx 8 (hb hby use_7) rfl ?_
  exact Go.retL X_1 hx hlk Bd.returns (hb hby use_8) (by decide) (by decide) ⟨rfl, rfl, e_1⟩
theorem place_0 : decode prog_73_method_4_code 0 = .ok (.aload_n 0, 1) := by decide +kernel
theorem place_1 : decode prog_73_method_4_code 1 = .ok (.getfield 9, 3) := by decide +kernel
theorem place_4 : decode prog_73_method_4_code 4 = .ok (.ireturn, 1) := by decide +kernel
theorem pn_place : plainFor (⟨"com/example/marble_cache/marblecache/store/Entry", "place", "()I"⟩ : MethodName) = true := by first | exact plainFor_of_name (by first | (simp [plainName, overriddenIn]; done) | decide +kernel) | decide +kernel
theorem ef_place (m : MethodId) (qa : Addr) : entryFrame m #[(.ref qa)] 1 = mkF m 0 #[.val (.ref qa)] [] := by first | (simp [entryFrame, mkF, argsToLocals, Value.category, maxLocals]; done) | rfl
theorem pd_place : parseMethodDescriptor "()I" = some ⟨[], some (.int)⟩ := by decide +kernel
set_option maxRecDepth 65536 in
set_option maxHeartbeats 40000000 in
theorem rm_place (l : Launch) (Z : State) (a0 : Array Value) (hw : ∀ d ∈ tables_1, d.before a0 Z = true)  (qa : Addr) (h0 : Heap) (q4 : Int32) (F1 : Fld Z h0 qa "com/example/marble_cache/marblecache/store/Entry" "place" "I" (.int q4)) :
    MetFree l (⟨"com/example/marble_cache/marblecache/store/Entry", "place", "()I"⟩ : MethodName) (head1 [Jvm.Cond.code (⟨"com/example/marble_cache/marblecache/store/Entry", "place", "()I"⟩ : MethodName) prog_73_method_4_code 1 (some Jvm.ClassFile.FieldType.int)] ({ frames := 0, cells := 0, slots := 0, locals := 0 } : Room)) (fun a U => a = #[(.ref qa)] ∧ Z.Warmed39 U.vm ∧ U.heap = h0) (fun _ _ _ _ _ => True) (fun _ U o U' => ∃ v L, o = .returned v ∧ Pur (some (.int q4)) h0 v U'.heap L ∧ FrameEnd U o U' L ({ frames := 0, cells := 0, slots := 0, locals := 0 } : Room).cells ({ frames := 0, cells := 0, slots := 0, locals := 0 } : Room).slots) := by
  refine MetFree.of_bodySF pn_place hisR ?_
  intro p e s m args below meth c s₁ Bd hml0 hP hK
  obtain ⟨rfl, hZ, hh⟩ := hP
  have hx := Bd.exec
  have hby := Bd.bytes
  have hml : c.maxLocals = 1 := hml0
  have hown : s.vm.findClass "com/example/marble_cache/marblecache/store/Entry" = some m.cls := findClass_of_methodNamed Bd.named
  have hnm := (name_of_methodNamed Bd.named Bd.method).1
  have hlk : meth.locks = false := BodyLoose.notSynchronized Bd
  have X0 : Stand p l e ({ frames := 0, cells := 0, slots := 0, locals := 0 } : Room) s m #[(.ref qa)] below meth c s₁ [] 0 0 := Stand.of_body Bd
  have e0 : s₁.heap = h0 := by rw [← hh, Bd.state]; rfl
  show Go p e below (EndN below s (Pur (some (.int q4)) h0) ({ frames := 0, cells := 0, slots := 0, locals := 0 } : Room).cells ({ frames := 0, cells := 0, slots := 0, locals := 0 } : Room).slots) (s₁.setTop (entryFrame m #[(.ref qa)] 1))
  rw [ef_place]
  refine g_aload_n X0 hx 1 (.ref qa) (hb hby place_0) rfl rfl rfl ?_
  obtain ⟨T_1, X_1, e_1, st_1⟩ := g_getF X0 hx hZ hown (hw _ (List.mem_of_getElem? (i := 19) rfl)) Via.refl e0 F1 4 (hb hby place_1) rfl
  refine st_1 ?_
  exact Go.retI X_1 hx hlk Bd.returns (hb hby place_4) (by decide) (by decide) ⟨rfl, rfl, e_1⟩
theorem pn_law : plainFor x = true := by first | exact plainFor_of_name (by first | (simp [plainName, overriddenIn]; done) | decide +kernel) | decide +kernel
theorem ef_law (m : MethodId) (q1 : Int64) (q2 : Int32) (q3 : Int32) : entryFrame m #[(.long q1), (.int q2), (.int q3)] maxLocals = mkF m 0 #[.val (.long q1), .second, .val (.int q2), .val (.int q3), .unset, .unset, .unset, .unset, .unset, .unset, .unset, .unset, .unset] [] := by first | (simp [entryFrame, mkF, argsToLocals, Value.category, maxLocals]; done) | rfl
theorem pd_law : parseMethodDescriptor "(JII)Z" = some ⟨[.long, .int, .int], some (.boolean)⟩ := by decide +kernel
set_option maxRecDepth 65536 in
set_option maxHeartbeats 40000000 in
theorem rm_law (l : Launch) (Z : State) (a0 : Array Value) (hw : ∀ d ∈ tables_1, d.before a0 Z = true) (ws : List Jvm.Cond) (q1 : Int64) (q2 : Int32) (q3 : Int32) (h0 : Heap)  :
    MetFree l x (head1 (Jvm.Cond.code x code maxLocals ret :: ws) room_1) (fun a U => a = #[(.long q1), (.int q2), (.int q3)] ∧ Z.Warmed39 U.vm ∧ U.heap = h0) (fun _ _ _ _ _ => True) (fun _ U o U' => ∃ v L, o = .returned v ∧ LQ h0 v U'.heap L ∧ FrameEnd U o U' L 16 128) := by
  refine MetFree.of_bodySF pn_law hisR ?_
  intro p e s m args below meth c s₁ Bd hml0 hP hK
  obtain ⟨rfl, hZ, hh⟩ := hP
  have hx := Bd.exec
  have hby := Bd.bytes
  have hml : c.maxLocals = 13 := hml0
  have hown : s.vm.findClass "com/example/marble_cache/marblecache/store/EntrySetMarkPinLaw" = some m.cls := findClass_of_methodNamed Bd.named
  have hnm := (name_of_methodNamed Bd.named Bd.method).1
  have hlk : meth.locks = false := BodyLoose.notSynchronized Bd
  have X0 : Stand p l e room_1 s m #[(.long q1), (.int q2), (.int q3)] below meth c s₁ [] 0 0 := Stand.of_body Bd
  have e0 : s₁.heap = h0 := by rw [← hh, Bd.state]; rfl
  show Go p e below (EndN below s (LQ h0) 16 128) (s₁.setTop (entryFrame m #[(.long q1), (.int q2), (.int q3)] maxLocals))
  rw [ef_law]
  refine g_iconst X0 hx 1 (0 : Int32) (hb hby at_0) rfl rfl ?_
  obtain ⟨T_1, h_1, a_1, k_1, X_1, e_1, ga_1, E_1, A_1, st_1⟩ := g_newP X0 hx hZ (aty := .byte) (n := (0 : Int32)) (hw _ (List.mem_of_getElem? (i := 0) rfl)) e0 0 (by decide) (by decide) (by decide) (by decide) (by decide) 3 (hb hby at_1) rfl
  refine st_1 ?_
  have g_1 : h0.size ≤ a_1 := by rw [ga_1]; exact (Nat.le_refl _)
  have Z_1 : h0.size ≤ h_1.size := Nat.le_trans (Nat.le_refl _) E_1.1
  refine g_astore X_1 hx 5 #[.val (.long q1), .second, .val (.int q2), .val (.int q3), .val (.ref a_1), .unset, .unset, .unset, .unset, .unset, .unset, .unset, .unset] (hb hby at_3) rfl rfl rfl ?_
  obtain ⟨T_5, h_5, a_5, X_5, e_5, ga_5, E_5, A_5, D_5, st_5⟩ := g_newO X_1 hx hZ hown (hw _ (List.mem_of_getElem? (i := 1) rfl)) (hw _ (List.mem_of_getElem? (i := 2) rfl)) (hw _ (List.mem_of_getElem? (i := 3) rfl)) e_1 8 (hb hby at_5) rfl (by decide) (by decide)
  refine st_5 ?_
  have g_5 : h0.size ≤ a_5 := by rw [ga_5]; exact Z_1
  have Z_5 : h0.size ≤ h_5.size := Nat.le_trans Z_1 E_5.1
  have F_5_key : Fld Z h_5 a_5 "com/example/marble_cache/marblecache/store/KeyTable$Node" "key" "[B" .null := D_5 (Or.inr (hw _ (List.mem_of_getElem? (i := 16) rfl))) (ty := .array (.byte)) (by decide)
  have F_5_hash : Fld Z h_5 a_5 "com/example/marble_cache/marblecache/store/KeyTable$Node" "hash" "I" (.int (0 : Int32)) := D_5 (Or.inr (hw _ (List.mem_of_getElem? (i := 18) rfl))) (ty := .int) (by decide)
  have F_5_place : Fld Z h_5 a_5 "com/example/marble_cache/marblecache/store/Entry" "place" "I" (.int (0 : Int32)) := D_5 (Or.inl (hw _ (List.mem_of_getElem? (i := 20) rfl))) (ty := .int) (by decide)
  have F_5_use : Fld Z h_5 a_5 "com/example/marble_cache/marblecache/store/Entry" "use" "J" (.long (0 : Int64)) := D_5 (Or.inl (hw _ (List.mem_of_getElem? (i := 28) rfl))) (ty := .long) (by decide)
  refine g_dup X_5 hx 9 (hb hby at_8) rfl rfl ?_
  refine g_aload X_5 hx 11 (.ref a_1) (hb hby at_9) rfl rfl rfl ?_
  refine g_iload_n X_5 hx 12 q3 (hb hby at_11) rfl rfl ?_
  obtain ⟨_, T_12, L_12, X_12, ⟨rfl, N12, K12, FP12, FU12⟩, st_12⟩ := g_callI X_5 hx hZ (own := "com/example/marble_cache/marblecache/store/EntrySetMarkPinLaw") (index := 9) (y := (⟨"com/example/marble_cache/marblecache/store/Entry", "<init>", "([BI)V"⟩ : MethodName)) (a := a_5) (as' := [(.ref a_1), (.int q3)]) rfl hown (hw _ (List.mem_of_getElem? (i := 4) rfl)) (hw _ (List.mem_of_getElem? (i := 5) rfl)) (hw _ (List.mem_of_getElem? (i := 3) rfl)) (hw _ (List.mem_of_getElem? (i := 6) rfl)) (by decide) e_5 (rm_init l Z a0 hw a_5 a_1 q3 h_5 h0.size g_5 A_5 F_5_place F_5_use F_5_key F_5_hash) pd_init rfl 1 (by decide) (by decide) (by decide) (by decide) (pc := 12) (Ls := #[.val (.long q1), .second, .val (.int q2), .val (.int q3), .val (.ref a_1), .unset, .unset, .unset, .unset, .unset, .unset, .unset, .unset]) (rest := [(.ref a_5)]) (st := [(.int q3), (.ref a_1), (.ref a_5), (.ref a_5)]) (by rw [hml]; rfl) rfl (Nat.le_of_eq rfl) (hb hby at_12)
  refine st_12 ?_
  have N_12 := Fr.app (Fr.nil _) N12
  have Z_12 : h0.size ≤ T_12.heap.size := Nat.le_trans Z_5 K12.1
  have E_12 := A_5.keep K12
  show Go p e below _ (T_12.setTop (mkF m 15 #[.val (.long q1), .second, .val (.int q2), .val (.int q3), .val (.ref a_1), .unset, .unset, .unset, .unset, .unset, .unset, .unset, .unset] [(.ref a_5)]))
  refine g_astore X_12 hx 17 #[.val (.long q1), .second, .val (.int q2), .val (.int q3), .val (.ref a_1), .val (.ref a_5), .unset, .unset, .unset, .unset, .unset, .unset, .unset] (hb hby at_15) rfl rfl rfl ?_
  refine g_iload_n X_12 hx 18 q2 (hb hby at_17) rfl rfl ?_
  refine g_iconst X_12 hx 19 (1 : Int32) (hb hby at_18) rfl rfl ?_
  refine g_iand X_12 hx 20 (hb hby at_19) rfl ?_
  by_cases c20 : (q2 &&& (1 : Int32)) = (0 : Int32)
  ·
    refine g_ifY X_12 hx 27 (hb hby at_20) (XT.i0_eq_t c20) (by decide) (by decide) ?_
    refine g_iconst X_12 hx 28 (0 : Int32) (hb hby at_27) rfl rfl ?_
    refine g_istore X_12 hx 30 #[.val (.long q1), .second, .val (.int q2), .val (.int q3), .val (.ref a_1), .val (.ref a_5), .val (.int (0 : Int32)), .unset, .unset, .unset, .unset, .unset, .unset] (hb hby at_28) rfl rfl ?_
    refine g_iload_n X_12 hx 31 q2 (hb hby at_30) rfl rfl ?_
    refine g_iconst X_12 hx 32 (2 : Int32) (hb hby at_31) rfl rfl ?_
    refine g_iand X_12 hx 33 (hb hby at_32) rfl ?_
    by_cases c33 : (q2 &&& (2 : Int32)) = (0 : Int32)
    ·
      refine g_ifY X_12 hx 40 (hb hby at_33) (XT.i0_eq_t c33) (by decide) (by decide) ?_
      refine g_iconst X_12 hx 41 (0 : Int32) (hb hby at_40) rfl rfl ?_
      refine g_istore X_12 hx 43 #[.val (.long q1), .second, .val (.int q2), .val (.int q3), .val (.ref a_1), .val (.ref a_5), .val (.int (0 : Int32)), .val (.int (0 : Int32)), .unset, .unset, .unset, .unset, .unset] (hb hby at_41) rfl rfl ?_
      refine g_lload_n X_12 hx 44 q1 (hb hby at_43) rfl rfl ?_
      refine g_ldc2_w X_12 hx 47 (hb hby at_44) hown (mvT hZ (hw _ (List.mem_of_getElem? (i := 21) rfl))) rfl ?_
      refine g_land X_12 hx 48 (hb hby at_47) rfl ?_
      refine g_lstore X_12 hx 50 #[.val (.long q1), .second, .val (.int q2), .val (.int q3), .val (.ref a_1), .val (.ref a_5), .val (.int (0 : Int32)), .val (.int (0 : Int32)), .val (.long (q1 &&& (9223372036854775807 : Int64))), .second, .unset, .unset, .unset] (hb hby at_48) rfl rfl ?_
      generalize hvs : (q1 &&& (9223372036854775807 : Int64)) = vs
      refine g_aload X_12 hx 52 (.ref a_5) (hb hby at_50) rfl rfl rfl ?_
      refine g_lload X_12 hx 54 vs (hb hby at_52) rfl rfl ?_
      obtain ⟨_, T_54, L_54, X_54, ⟨rfl, N54, K54, FP54, FU54⟩, st_54⟩ := g_callV X_12 hx hZ (own := "com/example/marble_cache/marblecache/store/EntrySetMarkPinLaw") (C := "com/example/marble_cache/marblecache/store/Entry") (index := 16) (y := (⟨"com/example/marble_cache/marblecache/store/Entry", "setUse", "(J)V"⟩ : MethodName)) (z := (⟨"com/example/marble_cache/marblecache/store/Entry", "setUse", "(J)V"⟩ : MethodName)) (a := a_5) (as' := [(.long vs)]) hown (hw _ (List.mem_of_getElem? (i := 22) rfl)) (hw _ (List.mem_of_getElem? (i := 23) rfl)) (hw _ (List.mem_of_getElem? (i := 25) rfl)) (hw _ (List.mem_of_getElem? (i := 25) rfl)) (hw _ (List.mem_of_getElem? (i := 24) rfl)) (hw _ (List.mem_of_getElem? (i := 3) rfl)) (hw _ (List.mem_of_getElem? (i := 26) rfl)) (by decide) rfl E_12 (rm_setu l Z a0 hw a_5 vs T_12.heap h0.size g_5 E_12 (-1 : Int32) (0 : Int64) FP12 FU12) pd_setu rfl 0 (by decide) (by decide) (by decide) (by decide) (pc := 54) (Ls := #[.val (.long q1), .second, .val (.int q2), .val (.int q3), .val (.ref a_1), .val (.ref a_5), .val (.int (0 : Int32)), .val (.int (0 : Int32)), .val (.long vs), .second, .unset, .unset, .unset]) (rest := []) (st := [(.long vs), (.ref a_5)]) (by rw [hml]; rfl) rfl (Nat.le_of_eq rfl) (hb hby at_54)
      refine st_54 ?_
      have N_54 := Fr.app N_12 N54
      have Z_54 : h0.size ≤ T_54.heap.size := Nat.le_trans Z_12 K54.1
      have E_54 := E_12.keep K54
      show Go p e below _ (T_54.setTop (mkF m 57 #[.val (.long q1), .second, .val (.int q2), .val (.int q3), .val (.ref a_1), .val (.ref a_5), .val (.int (0 : Int32)), .val (.int (0 : Int32)), .val (.long vs), .second, .unset, .unset, .unset] []))
      have hu54 := own_u1 hvs
      refine g_aload X_54 hx 59 (.ref a_5) (hb hby at_57) rfl rfl rfl ?_
      refine g_iload X_54 hx 61 (0 : Int32) (hb hby at_59) rfl rfl ?_
      obtain ⟨_, T_61, L_61, X_61, ⟨rfl, N61, K61, FP61, FU61⟩, st_61⟩ := g_callV X_54 hx hZ (own := "com/example/marble_cache/marblecache/store/EntrySetMarkPinLaw") (C := "com/example/marble_cache/marblecache/store/Entry") (index := 20) (y := (⟨"com/example/marble_cache/marblecache/store/Entry", "setMark", "(Z)V"⟩ : MethodName)) (z := (⟨"com/example/marble_cache/marblecache/store/Entry", "setMark", "(Z)V"⟩ : MethodName)) (a := a_5) (as' := [(.int (0 : Int32))]) hown (hw _ (List.mem_of_getElem? (i := 30) rfl)) (hw _ (List.mem_of_getElem? (i := 31) rfl)) (hw _ (List.mem_of_getElem? (i := 33) rfl)) (hw _ (List.mem_of_getElem? (i := 33) rfl)) (hw _ (List.mem_of_getElem? (i := 32) rfl)) (hw _ (List.mem_of_getElem? (i := 3) rfl)) (hw _ (List.mem_of_getElem? (i := 34) rfl)) (by decide) rfl E_54 (rm_setm l Z a0 hw a_5 (0 : Int32) T_54.heap h0.size g_5 E_54 (-1 : Int32) (vs ||| ((0 : Int64) &&& (-9223372036854775808 : Int64))) _ (if_pos (by decide)) FP54 FU54) pd_setm rfl 0 (by decide) (by decide) (by decide) (by decide) (pc := 61) (Ls := #[.val (.long q1), .second, .val (.int q2), .val (.int q3), .val (.ref a_1), .val (.ref a_5), .val (.int (0 : Int32)), .val (.int (0 : Int32)), .val (.long vs), .second, .unset, .unset, .unset]) (rest := []) (st := [(.int (0 : Int32)), (.ref a_5)]) (by rw [hml]; rfl) rfl (Nat.le_of_eq rfl) (hb hby at_61)
      refine st_61 ?_
      have N_61 := Fr.app N_54 N61
      have Z_61 : h0.size ≤ T_61.heap.size := Nat.le_trans Z_54 K61.1
      have E_61 := E_54.keep K61
      show Go p e below _ (T_61.setTop (mkF m 64 #[.val (.long q1), .second, .val (.int q2), .val (.int q3), .val (.ref a_1), .val (.ref a_5), .val (.int (0 : Int32)), .val (.int (0 : Int32)), .val (.long vs), .second, .unset, .unset, .unset] []))
      have hu61 := own_ub hu54
      refine g_aload X_61 hx 66 (.ref a_5) (hb hby at_64) rfl rfl rfl ?_
      obtain ⟨T_66, X_66, e_66, st_66⟩ := g_callVP X_61 hx hZ (own := "com/example/marble_cache/marblecache/store/EntrySetMarkPinLaw") (C := "com/example/marble_cache/marblecache/store/Entry") (index := 24) (y := (⟨"com/example/marble_cache/marblecache/store/Entry", "mark", "()Z"⟩ : MethodName)) (z := (⟨"com/example/marble_cache/marblecache/store/Entry", "mark", "()Z"⟩ : MethodName)) (a := a_5) (as' := []) (w := (some (.int (0 : Int32)))) hown (hw _ (List.mem_of_getElem? (i := 36) rfl)) (hw _ (List.mem_of_getElem? (i := 37) rfl)) (hw _ (List.mem_of_getElem? (i := 39) rfl)) (hw _ (List.mem_of_getElem? (i := 39) rfl)) (hw _ (List.mem_of_getElem? (i := 38) rfl)) (hw _ (List.mem_of_getElem? (i := 3) rfl)) (hw _ (List.mem_of_getElem? (i := 40) rfl)) (by decide) rfl E_61 (rm_mark l Z a0 hw a_5 T_61.heap ((vs ||| ((0 : Int64) &&& (-9223372036854775808 : Int64))) &&& (9223372036854775807 : Int64)) (0 : Int32) (b2i_f (own_nonneg _)) FU61) pd_mark rfl 0 (by decide) (by decide) (by decide) (by decide) rfl rfl (pc := 66) (pc' := 69) (Ls := #[.val (.long q1), .second, .val (.int q2), .val (.int q3), .val (.ref a_1), .val (.ref a_5), .val (.int (0 : Int32)), .val (.int (0 : Int32)), .val (.long vs), .second, .unset, .unset, .unset]) (rest := []) (st := [(.ref a_5)]) (by rw [hml]; rfl) rfl (Nat.le_of_eq rfl) (hb hby at_66) rfl
      refine st_66 ?_
      show Go p e below _ (T_66.setTop (mkF m 69 #[.val (.long q1), .second, .val (.int q2), .val (.int q3), .val (.ref a_1), .val (.ref a_5), .val (.int (0 : Int32)), .val (.int (0 : Int32)), .val (.long vs), .second, .unset, .unset, .unset] [(.int (0 : Int32))]))
      refine g_iload X_66 hx 71 (0 : Int32) (hb hby at_69) rfl rfl ?_
      refine g_icmpN X_66 hx 74 (hb hby at_71) (XT.ii_ne_f (by decide)) rfl ?_
      refine g_aload X_66 hx 76 (.ref a_5) (hb hby at_74) rfl rfl rfl ?_
      obtain ⟨T_76, X_76, e_76, st_76⟩ := g_callVP X_66 hx hZ (own := "com/example/marble_cache/marblecache/store/EntrySetMarkPinLaw") (C := "com/example/marble_cache/marblecache/store/Entry") (index := 28) (y := (⟨"com/example/marble_cache/marblecache/store/Entry", "use", "()J"⟩ : MethodName)) (z := (⟨"com/example/marble_cache/marblecache/store/Entry", "use", "()J"⟩ : MethodName)) (a := a_5) (as' := []) (w := (some (.long (((vs ||| ((0 : Int64) &&& (-9223372036854775808 : Int64))) &&& (9223372036854775807 : Int64)) &&& (9223372036854775807 : Int64))))) hown (hw _ (List.mem_of_getElem? (i := 41) rfl)) (hw _ (List.mem_of_getElem? (i := 42) rfl)) (hw _ (List.mem_of_getElem? (i := 44) rfl)) (hw _ (List.mem_of_getElem? (i := 44) rfl)) (hw _ (List.mem_of_getElem? (i := 43) rfl)) (hw _ (List.mem_of_getElem? (i := 3) rfl)) (hw _ (List.mem_of_getElem? (i := 45) rfl)) (by decide) e_66 E_61 (rm_use l Z a0 hw a_5 T_61.heap ((vs ||| ((0 : Int64) &&& (-9223372036854775808 : Int64))) &&& (9223372036854775807 : Int64)) FU61) pd_use rfl 0 (by decide) (by decide) (by decide) (by decide) rfl rfl (pc := 76) (pc' := 79) (Ls := #[.val (.long q1), .second, .val (.int q2), .val (.int q3), .val (.ref a_1), .val (.ref a_5), .val (.int (0 : Int32)), .val (.int (0 : Int32)), .val (.long vs), .second, .unset, .unset, .unset]) (rest := []) (st := [(.ref a_5)]) (by rw [hml]; rfl) rfl (Nat.le_of_eq rfl) (hb hby at_76) rfl
      refine st_76 ?_
      show Go p e below _ (T_76.setTop (mkF m 79 #[.val (.long q1), .second, .val (.int q2), .val (.int q3), .val (.ref a_1), .val (.ref a_5), .val (.int (0 : Int32)), .val (.int (0 : Int32)), .val (.long vs), .second, .unset, .unset, .unset] [(.long (((vs ||| ((0 : Int64) &&& (-9223372036854775808 : Int64))) &&& (9223372036854775807 : Int64)) &&& (9223372036854775807 : Int64)))]))
      refine g_lload X_76 hx 81 vs (hb hby at_79) rfl rfl ?_
      refine g_lcmp X_76 hx 82 (hb hby at_81) rfl ?_
      refine g_ifN X_76 hx 85 (hb hby at_82) (XT.ll_ne_f hu61) rfl ?_
      refine g_iconst X_76 hx 86 (1 : Int32) (hb hby at_85) rfl rfl ?_
      refine g_goto X_76 hx 90 (hb hby at_86) (by decide) (by decide) ?_
      refine g_istore X_76 hx 92 #[.val (.long q1), .second, .val (.int q2), .val (.int q3), .val (.ref a_1), .val (.ref a_5), .val (.int (0 : Int32)), .val (.int (0 : Int32)), .val (.long vs), .second, .val (.int (1 : Int32)), .unset, .unset] (hb hby at_90) rfl rfl ?_
      refine g_aload X_76 hx 94 (.ref a_5) (hb hby at_92) rfl rfl rfl ?_
      refine g_iload X_76 hx 96 (0 : Int32) (hb hby at_94) rfl rfl ?_
      obtain ⟨_, T_96, L_96, X_96, ⟨rfl, N96, K96, FP96, FU96⟩, st_96⟩ := g_callV X_76 hx hZ (own := "com/example/marble_cache/marblecache/store/EntrySetMarkPinLaw") (C := "com/example/marble_cache/marblecache/store/Entry") (index := 20) (y := (⟨"com/example/marble_cache/marblecache/store/Entry", "setMark", "(Z)V"⟩ : MethodName)) (z := (⟨"com/example/marble_cache/marblecache/store/Entry", "setMark", "(Z)V"⟩ : MethodName)) (a := a_5) (as' := [(.int (0 : Int32))]) hown (hw _ (List.mem_of_getElem? (i := 30) rfl)) (hw _ (List.mem_of_getElem? (i := 31) rfl)) (hw _ (List.mem_of_getElem? (i := 33) rfl)) (hw _ (List.mem_of_getElem? (i := 33) rfl)) (hw _ (List.mem_of_getElem? (i := 32) rfl)) (hw _ (List.mem_of_getElem? (i := 3) rfl)) (hw _ (List.mem_of_getElem? (i := 34) rfl)) (by decide) e_76 E_61 (rm_setm l Z a0 hw a_5 (0 : Int32) T_61.heap h0.size g_5 E_61 (-1 : Int32) ((vs ||| ((0 : Int64) &&& (-9223372036854775808 : Int64))) &&& (9223372036854775807 : Int64)) _ (if_pos (by decide)) FP61 FU61) pd_setm rfl 0 (by decide) (by decide) (by decide) (by decide) (pc := 96) (Ls := #[.val (.long q1), .second, .val (.int q2), .val (.int q3), .val (.ref a_1), .val (.ref a_5), .val (.int (0 : Int32)), .val (.int (0 : Int32)), .val (.long vs), .second, .val (.int (1 : Int32)), .unset, .unset]) (rest := []) (st := [(.int (0 : Int32)), (.ref a_5)]) (by rw [hml]; rfl) rfl (Nat.le_of_eq rfl) (hb hby at_96)
      refine st_96 ?_
      have N_96 := Fr.app N_61 N96
      have Z_96 : h0.size ≤ T_96.heap.size := Nat.le_trans Z_61 K96.1
      have E_96 := E_61.keep K96
      show Go p e below _ (T_96.setTop (mkF m 99 #[.val (.long q1), .second, .val (.int q2), .val (.int q3), .val (.ref a_1), .val (.ref a_5), .val (.int (0 : Int32)), .val (.int (0 : Int32)), .val (.long vs), .second, .val (.int (1 : Int32)), .unset, .unset] []))
      have hu96 := own_ub hu61
      refine g_aload X_96 hx 101 (.ref a_5) (hb hby at_99) rfl rfl rfl ?_
      obtain ⟨T_101, X_101, e_101, st_101⟩ := g_callVP X_96 hx hZ (own := "com/example/marble_cache/marblecache/store/EntrySetMarkPinLaw") (C := "com/example/marble_cache/marblecache/store/Entry") (index := 24) (y := (⟨"com/example/marble_cache/marblecache/store/Entry", "mark", "()Z"⟩ : MethodName)) (z := (⟨"com/example/marble_cache/marblecache/store/Entry", "mark", "()Z"⟩ : MethodName)) (a := a_5) (as' := []) (w := (some (.int (0 : Int32)))) hown (hw _ (List.mem_of_getElem? (i := 36) rfl)) (hw _ (List.mem_of_getElem? (i := 37) rfl)) (hw _ (List.mem_of_getElem? (i := 39) rfl)) (hw _ (List.mem_of_getElem? (i := 39) rfl)) (hw _ (List.mem_of_getElem? (i := 38) rfl)) (hw _ (List.mem_of_getElem? (i := 3) rfl)) (hw _ (List.mem_of_getElem? (i := 40) rfl)) (by decide) rfl E_96 (rm_mark l Z a0 hw a_5 T_96.heap (((vs ||| ((0 : Int64) &&& (-9223372036854775808 : Int64))) &&& (9223372036854775807 : Int64)) &&& (9223372036854775807 : Int64)) (0 : Int32) (b2i_f (own_nonneg _)) FU96) pd_mark rfl 0 (by decide) (by decide) (by decide) (by decide) rfl rfl (pc := 101) (pc' := 104) (Ls := #[.val (.long q1), .second, .val (.int q2), .val (.int q3), .val (.ref a_1), .val (.ref a_5), .val (.int (0 : Int32)), .val (.int (0 : Int32)), .val (.long vs), .second, .val (.int (1 : Int32)), .unset, .unset]) (rest := []) (st := [(.ref a_5)]) (by rw [hml]; rfl) rfl (Nat.le_of_eq rfl) (hb hby at_101) rfl
      refine st_101 ?_
      show Go p e below _ (T_101.setTop (mkF m 104 #[.val (.long q1), .second, .val (.int q2), .val (.int q3), .val (.ref a_1), .val (.ref a_5), .val (.int (0 : Int32)), .val (.int (0 : Int32)), .val (.long vs), .second, .val (.int (1 : Int32)), .unset, .unset] [(.int (0 : Int32))]))
      refine g_iload X_101 hx 106 (0 : Int32) (hb hby at_104) rfl rfl ?_
      refine g_icmpN X_101 hx 109 (hb hby at_106) (XT.ii_ne_f (by decide)) rfl ?_
      refine g_aload X_101 hx 111 (.ref a_5) (hb hby at_109) rfl rfl rfl ?_
      obtain ⟨T_111, X_111, e_111, st_111⟩ := g_callVP X_101 hx hZ (own := "com/example/marble_cache/marblecache/store/EntrySetMarkPinLaw") (C := "com/example/marble_cache/marblecache/store/Entry") (index := 28) (y := (⟨"com/example/marble_cache/marblecache/store/Entry", "use", "()J"⟩ : MethodName)) (z := (⟨"com/example/marble_cache/marblecache/store/Entry", "use", "()J"⟩ : MethodName)) (a := a_5) (as' := []) (w := (some (.long ((((vs ||| ((0 : Int64) &&& (-9223372036854775808 : Int64))) &&& (9223372036854775807 : Int64)) &&& (9223372036854775807 : Int64)) &&& (9223372036854775807 : Int64))))) hown (hw _ (List.mem_of_getElem? (i := 41) rfl)) (hw _ (List.mem_of_getElem? (i := 42) rfl)) (hw _ (List.mem_of_getElem? (i := 44) rfl)) (hw _ (List.mem_of_getElem? (i := 44) rfl)) (hw _ (List.mem_of_getElem? (i := 43) rfl)) (hw _ (List.mem_of_getElem? (i := 3) rfl)) (hw _ (List.mem_of_getElem? (i := 45) rfl)) (by decide) e_101 E_96 (rm_use l Z a0 hw a_5 T_96.heap (((vs ||| ((0 : Int64) &&& (-9223372036854775808 : Int64))) &&& (9223372036854775807 : Int64)) &&& (9223372036854775807 : Int64)) FU96) pd_use rfl 0 (by decide) (by decide) (by decide) (by decide) rfl rfl (pc := 111) (pc' := 114) (Ls := #[.val (.long q1), .second, .val (.int q2), .val (.int q3), .val (.ref a_1), .val (.ref a_5), .val (.int (0 : Int32)), .val (.int (0 : Int32)), .val (.long vs), .second, .val (.int (1 : Int32)), .unset, .unset]) (rest := []) (st := [(.ref a_5)]) (by rw [hml]; rfl) rfl (Nat.le_of_eq rfl) (hb hby at_111) rfl
      refine st_111 ?_
      show Go p e below _ (T_111.setTop (mkF m 114 #[.val (.long q1), .second, .val (.int q2), .val (.int q3), .val (.ref a_1), .val (.ref a_5), .val (.int (0 : Int32)), .val (.int (0 : Int32)), .val (.long vs), .second, .val (.int (1 : Int32)), .unset, .unset] [(.long ((((vs ||| ((0 : Int64) &&& (-9223372036854775808 : Int64))) &&& (9223372036854775807 : Int64)) &&& (9223372036854775807 : Int64)) &&& (9223372036854775807 : Int64)))]))
      refine g_lload X_111 hx 116 vs (hb hby at_114) rfl rfl ?_
      refine g_lcmp X_111 hx 117 (hb hby at_116) rfl ?_
      refine g_ifN X_111 hx 120 (hb hby at_117) (XT.ll_ne_f hu96) rfl ?_
      refine g_iconst X_111 hx 121 (1 : Int32) (hb hby at_120) rfl rfl ?_
      refine g_goto X_111 hx 125 (hb hby at_121) (by decide) (by decide) ?_
      refine g_istore X_111 hx 127 #[.val (.long q1), .second, .val (.int q2), .val (.int q3), .val (.ref a_1), .val (.ref a_5), .val (.int (0 : Int32)), .val (.int (0 : Int32)), .val (.long vs), .second, .val (.int (1 : Int32)), .val (.int (1 : Int32)), .unset] (hb hby at_125) rfl rfl ?_
      refine g_aload X_111 hx 129 (.ref a_5) (hb hby at_127) rfl rfl rfl ?_
      obtain ⟨T_129, X_129, e_129, st_129⟩ := g_callVP X_111 hx hZ (own := "com/example/marble_cache/marblecache/store/EntrySetMarkPinLaw") (C := "com/example/marble_cache/marblecache/store/Entry") (index := 32) (y := (⟨"com/example/marble_cache/marblecache/store/Entry", "place", "()I"⟩ : MethodName)) (z := (⟨"com/example/marble_cache/marblecache/store/Entry", "place", "()I"⟩ : MethodName)) (a := a_5) (as' := []) (w := (some (.int (-1 : Int32)))) hown (hw _ (List.mem_of_getElem? (i := 46) rfl)) (hw _ (List.mem_of_getElem? (i := 47) rfl)) (hw _ (List.mem_of_getElem? (i := 49) rfl)) (hw _ (List.mem_of_getElem? (i := 49) rfl)) (hw _ (List.mem_of_getElem? (i := 48) rfl)) (hw _ (List.mem_of_getElem? (i := 3) rfl)) (hw _ (List.mem_of_getElem? (i := 50) rfl)) (by decide) e_111 E_96 (rm_place l Z a0 hw a_5 T_96.heap (-1 : Int32) FP96) pd_place rfl 0 (by decide) (by decide) (by decide) (by decide) rfl rfl (pc := 129) (pc' := 132) (Ls := #[.val (.long q1), .second, .val (.int q2), .val (.int q3), .val (.ref a_1), .val (.ref a_5), .val (.int (0 : Int32)), .val (.int (0 : Int32)), .val (.long vs), .second, .val (.int (1 : Int32)), .val (.int (1 : Int32)), .unset]) (rest := []) (st := [(.ref a_5)]) (by rw [hml]; rfl) rfl (Nat.le_of_eq rfl) (hb hby at_129) rfl
      refine st_129 ?_
      show Go p e below _ (T_129.setTop (mkF m 132 #[.val (.long q1), .second, .val (.int q2), .val (.int q3), .val (.ref a_1), .val (.ref a_5), .val (.int (0 : Int32)), .val (.int (0 : Int32)), .val (.long vs), .second, .val (.int (1 : Int32)), .val (.int (1 : Int32)), .unset] [(.int (-1 : Int32))]))
      refine g_iconst X_129 hx 133 (-1 : Int32) (hb hby at_132) rfl rfl ?_
      refine g_icmpN X_129 hx 136 (hb hby at_133) (XT.ii_ne_f (by decide)) rfl ?_
      refine g_iconst X_129 hx 137 (1 : Int32) (hb hby at_136) rfl rfl ?_
      refine g_goto X_129 hx 141 (hb hby at_137) (by decide) (by decide) ?_
      refine g_istore X_129 hx 143 #[.val (.long q1), .second, .val (.int q2), .val (.int q3), .val (.ref a_1), .val (.ref a_5), .val (.int (0 : Int32)), .val (.int (0 : Int32)), .val (.long vs), .second, .val (.int (1 : Int32)), .val (.int (1 : Int32)), .val (.int (1 : Int32))] (hb hby at_141) rfl rfl ?_
      refine g_iload X_129 hx 145 (1 : Int32) (hb hby at_143) rfl rfl ?_
      refine g_ifN X_129 hx 148 (hb hby at_145) (XT.i0_eq_f (by decide)) rfl ?_
      refine g_iload X_129 hx 150 (1 : Int32) (hb hby at_148) rfl rfl ?_
      refine g_ifN X_129 hx 153 (hb hby at_150) (XT.i0_eq_f (by decide)) rfl ?_
      refine g_iload X_129 hx 155 (1 : Int32) (hb hby at_153) rfl rfl ?_
      refine g_ifN X_129 hx 158 (hb hby at_155) (XT.i0_eq_f (by decide)) rfl ?_
      refine g_iconst X_129 hx 159 (1 : Int32) (hb hby at_158) rfl rfl ?_
      refine g_goto X_129 hx 163 (hb hby at_159) (by decide) (by decide) ?_
      exact Go.ret X_129 hx hlk Bd.returns (hb hby at_163) rfl (Or.inl ⟨rfl, by decide, _, rfl⟩) (by decide) (by decide) ⟨rfl, N_96⟩
    ·
      refine g_ifN X_12 hx 36 (hb hby at_33) (XT.i0_eq_f c33) rfl ?_
      refine g_iconst X_12 hx 37 (1 : Int32) (hb hby at_36) rfl rfl ?_
      refine g_goto X_12 hx 41 (hb hby at_37) (by decide) (by decide) ?_
      refine g_istore X_12 hx 43 #[.val (.long q1), .second, .val (.int q2), .val (.int q3), .val (.ref a_1), .val (.ref a_5), .val (.int (0 : Int32)), .val (.int (1 : Int32)), .unset, .unset, .unset, .unset, .unset] (hb hby at_41) rfl rfl ?_
      refine g_lload_n X_12 hx 44 q1 (hb hby at_43) rfl rfl ?_
      refine g_ldc2_w X_12 hx 47 (hb hby at_44) hown (mvT hZ (hw _ (List.mem_of_getElem? (i := 21) rfl))) rfl ?_
      refine g_land X_12 hx 48 (hb hby at_47) rfl ?_
      refine g_lstore X_12 hx 50 #[.val (.long q1), .second, .val (.int q2), .val (.int q3), .val (.ref a_1), .val (.ref a_5), .val (.int (0 : Int32)), .val (.int (1 : Int32)), .val (.long (q1 &&& (9223372036854775807 : Int64))), .second, .unset, .unset, .unset] (hb hby at_48) rfl rfl ?_
      generalize hvs : (q1 &&& (9223372036854775807 : Int64)) = vs
      refine g_aload X_12 hx 52 (.ref a_5) (hb hby at_50) rfl rfl rfl ?_
      refine g_lload X_12 hx 54 vs (hb hby at_52) rfl rfl ?_
      obtain ⟨_, T_54, L_54, X_54, ⟨rfl, N54, K54, FP54, FU54⟩, st_54⟩ := g_callV X_12 hx hZ (own := "com/example/marble_cache/marblecache/store/EntrySetMarkPinLaw") (C := "com/example/marble_cache/marblecache/store/Entry") (index := 16) (y := (⟨"com/example/marble_cache/marblecache/store/Entry", "setUse", "(J)V"⟩ : MethodName)) (z := (⟨"com/example/marble_cache/marblecache/store/Entry", "setUse", "(J)V"⟩ : MethodName)) (a := a_5) (as' := [(.long vs)]) hown (hw _ (List.mem_of_getElem? (i := 22) rfl)) (hw _ (List.mem_of_getElem? (i := 23) rfl)) (hw _ (List.mem_of_getElem? (i := 25) rfl)) (hw _ (List.mem_of_getElem? (i := 25) rfl)) (hw _ (List.mem_of_getElem? (i := 24) rfl)) (hw _ (List.mem_of_getElem? (i := 3) rfl)) (hw _ (List.mem_of_getElem? (i := 26) rfl)) (by decide) rfl E_12 (rm_setu l Z a0 hw a_5 vs T_12.heap h0.size g_5 E_12 (-1 : Int32) (0 : Int64) FP12 FU12) pd_setu rfl 0 (by decide) (by decide) (by decide) (by decide) (pc := 54) (Ls := #[.val (.long q1), .second, .val (.int q2), .val (.int q3), .val (.ref a_1), .val (.ref a_5), .val (.int (0 : Int32)), .val (.int (1 : Int32)), .val (.long vs), .second, .unset, .unset, .unset]) (rest := []) (st := [(.long vs), (.ref a_5)]) (by rw [hml]; rfl) rfl (Nat.le_of_eq rfl) (hb hby at_54)
      refine st_54 ?_
      have N_54 := Fr.app N_12 N54
      have Z_54 : h0.size ≤ T_54.heap.size := Nat.le_trans Z_12 K54.1
      have E_54 := E_12.keep K54
      show Go p e below _ (T_54.setTop (mkF m 57 #[.val (.long q1), .second, .val (.int q2), .val (.int q3), .val (.ref a_1), .val (.ref a_5), .val (.int (0 : Int32)), .val (.int (1 : Int32)), .val (.long vs), .second, .unset, .unset, .unset] []))
      have hu54 := own_u1 hvs
      refine g_aload X_54 hx 59 (.ref a_5) (hb hby at_57) rfl rfl rfl ?_
      refine g_iload X_54 hx 61 (0 : Int32) (hb hby at_59) rfl rfl ?_
      obtain ⟨_, T_61, L_61, X_61, ⟨rfl, N61, K61, FP61, FU61⟩, st_61⟩ := g_callV X_54 hx hZ (own := "com/example/marble_cache/marblecache/store/EntrySetMarkPinLaw") (C := "com/example/marble_cache/marblecache/store/Entry") (index := 20) (y := (⟨"com/example/marble_cache/marblecache/store/Entry", "setMark", "(Z)V"⟩ : MethodName)) (z := (⟨"com/example/marble_cache/marblecache/store/Entry", "setMark", "(Z)V"⟩ : MethodName)) (a := a_5) (as' := [(.int (0 : Int32))]) hown (hw _ (List.mem_of_getElem? (i := 30) rfl)) (hw _ (List.mem_of_getElem? (i := 31) rfl)) (hw _ (List.mem_of_getElem? (i := 33) rfl)) (hw _ (List.mem_of_getElem? (i := 33) rfl)) (hw _ (List.mem_of_getElem? (i := 32) rfl)) (hw _ (List.mem_of_getElem? (i := 3) rfl)) (hw _ (List.mem_of_getElem? (i := 34) rfl)) (by decide) rfl E_54 (rm_setm l Z a0 hw a_5 (0 : Int32) T_54.heap h0.size g_5 E_54 (-1 : Int32) (vs ||| ((0 : Int64) &&& (-9223372036854775808 : Int64))) _ (if_pos (by decide)) FP54 FU54) pd_setm rfl 0 (by decide) (by decide) (by decide) (by decide) (pc := 61) (Ls := #[.val (.long q1), .second, .val (.int q2), .val (.int q3), .val (.ref a_1), .val (.ref a_5), .val (.int (0 : Int32)), .val (.int (1 : Int32)), .val (.long vs), .second, .unset, .unset, .unset]) (rest := []) (st := [(.int (0 : Int32)), (.ref a_5)]) (by rw [hml]; rfl) rfl (Nat.le_of_eq rfl) (hb hby at_61)
      refine st_61 ?_
      have N_61 := Fr.app N_54 N61
      have Z_61 : h0.size ≤ T_61.heap.size := Nat.le_trans Z_54 K61.1
      have E_61 := E_54.keep K61
      show Go p e below _ (T_61.setTop (mkF m 64 #[.val (.long q1), .second, .val (.int q2), .val (.int q3), .val (.ref a_1), .val (.ref a_5), .val (.int (0 : Int32)), .val (.int (1 : Int32)), .val (.long vs), .second, .unset, .unset, .unset] []))
      have hu61 := own_ub hu54
      refine g_aload X_61 hx 66 (.ref a_5) (hb hby at_64) rfl rfl rfl ?_
      obtain ⟨T_66, X_66, e_66, st_66⟩ := g_callVP X_61 hx hZ (own := "com/example/marble_cache/marblecache/store/EntrySetMarkPinLaw") (C := "com/example/marble_cache/marblecache/store/Entry") (index := 24) (y := (⟨"com/example/marble_cache/marblecache/store/Entry", "mark", "()Z"⟩ : MethodName)) (z := (⟨"com/example/marble_cache/marblecache/store/Entry", "mark", "()Z"⟩ : MethodName)) (a := a_5) (as' := []) (w := (some (.int (0 : Int32)))) hown (hw _ (List.mem_of_getElem? (i := 36) rfl)) (hw _ (List.mem_of_getElem? (i := 37) rfl)) (hw _ (List.mem_of_getElem? (i := 39) rfl)) (hw _ (List.mem_of_getElem? (i := 39) rfl)) (hw _ (List.mem_of_getElem? (i := 38) rfl)) (hw _ (List.mem_of_getElem? (i := 3) rfl)) (hw _ (List.mem_of_getElem? (i := 40) rfl)) (by decide) rfl E_61 (rm_mark l Z a0 hw a_5 T_61.heap ((vs ||| ((0 : Int64) &&& (-9223372036854775808 : Int64))) &&& (9223372036854775807 : Int64)) (0 : Int32) (b2i_f (own_nonneg _)) FU61) pd_mark rfl 0 (by decide) (by decide) (by decide) (by decide) rfl rfl (pc := 66) (pc' := 69) (Ls := #[.val (.long q1), .second, .val (.int q2), .val (.int q3), .val (.ref a_1), .val (.ref a_5), .val (.int (0 : Int32)), .val (.int (1 : Int32)), .val (.long vs), .second, .unset, .unset, .unset]) (rest := []) (st := [(.ref a_5)]) (by rw [hml]; rfl) rfl (Nat.le_of_eq rfl) (hb hby at_66) rfl
      refine st_66 ?_
      show Go p e below _ (T_66.setTop (mkF m 69 #[.val (.long q1), .second, .val (.int q2), .val (.int q3), .val (.ref a_1), .val (.ref a_5), .val (.int (0 : Int32)), .val (.int (1 : Int32)), .val (.long vs), .second, .unset, .unset, .unset] [(.int (0 : Int32))]))
      refine g_iload X_66 hx 71 (0 : Int32) (hb hby at_69) rfl rfl ?_
      refine g_icmpN X_66 hx 74 (hb hby at_71) (XT.ii_ne_f (by decide)) rfl ?_
      refine g_aload X_66 hx 76 (.ref a_5) (hb hby at_74) rfl rfl rfl ?_
      obtain ⟨T_76, X_76, e_76, st_76⟩ := g_callVP X_66 hx hZ (own := "com/example/marble_cache/marblecache/store/EntrySetMarkPinLaw") (C := "com/example/marble_cache/marblecache/store/Entry") (index := 28) (y := (⟨"com/example/marble_cache/marblecache/store/Entry", "use", "()J"⟩ : MethodName)) (z := (⟨"com/example/marble_cache/marblecache/store/Entry", "use", "()J"⟩ : MethodName)) (a := a_5) (as' := []) (w := (some (.long (((vs ||| ((0 : Int64) &&& (-9223372036854775808 : Int64))) &&& (9223372036854775807 : Int64)) &&& (9223372036854775807 : Int64))))) hown (hw _ (List.mem_of_getElem? (i := 41) rfl)) (hw _ (List.mem_of_getElem? (i := 42) rfl)) (hw _ (List.mem_of_getElem? (i := 44) rfl)) (hw _ (List.mem_of_getElem? (i := 44) rfl)) (hw _ (List.mem_of_getElem? (i := 43) rfl)) (hw _ (List.mem_of_getElem? (i := 3) rfl)) (hw _ (List.mem_of_getElem? (i := 45) rfl)) (by decide) e_66 E_61 (rm_use l Z a0 hw a_5 T_61.heap ((vs ||| ((0 : Int64) &&& (-9223372036854775808 : Int64))) &&& (9223372036854775807 : Int64)) FU61) pd_use rfl 0 (by decide) (by decide) (by decide) (by decide) rfl rfl (pc := 76) (pc' := 79) (Ls := #[.val (.long q1), .second, .val (.int q2), .val (.int q3), .val (.ref a_1), .val (.ref a_5), .val (.int (0 : Int32)), .val (.int (1 : Int32)), .val (.long vs), .second, .unset, .unset, .unset]) (rest := []) (st := [(.ref a_5)]) (by rw [hml]; rfl) rfl (Nat.le_of_eq rfl) (hb hby at_76) rfl
      refine st_76 ?_
      show Go p e below _ (T_76.setTop (mkF m 79 #[.val (.long q1), .second, .val (.int q2), .val (.int q3), .val (.ref a_1), .val (.ref a_5), .val (.int (0 : Int32)), .val (.int (1 : Int32)), .val (.long vs), .second, .unset, .unset, .unset] [(.long (((vs ||| ((0 : Int64) &&& (-9223372036854775808 : Int64))) &&& (9223372036854775807 : Int64)) &&& (9223372036854775807 : Int64)))]))
      refine g_lload X_76 hx 81 vs (hb hby at_79) rfl rfl ?_
      refine g_lcmp X_76 hx 82 (hb hby at_81) rfl ?_
      refine g_ifN X_76 hx 85 (hb hby at_82) (XT.ll_ne_f hu61) rfl ?_
      refine g_iconst X_76 hx 86 (1 : Int32) (hb hby at_85) rfl rfl ?_
      refine g_goto X_76 hx 90 (hb hby at_86) (by decide) (by decide) ?_
      refine g_istore X_76 hx 92 #[.val (.long q1), .second, .val (.int q2), .val (.int q3), .val (.ref a_1), .val (.ref a_5), .val (.int (0 : Int32)), .val (.int (1 : Int32)), .val (.long vs), .second, .val (.int (1 : Int32)), .unset, .unset] (hb hby at_90) rfl rfl ?_
      refine g_aload X_76 hx 94 (.ref a_5) (hb hby at_92) rfl rfl rfl ?_
      refine g_iload X_76 hx 96 (1 : Int32) (hb hby at_94) rfl rfl ?_
      obtain ⟨_, T_96, L_96, X_96, ⟨rfl, N96, K96, FP96, FU96⟩, st_96⟩ := g_callV X_76 hx hZ (own := "com/example/marble_cache/marblecache/store/EntrySetMarkPinLaw") (C := "com/example/marble_cache/marblecache/store/Entry") (index := 20) (y := (⟨"com/example/marble_cache/marblecache/store/Entry", "setMark", "(Z)V"⟩ : MethodName)) (z := (⟨"com/example/marble_cache/marblecache/store/Entry", "setMark", "(Z)V"⟩ : MethodName)) (a := a_5) (as' := [(.int (1 : Int32))]) hown (hw _ (List.mem_of_getElem? (i := 30) rfl)) (hw _ (List.mem_of_getElem? (i := 31) rfl)) (hw _ (List.mem_of_getElem? (i := 33) rfl)) (hw _ (List.mem_of_getElem? (i := 33) rfl)) (hw _ (List.mem_of_getElem? (i := 32) rfl)) (hw _ (List.mem_of_getElem? (i := 3) rfl)) (hw _ (List.mem_of_getElem? (i := 34) rfl)) (by decide) e_76 E_61 (rm_setm l Z a0 hw a_5 (1 : Int32) T_61.heap h0.size g_5 E_61 (-1 : Int32) ((vs ||| ((0 : Int64) &&& (-9223372036854775808 : Int64))) &&& (9223372036854775807 : Int64)) _ (if_neg (by decide)) FP61 FU61) pd_setm rfl 0 (by decide) (by decide) (by decide) (by decide) (pc := 96) (Ls := #[.val (.long q1), .second, .val (.int q2), .val (.int q3), .val (.ref a_1), .val (.ref a_5), .val (.int (0 : Int32)), .val (.int (1 : Int32)), .val (.long vs), .second, .val (.int (1 : Int32)), .unset, .unset]) (rest := []) (st := [(.int (1 : Int32)), (.ref a_5)]) (by rw [hml]; rfl) rfl (Nat.le_of_eq rfl) (hb hby at_96)
      refine st_96 ?_
      have N_96 := Fr.app N_61 N96
      have Z_96 : h0.size ≤ T_96.heap.size := Nat.le_trans Z_61 K96.1
      have E_96 := E_61.keep K96
      show Go p e below _ (T_96.setTop (mkF m 99 #[.val (.long q1), .second, .val (.int q2), .val (.int q3), .val (.ref a_1), .val (.ref a_5), .val (.int (0 : Int32)), .val (.int (1 : Int32)), .val (.long vs), .second, .val (.int (1 : Int32)), .unset, .unset] []))
      have hu96 := own_ua hu61
      refine g_aload X_96 hx 101 (.ref a_5) (hb hby at_99) rfl rfl rfl ?_
      obtain ⟨T_101, X_101, e_101, st_101⟩ := g_callVP X_96 hx hZ (own := "com/example/marble_cache/marblecache/store/EntrySetMarkPinLaw") (C := "com/example/marble_cache/marblecache/store/Entry") (index := 24) (y := (⟨"com/example/marble_cache/marblecache/store/Entry", "mark", "()Z"⟩ : MethodName)) (z := (⟨"com/example/marble_cache/marblecache/store/Entry", "mark", "()Z"⟩ : MethodName)) (a := a_5) (as' := []) (w := (some (.int (1 : Int32)))) hown (hw _ (List.mem_of_getElem? (i := 36) rfl)) (hw _ (List.mem_of_getElem? (i := 37) rfl)) (hw _ (List.mem_of_getElem? (i := 39) rfl)) (hw _ (List.mem_of_getElem? (i := 39) rfl)) (hw _ (List.mem_of_getElem? (i := 38) rfl)) (hw _ (List.mem_of_getElem? (i := 3) rfl)) (hw _ (List.mem_of_getElem? (i := 40) rfl)) (by decide) rfl E_96 (rm_mark l Z a0 hw a_5 T_96.heap (((vs ||| ((0 : Int64) &&& (-9223372036854775808 : Int64))) &&& (9223372036854775807 : Int64)) ||| (-9223372036854775808 : Int64)) (1 : Int32) (b2i_t (own_neg _)) FU96) pd_mark rfl 0 (by decide) (by decide) (by decide) (by decide) rfl rfl (pc := 101) (pc' := 104) (Ls := #[.val (.long q1), .second, .val (.int q2), .val (.int q3), .val (.ref a_1), .val (.ref a_5), .val (.int (0 : Int32)), .val (.int (1 : Int32)), .val (.long vs), .second, .val (.int (1 : Int32)), .unset, .unset]) (rest := []) (st := [(.ref a_5)]) (by rw [hml]; rfl) rfl (Nat.le_of_eq rfl) (hb hby at_101) rfl
      refine st_101 ?_
      show Go p e below _ (T_101.setTop (mkF m 104 #[.val (.long q1), .second, .val (.int q2), .val (.int q3), .val (.ref a_1), .val (.ref a_5), .val (.int (0 : Int32)), .val (.int (1 : Int32)), .val (.long vs), .second, .val (.int (1 : Int32)), .unset, .unset] [(.int (1 : Int32))]))
      refine g_iload X_101 hx 106 (1 : Int32) (hb hby at_104) rfl rfl ?_
      refine g_icmpN X_101 hx 109 (hb hby at_106) (XT.ii_ne_f (by decide)) rfl ?_
      refine g_aload X_101 hx 111 (.ref a_5) (hb hby at_109) rfl rfl rfl ?_
      obtain ⟨T_111, X_111, e_111, st_111⟩ := g_callVP X_101 hx hZ (own := "com/example/marble_cache/marblecache/store/EntrySetMarkPinLaw") (C := "com/example/marble_cache/marblecache/store/Entry") (index := 28) (y := (⟨"com/example/marble_cache/marblecache/store/Entry", "use", "()J"⟩ : MethodName)) (z := (⟨"com/example/marble_cache/marblecache/store/Entry", "use", "()J"⟩ : MethodName)) (a := a_5) (as' := []) (w := (some (.long ((((vs ||| ((0 : Int64) &&& (-9223372036854775808 : Int64))) &&& (9223372036854775807 : Int64)) ||| (-9223372036854775808 : Int64)) &&& (9223372036854775807 : Int64))))) hown (hw _ (List.mem_of_getElem? (i := 41) rfl)) (hw _ (List.mem_of_getElem? (i := 42) rfl)) (hw _ (List.mem_of_getElem? (i := 44) rfl)) (hw _ (List.mem_of_getElem? (i := 44) rfl)) (hw _ (List.mem_of_getElem? (i := 43) rfl)) (hw _ (List.mem_of_getElem? (i := 3) rfl)) (hw _ (List.mem_of_getElem? (i := 45) rfl)) (by decide) e_101 E_96 (rm_use l Z a0 hw a_5 T_96.heap (((vs ||| ((0 : Int64) &&& (-9223372036854775808 : Int64))) &&& (9223372036854775807 : Int64)) ||| (-9223372036854775808 : Int64)) FU96) pd_use rfl 0 (by decide) (by decide) (by decide) (by decide) rfl rfl (pc := 111) (pc' := 114) (Ls := #[.val (.long q1), .second, .val (.int q2), .val (.int q3), .val (.ref a_1), .val (.ref a_5), .val (.int (0 : Int32)), .val (.int (1 : Int32)), .val (.long vs), .second, .val (.int (1 : Int32)), .unset, .unset]) (rest := []) (st := [(.ref a_5)]) (by rw [hml]; rfl) rfl (Nat.le_of_eq rfl) (hb hby at_111) rfl
      refine st_111 ?_
      show Go p e below _ (T_111.setTop (mkF m 114 #[.val (.long q1), .second, .val (.int q2), .val (.int q3), .val (.ref a_1), .val (.ref a_5), .val (.int (0 : Int32)), .val (.int (1 : Int32)), .val (.long vs), .second, .val (.int (1 : Int32)), .unset, .unset] [(.long ((((vs ||| ((0 : Int64) &&& (-9223372036854775808 : Int64))) &&& (9223372036854775807 : Int64)) ||| (-9223372036854775808 : Int64)) &&& (9223372036854775807 : Int64)))]))
      refine g_lload X_111 hx 116 vs (hb hby at_114) rfl rfl ?_
      refine g_lcmp X_111 hx 117 (hb hby at_116) rfl ?_
      refine g_ifN X_111 hx 120 (hb hby at_117) (XT.ll_ne_f hu96) rfl ?_
      refine g_iconst X_111 hx 121 (1 : Int32) (hb hby at_120) rfl rfl ?_
      refine g_goto X_111 hx 125 (hb hby at_121) (by decide) (by decide) ?_
      refine g_istore X_111 hx 127 #[.val (.long q1), .second, .val (.int q2), .val (.int q3), .val (.ref a_1), .val (.ref a_5), .val (.int (0 : Int32)), .val (.int (1 : Int32)), .val (.long vs), .second, .val (.int (1 : Int32)), .val (.int (1 : Int32)), .unset] (hb hby at_125) rfl rfl ?_
      refine g_aload X_111 hx 129 (.ref a_5) (hb hby at_127) rfl rfl rfl ?_
      obtain ⟨T_129, X_129, e_129, st_129⟩ := g_callVP X_111 hx hZ (own := "com/example/marble_cache/marblecache/store/EntrySetMarkPinLaw") (C := "com/example/marble_cache/marblecache/store/Entry") (index := 32) (y := (⟨"com/example/marble_cache/marblecache/store/Entry", "place", "()I"⟩ : MethodName)) (z := (⟨"com/example/marble_cache/marblecache/store/Entry", "place", "()I"⟩ : MethodName)) (a := a_5) (as' := []) (w := (some (.int (-1 : Int32)))) hown (hw _ (List.mem_of_getElem? (i := 46) rfl)) (hw _ (List.mem_of_getElem? (i := 47) rfl)) (hw _ (List.mem_of_getElem? (i := 49) rfl)) (hw _ (List.mem_of_getElem? (i := 49) rfl)) (hw _ (List.mem_of_getElem? (i := 48) rfl)) (hw _ (List.mem_of_getElem? (i := 3) rfl)) (hw _ (List.mem_of_getElem? (i := 50) rfl)) (by decide) e_111 E_96 (rm_place l Z a0 hw a_5 T_96.heap (-1 : Int32) FP96) pd_place rfl 0 (by decide) (by decide) (by decide) (by decide) rfl rfl (pc := 129) (pc' := 132) (Ls := #[.val (.long q1), .second, .val (.int q2), .val (.int q3), .val (.ref a_1), .val (.ref a_5), .val (.int (0 : Int32)), .val (.int (1 : Int32)), .val (.long vs), .second, .val (.int (1 : Int32)), .val (.int (1 : Int32)), .unset]) (rest := []) (st := [(.ref a_5)]) (by rw [hml]; rfl) rfl (Nat.le_of_eq rfl) (hb hby at_129) rfl
      refine st_129 ?_
      show Go p e below _ (T_129.setTop (mkF m 132 #[.val (.long q1), .second, .val (.int q2), .val (.int q3), .val (.ref a_1), .val (.ref a_5), .val (.int (0 : Int32)), .val (.int (1 : Int32)), .val (.long vs), .second, .val (.int (1 : Int32)), .val (.int (1 : Int32)), .unset] [(.int (-1 : Int32))]))
      refine g_iconst X_129 hx 133 (-1 : Int32) (hb hby at_132) rfl rfl ?_
      refine g_icmpN X_129 hx 136 (hb hby at_133) (XT.ii_ne_f (by decide)) rfl ?_
      refine g_iconst X_129 hx 137 (1 : Int32) (hb hby at_136) rfl rfl ?_
      refine g_goto X_129 hx 141 (hb hby at_137) (by decide) (by decide) ?_
      refine g_istore X_129 hx 143 #[.val (.long q1), .second, .val (.int q2), .val (.int q3), .val (.ref a_1), .val (.ref a_5), .val (.int (0 : Int32)), .val (.int (1 : Int32)), .val (.long vs), .second, .val (.int (1 : Int32)), .val (.int (1 : Int32)), .val (.int (1 : Int32))] (hb hby at_141) rfl rfl ?_
      refine g_iload X_129 hx 145 (1 : Int32) (hb hby at_143) rfl rfl ?_
      refine g_ifN X_129 hx 148 (hb hby at_145) (XT.i0_eq_f (by decide)) rfl ?_
      refine g_iload X_129 hx 150 (1 : Int32) (hb hby at_148) rfl rfl ?_
      refine g_ifN X_129 hx 153 (hb hby at_150) (XT.i0_eq_f (by decide)) rfl ?_
      refine g_iload X_129 hx 155 (1 : Int32) (hb hby at_153) rfl rfl ?_
      refine g_ifN X_129 hx 158 (hb hby at_155) (XT.i0_eq_f (by decide)) rfl ?_
      refine g_iconst X_129 hx 159 (1 : Int32) (hb hby at_158) rfl rfl ?_
      refine g_goto X_129 hx 163 (hb hby at_159) (by decide) (by decide) ?_
      exact Go.ret X_129 hx hlk Bd.returns (hb hby at_163) rfl (Or.inl ⟨rfl, by decide, _, rfl⟩) (by decide) (by decide) ⟨rfl, N_96⟩
  ·
    refine g_ifN X_12 hx 23 (hb hby at_20) (XT.i0_eq_f c20) rfl ?_
    refine g_iconst X_12 hx 24 (1 : Int32) (hb hby at_23) rfl rfl ?_
    refine g_goto X_12 hx 28 (hb hby at_24) (by decide) (by decide) ?_
    refine g_istore X_12 hx 30 #[.val (.long q1), .second, .val (.int q2), .val (.int q3), .val (.ref a_1), .val (.ref a_5), .val (.int (1 : Int32)), .unset, .unset, .unset, .unset, .unset, .unset] (hb hby at_28) rfl rfl ?_
    refine g_iload_n X_12 hx 31 q2 (hb hby at_30) rfl rfl ?_
    refine g_iconst X_12 hx 32 (2 : Int32) (hb hby at_31) rfl rfl ?_
    refine g_iand X_12 hx 33 (hb hby at_32) rfl ?_
    by_cases c33 : (q2 &&& (2 : Int32)) = (0 : Int32)
    ·
      refine g_ifY X_12 hx 40 (hb hby at_33) (XT.i0_eq_t c33) (by decide) (by decide) ?_
      refine g_iconst X_12 hx 41 (0 : Int32) (hb hby at_40) rfl rfl ?_
      refine g_istore X_12 hx 43 #[.val (.long q1), .second, .val (.int q2), .val (.int q3), .val (.ref a_1), .val (.ref a_5), .val (.int (1 : Int32)), .val (.int (0 : Int32)), .unset, .unset, .unset, .unset, .unset] (hb hby at_41) rfl rfl ?_
      refine g_lload_n X_12 hx 44 q1 (hb hby at_43) rfl rfl ?_
      refine g_ldc2_w X_12 hx 47 (hb hby at_44) hown (mvT hZ (hw _ (List.mem_of_getElem? (i := 21) rfl))) rfl ?_
      refine g_land X_12 hx 48 (hb hby at_47) rfl ?_
      refine g_lstore X_12 hx 50 #[.val (.long q1), .second, .val (.int q2), .val (.int q3), .val (.ref a_1), .val (.ref a_5), .val (.int (1 : Int32)), .val (.int (0 : Int32)), .val (.long (q1 &&& (9223372036854775807 : Int64))), .second, .unset, .unset, .unset] (hb hby at_48) rfl rfl ?_
      generalize hvs : (q1 &&& (9223372036854775807 : Int64)) = vs
      refine g_aload X_12 hx 52 (.ref a_5) (hb hby at_50) rfl rfl rfl ?_
      refine g_lload X_12 hx 54 vs (hb hby at_52) rfl rfl ?_
      obtain ⟨_, T_54, L_54, X_54, ⟨rfl, N54, K54, FP54, FU54⟩, st_54⟩ := g_callV X_12 hx hZ (own := "com/example/marble_cache/marblecache/store/EntrySetMarkPinLaw") (C := "com/example/marble_cache/marblecache/store/Entry") (index := 16) (y := (⟨"com/example/marble_cache/marblecache/store/Entry", "setUse", "(J)V"⟩ : MethodName)) (z := (⟨"com/example/marble_cache/marblecache/store/Entry", "setUse", "(J)V"⟩ : MethodName)) (a := a_5) (as' := [(.long vs)]) hown (hw _ (List.mem_of_getElem? (i := 22) rfl)) (hw _ (List.mem_of_getElem? (i := 23) rfl)) (hw _ (List.mem_of_getElem? (i := 25) rfl)) (hw _ (List.mem_of_getElem? (i := 25) rfl)) (hw _ (List.mem_of_getElem? (i := 24) rfl)) (hw _ (List.mem_of_getElem? (i := 3) rfl)) (hw _ (List.mem_of_getElem? (i := 26) rfl)) (by decide) rfl E_12 (rm_setu l Z a0 hw a_5 vs T_12.heap h0.size g_5 E_12 (-1 : Int32) (0 : Int64) FP12 FU12) pd_setu rfl 0 (by decide) (by decide) (by decide) (by decide) (pc := 54) (Ls := #[.val (.long q1), .second, .val (.int q2), .val (.int q3), .val (.ref a_1), .val (.ref a_5), .val (.int (1 : Int32)), .val (.int (0 : Int32)), .val (.long vs), .second, .unset, .unset, .unset]) (rest := []) (st := [(.long vs), (.ref a_5)]) (by rw [hml]; rfl) rfl (Nat.le_of_eq rfl) (hb hby at_54)
      refine st_54 ?_
      have N_54 := Fr.app N_12 N54
      have Z_54 : h0.size ≤ T_54.heap.size := Nat.le_trans Z_12 K54.1
      have E_54 := E_12.keep K54
      show Go p e below _ (T_54.setTop (mkF m 57 #[.val (.long q1), .second, .val (.int q2), .val (.int q3), .val (.ref a_1), .val (.ref a_5), .val (.int (1 : Int32)), .val (.int (0 : Int32)), .val (.long vs), .second, .unset, .unset, .unset] []))
      have hu54 := own_u1 hvs
      refine g_aload X_54 hx 59 (.ref a_5) (hb hby at_57) rfl rfl rfl ?_
      refine g_iload X_54 hx 61 (1 : Int32) (hb hby at_59) rfl rfl ?_
      obtain ⟨_, T_61, L_61, X_61, ⟨rfl, N61, K61, FP61, FU61⟩, st_61⟩ := g_callV X_54 hx hZ (own := "com/example/marble_cache/marblecache/store/EntrySetMarkPinLaw") (C := "com/example/marble_cache/marblecache/store/Entry") (index := 20) (y := (⟨"com/example/marble_cache/marblecache/store/Entry", "setMark", "(Z)V"⟩ : MethodName)) (z := (⟨"com/example/marble_cache/marblecache/store/Entry", "setMark", "(Z)V"⟩ : MethodName)) (a := a_5) (as' := [(.int (1 : Int32))]) hown (hw _ (List.mem_of_getElem? (i := 30) rfl)) (hw _ (List.mem_of_getElem? (i := 31) rfl)) (hw _ (List.mem_of_getElem? (i := 33) rfl)) (hw _ (List.mem_of_getElem? (i := 33) rfl)) (hw _ (List.mem_of_getElem? (i := 32) rfl)) (hw _ (List.mem_of_getElem? (i := 3) rfl)) (hw _ (List.mem_of_getElem? (i := 34) rfl)) (by decide) rfl E_54 (rm_setm l Z a0 hw a_5 (1 : Int32) T_54.heap h0.size g_5 E_54 (-1 : Int32) (vs ||| ((0 : Int64) &&& (-9223372036854775808 : Int64))) _ (if_neg (by decide)) FP54 FU54) pd_setm rfl 0 (by decide) (by decide) (by decide) (by decide) (pc := 61) (Ls := #[.val (.long q1), .second, .val (.int q2), .val (.int q3), .val (.ref a_1), .val (.ref a_5), .val (.int (1 : Int32)), .val (.int (0 : Int32)), .val (.long vs), .second, .unset, .unset, .unset]) (rest := []) (st := [(.int (1 : Int32)), (.ref a_5)]) (by rw [hml]; rfl) rfl (Nat.le_of_eq rfl) (hb hby at_61)
      refine st_61 ?_
      have N_61 := Fr.app N_54 N61
      have Z_61 : h0.size ≤ T_61.heap.size := Nat.le_trans Z_54 K61.1
      have E_61 := E_54.keep K61
      show Go p e below _ (T_61.setTop (mkF m 64 #[.val (.long q1), .second, .val (.int q2), .val (.int q3), .val (.ref a_1), .val (.ref a_5), .val (.int (1 : Int32)), .val (.int (0 : Int32)), .val (.long vs), .second, .unset, .unset, .unset] []))
      have hu61 := own_ua hu54
      refine g_aload X_61 hx 66 (.ref a_5) (hb hby at_64) rfl rfl rfl ?_
      obtain ⟨T_66, X_66, e_66, st_66⟩ := g_callVP X_61 hx hZ (own := "com/example/marble_cache/marblecache/store/EntrySetMarkPinLaw") (C := "com/example/marble_cache/marblecache/store/Entry") (index := 24) (y := (⟨"com/example/marble_cache/marblecache/store/Entry", "mark", "()Z"⟩ : MethodName)) (z := (⟨"com/example/marble_cache/marblecache/store/Entry", "mark", "()Z"⟩ : MethodName)) (a := a_5) (as' := []) (w := (some (.int (1 : Int32)))) hown (hw _ (List.mem_of_getElem? (i := 36) rfl)) (hw _ (List.mem_of_getElem? (i := 37) rfl)) (hw _ (List.mem_of_getElem? (i := 39) rfl)) (hw _ (List.mem_of_getElem? (i := 39) rfl)) (hw _ (List.mem_of_getElem? (i := 38) rfl)) (hw _ (List.mem_of_getElem? (i := 3) rfl)) (hw _ (List.mem_of_getElem? (i := 40) rfl)) (by decide) rfl E_61 (rm_mark l Z a0 hw a_5 T_61.heap ((vs ||| ((0 : Int64) &&& (-9223372036854775808 : Int64))) ||| (-9223372036854775808 : Int64)) (1 : Int32) (b2i_t (own_neg _)) FU61) pd_mark rfl 0 (by decide) (by decide) (by decide) (by decide) rfl rfl (pc := 66) (pc' := 69) (Ls := #[.val (.long q1), .second, .val (.int q2), .val (.int q3), .val (.ref a_1), .val (.ref a_5), .val (.int (1 : Int32)), .val (.int (0 : Int32)), .val (.long vs), .second, .unset, .unset, .unset]) (rest := []) (st := [(.ref a_5)]) (by rw [hml]; rfl) rfl (Nat.le_of_eq rfl) (hb hby at_66) rfl
      refine st_66 ?_
      show Go p e below _ (T_66.setTop (mkF m 69 #[.val (.long q1), .second, .val (.int q2), .val (.int q3), .val (.ref a_1), .val (.ref a_5), .val (.int (1 : Int32)), .val (.int (0 : Int32)), .val (.long vs), .second, .unset, .unset, .unset] [(.int (1 : Int32))]))
      refine g_iload X_66 hx 71 (1 : Int32) (hb hby at_69) rfl rfl ?_
      refine g_icmpN X_66 hx 74 (hb hby at_71) (XT.ii_ne_f (by decide)) rfl ?_
      refine g_aload X_66 hx 76 (.ref a_5) (hb hby at_74) rfl rfl rfl ?_
      obtain ⟨T_76, X_76, e_76, st_76⟩ := g_callVP X_66 hx hZ (own := "com/example/marble_cache/marblecache/store/EntrySetMarkPinLaw") (C := "com/example/marble_cache/marblecache/store/Entry") (index := 28) (y := (⟨"com/example/marble_cache/marblecache/store/Entry", "use", "()J"⟩ : MethodName)) (z := (⟨"com/example/marble_cache/marblecache/store/Entry", "use", "()J"⟩ : MethodName)) (a := a_5) (as' := []) (w := (some (.long (((vs ||| ((0 : Int64) &&& (-9223372036854775808 : Int64))) ||| (-9223372036854775808 : Int64)) &&& (9223372036854775807 : Int64))))) hown (hw _ (List.mem_of_getElem? (i := 41) rfl)) (hw _ (List.mem_of_getElem? (i := 42) rfl)) (hw _ (List.mem_of_getElem? (i := 44) rfl)) (hw _ (List.mem_of_getElem? (i := 44) rfl)) (hw _ (List.mem_of_getElem? (i := 43) rfl)) (hw _ (List.mem_of_getElem? (i := 3) rfl)) (hw _ (List.mem_of_getElem? (i := 45) rfl)) (by decide) e_66 E_61 (rm_use l Z a0 hw a_5 T_61.heap ((vs ||| ((0 : Int64) &&& (-9223372036854775808 : Int64))) ||| (-9223372036854775808 : Int64)) FU61) pd_use rfl 0 (by decide) (by decide) (by decide) (by decide) rfl rfl (pc := 76) (pc' := 79) (Ls := #[.val (.long q1), .second, .val (.int q2), .val (.int q3), .val (.ref a_1), .val (.ref a_5), .val (.int (1 : Int32)), .val (.int (0 : Int32)), .val (.long vs), .second, .unset, .unset, .unset]) (rest := []) (st := [(.ref a_5)]) (by rw [hml]; rfl) rfl (Nat.le_of_eq rfl) (hb hby at_76) rfl
      refine st_76 ?_
      show Go p e below _ (T_76.setTop (mkF m 79 #[.val (.long q1), .second, .val (.int q2), .val (.int q3), .val (.ref a_1), .val (.ref a_5), .val (.int (1 : Int32)), .val (.int (0 : Int32)), .val (.long vs), .second, .unset, .unset, .unset] [(.long (((vs ||| ((0 : Int64) &&& (-9223372036854775808 : Int64))) ||| (-9223372036854775808 : Int64)) &&& (9223372036854775807 : Int64)))]))
      refine g_lload X_76 hx 81 vs (hb hby at_79) rfl rfl ?_
      refine g_lcmp X_76 hx 82 (hb hby at_81) rfl ?_
      refine g_ifN X_76 hx 85 (hb hby at_82) (XT.ll_ne_f hu61) rfl ?_
      refine g_iconst X_76 hx 86 (1 : Int32) (hb hby at_85) rfl rfl ?_
      refine g_goto X_76 hx 90 (hb hby at_86) (by decide) (by decide) ?_
      refine g_istore X_76 hx 92 #[.val (.long q1), .second, .val (.int q2), .val (.int q3), .val (.ref a_1), .val (.ref a_5), .val (.int (1 : Int32)), .val (.int (0 : Int32)), .val (.long vs), .second, .val (.int (1 : Int32)), .unset, .unset] (hb hby at_90) rfl rfl ?_
      refine g_aload X_76 hx 94 (.ref a_5) (hb hby at_92) rfl rfl rfl ?_
      refine g_iload X_76 hx 96 (0 : Int32) (hb hby at_94) rfl rfl ?_
      obtain ⟨_, T_96, L_96, X_96, ⟨rfl, N96, K96, FP96, FU96⟩, st_96⟩ := g_callV X_76 hx hZ (own := "com/example/marble_cache/marblecache/store/EntrySetMarkPinLaw") (C := "com/example/marble_cache/marblecache/store/Entry") (index := 20) (y := (⟨"com/example/marble_cache/marblecache/store/Entry", "setMark", "(Z)V"⟩ : MethodName)) (z := (⟨"com/example/marble_cache/marblecache/store/Entry", "setMark", "(Z)V"⟩ : MethodName)) (a := a_5) (as' := [(.int (0 : Int32))]) hown (hw _ (List.mem_of_getElem? (i := 30) rfl)) (hw _ (List.mem_of_getElem? (i := 31) rfl)) (hw _ (List.mem_of_getElem? (i := 33) rfl)) (hw _ (List.mem_of_getElem? (i := 33) rfl)) (hw _ (List.mem_of_getElem? (i := 32) rfl)) (hw _ (List.mem_of_getElem? (i := 3) rfl)) (hw _ (List.mem_of_getElem? (i := 34) rfl)) (by decide) e_76 E_61 (rm_setm l Z a0 hw a_5 (0 : Int32) T_61.heap h0.size g_5 E_61 (-1 : Int32) ((vs ||| ((0 : Int64) &&& (-9223372036854775808 : Int64))) ||| (-9223372036854775808 : Int64)) _ (if_pos (by decide)) FP61 FU61) pd_setm rfl 0 (by decide) (by decide) (by decide) (by decide) (pc := 96) (Ls := #[.val (.long q1), .second, .val (.int q2), .val (.int q3), .val (.ref a_1), .val (.ref a_5), .val (.int (1 : Int32)), .val (.int (0 : Int32)), .val (.long vs), .second, .val (.int (1 : Int32)), .unset, .unset]) (rest := []) (st := [(.int (0 : Int32)), (.ref a_5)]) (by rw [hml]; rfl) rfl (Nat.le_of_eq rfl) (hb hby at_96)
      refine st_96 ?_
      have N_96 := Fr.app N_61 N96
      have Z_96 : h0.size ≤ T_96.heap.size := Nat.le_trans Z_61 K96.1
      have E_96 := E_61.keep K96
      show Go p e below _ (T_96.setTop (mkF m 99 #[.val (.long q1), .second, .val (.int q2), .val (.int q3), .val (.ref a_1), .val (.ref a_5), .val (.int (1 : Int32)), .val (.int (0 : Int32)), .val (.long vs), .second, .val (.int (1 : Int32)), .unset, .unset] []))
      have hu96 := own_ub hu61
      refine g_aload X_96 hx 101 (.ref a_5) (hb hby at_99) rfl rfl rfl ?_
      obtain ⟨T_101, X_101, e_101, st_101⟩ := g_callVP X_96 hx hZ (own := "com/example/marble_cache/marblecache/store/EntrySetMarkPinLaw") (C := "com/example/marble_cache/marblecache/store/Entry") (index := 24) (y := (⟨"com/example/marble_cache/marblecache/store/Entry", "mark", "()Z"⟩ : MethodName)) (z := (⟨"com/example/marble_cache/marblecache/store/Entry", "mark", "()Z"⟩ : MethodName)) (a := a_5) (as' := []) (w := (some (.int (0 : Int32)))) hown (hw _ (List.mem_of_getElem? (i := 36) rfl)) (hw _ (List.mem_of_getElem? (i := 37) rfl)) (hw _ (List.mem_of_getElem? (i := 39) rfl)) (hw _ (List.mem_of_getElem? (i := 39) rfl)) (hw _ (List.mem_of_getElem? (i := 38) rfl)) (hw _ (List.mem_of_getElem? (i := 3) rfl)) (hw _ (List.mem_of_getElem? (i := 40) rfl)) (by decide) rfl E_96 (rm_mark l Z a0 hw a_5 T_96.heap (((vs ||| ((0 : Int64) &&& (-9223372036854775808 : Int64))) ||| (-9223372036854775808 : Int64)) &&& (9223372036854775807 : Int64)) (0 : Int32) (b2i_f (own_nonneg _)) FU96) pd_mark rfl 0 (by decide) (by decide) (by decide) (by decide) rfl rfl (pc := 101) (pc' := 104) (Ls := #[.val (.long q1), .second, .val (.int q2), .val (.int q3), .val (.ref a_1), .val (.ref a_5), .val (.int (1 : Int32)), .val (.int (0 : Int32)), .val (.long vs), .second, .val (.int (1 : Int32)), .unset, .unset]) (rest := []) (st := [(.ref a_5)]) (by rw [hml]; rfl) rfl (Nat.le_of_eq rfl) (hb hby at_101) rfl
      refine st_101 ?_
      show Go p e below _ (T_101.setTop (mkF m 104 #[.val (.long q1), .second, .val (.int q2), .val (.int q3), .val (.ref a_1), .val (.ref a_5), .val (.int (1 : Int32)), .val (.int (0 : Int32)), .val (.long vs), .second, .val (.int (1 : Int32)), .unset, .unset] [(.int (0 : Int32))]))
      refine g_iload X_101 hx 106 (0 : Int32) (hb hby at_104) rfl rfl ?_
      refine g_icmpN X_101 hx 109 (hb hby at_106) (XT.ii_ne_f (by decide)) rfl ?_
      refine g_aload X_101 hx 111 (.ref a_5) (hb hby at_109) rfl rfl rfl ?_
      obtain ⟨T_111, X_111, e_111, st_111⟩ := g_callVP X_101 hx hZ (own := "com/example/marble_cache/marblecache/store/EntrySetMarkPinLaw") (C := "com/example/marble_cache/marblecache/store/Entry") (index := 28) (y := (⟨"com/example/marble_cache/marblecache/store/Entry", "use", "()J"⟩ : MethodName)) (z := (⟨"com/example/marble_cache/marblecache/store/Entry", "use", "()J"⟩ : MethodName)) (a := a_5) (as' := []) (w := (some (.long ((((vs ||| ((0 : Int64) &&& (-9223372036854775808 : Int64))) ||| (-9223372036854775808 : Int64)) &&& (9223372036854775807 : Int64)) &&& (9223372036854775807 : Int64))))) hown (hw _ (List.mem_of_getElem? (i := 41) rfl)) (hw _ (List.mem_of_getElem? (i := 42) rfl)) (hw _ (List.mem_of_getElem? (i := 44) rfl)) (hw _ (List.mem_of_getElem? (i := 44) rfl)) (hw _ (List.mem_of_getElem? (i := 43) rfl)) (hw _ (List.mem_of_getElem? (i := 3) rfl)) (hw _ (List.mem_of_getElem? (i := 45) rfl)) (by decide) e_101 E_96 (rm_use l Z a0 hw a_5 T_96.heap (((vs ||| ((0 : Int64) &&& (-9223372036854775808 : Int64))) ||| (-9223372036854775808 : Int64)) &&& (9223372036854775807 : Int64)) FU96) pd_use rfl 0 (by decide) (by decide) (by decide) (by decide) rfl rfl (pc := 111) (pc' := 114) (Ls := #[.val (.long q1), .second, .val (.int q2), .val (.int q3), .val (.ref a_1), .val (.ref a_5), .val (.int (1 : Int32)), .val (.int (0 : Int32)), .val (.long vs), .second, .val (.int (1 : Int32)), .unset, .unset]) (rest := []) (st := [(.ref a_5)]) (by rw [hml]; rfl) rfl (Nat.le_of_eq rfl) (hb hby at_111) rfl
      refine st_111 ?_
      show Go p e below _ (T_111.setTop (mkF m 114 #[.val (.long q1), .second, .val (.int q2), .val (.int q3), .val (.ref a_1), .val (.ref a_5), .val (.int (1 : Int32)), .val (.int (0 : Int32)), .val (.long vs), .second, .val (.int (1 : Int32)), .unset, .unset] [(.long ((((vs ||| ((0 : Int64) &&& (-9223372036854775808 : Int64))) ||| (-9223372036854775808 : Int64)) &&& (9223372036854775807 : Int64)) &&& (9223372036854775807 : Int64)))]))
      refine g_lload X_111 hx 116 vs (hb hby at_114) rfl rfl ?_
      refine g_lcmp X_111 hx 117 (hb hby at_116) rfl ?_
      refine g_ifN X_111 hx 120 (hb hby at_117) (XT.ll_ne_f hu96) rfl ?_
      refine g_iconst X_111 hx 121 (1 : Int32) (hb hby at_120) rfl rfl ?_
      refine g_goto X_111 hx 125 (hb hby at_121) (by decide) (by decide) ?_
      refine g_istore X_111 hx 127 #[.val (.long q1), .second, .val (.int q2), .val (.int q3), .val (.ref a_1), .val (.ref a_5), .val (.int (1 : Int32)), .val (.int (0 : Int32)), .val (.long vs), .second, .val (.int (1 : Int32)), .val (.int (1 : Int32)), .unset] (hb hby at_125) rfl rfl ?_
      refine g_aload X_111 hx 129 (.ref a_5) (hb hby at_127) rfl rfl rfl ?_
      obtain ⟨T_129, X_129, e_129, st_129⟩ := g_callVP X_111 hx hZ (own := "com/example/marble_cache/marblecache/store/EntrySetMarkPinLaw") (C := "com/example/marble_cache/marblecache/store/Entry") (index := 32) (y := (⟨"com/example/marble_cache/marblecache/store/Entry", "place", "()I"⟩ : MethodName)) (z := (⟨"com/example/marble_cache/marblecache/store/Entry", "place", "()I"⟩ : MethodName)) (a := a_5) (as' := []) (w := (some (.int (-1 : Int32)))) hown (hw _ (List.mem_of_getElem? (i := 46) rfl)) (hw _ (List.mem_of_getElem? (i := 47) rfl)) (hw _ (List.mem_of_getElem? (i := 49) rfl)) (hw _ (List.mem_of_getElem? (i := 49) rfl)) (hw _ (List.mem_of_getElem? (i := 48) rfl)) (hw _ (List.mem_of_getElem? (i := 3) rfl)) (hw _ (List.mem_of_getElem? (i := 50) rfl)) (by decide) e_111 E_96 (rm_place l Z a0 hw a_5 T_96.heap (-1 : Int32) FP96) pd_place rfl 0 (by decide) (by decide) (by decide) (by decide) rfl rfl (pc := 129) (pc' := 132) (Ls := #[.val (.long q1), .second, .val (.int q2), .val (.int q3), .val (.ref a_1), .val (.ref a_5), .val (.int (1 : Int32)), .val (.int (0 : Int32)), .val (.long vs), .second, .val (.int (1 : Int32)), .val (.int (1 : Int32)), .unset]) (rest := []) (st := [(.ref a_5)]) (by rw [hml]; rfl) rfl (Nat.le_of_eq rfl) (hb hby at_129) rfl
      refine st_129 ?_
      show Go p e below _ (T_129.setTop (mkF m 132 #[.val (.long q1), .second, .val (.int q2), .val (.int q3), .val (.ref a_1), .val (.ref a_5), .val (.int (1 : Int32)), .val (.int (0 : Int32)), .val (.long vs), .second, .val (.int (1 : Int32)), .val (.int (1 : Int32)), .unset] [(.int (-1 : Int32))]))
      refine g_iconst X_129 hx 133 (-1 : Int32) (hb hby at_132) rfl rfl ?_
      refine g_icmpN X_129 hx 136 (hb hby at_133) (XT.ii_ne_f (by decide)) rfl ?_
      refine g_iconst X_129 hx 137 (1 : Int32) (hb hby at_136) rfl rfl ?_
      refine g_goto X_129 hx 141 (hb hby at_137) (by decide) (by decide) ?_
      refine g_istore X_129 hx 143 #[.val (.long q1), .second, .val (.int q2), .val (.int q3), .val (.ref a_1), .val (.ref a_5), .val (.int (1 : Int32)), .val (.int (0 : Int32)), .val (.long vs), .second, .val (.int (1 : Int32)), .val (.int (1 : Int32)), .val (.int (1 : Int32))] (hb hby at_141) rfl rfl ?_
      refine g_iload X_129 hx 145 (1 : Int32) (hb hby at_143) rfl rfl ?_
      refine g_ifN X_129 hx 148 (hb hby at_145) (XT.i0_eq_f (by decide)) rfl ?_
      refine g_iload X_129 hx 150 (1 : Int32) (hb hby at_148) rfl rfl ?_
      refine g_ifN X_129 hx 153 (hb hby at_150) (XT.i0_eq_f (by decide)) rfl ?_
      refine g_iload X_129 hx 155 (1 : Int32) (hb hby at_153) rfl rfl ?_
      refine g_ifN X_129 hx 158 (hb hby at_155) (XT.i0_eq_f (by decide)) rfl ?_
      refine g_iconst X_129 hx 159 (1 : Int32) (hb hby at_158) rfl rfl ?_
      refine g_goto X_129 hx 163 (hb hby at_159) (by decide) (by decide) ?_
      exact Go.ret X_129 hx hlk Bd.returns (hb hby at_163) rfl (Or.inl ⟨rfl, by decide, _, rfl⟩) (by decide) (by decide) ⟨rfl, N_96⟩
    ·
      refine g_ifN X_12 hx 36 (hb hby at_33) (XT.i0_eq_f c33) rfl ?_
      refine g_iconst X_12 hx 37 (1 : Int32) (hb hby at_36) rfl rfl ?_
      refine g_goto X_12 hx 41 (hb hby at_37) (by decide) (by decide) ?_
      refine g_istore X_12 hx 43 #[.val (.long q1), .second, .val (.int q2), .val (.int q3), .val (.ref a_1), .val (.ref a_5), .val (.int (1 : Int32)), .val (.int (1 : Int32)), .unset, .unset, .unset, .unset, .unset] (hb hby at_41) rfl rfl ?_
      refine g_lload_n X_12 hx 44 q1 (hb hby at_43) rfl rfl ?_
      refine g_ldc2_w X_12 hx 47 (hb hby at_44) hown (mvT hZ (hw _ (List.mem_of_getElem? (i := 21) rfl))) rfl ?_
      refine g_land X_12 hx 48 (hb hby at_47) rfl ?_
      refine g_lstore X_12 hx 50 #[.val (.long q1), .second, .val (.int q2), .val (.int q3), .val (.ref a_1), .val (.ref a_5), .val (.int (1 : Int32)), .val (.int (1 : Int32)), .val (.long (q1 &&& (9223372036854775807 : Int64))), .second, .unset, .unset, .unset] (hb hby at_48) rfl rfl ?_
      generalize hvs : (q1 &&& (9223372036854775807 : Int64)) = vs
      refine g_aload X_12 hx 52 (.ref a_5) (hb hby at_50) rfl rfl rfl ?_
      refine g_lload X_12 hx 54 vs (hb hby at_52) rfl rfl ?_
      obtain ⟨_, T_54, L_54, X_54, ⟨rfl, N54, K54, FP54, FU54⟩, st_54⟩ := g_callV X_12 hx hZ (own := "com/example/marble_cache/marblecache/store/EntrySetMarkPinLaw") (C := "com/example/marble_cache/marblecache/store/Entry") (index := 16) (y := (⟨"com/example/marble_cache/marblecache/store/Entry", "setUse", "(J)V"⟩ : MethodName)) (z := (⟨"com/example/marble_cache/marblecache/store/Entry", "setUse", "(J)V"⟩ : MethodName)) (a := a_5) (as' := [(.long vs)]) hown (hw _ (List.mem_of_getElem? (i := 22) rfl)) (hw _ (List.mem_of_getElem? (i := 23) rfl)) (hw _ (List.mem_of_getElem? (i := 25) rfl)) (hw _ (List.mem_of_getElem? (i := 25) rfl)) (hw _ (List.mem_of_getElem? (i := 24) rfl)) (hw _ (List.mem_of_getElem? (i := 3) rfl)) (hw _ (List.mem_of_getElem? (i := 26) rfl)) (by decide) rfl E_12 (rm_setu l Z a0 hw a_5 vs T_12.heap h0.size g_5 E_12 (-1 : Int32) (0 : Int64) FP12 FU12) pd_setu rfl 0 (by decide) (by decide) (by decide) (by decide) (pc := 54) (Ls := #[.val (.long q1), .second, .val (.int q2), .val (.int q3), .val (.ref a_1), .val (.ref a_5), .val (.int (1 : Int32)), .val (.int (1 : Int32)), .val (.long vs), .second, .unset, .unset, .unset]) (rest := []) (st := [(.long vs), (.ref a_5)]) (by rw [hml]; rfl) rfl (Nat.le_of_eq rfl) (hb hby at_54)
      refine st_54 ?_
      have N_54 := Fr.app N_12 N54
      have Z_54 : h0.size ≤ T_54.heap.size := Nat.le_trans Z_12 K54.1
      have E_54 := E_12.keep K54
      show Go p e below _ (T_54.setTop (mkF m 57 #[.val (.long q1), .second, .val (.int q2), .val (.int q3), .val (.ref a_1), .val (.ref a_5), .val (.int (1 : Int32)), .val (.int (1 : Int32)), .val (.long vs), .second, .unset, .unset, .unset] []))
      have hu54 := own_u1 hvs
      refine g_aload X_54 hx 59 (.ref a_5) (hb hby at_57) rfl rfl rfl ?_
      refine g_iload X_54 hx 61 (1 : Int32) (hb hby at_59) rfl rfl ?_
      obtain ⟨_, T_61, L_61, X_61, ⟨rfl, N61, K61, FP61, FU61⟩, st_61⟩ := g_callV X_54 hx hZ (own := "com/example/marble_cache/marblecache/store/EntrySetMarkPinLaw") (C := "com/example/marble_cache/marblecache/store/Entry") (index := 20) (y := (⟨"com/example/marble_cache/marblecache/store/Entry", "setMark", "(Z)V"⟩ : MethodName)) (z := (⟨"com/example/marble_cache/marblecache/store/Entry", "setMark", "(Z)V"⟩ : MethodName)) (a := a_5) (as' := [(.int (1 : Int32))]) hown (hw _ (List.mem_of_getElem? (i := 30) rfl)) (hw _ (List.mem_of_getElem? (i := 31) rfl)) (hw _ (List.mem_of_getElem? (i := 33) rfl)) (hw _ (List.mem_of_getElem? (i := 33) rfl)) (hw _ (List.mem_of_getElem? (i := 32) rfl)) (hw _ (List.mem_of_getElem? (i := 3) rfl)) (hw _ (List.mem_of_getElem? (i := 34) rfl)) (by decide) rfl E_54 (rm_setm l Z a0 hw a_5 (1 : Int32) T_54.heap h0.size g_5 E_54 (-1 : Int32) (vs ||| ((0 : Int64) &&& (-9223372036854775808 : Int64))) _ (if_neg (by decide)) FP54 FU54) pd_setm rfl 0 (by decide) (by decide) (by decide) (by decide) (pc := 61) (Ls := #[.val (.long q1), .second, .val (.int q2), .val (.int q3), .val (.ref a_1), .val (.ref a_5), .val (.int (1 : Int32)), .val (.int (1 : Int32)), .val (.long vs), .second, .unset, .unset, .unset]) (rest := []) (st := [(.int (1 : Int32)), (.ref a_5)]) (by rw [hml]; rfl) rfl (Nat.le_of_eq rfl) (hb hby at_61)
      refine st_61 ?_
      have N_61 := Fr.app N_54 N61
      have Z_61 : h0.size ≤ T_61.heap.size := Nat.le_trans Z_54 K61.1
      have E_61 := E_54.keep K61
      show Go p e below _ (T_61.setTop (mkF m 64 #[.val (.long q1), .second, .val (.int q2), .val (.int q3), .val (.ref a_1), .val (.ref a_5), .val (.int (1 : Int32)), .val (.int (1 : Int32)), .val (.long vs), .second, .unset, .unset, .unset] []))
      have hu61 := own_ua hu54
      refine g_aload X_61 hx 66 (.ref a_5) (hb hby at_64) rfl rfl rfl ?_
      obtain ⟨T_66, X_66, e_66, st_66⟩ := g_callVP X_61 hx hZ (own := "com/example/marble_cache/marblecache/store/EntrySetMarkPinLaw") (C := "com/example/marble_cache/marblecache/store/Entry") (index := 24) (y := (⟨"com/example/marble_cache/marblecache/store/Entry", "mark", "()Z"⟩ : MethodName)) (z := (⟨"com/example/marble_cache/marblecache/store/Entry", "mark", "()Z"⟩ : MethodName)) (a := a_5) (as' := []) (w := (some (.int (1 : Int32)))) hown (hw _ (List.mem_of_getElem? (i := 36) rfl)) (hw _ (List.mem_of_getElem? (i := 37) rfl)) (hw _ (List.mem_of_getElem? (i := 39) rfl)) (hw _ (List.mem_of_getElem? (i := 39) rfl)) (hw _ (List.mem_of_getElem? (i := 38) rfl)) (hw _ (List.mem_of_getElem? (i := 3) rfl)) (hw _ (List.mem_of_getElem? (i := 40) rfl)) (by decide) rfl E_61 (rm_mark l Z a0 hw a_5 T_61.heap ((vs ||| ((0 : Int64) &&& (-9223372036854775808 : Int64))) ||| (-9223372036854775808 : Int64)) (1 : Int32) (b2i_t (own_neg _)) FU61) pd_mark rfl 0 (by decide) (by decide) (by decide) (by decide) rfl rfl (pc := 66) (pc' := 69) (Ls := #[.val (.long q1), .second, .val (.int q2), .val (.int q3), .val (.ref a_1), .val (.ref a_5), .val (.int (1 : Int32)), .val (.int (1 : Int32)), .val (.long vs), .second, .unset, .unset, .unset]) (rest := []) (st := [(.ref a_5)]) (by rw [hml]; rfl) rfl (Nat.le_of_eq rfl) (hb hby at_66) rfl
      refine st_66 ?_
      show Go p e below _ (T_66.setTop (mkF m 69 #[.val (.long q1), .second, .val (.int q2), .val (.int q3), .val (.ref a_1), .val (.ref a_5), .val (.int (1 : Int32)), .val (.int (1 : Int32)), .val (.long vs), .second, .unset, .unset, .unset] [(.int (1 : Int32))]))
      refine g_iload X_66 hx 71 (1 : Int32) (hb hby at_69) rfl rfl ?_
      refine g_icmpN X_66 hx 74 (hb hby at_71) (XT.ii_ne_f (by decide)) rfl ?_
      refine g_aload X_66 hx 76 (.ref a_5) (hb hby at_74) rfl rfl rfl ?_
      obtain ⟨T_76, X_76, e_76, st_76⟩ := g_callVP X_66 hx hZ (own := "com/example/marble_cache/marblecache/store/EntrySetMarkPinLaw") (C := "com/example/marble_cache/marblecache/store/Entry") (index := 28) (y := (⟨"com/example/marble_cache/marblecache/store/Entry", "use", "()J"⟩ : MethodName)) (z := (⟨"com/example/marble_cache/marblecache/store/Entry", "use", "()J"⟩ : MethodName)) (a := a_5) (as' := []) (w := (some (.long (((vs ||| ((0 : Int64) &&& (-9223372036854775808 : Int64))) ||| (-9223372036854775808 : Int64)) &&& (9223372036854775807 : Int64))))) hown (hw _ (List.mem_of_getElem? (i := 41) rfl)) (hw _ (List.mem_of_getElem? (i := 42) rfl)) (hw _ (List.mem_of_getElem? (i := 44) rfl)) (hw _ (List.mem_of_getElem? (i := 44) rfl)) (hw _ (List.mem_of_getElem? (i := 43) rfl)) (hw _ (List.mem_of_getElem? (i := 3) rfl)) (hw _ (List.mem_of_getElem? (i := 45) rfl)) (by decide) e_66 E_61 (rm_use l Z a0 hw a_5 T_61.heap ((vs ||| ((0 : Int64) &&& (-9223372036854775808 : Int64))) ||| (-9223372036854775808 : Int64)) FU61) pd_use rfl 0 (by decide) (by decide) (by decide) (by decide) rfl rfl (pc := 76) (pc' := 79) (Ls := #[.val (.long q1), .second, .val (.int q2), .val (.int q3), .val (.ref a_1), .val (.ref a_5), .val (.int (1 : Int32)), .val (.int (1 : Int32)), .val (.long vs), .second, .unset, .unset, .unset]) (rest := []) (st := [(.ref a_5)]) (by rw [hml]; rfl) rfl (Nat.le_of_eq rfl) (hb hby at_76) rfl
      refine st_76 ?_
      show Go p e below _ (T_76.setTop (mkF m 79 #[.val (.long q1), .second, .val (.int q2), .val (.int q3), .val (.ref a_1), .val (.ref a_5), .val (.int (1 : Int32)), .val (.int (1 : Int32)), .val (.long vs), .second, .unset, .unset, .unset] [(.long (((vs ||| ((0 : Int64) &&& (-9223372036854775808 : Int64))) ||| (-9223372036854775808 : Int64)) &&& (9223372036854775807 : Int64)))]))
      refine g_lload X_76 hx 81 vs (hb hby at_79) rfl rfl ?_
      refine g_lcmp X_76 hx 82 (hb hby at_81) rfl ?_
      refine g_ifN X_76 hx 85 (hb hby at_82) (XT.ll_ne_f hu61) rfl ?_
      refine g_iconst X_76 hx 86 (1 : Int32) (hb hby at_85) rfl rfl ?_
      refine g_goto X_76 hx 90 (hb hby at_86) (by decide) (by decide) ?_
      refine g_istore X_76 hx 92 #[.val (.long q1), .second, .val (.int q2), .val (.int q3), .val (.ref a_1), .val (.ref a_5), .val (.int (1 : Int32)), .val (.int (1 : Int32)), .val (.long vs), .second, .val (.int (1 : Int32)), .unset, .unset] (hb hby at_90) rfl rfl ?_
      refine g_aload X_76 hx 94 (.ref a_5) (hb hby at_92) rfl rfl rfl ?_
      refine g_iload X_76 hx 96 (1 : Int32) (hb hby at_94) rfl rfl ?_
      obtain ⟨_, T_96, L_96, X_96, ⟨rfl, N96, K96, FP96, FU96⟩, st_96⟩ := g_callV X_76 hx hZ (own := "com/example/marble_cache/marblecache/store/EntrySetMarkPinLaw") (C := "com/example/marble_cache/marblecache/store/Entry") (index := 20) (y := (⟨"com/example/marble_cache/marblecache/store/Entry", "setMark", "(Z)V"⟩ : MethodName)) (z := (⟨"com/example/marble_cache/marblecache/store/Entry", "setMark", "(Z)V"⟩ : MethodName)) (a := a_5) (as' := [(.int (1 : Int32))]) hown (hw _ (List.mem_of_getElem? (i := 30) rfl)) (hw _ (List.mem_of_getElem? (i := 31) rfl)) (hw _ (List.mem_of_getElem? (i := 33) rfl)) (hw _ (List.mem_of_getElem? (i := 33) rfl)) (hw _ (List.mem_of_getElem? (i := 32) rfl)) (hw _ (List.mem_of_getElem? (i := 3) rfl)) (hw _ (List.mem_of_getElem? (i := 34) rfl)) (by decide) e_76 E_61 (rm_setm l Z a0 hw a_5 (1 : Int32) T_61.heap h0.size g_5 E_61 (-1 : Int32) ((vs ||| ((0 : Int64) &&& (-9223372036854775808 : Int64))) ||| (-9223372036854775808 : Int64)) _ (if_neg (by decide)) FP61 FU61) pd_setm rfl 0 (by decide) (by decide) (by decide) (by decide) (pc := 96) (Ls := #[.val (.long q1), .second, .val (.int q2), .val (.int q3), .val (.ref a_1), .val (.ref a_5), .val (.int (1 : Int32)), .val (.int (1 : Int32)), .val (.long vs), .second, .val (.int (1 : Int32)), .unset, .unset]) (rest := []) (st := [(.int (1 : Int32)), (.ref a_5)]) (by rw [hml]; rfl) rfl (Nat.le_of_eq rfl) (hb hby at_96)
      refine st_96 ?_
      have N_96 := Fr.app N_61 N96
      have Z_96 : h0.size ≤ T_96.heap.size := Nat.le_trans Z_61 K96.1
      have E_96 := E_61.keep K96
      show Go p e below _ (T_96.setTop (mkF m 99 #[.val (.long q1), .second, .val (.int q2), .val (.int q3), .val (.ref a_1), .val (.ref a_5), .val (.int (1 : Int32)), .val (.int (1 : Int32)), .val (.long vs), .second, .val (.int (1 : Int32)), .unset, .unset] []))
      have hu96 := own_ua hu61
      refine g_aload X_96 hx 101 (.ref a_5) (hb hby at_99) rfl rfl rfl ?_
      obtain ⟨T_101, X_101, e_101, st_101⟩ := g_callVP X_96 hx hZ (own := "com/example/marble_cache/marblecache/store/EntrySetMarkPinLaw") (C := "com/example/marble_cache/marblecache/store/Entry") (index := 24) (y := (⟨"com/example/marble_cache/marblecache/store/Entry", "mark", "()Z"⟩ : MethodName)) (z := (⟨"com/example/marble_cache/marblecache/store/Entry", "mark", "()Z"⟩ : MethodName)) (a := a_5) (as' := []) (w := (some (.int (1 : Int32)))) hown (hw _ (List.mem_of_getElem? (i := 36) rfl)) (hw _ (List.mem_of_getElem? (i := 37) rfl)) (hw _ (List.mem_of_getElem? (i := 39) rfl)) (hw _ (List.mem_of_getElem? (i := 39) rfl)) (hw _ (List.mem_of_getElem? (i := 38) rfl)) (hw _ (List.mem_of_getElem? (i := 3) rfl)) (hw _ (List.mem_of_getElem? (i := 40) rfl)) (by decide) rfl E_96 (rm_mark l Z a0 hw a_5 T_96.heap (((vs ||| ((0 : Int64) &&& (-9223372036854775808 : Int64))) ||| (-9223372036854775808 : Int64)) ||| (-9223372036854775808 : Int64)) (1 : Int32) (b2i_t (own_neg _)) FU96) pd_mark rfl 0 (by decide) (by decide) (by decide) (by decide) rfl rfl (pc := 101) (pc' := 104) (Ls := #[.val (.long q1), .second, .val (.int q2), .val (.int q3), .val (.ref a_1), .val (.ref a_5), .val (.int (1 : Int32)), .val (.int (1 : Int32)), .val (.long vs), .second, .val (.int (1 : Int32)), .unset, .unset]) (rest := []) (st := [(.ref a_5)]) (by rw [hml]; rfl) rfl (Nat.le_of_eq rfl) (hb hby at_101) rfl
      refine st_101 ?_
      show Go p e below _ (T_101.setTop (mkF m 104 #[.val (.long q1), .second, .val (.int q2), .val (.int q3), .val (.ref a_1), .val (.ref a_5), .val (.int (1 : Int32)), .val (.int (1 : Int32)), .val (.long vs), .second, .val (.int (1 : Int32)), .unset, .unset] [(.int (1 : Int32))]))
      refine g_iload X_101 hx 106 (1 : Int32) (hb hby at_104) rfl rfl ?_
      refine g_icmpN X_101 hx 109 (hb hby at_106) (XT.ii_ne_f (by decide)) rfl ?_
      refine g_aload X_101 hx 111 (.ref a_5) (hb hby at_109) rfl rfl rfl ?_
      obtain ⟨T_111, X_111, e_111, st_111⟩ := g_callVP X_101 hx hZ (own := "com/example/marble_cache/marblecache/store/EntrySetMarkPinLaw") (C := "com/example/marble_cache/marblecache/store/Entry") (index := 28) (y := (⟨"com/example/marble_cache/marblecache/store/Entry", "use", "()J"⟩ : MethodName)) (z := (⟨"com/example/marble_cache/marblecache/store/Entry", "use", "()J"⟩ : MethodName)) (a := a_5) (as' := []) (w := (some (.long ((((vs ||| ((0 : Int64) &&& (-9223372036854775808 : Int64))) ||| (-9223372036854775808 : Int64)) ||| (-9223372036854775808 : Int64)) &&& (9223372036854775807 : Int64))))) hown (hw _ (List.mem_of_getElem? (i := 41) rfl)) (hw _ (List.mem_of_getElem? (i := 42) rfl)) (hw _ (List.mem_of_getElem? (i := 44) rfl)) (hw _ (List.mem_of_getElem? (i := 44) rfl)) (hw _ (List.mem_of_getElem? (i := 43) rfl)) (hw _ (List.mem_of_getElem? (i := 3) rfl)) (hw _ (List.mem_of_getElem? (i := 45) rfl)) (by decide) e_101 E_96 (rm_use l Z a0 hw a_5 T_96.heap (((vs ||| ((0 : Int64) &&& (-9223372036854775808 : Int64))) ||| (-9223372036854775808 : Int64)) ||| (-9223372036854775808 : Int64)) FU96) pd_use rfl 0 (by decide) (by decide) (by decide) (by decide) rfl rfl (pc := 111) (pc' := 114) (Ls := #[.val (.long q1), .second, .val (.int q2), .val (.int q3), .val (.ref a_1), .val (.ref a_5), .val (.int (1 : Int32)), .val (.int (1 : Int32)), .val (.long vs), .second, .val (.int (1 : Int32)), .unset, .unset]) (rest := []) (st := [(.ref a_5)]) (by rw [hml]; rfl) rfl (Nat.le_of_eq rfl) (hb hby at_111) rfl
      refine st_111 ?_
      show Go p e below _ (T_111.setTop (mkF m 114 #[.val (.long q1), .second, .val (.int q2), .val (.int q3), .val (.ref a_1), .val (.ref a_5), .val (.int (1 : Int32)), .val (.int (1 : Int32)), .val (.long vs), .second, .val (.int (1 : Int32)), .unset, .unset] [(.long ((((vs ||| ((0 : Int64) &&& (-9223372036854775808 : Int64))) ||| (-9223372036854775808 : Int64)) ||| (-9223372036854775808 : Int64)) &&& (9223372036854775807 : Int64)))]))
      refine g_lload X_111 hx 116 vs (hb hby at_114) rfl rfl ?_
      refine g_lcmp X_111 hx 117 (hb hby at_116) rfl ?_
      refine g_ifN X_111 hx 120 (hb hby at_117) (XT.ll_ne_f hu96) rfl ?_
      refine g_iconst X_111 hx 121 (1 : Int32) (hb hby at_120) rfl rfl ?_
      refine g_goto X_111 hx 125 (hb hby at_121) (by decide) (by decide) ?_
      refine g_istore X_111 hx 127 #[.val (.long q1), .second, .val (.int q2), .val (.int q3), .val (.ref a_1), .val (.ref a_5), .val (.int (1 : Int32)), .val (.int (1 : Int32)), .val (.long vs), .second, .val (.int (1 : Int32)), .val (.int (1 : Int32)), .unset] (hb hby at_125) rfl rfl ?_
      refine g_aload X_111 hx 129 (.ref a_5) (hb hby at_127) rfl rfl rfl ?_
      obtain ⟨T_129, X_129, e_129, st_129⟩ := g_callVP X_111 hx hZ (own := "com/example/marble_cache/marblecache/store/EntrySetMarkPinLaw") (C := "com/example/marble_cache/marblecache/store/Entry") (index := 32) (y := (⟨"com/example/marble_cache/marblecache/store/Entry", "place", "()I"⟩ : MethodName)) (z := (⟨"com/example/marble_cache/marblecache/store/Entry", "place", "()I"⟩ : MethodName)) (a := a_5) (as' := []) (w := (some (.int (-1 : Int32)))) hown (hw _ (List.mem_of_getElem? (i := 46) rfl)) (hw _ (List.mem_of_getElem? (i := 47) rfl)) (hw _ (List.mem_of_getElem? (i := 49) rfl)) (hw _ (List.mem_of_getElem? (i := 49) rfl)) (hw _ (List.mem_of_getElem? (i := 48) rfl)) (hw _ (List.mem_of_getElem? (i := 3) rfl)) (hw _ (List.mem_of_getElem? (i := 50) rfl)) (by decide) e_111 E_96 (rm_place l Z a0 hw a_5 T_96.heap (-1 : Int32) FP96) pd_place rfl 0 (by decide) (by decide) (by decide) (by decide) rfl rfl (pc := 129) (pc' := 132) (Ls := #[.val (.long q1), .second, .val (.int q2), .val (.int q3), .val (.ref a_1), .val (.ref a_5), .val (.int (1 : Int32)), .val (.int (1 : Int32)), .val (.long vs), .second, .val (.int (1 : Int32)), .val (.int (1 : Int32)), .unset]) (rest := []) (st := [(.ref a_5)]) (by rw [hml]; rfl) rfl (Nat.le_of_eq rfl) (hb hby at_129) rfl
      refine st_129 ?_
      show Go p e below _ (T_129.setTop (mkF m 132 #[.val (.long q1), .second, .val (.int q2), .val (.int q3), .val (.ref a_1), .val (.ref a_5), .val (.int (1 : Int32)), .val (.int (1 : Int32)), .val (.long vs), .second, .val (.int (1 : Int32)), .val (.int (1 : Int32)), .unset] [(.int (-1 : Int32))]))
      refine g_iconst X_129 hx 133 (-1 : Int32) (hb hby at_132) rfl rfl ?_
      refine g_icmpN X_129 hx 136 (hb hby at_133) (XT.ii_ne_f (by decide)) rfl ?_
      refine g_iconst X_129 hx 137 (1 : Int32) (hb hby at_136) rfl rfl ?_
      refine g_goto X_129 hx 141 (hb hby at_137) (by decide) (by decide) ?_
      refine g_istore X_129 hx 143 #[.val (.long q1), .second, .val (.int q2), .val (.int q3), .val (.ref a_1), .val (.ref a_5), .val (.int (1 : Int32)), .val (.int (1 : Int32)), .val (.long vs), .second, .val (.int (1 : Int32)), .val (.int (1 : Int32)), .val (.int (1 : Int32))] (hb hby at_141) rfl rfl ?_
      refine g_iload X_129 hx 145 (1 : Int32) (hb hby at_143) rfl rfl ?_
      refine g_ifN X_129 hx 148 (hb hby at_145) (XT.i0_eq_f (by decide)) rfl ?_
      refine g_iload X_129 hx 150 (1 : Int32) (hb hby at_148) rfl rfl ?_
      refine g_ifN X_129 hx 153 (hb hby at_150) (XT.i0_eq_f (by decide)) rfl ?_
      refine g_iload X_129 hx 155 (1 : Int32) (hb hby at_153) rfl rfl ?_
      refine g_ifN X_129 hx 158 (hb hby at_155) (XT.i0_eq_f (by decide)) rfl ?_
      refine g_iconst X_129 hx 159 (1 : Int32) (hb hby at_158) rfl rfl ?_
      refine g_goto X_129 hx 163 (hb hby at_159) (by decide) (by decide) ?_
      exact Go.ret X_129 hx hlk Bd.returns (hb hby at_163) rfl (Or.inl ⟨rfl, by decide, _, rfl⟩) (by decide) (by decide) ⟨rfl, N_96⟩
set_option maxRecDepth 65536 in
set_option maxHeartbeats 40000000 in
theorem comes_1 {Post : Tables → Env → Array Value → State → Outcome → State → Prop} (hpost : ∀ tb e args s v u, (limb_1_1.after args s (.returned v) u = true ∧ limb_1_2.after args s (.returned v) u = true ∧ True) → FrameEnd s (.returned v) u (Jvm.fieldLocs frame_1_writes args s ++ Jvm.arrayLocs frame_1_arrays args s ++ Jvm.staticLocs frame_1_statics s) 16 128 → Post tb e args s (.returned v) u) :
    ArmFor flags0 classFile x code maxLocals ret World_1 tables_1 room_1 Calls_1 rest_1 Pre_1 Post := by
  intro l hfl _ _ p e ha hc hk s m args below hf hA hF happ hP
  obtain ⟨hcalls, hrest, hpre⟩ := hP
  obtain ⟨-, -, -, hnamed, -, -, -, hat⟩ := (Spec.applies_iff hf).mp happ
  obtain ⟨hg, hn⟩ := and_e (Cond.before_iff.mp (show (Jvm.Cond.and given_1 narrow_1).before args s = true from hpre))
  obtain ⟨h1, g_0⟩ := and_e hg
  obtain ⟨k0, g_1⟩ := and_e g_0
  obtain ⟨k1, g_2⟩ := and_e g_1
  obtain ⟨w0, w1, w2, rfl⟩ : ∃ w0 w1 w2 : Value, args = #[w0, w1, w2] := by
    have hs : args.size = 3 := by simpa [Cond.value, given_1] using h1
    obtain ⟨L⟩ := args
    match L, hs with
    | [w0, w1, w2], _ => exact ⟨w0, w1, w2, rfl⟩
  have hw := fun d (hd : d ∈ tables_1) => atoms_spec (ws := Jvm.Cond.code x code maxLocals ret :: tables_1) hat d (List.mem_cons_of_mem _ hd)
  obtain ⟨i0, e_0⟩ := isL_v k0
  obtain rfl : w0 = (.long i0) := Option.some.inj e_0
  obtain ⟨i1, e_1⟩ := is_v k1
  obtain rfl : w1 = (.int i1) := Option.some.inj e_1
  obtain ⟨i2, e_2⟩ := is_v g_2
  obtain rfl : w2 = (.int i2) := Option.some.inj e_2
  obtain ⟨n, o, h1, h2, h3, _, L, rfl, ⟨rfl, N⟩, hq⟩ := rm_law l s _ hw tables_1 i0 i1 i2 s.heap  p e ha hc hk s m _ below hf ((Spec.applies_iff_loose hf).mp happ).1 ⟨rfl, State.Warmed39.refl s, rfl⟩ trivial
  refine ⟨n, _, h1, h2, h3, hpost _ _ _ _ _ _ ⟨Cond.after_iff.mpr rfl, Cond.after_iff.mpr (eq_i res_at (Term.int_eval (1)) rfl), trivial⟩ ⟨hq.1, hq.2.1, (hq.2.2.sift fun y hy => Or.inr (N y hy)).mono (by decide) (by decide)⟩⟩
theorem main_1_1 : Claimed_1_1 := comes_1 fun _ _ _ _ _ _ h hF => ⟨h.1, hF⟩
theorem main_1_2 : Claimed_1_2 := comes_1 fun _ _ _ _ _ _ h hF => ⟨h.2.1, hF⟩
end Jvm.Pilot.@@N@@
namespace Jvm.Pilot.@@N@@
open Jvm Jvm.ClassFile Sem Op Lib Jvm.Free Jvm.Stand Jvm.Pilot.@@N@@.Jvm.D
/-! MADE BY PROGRAM (witnessworld.py) out of the Statement's table words and the real class files: 10 classes; the members and pool entries that the words name. The judged class is class 1, her method 1. -/
namespace start1
open Jvm.ClassFile
def u (s : String) : CpInfo := .utf8 (stringToUtf16 s)
/-- a pool by its gaps: so many unusable entries, then the entry; so many at the end -/
def gap : Nat → List CpInfo → List CpInfo
  | 0, r => r
  | n + 1, r => .unusable :: gap n r
def poolList (es : List (Nat × CpInfo)) (last : Nat) : List CpInfo := es.foldr (fun e r => gap e.1 (e.2 :: r)) (gap last [])
def pool (es : List (Nat × CpInfo)) (last : Nat) : Array CpInfo := ⟨poolList es last⟩
def fileOf (pool : Array CpInfo) (this : Nat) (attrs : Array Attribute := #[]) (ms : Array MethodInfo := #[]) (fl : Nat := 33) (sup : Nat := 0) (ifs : Array Nat := #[]) (fds : Array FieldInfo := #[]) : ClassFile where
  minorVersion := 0
  majorVersion := 65
  constantPool := pool
  accessFlags := fl
  thisClass := this
  superClass := sup
  interfaces := ifs
  fields := fds
  methods := ms
  attributes := attrs
def plain (name : String) (sup : Option ClassId) : Class where
  name := name
  kind := .ordinary
  loader := none
  accessFlags := 33
  super := sup
  interfaces := #[]
  cf := none
  fields := #[]
  methods := #[]
  instanceTypes := #[]
  staticTypes := #[]
  resolved := #[]
  callSites := []
  init := .initialized
  statics := none
  mirror := none

def pool0 : Array CpInfo := pool [(5, u "<init>"), (0, u "()V"), (1, .class_ 10), (1, u "java/lang/Object")] 113

def k0c0 : Code := { maxStack := 0, maxLocals := 1, code := object_method_1_code, exceptionTable := #[], attributes := #[] }
def k0m0 : Method := { name := "<init>", desc := "()V", sig := { parameters := [], returnType := none }, accessFlags := 1, code := some k0c0 }
/-- java/lang/Object -/
def k0 : Class := { plain "java/lang/Object" none with
  accessFlags := 33
  interfaces := #[]
  cf := some (fileOf pool0 8 #[] #[{ accessFlags := 1, nameIndex := 5, descriptorIndex := 6, attributes := #[] }] 33 0 #[] #[])
  fields := #[]
  methods := #[k0m0]
  instanceTypes := #[]
  staticTypes := #[]
  resolved := Array.replicate 124 none
  statics := none }

def pool1 : Array CpInfo := pool [(2, .class_ 4), (1, u "java/lang/Object"), (0, u "<init>"), (0, u "()V"), (0, .class_ 8), (0, u "com/example/marble_cache/marblecache/store/Entry"), (0, .methodref 7 10), (0, .nameAndType 5 11), (0, u "([BI)V"), (2, .long 9223372036854775807), (1, .methodref 7 17), (0, .nameAndType 18 19), (0, u "setUse"), (0, u "(J)V"), (0, .methodref 7 21), (0, .nameAndType 22 23), (0, u "setMark"), (0, u "(Z)V"), (0, .methodref 7 25), (0, .nameAndType 26 27), (0, u "mark"), (0, u "()Z"), (0, .methodref 7 29), (0, .nameAndType 30 31), (0, u "use"), (0, u "()J"), (0, .methodref 7 33), (0, .nameAndType 34 35), (0, u "place"), (0, u "()I"), (0, .class_ 37), (0, u "com/example/marble_cache/marblecache/store/EntrySetMarkPinLaw"), (2, u "law"), (0, u "(JII)Z")] 5

def k1m0 : Method := { name := "<init>", desc := "()V", sig := { parameters := [], returnType := none }, accessFlags := 1, code := none }
def k1c1 : Code := { maxStack := 4, maxLocals := 13, code := code, exceptionTable := #[], attributes := #[] }
def k1m1 : Method := { name := "law", desc := "(JII)Z", sig := { parameters := [.long, .int, .int], returnType := some .boolean }, accessFlags := 9, code := some k1c1 }
/-- com/example/marble_cache/marblecache/store/EntrySetMarkPinLaw -/
def k1 : Class := { plain "com/example/marble_cache/marblecache/store/EntrySetMarkPinLaw" (some 0) with
  accessFlags := 49
  interfaces := #[]
  cf := some (fileOf pool1 36 #[] #[{ accessFlags := 1, nameIndex := 5, descriptorIndex := 6, attributes := #[] }, { accessFlags := 9, nameIndex := 40, descriptorIndex := 41, attributes := #[] }] 49 2 #[] #[])
  fields := #[]
  methods := #[k1m0, k1m1]
  instanceTypes := #[]
  staticTypes := #[]
  resolved := Array.replicate 47 none
  statics := none }

def pool2 : Array CpInfo := pool [(1, .methodref 2 3), (0, .class_ 4), (0, .nameAndType 5 6), (0, u "java/lang/Object"), (0, u "<init>"), (0, u "()V"), (0, .fieldref 8 9), (0, .class_ 10), (0, .nameAndType 11 12), (0, u "com/example/marble_cache/marblecache/store/KeyTable$Node"), (0, u "key"), (0, u "[B"), (0, .fieldref 8 14), (0, .nameAndType 15 16), (0, u "hash"), (0, u "I"), (2, u "next"), (0, u "Lcom/example/marble_cache/marblecache/store/KeyTable$Node;"), (2, u "([BI)V"), (13, .class_ 38), (0, u "com/example/marble_cache/marblecache/store/KeyTable")] 2

def k2c0 : Code := { maxStack := 2, maxLocals := 3, code := prog_86_method_1_code, exceptionTable := #[], attributes := #[] }
def k2m0 : Method := { name := "<init>", desc := "([BI)V", sig := { parameters := [(.array .byte), .int], returnType := none }, accessFlags := 0, code := some k2c0 }
/-- com/example/marble_cache/marblecache/store/KeyTable$Node -/
def k2 : Class := { plain "com/example/marble_cache/marblecache/store/KeyTable$Node" (some 0) with
  accessFlags := 1056
  interfaces := #[]
  cf := some (fileOf pool2 8 #[.nestHost 37] #[{ accessFlags := 0, nameIndex := 5, descriptorIndex := 23, attributes := #[] }] 1056 2 #[] #[{ accessFlags := 18, nameIndex := 11, descriptorIndex := 12, attributes := #[] }, { accessFlags := 18, nameIndex := 15, descriptorIndex := 16, attributes := #[] }, { accessFlags := 2, nameIndex := 19, descriptorIndex := 20, attributes := #[] }])
  fields := #[{ name := "key", type := (.array .byte), accessFlags := 18, slot := 0, constantValue := 0 }, { name := "hash", type := .int, accessFlags := 18, slot := 1, constantValue := 0 }, { name := "next", type := (.object "com/example/marble_cache/marblecache/store/KeyTable$Node"), accessFlags := 2, slot := 2, constantValue := 0 }]
  methods := #[k2m0]
  instanceTypes := #[(.array .byte), .int, (.object "com/example/marble_cache/marblecache/store/KeyTable$Node")]
  staticTypes := #[]
  resolved := Array.replicate 41 none
  statics := none }

def pool3 : Array CpInfo := pool [(1, .methodref 2 3), (0, .class_ 4), (0, .nameAndType 5 6), (0, u "com/example/marble_cache/marblecache/store/KeyTable$Node"), (0, u "<init>"), (0, u "([BI)V"), (0, .class_ 8), (0, u "com/example/marble_cache/marblecache/store/Entry"), (0, .fieldref 7 10), (0, .nameAndType 11 12), (0, u "place"), (0, u "I"), (2, u "value"), (0, u "Ljava/lang/Object;"), (0, .fieldref 7 18), (0, .nameAndType 19 20), (0, u "use"), (0, u "J"), (2, .long 9223372036854775807), (1, .long 9223372036854775808), (13, u "MEMORY"), (0, u "NO_PLACE"), (7, u "()I"), (2, u "()J"), (0, u "setUse"), (0, u "(J)V"), (0, u "mark"), (0, u "()Z"), (1, u "setMark"), (0, u "(Z)V")] 10

def k3c0 : Code := { maxStack := 3, maxLocals := 3, code := prog_73_method_1_code, exceptionTable := #[], attributes := #[] }
def k3m0 : Method := { name := "<init>", desc := "([BI)V", sig := { parameters := [(.array .byte), .int], returnType := none }, accessFlags := 0, code := some k3c0 }
def k3c1 : Code := { maxStack := 1, maxLocals := 1, code := prog_73_method_4_code, exceptionTable := #[], attributes := #[] }
def k3m1 : Method := { name := "place", desc := "()I", sig := { parameters := [], returnType := some .int }, accessFlags := 0, code := some k3c1 }
def k3c2 : Code := { maxStack := 4, maxLocals := 1, code := prog_73_method_6_code, exceptionTable := #[], attributes := #[] }
def k3m2 : Method := { name := "use", desc := "()J", sig := { parameters := [], returnType := some .long }, accessFlags := 0, code := some k3c2 }
def k3c3 : Code := { maxStack := 7, maxLocals := 3, code := prog_73_method_7_code, exceptionTable := #[], attributes := #[] }
def k3m3 : Method := { name := "setUse", desc := "(J)V", sig := { parameters := [.long], returnType := none }, accessFlags := 0, code := some k3c3 }
def k3c4 : Code := { maxStack := 4, maxLocals := 1, code := prog_73_method_8_code, exceptionTable := #[], attributes := #[] }
def k3m4 : Method := { name := "mark", desc := "()Z", sig := { parameters := [], returnType := some .boolean }, accessFlags := 0, code := some k3c4 }
def k3c5 : Code := { maxStack := 5, maxLocals := 2, code := prog_73_method_9_code, exceptionTable := #[], attributes := #[] }
def k3m5 : Method := { name := "setMark", desc := "(Z)V", sig := { parameters := [.boolean], returnType := none }, accessFlags := 0, code := some k3c5 }
/-- com/example/marble_cache/marblecache/store/Entry -/
def k3 : Class := { plain "com/example/marble_cache/marblecache/store/Entry" (some 2) with
  accessFlags := 48
  interfaces := #[]
  cf := some (fileOf pool3 7 #[] #[{ accessFlags := 0, nameIndex := 5, descriptorIndex := 6, attributes := #[] }, { accessFlags := 0, nameIndex := 11, descriptorIndex := 48, attributes := #[] }, { accessFlags := 0, nameIndex := 19, descriptorIndex := 51, attributes := #[] }, { accessFlags := 0, nameIndex := 52, descriptorIndex := 53, attributes := #[] }, { accessFlags := 0, nameIndex := 54, descriptorIndex := 55, attributes := #[] }, { accessFlags := 0, nameIndex := 57, descriptorIndex := 58, attributes := #[] }] 48 2 #[] #[{ accessFlags := 24, nameIndex := 39, descriptorIndex := 20, attributes := #[] }, { accessFlags := 24, nameIndex := 40, descriptorIndex := 12, attributes := #[] }, { accessFlags := 2, nameIndex := 15, descriptorIndex := 16, attributes := #[] }, { accessFlags := 2, nameIndex := 11, descriptorIndex := 12, attributes := #[] }, { accessFlags := 2, nameIndex := 19, descriptorIndex := 20, attributes := #[] }])
  fields := #[{ name := "MEMORY", type := .long, accessFlags := 24, slot := 0, constantValue := 0 }, { name := "NO_PLACE", type := .int, accessFlags := 24, slot := 1, constantValue := 0 }, { name := "value", type := (.object "java/lang/Object"), accessFlags := 2, slot := 3, constantValue := 0 }, { name := "place", type := .int, accessFlags := 2, slot := 4, constantValue := 0 }, { name := "use", type := .long, accessFlags := 2, slot := 5, constantValue := 0 }]
  methods := #[k3m0, k3m1, k3m2, k3m3, k3m4, k3m5]
  instanceTypes := #[(.array .byte), .int, (.object "com/example/marble_cache/marblecache/store/KeyTable$Node"), (.object "java/lang/Object"), .int, .long]
  staticTypes := #[.long, .int]
  resolved := Array.replicate 69 none
  statics := none }

def pool4 : Array CpInfo := pool [(1, u "java/lang/Cloneable"), (0, .class_ 1), (0, u "java/lang/Object"), (0, .class_ 3)] 3

/-- java/lang/Cloneable -/
def k4 : Class := { plain "java/lang/Cloneable" (some 0) with
  accessFlags := 1537
  interfaces := #[]
  cf := some (fileOf pool4 2 #[] #[] 1537 4 #[] #[])
  fields := #[]
  methods := #[]
  instanceTypes := #[]
  staticTypes := #[]
  resolved := Array.replicate 8 none
  statics := none }

def pool5 : Array CpInfo := pool [(1, u "java/io/Serializable"), (0, .class_ 1), (0, u "java/lang/Object"), (0, .class_ 3)] 3

/-- java/io/Serializable -/
def k5 : Class := { plain "java/io/Serializable" (some 0) with
  accessFlags := 1537
  interfaces := #[]
  cf := some (fileOf pool5 2 #[] #[] 1537 4 #[] #[])
  fields := #[]
  methods := #[]
  instanceTypes := #[]
  staticTypes := #[]
  resolved := Array.replicate 8 none
  statics := none }

/-- the primitive byte -/
def k6 : Class := { plain "byte" none with kind := .primitive 'B', accessFlags := 0x411 }
/-- [B -/
def k7 : Class := { plain "[B" (some 0) with kind := .array 6 .byte, interfaces := #[4, 5], accessFlags := 1041 }

/-- the primitive int -/
def k8 : Class := { plain "int" none with kind := .primitive 'I', accessFlags := 0x411 }
/-- [I -/
def k9 : Class := { plain "[I" (some 0) with kind := .array 8 .int, interfaces := #[4, 5], accessFlags := 1041 }

def heap : Heap := #[]
def classes : Array Class := #[k0, k1, k2, k3, k4, k5, k6, k7, k8, k9]
def interned : List (Array UInt16 × Addr) := []
def slotsUsed : Nat := 0
def theMethod : MethodId := ⟨1, 1⟩
def args0 : Array Value := #[.long 5, .int 3, .int 1]
def aboutOver (below : List Frame) : State where
  vm := { classes := classes, interned := interned.toArray }
  heap := heap
  slotsUsed := slotsUsed
  threads := #[{ frames := .invoking theMethod args0 :: below }]
def below0 : List Frame := [.native { method := ⟨0, 0⟩, args := #[] }]
def about1 : State := aboutOver below0
def p0 : Program := .bare "" "" ""
def e0 : Env := launch0.env 0 0 0
theorem w_frames : about1.frames = Frame.invoking theMethod args0 :: below0 := rfl
set_option maxRecDepth 65536 in
theorem w_args : argsFit about1.vm theMethod args0 = true := by decide +kernel
set_option maxRecDepth 65536 in
theorem w_heap : heapFits about1 = true := by decide +kernel
set_option maxRecDepth 65536 in
theorem w_runnable : about1.curStatus? = some .runnable := by decide +kernel
set_option maxRecDepth 65536 in
theorem w_alone : about1.alone = true := by decide +kernel
set_option maxRecDepth 65536 in
theorem w_named : about1.methodNamed? x = some theMethod := by decide +kernel
set_option maxRecDepth 65536 in
theorem w_hears : about1.hears theMethod below0 = true := by decide +kernel
set_option maxRecDepth 65536 in
theorem w_ripe : about1.ripe theMethod args0 below0 = true := by decide +kernel
theorem w_running : about1.status = .running := rfl
set_option maxRecDepth 65536 in
theorem w_room : about1.hasRoom e0.platform room_1 = true :=
  launch0.hasRoom_least _ room_1 (by decide +kernel) (by decide +kernel) (by decide +kernel) (by decide +kernel) (by decide +kernel) (by decide +kernel)
theorem allAtoms_all (ts : List Jvm.Cond) (a : Array Jvm.Value) (st : Jvm.State) : (allAtoms ts).before a st = ts.all (fun c => c.before a st) := by
  induction ts with
  | nil => rfl
  | cons c t ih =>
    show (Jvm.Cond.and c (allAtoms t)).before a st = _
    rw [Jvm.Cond.before_and, ih, List.all_cons]
def words1 : List Jvm.Cond := Jvm.Cond.code x code maxLocals ret :: tables_1
/-- a 'code' word, met by the world's own term for the bytes: nothing is compared byte by byte -/
theorem code_word {y : MethodName} {bytes : ByteArray} {mx : Nat} {rt : Option FieldType} {a : Array Value} {s : State} {m : MethodId} {meth : Method} {c : Code} (h1 : s.methodNamed? y = some m) (h2 : s.vm.method? m = some meth) (h3 : meth.code = some c) (h4 : c.code = bytes)
    (h5 : (c.maxLocals == mx && c.exceptionTable.isEmpty && decide (c.maxStack ≤ mostOperands) && decide (meth.sig.returnType = rt) && !meth.locks && decide (parseMethodDescriptor y.desc = some meth.sig)) = true) : (Jvm.Cond.code y bytes mx rt).before a s = true := by
  simp only [Bool.and_eq_true, beq_iff_eq, Bool.not_eq_true', decide_eq_true_eq] at h5
  obtain ⟨⟨⟨⟨⟨g1, g2⟩, g3⟩, g4⟩, g5⟩, g6⟩ := h5
  simp [Cond.before, Cond.holds, Cond.value, h1, h2, h3, h4, g1, g2, g3, g4, g5, g6]
def isCode : Jvm.Cond → Bool
  | .code _ _ _ _ => true
  | _ => false
theorem all_split {L : List Jvm.Cond} {P : Jvm.Cond → Bool} (h1 : L.all (fun c => isCode c || P c) = true) (h2 : ∀ c ∈ L.filter isCode, P c = true) : L.all P = true := by
  refine List.all_eq_true.mpr fun c hc => ?_
  have h := List.all_eq_true.mp h1 c hc
  rcases Bool.eq_false_or_eq_true (isCode c) with hi | hi
  · exact h2 c (List.mem_filter.mpr ⟨hc, hi⟩)
  · simpa [hi] using h
set_option maxRecDepth 65536 in
theorem w_c0 : (Jvm.Cond.code x code maxLocals ret).before args0 about1 = true := code_word (m := ⟨1, 1⟩) (meth := k1m1) (c := k1c1) (by decide +kernel) rfl rfl rfl (by decide +kernel)
set_option maxRecDepth 65536 in
theorem w_c1 : (Jvm.Cond.code ({ cls := "com/example/marble_cache/marblecache/store/Entry", name := "<init>", desc := "([BI)V" } : Jvm.MethodName) prog_73_method_1_code (3 : Nat) (Option.none : Option Jvm.ClassFile.FieldType)).before args0 about1 = true := code_word (m := ⟨3, 0⟩) (meth := k3m0) (c := k3c0) (by decide +kernel) rfl rfl rfl (by decide +kernel)
set_option maxRecDepth 65536 in
theorem w_c2 : (Jvm.Cond.code ({ cls := "com/example/marble_cache/marblecache/store/KeyTable$Node", name := "<init>", desc := "([BI)V" } : Jvm.MethodName) prog_86_method_1_code (3 : Nat) (Option.none : Option Jvm.ClassFile.FieldType)).before args0 about1 = true := code_word (m := ⟨2, 0⟩) (meth := k2m0) (c := k2c0) (by decide +kernel) rfl rfl rfl (by decide +kernel)
set_option maxRecDepth 65536 in
theorem w_c3 : (Jvm.Cond.code ({ cls := "java/lang/Object", name := "<init>", desc := "()V" } : Jvm.MethodName) object_method_1_code (1 : Nat) (Option.none : Option Jvm.ClassFile.FieldType)).before args0 about1 = true := code_word (m := ⟨0, 0⟩) (meth := k0m0) (c := k0c0) (by decide +kernel) rfl rfl rfl (by decide +kernel)
set_option maxRecDepth 65536 in
theorem w_c4 : (Jvm.Cond.code ({ cls := "com/example/marble_cache/marblecache/store/Entry", name := "setUse", desc := "(J)V" } : Jvm.MethodName) prog_73_method_7_code (3 : Nat) (Option.none : Option Jvm.ClassFile.FieldType)).before args0 about1 = true := code_word (m := ⟨3, 3⟩) (meth := k3m3) (c := k3c3) (by decide +kernel) rfl rfl rfl (by decide +kernel)
set_option maxRecDepth 65536 in
theorem w_c5 : (Jvm.Cond.code ({ cls := "com/example/marble_cache/marblecache/store/Entry", name := "setMark", desc := "(Z)V" } : Jvm.MethodName) prog_73_method_9_code (2 : Nat) (Option.none : Option Jvm.ClassFile.FieldType)).before args0 about1 = true := code_word (m := ⟨3, 5⟩) (meth := k3m5) (c := k3c5) (by decide +kernel) rfl rfl rfl (by decide +kernel)
set_option maxRecDepth 65536 in
theorem w_c6 : (Jvm.Cond.code ({ cls := "com/example/marble_cache/marblecache/store/Entry", name := "mark", desc := "()Z" } : Jvm.MethodName) prog_73_method_8_code (1 : Nat) (Option.some Jvm.ClassFile.FieldType.boolean)).before args0 about1 = true := code_word (m := ⟨3, 4⟩) (meth := k3m4) (c := k3c4) (by decide +kernel) rfl rfl rfl (by decide +kernel)
set_option maxRecDepth 65536 in
theorem w_c7 : (Jvm.Cond.code ({ cls := "com/example/marble_cache/marblecache/store/Entry", name := "use", desc := "()J" } : Jvm.MethodName) prog_73_method_6_code (1 : Nat) (Option.some Jvm.ClassFile.FieldType.long)).before args0 about1 = true := code_word (m := ⟨3, 2⟩) (meth := k3m2) (c := k3c2) (by decide +kernel) rfl rfl rfl (by decide +kernel)
set_option maxRecDepth 65536 in
theorem w_c8 : (Jvm.Cond.code ({ cls := "com/example/marble_cache/marblecache/store/Entry", name := "place", desc := "()I" } : Jvm.MethodName) prog_73_method_4_code (1 : Nat) (Option.some Jvm.ClassFile.FieldType.int)).before args0 about1 = true := code_word (m := ⟨3, 1⟩) (meth := k3m1) (c := k3c1) (by decide +kernel) rfl rfl rfl (by decide +kernel)
def codes1 : List Jvm.Cond := [Jvm.Cond.code x code maxLocals ret, Jvm.Cond.code ({ cls := "com/example/marble_cache/marblecache/store/Entry", name := "<init>", desc := "([BI)V" } : Jvm.MethodName) prog_73_method_1_code (3 : Nat) (Option.none : Option Jvm.ClassFile.FieldType), Jvm.Cond.code ({ cls := "com/example/marble_cache/marblecache/store/KeyTable$Node", name := "<init>", desc := "([BI)V" } : Jvm.MethodName) prog_86_method_1_code (3 : Nat) (Option.none : Option Jvm.ClassFile.FieldType), Jvm.Cond.code ({ cls := "java/lang/Object", name := "<init>", desc := "()V" } : Jvm.MethodName) object_method_1_code (1 : Nat) (Option.none : Option Jvm.ClassFile.FieldType), Jvm.Cond.code ({ cls := "com/example/marble_cache/marblecache/store/Entry", name := "setUse", desc := "(J)V" } : Jvm.MethodName) prog_73_method_7_code (3 : Nat) (Option.none : Option Jvm.ClassFile.FieldType), Jvm.Cond.code ({ cls := "com/example/marble_cache/marblecache/store/Entry", name := "setMark", desc := "(Z)V" } : Jvm.MethodName) prog_73_method_9_code (2 : Nat) (Option.none : Option Jvm.ClassFile.FieldType), Jvm.Cond.code ({ cls := "com/example/marble_cache/marblecache/store/Entry", name := "mark", desc := "()Z" } : Jvm.MethodName) prog_73_method_8_code (1 : Nat) (Option.some Jvm.ClassFile.FieldType.boolean), Jvm.Cond.code ({ cls := "com/example/marble_cache/marblecache/store/Entry", name := "use", desc := "()J" } : Jvm.MethodName) prog_73_method_6_code (1 : Nat) (Option.some Jvm.ClassFile.FieldType.long), Jvm.Cond.code ({ cls := "com/example/marble_cache/marblecache/store/Entry", name := "place", desc := "()I" } : Jvm.MethodName) prog_73_method_4_code (1 : Nat) (Option.some Jvm.ClassFile.FieldType.int)]
set_option maxRecDepth 65536 in
theorem codes_eq : words1.filter isCode = codes1 := rfl
theorem w_codes : ∀ c ∈ words1.filter isCode, c.before args0 about1 = true := by
  rw [codes_eq]
  intro c hc
  simp only [codes1, List.mem_cons, List.not_mem_nil, or_false] at hc
  rcases hc with rfl | rfl | rfl | rfl | rfl | rfl | rfl | rfl | rfl
  · exact w_c0
  · exact w_c1
  · exact w_c2
  · exact w_c3
  · exact w_c4
  · exact w_c5
  · exact w_c6
  · exact w_c7
  · exact w_c8
set_option maxRecDepth 65536 in
theorem w_t1 : (words1.take 24).all (fun c => isCode c || c.before args0 about1) = true := by decide +kernel
set_option maxRecDepth 65536 in
theorem w_t2 : ((words1.drop 24).take 24).all (fun c => isCode c || c.before args0 about1) = true := by decide +kernel
set_option maxRecDepth 65536 in
theorem w_t3 : ((words1.drop 24).drop 24).all (fun c => isCode c || c.before args0 about1) = true := by decide +kernel
theorem w_tables : (allAtoms (Jvm.Cond.code x code maxLocals ret :: tables_1)).before args0 about1 = true := by
  rw [allAtoms_all]
  show words1.all (fun c => c.before args0 about1) = true
  refine all_split ?_ w_codes
  rw [← List.take_append_drop 24 words1, List.all_append, w_t1, ← List.take_append_drop 24 (words1.drop 24), List.all_append, w_t2, w_t3]
  rfl
set_option maxRecDepth 65536 in
theorem w_case : (Jvm.Cond.and given_1 narrow_1).before args0 about1 = true := by decide +kernel
theorem w_applies : (headSpec (Jvm.Cond.code x code maxLocals ret :: tables_1) room_1).applies x e0.platform about1 = true :=
  (Spec.applies_iff w_frames).mpr ⟨w_running, w_runnable, w_alone, w_named, w_hears, w_ripe, w_room, w_tables⟩
theorem atStart : AtStart classFile x code maxLocals ret World_1 tables_1 room_1 Calls_1 rest_1 Pre_1 launch0 p0 e0 about1 theMethod args0 below0 :=
  ⟨lists_1, trivial, launch0.admits_env _ _ _, launch0.least_env, fairChoices_fair.cas, fairChoices_fair.clock, w_frames, w_args, w_heap, w_applies, trivial, trivial, w_case⟩
end start1
theorem witness_1 : WitnessClaimed_1 := ⟨start1.p0, start1.e0, start1.about1, start1.theMethod, start1.args0, start1.below0, start1.atStart⟩
end Jvm.Pilot.@@N@@
