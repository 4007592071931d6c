import JvmDerived
import JvmDerived.Pilot.@@N@@Statement
import JvmDerived.Pilot.@@N@@Code
set_option linter.unusedVariables false
set_option linter.unusedSimpArgs false
@@BLOCK:NumsL.lean.txt@@
namespace Jvm.Pilot.@@N@@
open Jvm Jvm.ClassFile Sem Op Lib Jvm.Free Jvm.Stand Jvm.LawKit Jvm.RoadKit Bundle Jvm.Pilot.@@N@@.Jvm.D
section Own
variable {p : Program} {l : Launch} {e : Env} {R : Room} {s : State} {m : MethodId} {args : Array Value} {below : List Frame} {meth : Method} {c : Code} {T : State} {locs : List Loc} {cells slots : Nat} {Z : State} {a0 : Array Value} {h : Heap} {Q : Option Value → Heap → List Loc → Prop} {kc ks : Nat} {P : State → Outcome → Prop}
/-- from s₀ the run comes to an end at which P holds -/
def Go (p : Program) (e : Env) (below : List Frame) (P : State → Outcome → Prop) (s₀ : State) : Prop := ∃ s₂ o, Steps p.tables e below s₀ s₂ ∧ P s₂ o
/-- the method's end: Q holds of what it returns and leaves -/
def EndN (below : List Frame) (s : State) (Q : Option Value → Heap → List Loc → Prop) (kc ks : Nat) (s₂ : State) (o : Outcome) : Prop := s₂.status = .running ∧ Ended s₂ below o ∧ ∃ v L, o = .returned v ∧ Q v s₂.heap L ∧ FrameEnd s o s₂ L kc ks
theorem Go.of {P : State → Outcome → Prop} {s₀ s₁ : State} (G : Go p e below P s₁) (f : ∀ t, Steps p.tables e below s₁ t → Steps p.tables e below s₀ t) : Go p e below P s₀ := by
  obtain ⟨a, b, c1, d⟩ := G; exact ⟨a, b, f _ c1, d⟩
theorem Go.ret (X : Stand p l e R s m args below meth c T locs cells slots) (hx : p.tables.exec = Jvm.exec) (hlk : meth.locks = false) {pc : Nat} {Ls : Array Slot} {w : Value} {t : FieldType} {i : Instr} {rest : List Value} (hret : meth.sig.returnType = some t) (hd : decode c.code pc = .ok (i, 1)) (hn : narrow t w = w)
    (hi : (i = .ireturn ∧ (t = .int ∨ t = .boolean ∨ t = .byte ∨ t = .char ∨ t = .short) ∧ ∃ z, w = .int z) ∨ (i = .lreturn ∧ t = .long ∧ ∃ z, w = .long z) ∨ (i = .dreturn ∧ t = .double ∧ ∃ z, w = .double z) ∨ (i = .freturn ∧ t = .float ∧ ∃ z, w = .float z) ∨ (i = .areturn ∧ t.isReference = true ∧ w.isRef = true))
    (hc : cells ≤ kc) (hs : slots ≤ ks) (hQ : Q (some w) T.heap locs) : Go p e below (EndN below s Q kc ks) (T.setTop (mkF m pc Ls (w :: rest))) := by
  obtain ⟨fs, hr, hrun, hended, hW, hsame⟩ := X.leave (v := some w) (fun h => by rw [hret] at h; cases h) hlk
  exact ⟨_, _, retOut X hx hret hn hi hd hr, hrun, hended, _, _, rfl, hQ, ⟨_, rfl⟩, hW, hsame.mono hc hs⟩
theorem Go.retV (X : Stand p l e R s m args below meth c T locs cells slots) (hx : p.tables.exec = Jvm.exec) (hlk : meth.locks = false) {pc : Nat} {Ls : Array Slot} (hret : meth.sig.returnType = none) (hd : decode c.code pc = .ok (.return_, 1))
    (hc : cells ≤ kc) (hs : slots ≤ ks) (hQ : Q none T.heap locs) : Go p e below (EndN below s Q kc ks) (T.setTop (mkF m pc Ls [])) := by
  obtain ⟨fs, hr, hrun, hended, hW, hsame⟩ := X.leave (v := none) (fun _ => rfl) hlk
  exact ⟨_, _, X.returnOut hx hret hd hr, hrun, hended, _, _, rfl, hQ, ⟨_, rfl⟩, hW, hsame.mono hc hs⟩
theorem Go.retI (X : Stand p l e R s m args below meth c T locs cells slots) (hx : p.tables.exec = Jvm.exec) (hlk : meth.locks = false) {pc : Nat} {Ls : Array Slot} {z : Int32} {rest : List Value} (hret : meth.sig.returnType = some .int) (hd : decode c.code pc = .ok (.ireturn, 1))
    (hc : cells ≤ kc) (hs : slots ≤ ks) (hQ : Q (some (.int z)) T.heap locs) : Go p e below (EndN below s Q kc ks) (T.setTop (mkF m pc Ls (.int z :: rest))) :=
  Go.ret X hx hlk hret hd rfl (Or.inl ⟨rfl, Or.inl rfl, z, rfl⟩) hc hs hQ
theorem Go.retL (X : Stand p l e R s m args below meth c T locs cells slots) (hx : p.tables.exec = Jvm.exec) (hlk : meth.locks = false) {pc : Nat} {Ls : Array Slot} {z : Int64} {rest : List Value} (hret : meth.sig.returnType = some .long) (hd : decode c.code pc = .ok (.lreturn, 1))
    (hc : cells ≤ kc) (hs : slots ≤ ks) (hQ : Q (some (.long z)) T.heap locs) : Go p e below (EndN below s Q kc ks) (T.setTop (mkF m pc Ls (.long z :: rest))) :=
  Go.ret X hx hlk hret hd rfl (Or.inr (Or.inl ⟨rfl, rfl, z, rfl⟩)) hc hs hQ
theorem Go.retA (X : Stand p l e R s m args below meth c T locs cells slots) (hx : p.tables.exec = Jvm.exec) (hlk : meth.locks = false) {pc : Nat} {Ls : Array Slot} {w : Value} {t : FieldType} {rest : List Value} (hret : meth.sig.returnType = some t) (ht : t.isReference = true) (hw : w.isRef = true) (hd : decode c.code pc = .ok (.areturn, 1))
    (hc : cells ≤ kc) (hs : slots ≤ ks) (hQ : Q (some w) T.heap locs) : Go p e below (EndN below s Q kc ks) (T.setTop (mkF m pc Ls (w :: rest))) :=
  Go.ret X hx hlk hret hd (by cases t <;> first | (cases ht; done) | rfl) (Or.inr (Or.inr (Or.inr (Or.inr ⟨rfl, ht, hw⟩)))) hc hs hQ
theorem Go.retZ (X : Stand p l e R s m args below meth c T locs cells slots) (hx : p.tables.exec = Jvm.exec) (hlk : meth.locks = false) {pc : Nat} {Ls : Array Slot} {z : Int32} {t : FieldType} {rest : List Value} (hret : meth.sig.returnType = some t) (ht : t = .boolean ∨ t = .byte ∨ t = .char ∨ t = .short) (hd : decode c.code pc = .ok (.ireturn, 1))
    (hc : cells ≤ kc) (hs : slots ≤ ks) (hQ : Q (some (.int (nar t z))) T.heap locs) : Go p e below (EndN below s Q kc ks) (T.setTop (mkF m pc Ls (.int z :: rest))) := by
  obtain ⟨fs, hr, hrun, hended, hW, hsame⟩ := X.leave (v := some (.int (nar t z))) (fun h => by rw [hret] at h; cases h) hlk
  exact ⟨_, _, retN X hx hret ht hd hr, hrun, hended, _, _, rfl, hQ, ⟨_, rfl⟩, hW, hsame.mono hc hs⟩

theorem g_iconst (X : Stand p l e R s m args below meth c T locs cells slots) (hx : p.tables.exec = Jvm.exec) {pc : Nat} (pc' : Nat) {Ls : Array Slot} {st : List Value} {i : Int} (v : Int32) (hd : decode c.code pc = .ok (.iconst i, 1)) (hv : Int32.ofInt i = v) (hp : pc + 1 = pc') (G : Go p e below P (T.setTop (mkF m pc' Ls (.int v :: st)))) : Go p e below P (T.setTop (mkF m pc Ls (st))) := by
  subst hp; exact Go.of G fun _ q => XT.iconstV X.here hx rfl v hd hv q
theorem g_bipush (X : Stand p l e R s m args below meth c T locs cells slots) (hx : p.tables.exec = Jvm.exec) {pc : Nat} (pc' : Nat) {Ls : Array Slot} {st : List Value} {i : Int} (v : Int32) (hd : decode c.code pc = .ok (.bipush i, 2)) (hv : (Int8.ofInt i).toInt32 = v) (hp : pc + 2 = pc') (G : Go p e below P (T.setTop (mkF m pc' Ls (.int v :: st)))) : Go p e below P (T.setTop (mkF m pc Ls (st))) := by
  subst hp; exact Go.of G fun _ q => XT.bipushV X.here hx rfl v hd hv q
theorem g_sipush (X : Stand p l e R s m args below meth c T locs cells slots) (hx : p.tables.exec = Jvm.exec) {pc : Nat} (pc' : Nat) {Ls : Array Slot} {st : List Value} {i : Int} (v : Int32) (hd : decode c.code pc = .ok (.sipush i, 3)) (hv : (Int16.ofInt i).toInt32 = v) (hp : pc + 3 = pc') (G : Go p e below P (T.setTop (mkF m pc' Ls (.int v :: st)))) : Go p e below P (T.setTop (mkF m pc Ls (st))) := by
  subst hp; exact Go.of G fun _ q => XT.sipushV X.here hx rfl v hd hv q
theorem g_lconst (X : Stand p l e R s m args below meth c T locs cells slots) (hx : p.tables.exec = Jvm.exec) {pc : Nat} (pc' : Nat) {Ls : Array Slot} {st : List Value} {i : Fin 2} (v : Int64) (hd : decode c.code pc = .ok (.lconst i, 1)) (hv : Int64.ofNat i = v) (hp : pc + 1 = pc') (G : Go p e below P (T.setTop (mkF m pc' Ls (.long v :: st)))) : Go p e below P (T.setTop (mkF m pc Ls (st))) := by
  subst hp; exact Go.of G fun _ q => XT.lconstV X.here hx rfl v hd hv q
theorem g_aconst_null (X : Stand p l e R s m args below meth c T locs cells slots) (hx : p.tables.exec = Jvm.exec) {pc : Nat} (pc' : Nat) {Ls : Array Slot} {st : List Value}  (hd : decode c.code pc = .ok (.aconst_null, 1))  (hp : pc + 1 = pc') (G : Go p e below P (T.setTop (mkF m pc' Ls (.null :: st)))) : Go p e below P (T.setTop (mkF m pc Ls (st))) := by
  subst hp; exact Go.of G fun _ q => XS.aconstNull X.here hx rfl hd q
theorem g_iload_n (X : Stand p l e R s m args below meth c T locs cells slots) (hx : p.tables.exec = Jvm.exec) {pc : Nat} (pc' : Nat) {Ls : Array Slot} {st : List Value} {i : Fin 4} (v : Int32) (hd : decode c.code pc = .ok (.iload_n i, 1)) (hv : Ls[i.val]? = some (.val (.int v))) (hp : pc + 1 = pc') (G : Go p e below P (T.setTop (mkF m pc' Ls (.int v :: st)))) : Go p e below P (T.setTop (mkF m pc Ls (st))) := by
  subst hp; exact Go.of G fun _ q => XS.iloadN X.here hx rfl hd hv q
theorem g_iload (X : Stand p l e R s m args below meth c T locs cells slots) (hx : p.tables.exec = Jvm.exec) {pc : Nat} (pc' : Nat) {Ls : Array Slot} {st : List Value} {i : Nat} (v : Int32) (hd : decode c.code pc = .ok (.iload i, 2)) (hv : Ls[i]? = some (.val (.int v))) (hp : pc + 2 = pc') (G : Go p e below P (T.setTop (mkF m pc' Ls (.int v :: st)))) : Go p e below P (T.setTop (mkF m pc Ls (st))) := by
  subst hp; exact Go.of G fun _ q => XS.iload X.here hx rfl hd hv q
theorem g_lload_n (X : Stand p l e R s m args below meth c T locs cells slots) (hx : p.tables.exec = Jvm.exec) {pc : Nat} (pc' : Nat) {Ls : Array Slot} {st : List Value} {i : Fin 4} (v : Int64) (hd : decode c.code pc = .ok (.lload_n i, 1)) (hv : Ls[i.val]? = some (.val (.long v))) (hp : pc + 1 = pc') (G : Go p e below P (T.setTop (mkF m pc' Ls (.long v :: st)))) : Go p e below P (T.setTop (mkF m pc Ls (st))) := by
  subst hp; exact Go.of G fun _ q => XT.lloadN X.here hx rfl hd hv q
theorem g_lload (X : Stand p l e R s m args below meth c T locs cells slots) (hx : p.tables.exec = Jvm.exec) {pc : Nat} (pc' : Nat) {Ls : Array Slot} {st : List Value} {i : Nat} (v : Int64) (hd : decode c.code pc = .ok (.lload i, 2)) (hv : Ls[i]? = some (.val (.long v))) (hp : pc + 2 = pc') (G : Go p e below P (T.setTop (mkF m pc' Ls (.long v :: st)))) : Go p e below P (T.setTop (mkF m pc Ls (st))) := by
  subst hp; exact Go.of G fun _ q => XT.lload X.here hx rfl hd hv q
theorem g_aload_n (X : Stand p l e R s m args below meth c T locs cells slots) (hx : p.tables.exec = Jvm.exec) {pc : Nat} (pc' : Nat) {Ls : Array Slot} {st : List Value} {i : Fin 4} (v : Value) (hd : decode c.code pc = .ok (.aload_n i, 1)) (hv : Ls[i.val]? = some (.val v)) (hr : v.isRef = true) (hp : pc + 1 = pc') (G : Go p e below P (T.setTop (mkF m pc' Ls (v :: st)))) : Go p e below P (T.setTop (mkF m pc Ls (st))) := by
  subst hp; exact Go.of G fun _ q => XS.aloadN X.here hx rfl hd hv hr q
theorem g_aload (X : Stand p l e R s m args below meth c T locs cells slots) (hx : p.tables.exec = Jvm.exec) {pc : Nat} (pc' : Nat) {Ls : Array Slot} {st : List Value} {i : Nat} (v : Value) (hd : decode c.code pc = .ok (.aload i, 2)) (hv : Ls[i]? = some (.val v)) (hr : v.isRef = true) (hp : pc + 2 = pc') (G : Go p e below P (T.setTop (mkF m pc' Ls (v :: st)))) : Go p e below P (T.setTop (mkF m pc Ls (st))) := by
  subst hp; exact Go.of G fun _ q => XS.aload X.here hx rfl hd hv hr q
theorem g_istore_n (X : Stand p l e R s m args below meth c T locs cells slots) (hx : p.tables.exec = Jvm.exec) {pc : Nat} (pc' : Nat) {Ls : Array Slot} {st : List Value} {i : Fin 4} {v : Int32} (Ls' : Array Slot) (hd : decode c.code pc = .ok (.istore_n i, 1)) (hv : storeLocals Ls i.val (.int v) = some Ls') (hp : pc + 1 = pc') (G : Go p e below P (T.setTop (mkF m pc' Ls' (st)))) : Go p e below P (T.setTop (mkF m pc Ls (.int v :: st))) := by
  subst hp; exact Go.of G fun _ q => XS.istoreN X.here hx rfl hd rfl hv q
theorem g_istore (X : Stand p l e R s m args below meth c T locs cells slots) (hx : p.tables.exec = Jvm.exec) {pc : Nat} (pc' : Nat) {Ls : Array Slot} {st : List Value} {i : Nat} {v : Int32} (Ls' : Array Slot) (hd : decode c.code pc = .ok (.istore i, 2)) (hv : storeLocals Ls i (.int v) = some Ls') (hp : pc + 2 = pc') (G : Go p e below P (T.setTop (mkF m pc' Ls' (st)))) : Go p e below P (T.setTop (mkF m pc Ls (.int v :: st))) := by
  subst hp; exact Go.of G fun _ q => XS.istore X.here hx rfl hd rfl hv q
theorem g_lstore_n (X : Stand p l e R s m args below meth c T locs cells slots) (hx : p.tables.exec = Jvm.exec) {pc : Nat} (pc' : Nat) {Ls : Array Slot} {st : List Value} {i : Fin 4} {v : Int64} (Ls' : Array Slot) (hd : decode c.code pc = .ok (.lstore_n i, 1)) (hv : storeLocals Ls i.val (.long v) = some Ls') (hp : pc + 1 = pc') (G : Go p e below P (T.setTop (mkF m pc' Ls' (st)))) : Go p e below P (T.setTop (mkF m pc Ls (.long v :: st))) := by
  subst hp; exact Go.of G fun _ q => XT.lstoreN X.here hx rfl hd rfl hv q
theorem g_lstore (X : Stand p l e R s m args below meth c T locs cells slots) (hx : p.tables.exec = Jvm.exec) {pc : Nat} (pc' : Nat) {Ls : Array Slot} {st : List Value} {i : Nat} {v : Int64} (Ls' : Array Slot) (hd : decode c.code pc = .ok (.lstore i, 2)) (hv : storeLocals Ls i (.long v) = some Ls') (hp : pc + 2 = pc') (G : Go p e below P (T.setTop (mkF m pc' Ls' (st)))) : Go p e below P (T.setTop (mkF m pc Ls (.long v :: st))) := by
  subst hp; exact Go.of G fun _ q => XT.lstore X.here hx rfl hd rfl hv q
theorem g_astore_n (X : Stand p l e R s m args below meth c T locs cells slots) (hx : p.tables.exec = Jvm.exec) {pc : Nat} (pc' : Nat) {Ls : Array Slot} {st : List Value} {i : Fin 4} {v : Value} (Ls' : Array Slot) (hd : decode c.code pc = .ok (.astore_n i, 1)) (hr : v.isRef = true) (hv : storeLocals Ls i.val v = some Ls') (hp : pc + 1 = pc') (G : Go p e below P (T.setTop (mkF m pc' Ls' (st)))) : Go p e below P (T.setTop (mkF m pc Ls (v :: st))) := by
  subst hp; exact Go.of G fun _ q => XS.astoreN X.here hx rfl hd rfl hr hv q
theorem g_astore (X : Stand p l e R s m args below meth c T locs cells slots) (hx : p.tables.exec = Jvm.exec) {pc : Nat} (pc' : Nat) {Ls : Array Slot} {st : List Value} {i : Nat} {v : Value} (Ls' : Array Slot) (hd : decode c.code pc = .ok (.astore i, 2)) (hr : v.isRef = true) (hv : storeLocals Ls i v = some Ls') (hp : pc + 2 = pc') (G : Go p e below P (T.setTop (mkF m pc' Ls' (st)))) : Go p e below P (T.setTop (mkF m pc Ls (v :: st))) := by
  subst hp; exact Go.of G fun _ q => XS.astore X.here hx rfl hd rfl hr hv q
theorem g_iinc (X : Stand p l e R s m args below meth c T locs cells slots) (hx : p.tables.exec = Jvm.exec) {pc : Nat} (pc' : Nat) {Ls : Array Slot} {st : List Value} {i : Nat} {k : Int} {x : Int32} (v : Int32) (Ls' : Array Slot) (hd : decode c.code pc = .ok (.iinc i k, 3)) (hk : Int32.ofInt k = v) (hv : Ls[i]? = some (.val (.int x))) (hl : storeLocals Ls i (.int (x + v)) = some Ls') (hp : pc + 3 = pc') (G : Go p e below P (T.setTop (mkF m pc' Ls' (st)))) : Go p e below P (T.setTop (mkF m pc Ls (st))) := by
  subst hp; exact Go.of G fun _ q => XT.iincV X.here hx rfl v hd hk hv hl q
theorem g_iadd (X : Stand p l e R s m args below meth c T locs cells slots) (hx : p.tables.exec = Jvm.exec) {pc : Nat} (pc' : Nat) {Ls : Array Slot} {st : List Value} {x y : Int32} (hd : decode c.code pc = .ok (.iadd, 1))  (hp : pc + 1 = pc') (G : Go p e below P (T.setTop (mkF m pc' Ls (.int (x + y) :: st)))) : Go p e below P (T.setTop (mkF m pc Ls (.int y :: .int x :: st))) := by
  subst hp; exact Go.of G fun _ q => XS.iadd X.here hx rfl hd rfl q
theorem g_isub (X : Stand p l e R s m args below meth c T locs cells slots) (hx : p.tables.exec = Jvm.exec) {pc : Nat} (pc' : Nat) {Ls : Array Slot} {st : List Value} {x y : Int32} (hd : decode c.code pc = .ok (.isub, 1))  (hp : pc + 1 = pc') (G : Go p e below P (T.setTop (mkF m pc' Ls (.int (x - y) :: st)))) : Go p e below P (T.setTop (mkF m pc Ls (.int y :: .int x :: st))) := by
  subst hp; exact Go.of G fun _ q => XS.isub X.here hx rfl hd rfl q
theorem g_iand (X : Stand p l e R s m args below meth c T locs cells slots) (hx : p.tables.exec = Jvm.exec) {pc : Nat} (pc' : Nat) {Ls : Array Slot} {st : List Value} {x y : Int32} (hd : decode c.code pc = .ok (.iand, 1))  (hp : pc + 1 = pc') (G : Go p e below P (T.setTop (mkF m pc' Ls (.int (x &&& y) :: st)))) : Go p e below P (T.setTop (mkF m pc Ls (.int y :: .int x :: st))) := by
  subst hp; exact Go.of G fun _ q => XS.iand X.here hx rfl hd rfl q
theorem g_imul (X : Stand p l e R s m args below meth c T locs cells slots) (hx : p.tables.exec = Jvm.exec) {pc : Nat} (pc' : Nat) {Ls : Array Slot} {st : List Value} {x y : Int32} (hd : decode c.code pc = .ok (.imul, 1))  (hp : pc + 1 = pc') (G : Go p e below P (T.setTop (mkF m pc' Ls (.int (x * y) :: st)))) : Go p e below P (T.setTop (mkF m pc Ls (.int y :: .int x :: st))) := by
  subst hp; exact Go.of G fun _ q => XS.imul X.here hx rfl hd rfl q
theorem g_ior (X : Stand p l e R s m args below meth c T locs cells slots) (hx : p.tables.exec = Jvm.exec) {pc : Nat} (pc' : Nat) {Ls : Array Slot} {st : List Value} {x y : Int32} (hd : decode c.code pc = .ok (.ior, 1))  (hp : pc + 1 = pc') (G : Go p e below P (T.setTop (mkF m pc' Ls (.int (x ||| y) :: st)))) : Go p e below P (T.setTop (mkF m pc Ls (.int y :: .int x :: st))) := by
  subst hp; exact Go.of G fun _ q => XT.ior X.here hx rfl hd rfl q
theorem g_ixor (X : Stand p l e R s m args below meth c T locs cells slots) (hx : p.tables.exec = Jvm.exec) {pc : Nat} (pc' : Nat) {Ls : Array Slot} {st : List Value} {x y : Int32} (hd : decode c.code pc = .ok (.ixor, 1))  (hp : pc + 1 = pc') (G : Go p e below P (T.setTop (mkF m pc' Ls (.int (x ^^^ y) :: st)))) : Go p e below P (T.setTop (mkF m pc Ls (.int y :: .int x :: st))) := by
  subst hp; exact Go.of G fun _ q => XT.ixor X.here hx rfl hd rfl q
theorem g_ishl (X : Stand p l e R s m args below meth c T locs cells slots) (hx : p.tables.exec = Jvm.exec) {pc : Nat} (pc' : Nat) {Ls : Array Slot} {st : List Value} {x y : Int32} (hd : decode c.code pc = .ok (.ishl, 1))  (hp : pc + 1 = pc') (G : Go p e below P (T.setTop (mkF m pc' Ls (.int (x <<< (y &&& 31)) :: st)))) : Go p e below P (T.setTop (mkF m pc Ls (.int y :: .int x :: st))) := by
  subst hp; exact Go.of G fun _ q => XT.ishl X.here hx rfl hd rfl q
theorem g_ishr (X : Stand p l e R s m args below meth c T locs cells slots) (hx : p.tables.exec = Jvm.exec) {pc : Nat} (pc' : Nat) {Ls : Array Slot} {st : List Value} {x y : Int32} (hd : decode c.code pc = .ok (.ishr, 1))  (hp : pc + 1 = pc') (G : Go p e below P (T.setTop (mkF m pc' Ls (.int (x >>> (y &&& 31)) :: st)))) : Go p e below P (T.setTop (mkF m pc Ls (.int y :: .int x :: st))) := by
  subst hp; exact Go.of G fun _ q => XT.ishr X.here hx rfl hd rfl q
theorem g_iushr (X : Stand p l e R s m args below meth c T locs cells slots) (hx : p.tables.exec = Jvm.exec) {pc : Nat} (pc' : Nat) {Ls : Array Slot} {st : List Value} {x y : Int32} (hd : decode c.code pc = .ok (.iushr, 1))  (hp : pc + 1 = pc') (G : Go p e below P (T.setTop (mkF m pc' Ls (.int (XT.ushr x y) :: st)))) : Go p e below P (T.setTop (mkF m pc Ls (.int y :: .int x :: st))) := by
  subst hp; exact Go.of G fun _ q => XT.iushr X.here hx rfl hd rfl q
theorem g_idiv (X : Stand p l e R s m args below meth c T locs cells slots) (hx : p.tables.exec = Jvm.exec) {pc : Nat} (pc' : Nat) {Ls : Array Slot} {st : List Value} {x y : Int32} (hd : decode c.code pc = .ok (.idiv, 1)) (hy : y ≠ 0) (hp : pc + 1 = pc') (G : Go p e below P (T.setTop (mkF m pc' Ls (.int (x / y) :: st)))) : Go p e below P (T.setTop (mkF m pc Ls (.int y :: .int x :: st))) := by
  subst hp; exact Go.of G fun _ q => XS.idiv X.here hx rfl hd rfl hy q
theorem g_irem (X : Stand p l e R s m args below meth c T locs cells slots) (hx : p.tables.exec = Jvm.exec) {pc : Nat} (pc' : Nat) {Ls : Array Slot} {st : List Value} {x y : Int32} (hd : decode c.code pc = .ok (.irem, 1)) (hy : y ≠ 0) (hp : pc + 1 = pc') (G : Go p e below P (T.setTop (mkF m pc' Ls (.int (x % y) :: st)))) : Go p e below P (T.setTop (mkF m pc Ls (.int y :: .int x :: st))) := by
  subst hp; exact Go.of G fun _ q => iremM X hx rfl hd rfl hy q
theorem g_ineg (X : Stand p l e R s m args below meth c T locs cells slots) (hx : p.tables.exec = Jvm.exec) {pc : Nat} (pc' : Nat) {Ls : Array Slot} {st : List Value} {x : Int32} (hd : decode c.code pc = .ok (.ineg, 1))  (hp : pc + 1 = pc') (G : Go p e below P (T.setTop (mkF m pc' Ls (.int (-x) :: st)))) : Go p e below P (T.setTop (mkF m pc Ls (.int x :: st))) := by
  subst hp; exact Go.of G fun _ q => XS.ineg X.here hx rfl hd rfl q
theorem g_ladd (X : Stand p l e R s m args below meth c T locs cells slots) (hx : p.tables.exec = Jvm.exec) {pc : Nat} (pc' : Nat) {Ls : Array Slot} {st : List Value} {x y : Int64} (hd : decode c.code pc = .ok (.ladd, 1))  (hp : pc + 1 = pc') (G : Go p e below P (T.setTop (mkF m pc' Ls (.long (x + y) :: st)))) : Go p e below P (T.setTop (mkF m pc Ls (.long y :: .long x :: st))) := by
  subst hp; exact Go.of G fun _ q => XT.ladd X.here hx rfl hd rfl q
theorem g_lsub (X : Stand p l e R s m args below meth c T locs cells slots) (hx : p.tables.exec = Jvm.exec) {pc : Nat} (pc' : Nat) {Ls : Array Slot} {st : List Value} {x y : Int64} (hd : decode c.code pc = .ok (.lsub, 1))  (hp : pc + 1 = pc') (G : Go p e below P (T.setTop (mkF m pc' Ls (.long (x - y) :: st)))) : Go p e below P (T.setTop (mkF m pc Ls (.long y :: .long x :: st))) := by
  subst hp; exact Go.of G fun _ q => XT.lsub X.here hx rfl hd rfl q
theorem g_lmul (X : Stand p l e R s m args below meth c T locs cells slots) (hx : p.tables.exec = Jvm.exec) {pc : Nat} (pc' : Nat) {Ls : Array Slot} {st : List Value} {x y : Int64} (hd : decode c.code pc = .ok (.lmul, 1))  (hp : pc + 1 = pc') (G : Go p e below P (T.setTop (mkF m pc' Ls (.long (x * y) :: st)))) : Go p e below P (T.setTop (mkF m pc Ls (.long y :: .long x :: st))) := by
  subst hp; exact Go.of G fun _ q => XT.lmul X.here hx rfl hd rfl q
theorem g_land (X : Stand p l e R s m args below meth c T locs cells slots) (hx : p.tables.exec = Jvm.exec) {pc : Nat} (pc' : Nat) {Ls : Array Slot} {st : List Value} {x y : Int64} (hd : decode c.code pc = .ok (.land, 1))  (hp : pc + 1 = pc') (G : Go p e below P (T.setTop (mkF m pc' Ls (.long (x &&& y) :: st)))) : Go p e below P (T.setTop (mkF m pc Ls (.long y :: .long x :: st))) := by
  subst hp; exact Go.of G fun _ q => XT.land X.here hx rfl hd rfl q
theorem g_lor (X : Stand p l e R s m args below meth c T locs cells slots) (hx : p.tables.exec = Jvm.exec) {pc : Nat} (pc' : Nat) {Ls : Array Slot} {st : List Value} {x y : Int64} (hd : decode c.code pc = .ok (.lor, 1))  (hp : pc + 1 = pc') (G : Go p e below P (T.setTop (mkF m pc' Ls (.long (x ||| y) :: st)))) : Go p e below P (T.setTop (mkF m pc Ls (.long y :: .long x :: st))) := by
  subst hp; exact Go.of G fun _ q => XT.lor X.here hx rfl hd rfl q
theorem g_lxor (X : Stand p l e R s m args below meth c T locs cells slots) (hx : p.tables.exec = Jvm.exec) {pc : Nat} (pc' : Nat) {Ls : Array Slot} {st : List Value} {x y : Int64} (hd : decode c.code pc = .ok (.lxor, 1))  (hp : pc + 1 = pc') (G : Go p e below P (T.setTop (mkF m pc' Ls (.long (x ^^^ y) :: st)))) : Go p e below P (T.setTop (mkF m pc Ls (.long y :: .long x :: st))) := by
  subst hp; exact Go.of G fun _ q => XT.lxor X.here hx rfl hd rfl q
theorem g_ldiv (X : Stand p l e R s m args below meth c T locs cells slots) (hx : p.tables.exec = Jvm.exec) {pc : Nat} (pc' : Nat) {Ls : Array Slot} {st : List Value} {x y : Int64} (hd : decode c.code pc = .ok (.ldiv, 1)) (hy : y ≠ 0) (hp : pc + 1 = pc') (G : Go p e below P (T.setTop (mkF m pc' Ls (.long (x / y) :: st)))) : Go p e below P (T.setTop (mkF m pc Ls (.long y :: .long x :: st))) := by
  subst hp; exact Go.of G fun _ q => XT.ldiv X.here hx rfl hd rfl hy q
theorem g_lrem (X : Stand p l e R s m args below meth c T locs cells slots) (hx : p.tables.exec = Jvm.exec) {pc : Nat} (pc' : Nat) {Ls : Array Slot} {st : List Value} {x y : Int64} (hd : decode c.code pc = .ok (.lrem, 1)) (hy : y ≠ 0) (hp : pc + 1 = pc') (G : Go p e below P (T.setTop (mkF m pc' Ls (.long (x % y) :: st)))) : Go p e below P (T.setTop (mkF m pc Ls (.long y :: .long x :: st))) := by
  subst hp; exact Go.of G fun _ q => XT.lrem X.here hx rfl hd rfl hy (by rw [Jvm.RoadKit.lrem_mod]; exact q)
theorem g_lneg (X : Stand p l e R s m args below meth c T locs cells slots) (hx : p.tables.exec = Jvm.exec) {pc : Nat} (pc' : Nat) {Ls : Array Slot} {st : List Value} {x : Int64} (hd : decode c.code pc = .ok (.lneg, 1))  (hp : pc + 1 = pc') (G : Go p e below P (T.setTop (mkF m pc' Ls (.long (-x) :: st)))) : Go p e below P (T.setTop (mkF m pc Ls (.long x :: st))) := by
  subst hp; exact Go.of G fun _ q => XT.lneg X.here hx rfl hd rfl q
theorem g_lshl (X : Stand p l e R s m args below meth c T locs cells slots) (hx : p.tables.exec = Jvm.exec) {pc : Nat} (pc' : Nat) {Ls : Array Slot} {st : List Value} {x : Int64} {y : Int32} (hd : decode c.code pc = .ok (.lshl, 1))  (hp : pc + 1 = pc') (G : Go p e below P (T.setTop (mkF m pc' Ls (.long (x <<< (y.toInt64 &&& 63)) :: st)))) : Go p e below P (T.setTop (mkF m pc Ls (.int y :: .long x :: st))) := by
  subst hp; exact Go.of G fun _ q => XT.lshl X.here hx rfl hd rfl q
theorem g_lshr (X : Stand p l e R s m args below meth c T locs cells slots) (hx : p.tables.exec = Jvm.exec) {pc : Nat} (pc' : Nat) {Ls : Array Slot} {st : List Value} {x : Int64} {y : Int32} (hd : decode c.code pc = .ok (.lshr, 1))  (hp : pc + 1 = pc') (G : Go p e below P (T.setTop (mkF m pc' Ls (.long (x >>> (y.toInt64 &&& 63)) :: st)))) : Go p e below P (T.setTop (mkF m pc Ls (.int y :: .long x :: st))) := by
  subst hp; exact Go.of G fun _ q => XT.lshr X.here hx rfl hd rfl q
theorem g_lushr (X : Stand p l e R s m args below meth c T locs cells slots) (hx : p.tables.exec = Jvm.exec) {pc : Nat} (pc' : Nat) {Ls : Array Slot} {st : List Value} {x : Int64} {y : Int32} (hd : decode c.code pc = .ok (.lushr, 1))  (hp : pc + 1 = pc') (G : Go p e below P (T.setTop (mkF m pc' Ls (.long (XT.ushrL x y) :: st)))) : Go p e below P (T.setTop (mkF m pc Ls (.int y :: .long x :: st))) := by
  subst hp; exact Go.of G fun _ q => XT.lushr X.here hx rfl hd rfl q
theorem g_lcmp (X : Stand p l e R s m args below meth c T locs cells slots) (hx : p.tables.exec = Jvm.exec) {pc : Nat} (pc' : Nat) {Ls : Array Slot} {st : List Value} {x y : Int64} (hd : decode c.code pc = .ok (.lcmp, 1))  (hp : pc + 1 = pc') (G : Go p e below P (T.setTop (mkF m pc' Ls (.int (XT.cmpL x y) :: st)))) : Go p e below P (T.setTop (mkF m pc Ls (.long y :: .long x :: st))) := by
  subst hp; exact Go.of G fun _ q => XT.lcmp X.here hx rfl hd rfl q
theorem g_i2l (X : Stand p l e R s m args below meth c T locs cells slots) (hx : p.tables.exec = Jvm.exec) {pc : Nat} (pc' : Nat) {Ls : Array Slot} {st : List Value} {x : Int32} (hd : decode c.code pc = .ok (.i2l, 1))  (hp : pc + 1 = pc') (G : Go p e below P (T.setTop (mkF m pc' Ls (.long (x.toInt64) :: st)))) : Go p e below P (T.setTop (mkF m pc Ls (.int x :: st))) := by
  subst hp; exact Go.of G fun _ q => XT.i2l X.here hx rfl hd rfl q
theorem g_l2i (X : Stand p l e R s m args below meth c T locs cells slots) (hx : p.tables.exec = Jvm.exec) {pc : Nat} (pc' : Nat) {Ls : Array Slot} {st : List Value} {x : Int64} (hd : decode c.code pc = .ok (.l2i, 1))  (hp : pc + 1 = pc') (G : Go p e below P (T.setTop (mkF m pc' Ls (.int (x.toInt32) :: st)))) : Go p e below P (T.setTop (mkF m pc Ls (.long x :: st))) := by
  subst hp; exact Go.of G fun _ q => XT.l2i X.here hx rfl hd rfl q
theorem g_i2b (X : Stand p l e R s m args below meth c T locs cells slots) (hx : p.tables.exec = Jvm.exec) {pc : Nat} (pc' : Nat) {Ls : Array Slot} {st : List Value} {x : Int32} (hd : decode c.code pc = .ok (.i2b, 1))  (hp : pc + 1 = pc') (G : Go p e below P (T.setTop (mkF m pc' Ls (.int (x.toInt8.toInt32) :: st)))) : Go p e below P (T.setTop (mkF m pc Ls (.int x :: st))) := by
  subst hp; exact Go.of G fun _ q => XT.i2b X.here hx rfl hd rfl q
theorem g_i2c (X : Stand p l e R s m args below meth c T locs cells slots) (hx : p.tables.exec = Jvm.exec) {pc : Nat} (pc' : Nat) {Ls : Array Slot} {st : List Value} {x : Int32} (hd : decode c.code pc = .ok (.i2c, 1))  (hp : pc + 1 = pc') (G : Go p e below P (T.setTop (mkF m pc' Ls (.int (x.toUInt32.toUInt16.toUInt32.toInt32) :: st)))) : Go p e below P (T.setTop (mkF m pc Ls (.int x :: st))) := by
  subst hp; exact Go.of G fun _ q => XT.i2c X.here hx rfl hd rfl q
theorem g_i2s (X : Stand p l e R s m args below meth c T locs cells slots) (hx : p.tables.exec = Jvm.exec) {pc : Nat} (pc' : Nat) {Ls : Array Slot} {st : List Value} {x : Int32} (hd : decode c.code pc = .ok (.i2s, 1))  (hp : pc + 1 = pc') (G : Go p e below P (T.setTop (mkF m pc' Ls (.int (x.toInt16.toInt32) :: st)))) : Go p e below P (T.setTop (mkF m pc Ls (.int x :: st))) := by
  subst hp; exact Go.of G fun _ q => XT.i2s X.here hx rfl hd rfl q
theorem g_dup (X : Stand p l e R s m args below meth c T locs cells slots) (hx : p.tables.exec = Jvm.exec) {pc : Nat} (pc' : Nat) {Ls : Array Slot} {st : List Value} {x : Value} (hd : decode c.code pc = .ok (.dup, 1)) (hc : x.category = 1) (hp : pc + 1 = pc') (G : Go p e below P (T.setTop (mkF m pc' Ls (x :: x :: st)))) : Go p e below P (T.setTop (mkF m pc Ls (x :: st))) := by
  subst hp; exact Go.of G fun _ q => XS.dup X.here hx rfl hd rfl hc q
theorem g_pop (X : Stand p l e R s m args below meth c T locs cells slots) (hx : p.tables.exec = Jvm.exec) {pc : Nat} (pc' : Nat) {Ls : Array Slot} {st : List Value} {x : Value} (hd : decode c.code pc = .ok (.pop, 1)) (hc : x.category = 1) (hp : pc + 1 = pc') (G : Go p e below P (T.setTop (mkF m pc' Ls (st)))) : Go p e below P (T.setTop (mkF m pc Ls (x :: st))) := by
  subst hp; exact Go.of G fun _ q => XT.pop X.here hx rfl hd rfl hc q
theorem g_dup_x1 (X : Stand p l e R s m args below meth c T locs cells slots) (hx : p.tables.exec = Jvm.exec) {pc : Nat} (pc' : Nat) {Ls : Array Slot} {st : List Value} {x y : Value} (hd : decode c.code pc = .ok (.dup_x1, 1)) (hc : x.category = 1) (hc' : y.category = 1) (hp : pc + 1 = pc') (G : Go p e below P (T.setTop (mkF m pc' Ls (x :: y :: x :: st)))) : Go p e below P (T.setTop (mkF m pc Ls (x :: y :: st))) := by
  subst hp; exact Go.of G fun _ q => XT.dupX1 X.here hx rfl hd rfl hc hc' q
theorem g_dup2 (X : Stand p l e R s m args below meth c T locs cells slots) (hx : p.tables.exec = Jvm.exec) {pc : Nat} (pc' : Nat) {Ls : Array Slot} {st : List Value} {x y : Value} (hd : decode c.code pc = .ok (.dup2, 1)) (hc : x.category = 1) (hc' : y.category = 1) (hp : pc + 1 = pc') (G : Go p e below P (T.setTop (mkF m pc' Ls (x :: y :: x :: y :: st)))) : Go p e below P (T.setTop (mkF m pc Ls (x :: y :: st))) := by
  subst hp; exact Go.of G fun _ q => XT.dup2 X.here hx rfl hd rfl hc hc' q
theorem g_ldc (X : Stand p l e R s m args below meth c T locs cells slots) (hx : p.tables.exec = Jvm.exec) {pc : Nat} (pc' : Nat) {Ls : Array Slot} {st : List Value} {own : String} {i : Nat} {v : Int32} (hd : decode c.code pc = .ok (.ldc i, 2)) (hown : s.vm.findClass own = some m.cls) (hw : (Jvm.Cond.constant own i v).before args s = true) (hp : pc + 2 = pc') (G : Go p e below P (T.setTop (mkF m pc' Ls (.int v :: st)))) : Go p e below P (T.setTop (mkF m pc Ls (st))) := by
  subst hp; exact Go.of G fun _ q => X.ldcI hx hown hw rfl hd q
theorem g_ldc2_w (X : Stand p l e R s m args below meth c T locs cells slots) (hx : p.tables.exec = Jvm.exec) {pc : Nat} (pc' : Nat) {Ls : Array Slot} {st : List Value} {own : String} {i : Nat} {v : Int64} (hd : decode c.code pc = .ok (.ldc2_w i, 3)) (hown : s.vm.findClass own = some m.cls) (hw : (Jvm.Cond.constantLong own i v).before args s = true) (hp : pc + 3 = pc') (G : Go p e below P (T.setTop (mkF m pc' Ls (.long v :: st)))) : Go p e below P (T.setTop (mkF m pc Ls (st))) := by
  subst hp; exact Go.of G fun _ q => X.ldc2J hx hown hw rfl hd q
theorem g_ifN (X : Stand p l e R s m args below meth c T locs cells slots) (hx : p.tables.exec = Jvm.exec) {pc : Nat} (pc' : Nat) {Ls : Array Slot} {st : List Value} {cd : ClassFile.Cond} {o : Int} {x : Int32} (hd : decode c.code pc = .ok (.ifCond cd o, 3)) (hc : ifCond.holds cd x = false) (hp : pc + 3 = pc') (G : Go p e below P (T.setTop (mkF m pc' Ls (st)))) : Go p e below P (T.setTop (mkF m pc Ls (.int x :: st))) := by
  subst hp; exact Go.of G fun _ q => XS.ifNo X.here hx rfl hd rfl hc q
theorem g_icmpN (X : Stand p l e R s m args below meth c T locs cells slots) (hx : p.tables.exec = Jvm.exec) {pc : Nat} (pc' : Nat) {Ls : Array Slot} {st : List Value} {cd : ClassFile.Cond} {o : Int} {x y : Int32} (hd : decode c.code pc = .ok (.if_icmp cd o, 3)) (hc : if_icmp.holds cd x y = false) (hp : pc + 3 = pc') (G : Go p e below P (T.setTop (mkF m pc' Ls (st)))) : Go p e below P (T.setTop (mkF m pc Ls (.int y :: .int x :: st))) := by
  subst hp; exact Go.of G fun _ q => XS.icmpNo X.here hx rfl hd rfl hc q
theorem g_acmpN (X : Stand p l e R s m args below meth c T locs cells slots) (hx : p.tables.exec = Jvm.exec) {pc : Nat} (pc' : Nat) {Ls : Array Slot} {st : List Value} {cd : ClassFile.ACond} {o : Int} {x y : Value} (hd : decode c.code pc = .ok (.if_acmp cd o, 3)) (hx' : x.isRef = true) (hy' : y.isRef = true) (hc : XT.acmp cd x y = false) (hp : pc + 3 = pc') (G : Go p e below P (T.setTop (mkF m pc' Ls (st)))) : Go p e below P (T.setTop (mkF m pc Ls (y :: x :: st))) := by
  subst hp; exact Go.of G fun _ q => XT.acmpNo X.here hx rfl hd rfl hx' hy' hc q
theorem g_ifnullN (X : Stand p l e R s m args below meth c T locs cells slots) (hx : p.tables.exec = Jvm.exec) {pc : Nat} (pc' : Nat) {Ls : Array Slot} {st : List Value} {o : Int} {b : Addr} (hd : decode c.code pc = .ok (.ifnull o, 3))  (hp : pc + 3 = pc') (G : Go p e below P (T.setTop (mkF m pc' Ls (st)))) : Go p e below P (T.setTop (mkF m pc Ls (.ref b :: st))) := by
  subst hp; exact Go.of G fun _ q => XS.ifnullNo X.here hx rfl hd rfl q
theorem g_ifnonnullN (X : Stand p l e R s m args below meth c T locs cells slots) (hx : p.tables.exec = Jvm.exec) {pc : Nat} (pc' : Nat) {Ls : Array Slot} {st : List Value} {o : Int} (hd : decode c.code pc = .ok (.ifnonnull o, 3))  (hp : pc + 3 = pc') (G : Go p e below P (T.setTop (mkF m pc' Ls (st)))) : Go p e below P (T.setTop (mkF m pc Ls (.null :: st))) := by
  subst hp; exact Go.of G fun _ q => XT.ifnonnullNo X.here hx rfl hd rfl q
theorem g_goto (X : Stand p l e R s m args below meth c T locs cells slots) (hx : p.tables.exec = Jvm.exec) {pc : Nat} (pc' : Nat) {o : Int} {Ls : Array Slot} {st : List Value}  (hd : decode c.code pc = .ok (.goto o, 3))  (ho : 0 ≤ (pc : Int) + o) (hp : ((pc : Int) + o).toNat = pc') (G : Go p e below P (T.setTop (mkF m pc' Ls st))) : Go p e below P (T.setTop (mkF m pc Ls (st))) :=
  Go.of G fun _ q => XS.goto X.here hx rfl (pc0 := pc) rfl hd ho hp q
theorem g_ifY (X : Stand p l e R s m args below meth c T locs cells slots) (hx : p.tables.exec = Jvm.exec) {pc : Nat} (pc' : Nat) {o : Int} {Ls : Array Slot} {st : List Value} {cd : ClassFile.Cond} {x : Int32} (hd : decode c.code pc = .ok (.ifCond cd o, 3)) (hc : ifCond.holds cd x = true) (ho : 0 ≤ (pc : Int) + o) (hp : ((pc : Int) + o).toNat = pc') (G : Go p e below P (T.setTop (mkF m pc' Ls st))) : Go p e below P (T.setTop (mkF m pc Ls (.int x :: st))) :=
  Go.of G fun _ q => XS.ifYes X.here hx rfl (pc0 := pc) rfl hd rfl hc ho hp q
theorem g_icmpY (X : Stand p l e R s m args below meth c T locs cells slots) (hx : p.tables.exec = Jvm.exec) {pc : Nat} (pc' : Nat) {o : Int} {Ls : Array Slot} {st : List Value} {cd : ClassFile.Cond} {x y : Int32} (hd : decode c.code pc = .ok (.if_icmp cd o, 3)) (hc : if_icmp.holds cd x y = true) (ho : 0 ≤ (pc : Int) + o) (hp : ((pc : Int) + o).toNat = pc') (G : Go p e below P (T.setTop (mkF m pc' Ls st))) : Go p e below P (T.setTop (mkF m pc Ls (.int y :: .int x :: st))) :=
  Go.of G fun _ q => XS.icmpYes X.here hx rfl (pc0 := pc) rfl hd rfl hc ho hp q
theorem g_acmpY (X : Stand p l e R s m args below meth c T locs cells slots) (hx : p.tables.exec = Jvm.exec) {pc : Nat} (pc' : Nat) {o : Int} {Ls : Array Slot} {st : List Value} {cd : ClassFile.ACond} {x y : Value} (hd : decode c.code pc = .ok (.if_acmp cd o, 3)) (hx' : x.isRef = true) (hy' : y.isRef = true) (hc : XT.acmp cd x y = true) (ho : 0 ≤ (pc : Int) + o) (hp : ((pc : Int) + o).toNat = pc') (G : Go p e below P (T.setTop (mkF m pc' Ls st))) : Go p e below P (T.setTop (mkF m pc Ls (y :: x :: st))) :=
  Go.of G fun _ q => XT.acmpYes X.here hx rfl (pc0 := pc) rfl hd rfl hx' hy' hc ho hp q
theorem g_ifnullY (X : Stand p l e R s m args below meth c T locs cells slots) (hx : p.tables.exec = Jvm.exec) {pc : Nat} (pc' : Nat) {o : Int} {Ls : Array Slot} {st : List Value}  (hd : decode c.code pc = .ok (.ifnull o, 3))  (ho : 0 ≤ (pc : Int) + o) (hp : ((pc : Int) + o).toNat = pc') (G : Go p e below P (T.setTop (mkF m pc' Ls st))) : Go p e below P (T.setTop (mkF m pc Ls (.null :: st))) :=
  Go.of G fun _ q => XS.ifnullYes X.here hx rfl (pc0 := pc) rfl hd rfl ho hp q
theorem g_ifnonnullY (X : Stand p l e R s m args below meth c T locs cells slots) (hx : p.tables.exec = Jvm.exec) {pc : Nat} (pc' : Nat) {o : Int} {Ls : Array Slot} {st : List Value} {b : Addr} (hd : decode c.code pc = .ok (.ifnonnull o, 3))  (ho : 0 ≤ (pc : Int) + o) (hp : ((pc : Int) + o).toNat = pc') (G : Go p e below P (T.setTop (mkF m pc' Ls st))) : Go p e below P (T.setTop (mkF m pc Ls (.ref b :: st))) :=
  Go.of G fun _ q => XT.ifnonnullYes X.here hx rfl (pc0 := pc) rfl hd rfl ho hp q

theorem g_callS (X : Stand p l e R s m args below meth c T locs cells slots) (hx : p.tables.exec = Jvm.exec) (hZ : Z.Warmed39 s.vm) {own : String} {index : Nat} {y : MethodName} {bytes : ByteArray} {maxL : Nat} {ret : Option FieldType} {rm : Room} {as' : List Value} {Q' : Option Value → Heap → List Loc → Prop}
    (hown : s.vm.findClass own = some m.cls) (w1 : (Jvm.Cond.methodLink own index y).before a0 Z = true) (w2 : (Jvm.Cond.static y).before a0 Z = true) (w3 : (Jvm.Cond.initialized y.cls).before a0 Z = true) (w4 : (Jvm.Cond.code y bytes maxL ret).before a0 Z = true)
    (np : y.cls ≠ "java/lang/invoke/MethodHandle" ∧ y.cls ≠ "java/lang/invoke/VarHandle") (eT : T.heap = h)
    (hM : MetFree l y (head1 [Jvm.Cond.code y bytes maxL ret] rm) (fun a U => a = as'.toArray ∧ Z.Warmed39 U.vm ∧ U.heap = h) (fun _ _ _ _ _ => True) (fun _ U o U' => ∃ v L, o = .returned v ∧ Q' v U'.heap L ∧ FrameEnd U o U' L rm.cells rm.slots))
    {ps : List FieldType} {rt : Option FieldType} (pd : parseMethodDescriptor y.desc = some ⟨ps, rt⟩) (hlen : as'.length = ps.length)
    (W : Nat) (hf : rm.frames + 1 ≤ R.frames) (hl : W + (maxL + 11) + rm.locals ≤ R.locals) (hc : cells + rm.cells ≤ R.cells) (hs : slots + rm.slots ≤ R.slots)
    {pc : Nat} {Ls : Array Slot} {rest st : List Value} (hsz : Ls.size = c.maxLocals) (hst : st = as'.reverse ++ rest) (hW : (rest.map fun v => v.category).sum ≤ W) (hd : decode c.code pc = .ok (.invokestatic index, 3)) :
    ∃ v T' L, Stand p l e R s m args below meth c T' (locs ++ L) (cells + rm.cells) (slots + rm.slots) ∧ Q' v T'.heap L ∧ ∀ t, Steps p.tables e below (T'.setTop (mkF m (pc + 3) Ls (v.toList ++ rest))) t → Steps p.tables e below (T.setTop (mkF m pc Ls st)) t := by
  obtain ⟨v, _, ⟨T', L', k', n'⟩, -, X', ⟨L, hQ, l1, y1, z1⟩, st'⟩ := Jvm.LawKit.callS X hx (y := y) hown (mvT hZ w1) (mvT hZ w2) (mvT hZ w3) (mvT hZ w4) np (backOf (W := W) hM hZ w4 w3 hf hl) (g := mkF m pc Ls st) rfl hsz (argsL := as') (rest := rest) (lenOf pd hlen) hst (by show 2 * 0 + _ ≤ _; omega) hd (fun _ _ => ⟨rfl, eT, hc, hs⟩)
  dsimp only [Pt.U, Pt.locs, Pt.cells, Pt.slots] at X' l1 y1 z1 st' hQ
  subst l1 y1 z1
  exact ⟨v, T', L, X', hQ, st'⟩
/-- a callee that only answers -/
def Pur (w : Option Value) (h0 : Heap) (v : Option Value) (h : Heap) (L : List Loc) : Prop := v = w ∧ L = [] ∧ h = h0
theorem g_callSP (X : Stand p l e R s m args below meth c T locs cells slots) (hx : p.tables.exec = Jvm.exec) (hZ : Z.Warmed39 s.vm) {own : String} {index : Nat} {y : MethodName} {bytes : ByteArray} {maxL : Nat} {ret : Option FieldType} {rm : Room} {as' : List Value} {w : Option Value}
    (hown : s.vm.findClass own = some m.cls) (w1 : (Jvm.Cond.methodLink own index y).before a0 Z = true) (w2 : (Jvm.Cond.static y).before a0 Z = true) (w3 : (Jvm.Cond.initialized y.cls).before a0 Z = true) (w4 : (Jvm.Cond.code y bytes maxL ret).before a0 Z = true)
    (np : y.cls ≠ "java/lang/invoke/MethodHandle" ∧ y.cls ≠ "java/lang/invoke/VarHandle") (eT : T.heap = h)
    (hM : MetFree l y (head1 [Jvm.Cond.code y bytes maxL ret] rm) (fun a U => a = as'.toArray ∧ Z.Warmed39 U.vm ∧ U.heap = h) (fun _ _ _ _ _ => True) (fun _ U o U' => ∃ v L, o = .returned v ∧ Pur w h v U'.heap L ∧ FrameEnd U o U' L rm.cells rm.slots))
    {ps : List FieldType} {rt : Option FieldType} (pd : parseMethodDescriptor y.desc = some ⟨ps, rt⟩) (hlen : as'.length = ps.length)
    (W : Nat) (hf : rm.frames + 1 ≤ R.frames) (hl : W + (maxL + 11) + rm.locals ≤ R.locals) (hc : cells + rm.cells ≤ R.cells) (hs : slots + rm.slots ≤ R.slots) (h0 : rm.cells = 0) (h1 : rm.slots = 0)
    {pc pc' : Nat} {Ls : Array Slot} {rest st : List Value} (hsz : Ls.size = c.maxLocals) (hst : st = as'.reverse ++ rest) (hW : (rest.map fun v => v.category).sum ≤ W) (hd : decode c.code pc = .ok (.invokestatic index, 3)) (hp : pc + 3 = pc') :
    ∃ T', Stand p l e R s m args below meth c T' locs cells slots ∧ T'.heap = h ∧ ∀ {P : State → Outcome → Prop}, Go p e below P (T'.setTop (mkF m pc' Ls (w.toList ++ rest))) → Go p e below P (T.setTop (mkF m pc Ls st)) := by
  obtain ⟨v, T', L, X', ⟨rfl, rfl, e1⟩, st'⟩ := g_callS X hx hZ hown w1 w2 w3 w4 np eT hM pd hlen W hf hl hc hs hsz hst hW hd
  subst hp
  rw [h0, h1, List.append_nil] at X'
  exact ⟨T', X', e1, fun G => Go.of G st'⟩


theorem g_getF (X : Stand p l e R s m args below meth c T locs cells slots) (hx : p.tables.exec = Jvm.exec) (hZ : Z.Warmed39 s.vm) {own R0 O n d : String} {index : Nat} (hown : s.vm.findClass own = some m.cls) (w : (Jvm.Cond.fieldLink own index R0 n d).before a0 Z = true) (via : Via Z R0 O n d) (eT : T.heap = h) {a : Addr} {v : Value} (F : Fld Z h a O n d v)
    {pc : Nat} (pc' : Nat) {Ls : Array Slot} {st : List Value} (hd : decode c.code pc = .ok (.getfield index, 3)) (hp : pc + 3 = pc') :
    ∃ T', Stand p l e R s m args below meth c T' locs cells slots ∧ T'.heap = h ∧ ∀ {P : State → Outcome → Prop}, Go p e below P (T'.setTop (mkF m pc' Ls (v :: st))) → Go p e below P (T.setTop (mkF m pc Ls (.ref a :: st))) := by
  subst hp
  obtain ⟨T', X', e', f⟩ := getF X hx hZ hown (host := "") (Or.inl w) via eT F (g := mkF m pc Ls (.ref a :: st)) rfl rfl hd
  exact ⟨T', X', e', fun G => Go.of G f⟩
theorem g_getS (X : Stand p l e R s m args below meth c T locs cells slots) (hx : p.tables.exec = Jvm.exec) (hZ : Z.Warmed39 s.vm) {own O n d : String} {index : Nat} (hown : s.vm.findClass own = some m.cls) (w : (Jvm.Cond.fieldLink own index O n d).before a0 Z = true) (eT : T.heap = h) {v : Value} (F : Sta Z h O n d v)
    {pc : Nat} (pc' : Nat) {Ls : Array Slot} {st : List Value} (hd : decode c.code pc = .ok (.getstatic index, 3)) (hp : pc + 3 = pc') :
    ∃ T', Stand p l e R s m args below meth c T' locs cells slots ∧ T'.heap = h ∧ ∀ {P : State → Outcome → Prop}, Go p e below P (T'.setTop (mkF m pc' Ls (v :: st))) → Go p e below P (T.setTop (mkF m pc Ls st)) := by
  subst hp
  obtain ⟨T', X', e', f⟩ := getS X hx hZ hown (host := "") w Via.refl eT F (g := mkF m pc Ls st) rfl hd
  exact ⟨T', X', e', fun G => Go.of G f⟩
theorem g_putF (X : Stand p l e R s m args below meth c T locs cells slots) (hx : p.tables.exec = Jvm.exec) (hZ : Z.Warmed39 s.vm) {own R0 O n d C : String} {index kk : Nat} {ty : FieldType} (hown : s.vm.findClass own = some m.cls) (w : (Jvm.Cond.fieldLink own index R0 n d).before a0 Z = true) (via : Via Z R0 O n d) (eT : T.heap = h) {a : Addr} {v old : Value} (F : Fld Z h a O n d old) (E : Exa Z h a C)
    (L : (Jvm.Cond.lays C O n d).before a0 Z = true ∨ ((Jvm.Cond.laysFinal C O n d).before a0 Z = true ∧ own = O ∧ meth.name = "<init>")) (wi : (Jvm.Cond.instantiable C kk).before a0 Z = true) (hty : parseFieldDescriptor d = some ty) (hn : narrow ty v = v) (hf : fits ty v = true)
    {pc : Nat} (pc' : Nat) {Ls : Array Slot} {st : List Value} (hd : decode c.code pc = .ok (.putfield index, 3)) (hp : pc + 3 = pc') :
    ∃ T' h', Stand p l e R s m args below meth c T' (locs ++ [⟨a, Jvm.RoadKit.slotOf Z O n d⟩]) cells slots ∧ T'.heap = h' ∧ Wr h h' a (Jvm.RoadKit.slotOf Z O n d) v ∧ ∀ {P : State → Outcome → Prop}, Go p e below P (T'.setTop (mkF m pc' Ls st)) → Go p e below P (T.setTop (mkF m pc Ls (v :: .ref a :: st))) := by
  subst hp
  obtain ⟨T', h', X', e', W, f⟩ := putF X hx hZ hown (host := "") (Or.inl w) via eT F E L wi hty hn hf (g := mkF m pc Ls (v :: .ref a :: st)) rfl rfl hd
  exact ⟨T', h', X', e', W, fun G => Go.of G f⟩
theorem g_newO (X : Stand p l e R s m args below meth c T locs cells slots) (hx : p.tables.exec = Jvm.exec) (hZ : Z.Warmed39 s.vm) {own C : String} {index n : Nat} (hown : s.vm.findClass own = some m.cls) (w : (Jvm.Cond.classLink own index C).before a0 Z = true) (wi : (Jvm.Cond.instantiable C n).before a0 Z = true) (wz : (Jvm.Cond.initialized C).before a0 Z = true) (eT : T.heap = h)
    {pc : Nat} (pc' : Nat) {Ls : Array Slot} {st : List Value} (hd : decode c.code pc = .ok (.new index, 3)) (hp : pc + 3 = pc') (hc : cells + 1 ≤ R.cells) (hl : slots + n ≤ R.slots) :
    ∃ T' h' a, Stand p l e R s m args below meth c T' locs (cells + 1) (slots + n) ∧ T'.heap = h' ∧ a = h.size ∧ Ext h h' ∧ Exa Z h' a C ∧ (∀ {O nm d : String} {ty : FieldType}, Laid Z a0 C O nm d → parseFieldDescriptor d = some ty → Fld Z h' a O nm d (defaultValue ty)) ∧
      ∀ {P : State → Outcome → Prop}, Go p e below P (T'.setTop (mkF m pc' Ls (.ref a :: st))) → Go p e below P (T.setTop (mkF m pc Ls st)) := by
  subst hp
  obtain ⟨T', h', X', e', E, A, D, -, f⟩ := newO X hx hZ hown w wi wz eT (g := mkF m pc Ls st) rfl hd hc hl
  exact ⟨T', h', _, X', e', rfl, E, A, D, fun G => Go.of G f⟩
theorem g_initO (X : Stand p l e R s m args below meth c T locs cells slots) (hx : p.tables.exec = Jvm.exec) (hZ : Z.Warmed39 s.vm) {own : String} {idx : Nat} (hown : s.vm.findClass own = some m.cls) (w1 : (Jvm.Cond.methodLink own idx Lib.objectInit).before a0 Z = true) (w2 : (Jvm.Cond.instanceMethod Lib.objectInit).before a0 Z = true)
    (w3 : (Jvm.Cond.code Lib.objectInit ⟨#[0xb1]⟩ 1 none).before a0 Z = true) (eT : T.heap = h) (W : Nat) (hf : 1 ≤ R.frames) (hl : W + 12 ≤ R.locals) {a : Addr} {pc : Nat} (pc' : Nat) {Ls : Array Slot} {st : List Value} (hsz : Ls.size = c.maxLocals) (hW : (st.map fun v => v.category).sum ≤ W) (hd : decode c.code pc = .ok (.invokespecial idx, 3)) (hp : pc + 3 = pc') :
    ∃ T', Stand p l e R s m args below meth c T' locs cells slots ∧ T'.heap = h ∧ ∀ {P : State → Outcome → Prop}, Go p e below P (T'.setTop (mkF m pc' Ls st)) → Go p e below P (T.setTop (mkF m pc Ls (.ref a :: st))) := by
  subst hp
  obtain ⟨T', X', e', f⟩ := initO X hx hZ hown w1 w2 w3 eT (g := mkF m pc Ls (.ref a :: st)) rfl hsz rfl hd hf (W := W) (by show 2 * 0 + _ ≤ _; omega) hl
  exact ⟨T', X', e', fun G => Go.of G f⟩
theorem g_newP (X : Stand p l e R s m args below meth c T locs cells slots) (hx : p.tables.exec = Jvm.exec) (hZ : Z.Warmed39 s.vm) {aty : ArrayType} (w : (Jvm.Cond.arrayClass (newarray.typeOf aty)).before a0 Z = true) (eT : T.heap = h) {n : Int32} (cap : Nat) (hn : ¬ n < 0) (hcap : n.toNatClampNeg ≤ cap) (hbig : cap * 8 ≤ 536870912) (hc : cells + 1 ≤ R.cells) (hl : slots + cap ≤ R.slots)
    {pc : Nat} (pc' : Nat) {Ls : Array Slot} {st : List Value} (hd : decode c.code pc = .ok (.newarray aty, 2)) (hp : pc + 2 = pc') :
    ∃ T' h' a cA, Stand p l e R s m args below meth c T' locs (cells + 1) (slots + cap) ∧ T'.heap = h' ∧ a = h.size ∧ Ext h h' ∧ Arr Z h' a (newA cA (newarray.typeOf aty) n) (newarray.typeOf aty) ∧
      ∀ {P : State → Outcome → Prop}, Go p e below P (T'.setTop (mkF m pc' Ls (.ref a :: st))) → Go p e below P (T.setTop (mkF m pc Ls (.int n :: st))) := by
  subst hp
  obtain ⟨T', h', cA, X', e', E, A, f⟩ := newP X hx hZ w eT (g := mkF m pc Ls (.int n :: st)) rfl hd rfl hn hcap hbig hc hl
  exact ⟨T', h', _, cA, X', e', rfl, E, A, fun G => Go.of G f⟩
theorem g_callI (X : Stand p l e R s m args below meth c T locs cells slots) (hx : p.tables.exec = Jvm.exec) (hZ : Z.Warmed39 s.vm) {own : String} {index : Nat} {y : MethodName} {bytes : ByteArray} {maxL : Nat} {rm : Room} {a : Addr} {as' : List Value} {Q' : Option Value → Heap → List Loc → Prop} (hy1 : y.name = "<init>")
    (hown : s.vm.findClass own = some m.cls) (w1 : (Jvm.Cond.methodLink own index y).before a0 Z = true) (w2 : (Jvm.Cond.instanceMethod y).before a0 Z = true) (w3 : (Jvm.Cond.initialized y.cls).before a0 Z = true) (w4 : (Jvm.Cond.code y bytes maxL none).before a0 Z = true)
    (np : y.cls ≠ "java/lang/invoke/MethodHandle" ∧ y.cls ≠ "java/lang/invoke/VarHandle") (eT : T.heap = h)
    (hM : MetFree l y (head1 [Jvm.Cond.code y bytes maxL none] rm) (fun b U => b = (.ref a :: as').toArray ∧ Z.Warmed39 U.vm ∧ U.heap = h) (fun _ _ _ _ _ => True) (fun _ U o U' => ∃ v L, o = .returned v ∧ Q' v U'.heap L ∧ FrameEnd U o U' L rm.cells rm.slots))
    {ps : List FieldType} {rt : Option FieldType} (pd : parseMethodDescriptor y.desc = some ⟨ps, rt⟩) (hlen : as'.length = ps.length)
    (W : Nat) (hf : rm.frames + 1 ≤ R.frames) (hl : W + (maxL + 11) + rm.locals ≤ R.locals) (hc : cells + rm.cells ≤ R.cells) (hs : slots + rm.slots ≤ R.slots)
    {pc : Nat} {Ls : Array Slot} {rest st : List Value} (hsz : Ls.size = c.maxLocals) (hst : st = as'.reverse ++ .ref a :: rest) (hW : (rest.map fun v => v.category).sum ≤ W) (hd : decode c.code pc = .ok (.invokespecial index, 3)) :
    ∃ v T' L, Stand p l e R s m args below meth c T' (locs ++ L) (cells + rm.cells) (slots + rm.slots) ∧ Q' v T'.heap L ∧ ∀ {P : State → Outcome → Prop}, Go p e below P (T'.setTop (mkF m (pc + 3) Ls (v.toList ++ rest))) → Go p e below P (T.setTop (mkF m pc Ls st)) := by
  obtain ⟨v, _, ⟨T', L', k', n'⟩, -, X', ⟨L, hQ, l1, y1, z1⟩, st'⟩ := X.specialBack hx (y := y) hy1 hown (mvT hZ w1) (mvT hZ w2) (mvT hZ w4) np (backOf (W := W) hM hZ w4 w3 hf hl) (g := mkF m pc Ls st) rfl hsz (Steps.refl _) (a := a) (argsL := as') (rest := rest) (lenOf pd hlen) hst (by show 2 * 0 + _ ≤ _; omega) hd (fun _ _ => ⟨rfl, eT, hc, hs⟩)
  dsimp only [Pt.U, Pt.locs, Pt.cells, Pt.slots] at X' l1 y1 z1 st' hQ
  subst l1 y1 z1
  exact ⟨v, T', L, X', hQ, fun G => Go.of G fun _ q => st'.trans q⟩
theorem g_callV (X : Stand p l e R s m args below meth c T locs cells slots) (hx : p.tables.exec = Jvm.exec) (hZ : Z.Warmed39 s.vm) {own C : String} {index : Nat} {y z : MethodName} {bytes : ByteArray} {maxL : Nat} {ret : Option FieldType} {rm : Room} {a : Addr} {as' : List Value} {Q' : Option Value → Heap → List Loc → Prop}
    (hown : s.vm.findClass own = some m.cls) (w1 : (Jvm.Cond.methodLink own index y).before a0 Z = true) (w2 : (Jvm.Cond.declares y).before a0 Z = true) (w5 : (Jvm.Cond.selects y.cls y y).before a0 Z = true) (w6 : (Jvm.Cond.selects C y z).before a0 Z = true) (w7 : (Jvm.Cond.instanceMethod z).before a0 Z = true) (w3 : (Jvm.Cond.initialized z.cls).before a0 Z = true) (w4 : (Jvm.Cond.code z bytes maxL ret).before a0 Z = true)
    (np : y.cls ≠ "java/lang/invoke/MethodHandle" ∧ y.cls ≠ "java/lang/invoke/VarHandle") (eT : T.heap = h) (E : Exa Z h a C)
    (hM : MetFree l z (head1 [Jvm.Cond.code z bytes maxL ret] rm) (fun b U => b = (.ref a :: as').toArray ∧ Z.Warmed39 U.vm ∧ U.heap = h) (fun _ _ _ _ _ => True) (fun _ U o U' => ∃ v L, o = .returned v ∧ Q' v U'.heap L ∧ FrameEnd U o U' L rm.cells rm.slots))
    {ps : List FieldType} {rt : Option FieldType} (pd : parseMethodDescriptor y.desc = some ⟨ps, rt⟩) (hlen : as'.length = ps.length)
    (W : Nat) (hf : rm.frames + 1 ≤ R.frames) (hl : W + (maxL + 11) + rm.locals ≤ R.locals) (hc : cells + rm.cells ≤ R.cells) (hs : slots + rm.slots ≤ R.slots)
    {pc : Nat} {Ls : Array Slot} {rest st : List Value} (hsz : Ls.size = c.maxLocals) (hst : st = as'.reverse ++ .ref a :: rest) (hW : (rest.map fun v => v.category).sum ≤ W) (hd : decode c.code pc = .ok (.invokevirtual index, 3)) :
    ∃ v T' L, Stand p l e R s m args below meth c T' (locs ++ L) (cells + rm.cells) (slots + rm.slots) ∧ Q' v T'.heap L ∧ ∀ {P : State → Outcome → Prop}, Go p e below P (T'.setTop (mkF m (pc + 3) Ls (v.toList ++ rest))) → Go p e below P (T.setTop (mkF m pc Ls st)) := by
  obtain ⟨cq, kq, qa, qb, qc⟩ := isOf hZ eT E
  obtain ⟨v, _, ⟨T', L', k', n'⟩, -, X', ⟨L, hQ, l1, y1, z1⟩, st'⟩ := X.virtualBack hx (y := y) (z := z) hown (mvT hZ w1) (mvT hZ w2) (notFace_of_selects (args := #[]) (mvT hZ w5)) (mvT hZ w6) (mvT hZ w7) np (backOf (W := W) hM hZ w4 w3 hf hl) qa qc (g := mkF m pc Ls st) rfl hsz (Steps.refl _) (argsL := as') (rest := rest) (lenOf pd hlen) hst (by show 2 * 0 + _ ≤ _; omega) hd (fun _ _ => ⟨rfl, eT, hc, hs⟩)
  dsimp only [Pt.U, Pt.locs, Pt.cells, Pt.slots] at X' l1 y1 z1 st' hQ
  subst l1 y1 z1
  exact ⟨v, T', L, X', hQ, fun G => Go.of G fun _ q => st'.trans q⟩
theorem g_callVP (X : Stand p l e R s m args below meth c T locs cells slots) (hx : p.tables.exec = Jvm.exec) (hZ : Z.Warmed39 s.vm) {own C : String} {index : Nat} {y z : MethodName} {bytes : ByteArray} {maxL : Nat} {ret : Option FieldType} {rm : Room} {a : Addr} {as' : List Value} {w : Option Value}
    (hown : s.vm.findClass own = some m.cls) (w1 : (Jvm.Cond.methodLink own index y).before a0 Z = true) (w2 : (Jvm.Cond.declares y).before a0 Z = true) (w5 : (Jvm.Cond.selects y.cls y y).before a0 Z = true) (w6 : (Jvm.Cond.selects C y z).before a0 Z = true) (w7 : (Jvm.Cond.instanceMethod z).before a0 Z = true) (w3 : (Jvm.Cond.initialized z.cls).before a0 Z = true) (w4 : (Jvm.Cond.code z bytes maxL ret).before a0 Z = true)
    (np : y.cls ≠ "java/lang/invoke/MethodHandle" ∧ y.cls ≠ "java/lang/invoke/VarHandle") (eT : T.heap = h) (E : Exa Z h a C)
    (hM : MetFree l z (head1 [Jvm.Cond.code z bytes maxL ret] rm) (fun b U => b = (.ref a :: as').toArray ∧ Z.Warmed39 U.vm ∧ U.heap = h) (fun _ _ _ _ _ => True) (fun _ U o U' => ∃ v L, o = .returned v ∧ Pur w h v U'.heap L ∧ FrameEnd U o U' L rm.cells rm.slots))
    {ps : List FieldType} {rt : Option FieldType} (pd : parseMethodDescriptor y.desc = some ⟨ps, rt⟩) (hlen : as'.length = ps.length)
    (W : Nat) (hf : rm.frames + 1 ≤ R.frames) (hl : W + (maxL + 11) + rm.locals ≤ R.locals) (hc : cells + rm.cells ≤ R.cells) (hs : slots + rm.slots ≤ R.slots) (h0 : rm.cells = 0) (h1 : rm.slots = 0)
    {pc pc' : Nat} {Ls : Array Slot} {rest st : List Value} (hsz : Ls.size = c.maxLocals) (hst : st = as'.reverse ++ .ref a :: rest) (hW : (rest.map fun v => v.category).sum ≤ W) (hd : decode c.code pc = .ok (.invokevirtual index, 3)) (hp : pc + 3 = pc') :
    ∃ T', Stand p l e R s m args below meth c T' locs cells slots ∧ T'.heap = h ∧ ∀ {P : State → Outcome → Prop}, Go p e below P (T'.setTop (mkF m pc' Ls (w.toList ++ rest))) → Go p e below P (T.setTop (mkF m pc Ls st)) := by
  obtain ⟨v, T', L, X', ⟨rfl, rfl, e1⟩, st'⟩ := g_callV X hx hZ hown w1 w2 w5 w6 w7 w3 w4 np eT E hM pd hlen W hf hl hc hs hsz hst hW hd
  subst hp
  rw [h0, h1, List.append_nil] at X'
  exact ⟨T', X', e1, st'⟩


theorem own_clamp {j : Int32} {k : Nat} (hj : j.toInt = (k : Int)) : j.toNatClampNeg = k ∧ ¬ j < 0 := by
  refine ⟨by unfold Int32.toNatClampNeg; rw [hj]; rfl, ?_⟩
  rw [Int32.lt_iff_toInt_lt, hj]; have : (0 : Int32).toInt = 0 := rfl; omega
/-- at a lies an array of kind ty that holds just vs -/
def Arl (Z : State) (h : Heap) (a : Addr) (ty : FieldType) (vs : List Value) : Prop := ∃ cl : Cell, Arr Z h a cl ty ∧ cl.slots = vs.toArray
theorem Arl.new {a : Addr} {ty : FieldType} {cA : ClassId} {z : Int32} {n : Nat} (A : Arr Z h a (newA cA ty z) ty) (hz : z.toNatClampNeg = n) : Arl Z h a ty (List.replicate n (defaultValue ty)) :=
  ⟨_, A, by show Array.replicate z.toNatClampNeg (defaultValue ty) = _; rw [hz]; simp⟩
theorem Arl.ext {a : Addr} {ty : FieldType} {vs : List Value} {h' : Heap} (B : Arl Z h a ty vs) (E : Ext h h') : Arl Z h' a ty vs := by obtain ⟨cl, A, r⟩ := B; exact ⟨cl, A.ext E, r⟩
theorem Arl.keep {a : Addr} {ty : FieldType} {vs : List Value} {h' : Heap} {ws : List Addr} (B : Arl Z h a ty vs) (K : Keep h h' ws) (q : a ∉ ws) : Arl Z h' a ty vs := by obtain ⟨cl, A, r⟩ := B; exact ⟨cl, ⟨K.2.1 a cl A.1 q, A.2⟩, r⟩
theorem Arl.other {a b : Addr} {ty : FieldType} {vs : List Value} {h' : Heap} {sl : Nat} {v : Value} (B : Arl Z h b ty vs) (W : Wr h h' a sl v) (q : b ≠ a) : Arl Z h' b ty vs := by obtain ⟨cl, A, r⟩ := B; exact ⟨cl, A.other W q, r⟩
theorem Arl.lt {a : Addr} {ty : FieldType} {vs : List Value} (B : Arl Z h a ty vs) : a < h.size := by obtain ⟨cl, A, r⟩ := B; exact A.lt
theorem Arl.to {a : Addr} {ty : FieldType} {vs vs' : List Value} (B : Arl Z h a ty vs) (q : vs = vs') : Arl Z h a ty vs' := q ▸ B
theorem Arl.set {a : Addr} {ty : FieldType} {vs : List Value} {h' : Heap} {k : Nat} {v : Value} (B : Arl Z h a ty vs) (W : Wr h h' a k v) : Arl Z h' a ty (vs.set k v) := by
  obtain ⟨cl, A, r⟩ := B
  exact ⟨_, A.same W, by show cl.slots.setIfInBounds k v = _; rw [r]; simp⟩
theorem Arl.of_arv {a : Addr} {ty : FieldType} {k : ClassId} {z : Int32} {vs : List Value} {dv : Value} (B : Arv Z h a k ty z vs dv) (hl : z.toNatClampNeg = vs.length) : Arl Z h a ty vs := by
  obtain ⟨cl, A, -, S, -, H, -⟩ := B
  refine ⟨cl, A, Array.ext_getElem? fun i => ?_⟩
  by_cases hi : i < cl.slots.size
  · rw [H i hi]; rw [S, hl] at hi; simp [List.getD_eq_getElem?_getD, hi]
  · rw [Array.getElem?_eq_none (by omega), Array.getElem?_eq_none (by rw [S, hl] at hi; simpa using hi)]
theorem ne_exl {a b : Addr} {ty : FieldType} {vs : List Value} {C : String} {k : Nat} (F : Exa Z h a C) (wi : (Jvm.Cond.instantiable C k).before a0 Z = true) (G : Arl Z h b ty vs) : a ≠ b := by obtain ⟨cl, A, r⟩ := G; exact ne_arr F wi A
theorem g_alen (X : Stand p l e R s m args below meth c T locs cells slots) (hx : p.tables.exec = Jvm.exec) (hZ : Z.Warmed39 s.vm) (eT : T.heap = h) {a : Addr} {ty : FieldType} {vs : List Value} (B : Arl Z h a ty vs) (z : Int32) (hz : vs.length.toInt32 = z)
    {pc : Nat} (pc' : Nat) {Ls : Array Slot} {st : List Value} (hd : decode c.code pc = .ok (.arraylength, 1)) (hp : pc + 1 = pc') (G : Go p e below P (T.setTop (mkF m pc' Ls (.int z :: st)))) : Go p e below P (T.setTop (mkF m pc Ls (.ref a :: st))) := by
  subst hp
  obtain ⟨cl, A, r⟩ := B
  exact Go.of G fun _ k' => X.arraylength hx (by rw [eT]; exact A.1) (State.isArrayOf_alike hZ.alike A.2.1) (g := mkF m pc Ls (.ref a :: st)) rfl rfl hd _ (by rw [r, List.size_toArray, hz]; exact k')

theorem g_iaload (X : Stand p l e R s m args below meth c T locs cells slots) (hx : p.tables.exec = Jvm.exec) (hZ : Z.Warmed39 s.vm) (eT : T.heap = h) {a : Addr} {vs : List Value} (B : Arl Z h a .int vs) {j : Int32} {k : Nat} (hj : j.toInt = (k : Int)) (v : Value) (hv : vs[k]? = some v)
    {pc : Nat} (pc' : Nat) {Ls : Array Slot} {st : List Value} (hd : decode c.code pc = .ok (.iaload, 1)) (hp : pc + 1 = pc') (G : Go p e below P (T.setTop (mkF m pc' Ls (v :: st)))) : Go p e below P (T.setTop (mkF m pc Ls (.int j :: .ref a :: st))) := by
  subst hp
  obtain ⟨cl, A, r⟩ := B
  obtain ⟨c1, c2⟩ := own_clamp hj
  have hk := (List.getElem?_eq_some_iff.mp hv).1
  exact Go.of G fun _ k' => X.iaload hx (by rw [eT]; exact A.1) (State.isArrayOf_alike hZ.alike A.2.1) A.2.2 (by rw [c1, r, List.size_toArray]; intro z; rcases z with z | z; exact c2 z; omega) (by rw [c1, r, List.getElem?_toArray]; exact hv) (g := mkF m pc Ls (.int j :: .ref a :: st)) rfl rfl hd _ k'
theorem g_laload (X : Stand p l e R s m args below meth c T locs cells slots) (hx : p.tables.exec = Jvm.exec) (hZ : Z.Warmed39 s.vm) (eT : T.heap = h) {a : Addr} {vs : List Value} (B : Arl Z h a .long vs) {j : Int32} {k : Nat} (hj : j.toInt = (k : Int)) (v : Value) (hv : vs[k]? = some v)
    {pc : Nat} (pc' : Nat) {Ls : Array Slot} {st : List Value} (hd : decode c.code pc = .ok (.laload, 1)) (hp : pc + 1 = pc') (G : Go p e below P (T.setTop (mkF m pc' Ls (v :: st)))) : Go p e below P (T.setTop (mkF m pc Ls (.int j :: .ref a :: st))) := by
  subst hp
  obtain ⟨cl, A, r⟩ := B
  obtain ⟨c1, c2⟩ := own_clamp hj
  have hk := (List.getElem?_eq_some_iff.mp hv).1
  exact Go.of G fun _ k' => X.laload hx (by rw [eT]; exact A.1) (State.isArrayOf_alike hZ.alike A.2.1) A.2.2 (by rw [c1, r, List.size_toArray]; intro z; rcases z with z | z; exact c2 z; omega) (by rw [c1, r, List.getElem?_toArray]; exact hv) (g := mkF m pc Ls (.int j :: .ref a :: st)) rfl rfl hd _ k'
theorem g_caload (X : Stand p l e R s m args below meth c T locs cells slots) (hx : p.tables.exec = Jvm.exec) (hZ : Z.Warmed39 s.vm) (eT : T.heap = h) {a : Addr} {vs : List Value} (B : Arl Z h a .char vs) {j : Int32} {k : Nat} (hj : j.toInt = (k : Int)) (v : Value) (hv : vs[k]? = some v)
    {pc : Nat} (pc' : Nat) {Ls : Array Slot} {st : List Value} (hd : decode c.code pc = .ok (.caload, 1)) (hp : pc + 1 = pc') (G : Go p e below P (T.setTop (mkF m pc' Ls (v :: st)))) : Go p e below P (T.setTop (mkF m pc Ls (.int j :: .ref a :: st))) := by
  subst hp
  obtain ⟨cl, A, r⟩ := B
  obtain ⟨c1, c2⟩ := own_clamp hj
  have hk := (List.getElem?_eq_some_iff.mp hv).1
  exact Go.of G fun _ k' => X.caload hx (by rw [eT]; exact A.1) (State.isArrayOf_alike hZ.alike A.2.1) A.2.2 (by rw [c1, r, List.size_toArray]; intro z; rcases z with z | z; exact c2 z; omega) (by rw [c1, r, List.getElem?_toArray]; exact hv) (g := mkF m pc Ls (.int j :: .ref a :: st)) rfl rfl hd _ k'
theorem g_baload (X : Stand p l e R s m args below meth c T locs cells slots) (hx : p.tables.exec = Jvm.exec) (hZ : Z.Warmed39 s.vm) (eT : T.heap = h) {a : Addr} {vs : List Value} (B : Arl Z h a .byte vs) {j : Int32} {k : Nat} (hj : j.toInt = (k : Int)) (v : Value) (hv : vs[k]? = some v)
    {pc : Nat} (pc' : Nat) {Ls : Array Slot} {st : List Value} (hd : decode c.code pc = .ok (.baload, 1)) (hp : pc + 1 = pc') (G : Go p e below P (T.setTop (mkF m pc' Ls (v :: st)))) : Go p e below P (T.setTop (mkF m pc Ls (.int j :: .ref a :: st))) := by
  subst hp
  obtain ⟨cl, A, r⟩ := B
  obtain ⟨c1, c2⟩ := own_clamp hj
  have hk := (List.getElem?_eq_some_iff.mp hv).1
  exact Go.of G fun _ k' => X.baloadBytes hx (by rw [eT]; exact A.1) (State.isArrayOf_alike hZ.alike A.2.1) A.2.2 (by rw [c1, r, List.size_toArray]; intro z; rcases z with z | z; exact c2 z; omega) (by rw [c1, r, List.getElem?_toArray]; exact hv) (g := mkF m pc Ls (.int j :: .ref a :: st)) rfl rfl hd _ k'
theorem g_zaload (X : Stand p l e R s m args below meth c T locs cells slots) (hx : p.tables.exec = Jvm.exec) (hZ : Z.Warmed39 s.vm) (eT : T.heap = h) {a : Addr} {vs : List Value} (B : Arl Z h a .boolean vs) {j : Int32} {k : Nat} (hj : j.toInt = (k : Int)) (v : Value) (hv : vs[k]? = some v)
    {pc : Nat} (pc' : Nat) {Ls : Array Slot} {st : List Value} (hd : decode c.code pc = .ok (.baload, 1)) (hp : pc + 1 = pc') (G : Go p e below P (T.setTop (mkF m pc' Ls (v :: st)))) : Go p e below P (T.setTop (mkF m pc Ls (.int j :: .ref a :: st))) := by
  subst hp
  obtain ⟨cl, A, r⟩ := B
  obtain ⟨c1, c2⟩ := own_clamp hj
  have hk := (List.getElem?_eq_some_iff.mp hv).1
  exact Go.of G fun _ k' => X.baloadBooleans hx (by rw [eT]; exact A.1) (State.isArrayOf_alike hZ.alike A.2.1) A.2.2 (by rw [c1, r, List.size_toArray]; intro z; rcases z with z | z; exact c2 z; omega) (by rw [c1, r, List.getElem?_toArray]; exact hv) (g := mkF m pc Ls (.int j :: .ref a :: st)) rfl rfl hd _ k'
theorem g_iastore (X : Stand p l e R s m args below meth c T locs cells slots) (hx : p.tables.exec = Jvm.exec) (hZ : Z.Warmed39 s.vm) (eT : T.heap = h) {a : Addr} {vs : List Value} (B : Arl Z h a .int vs) {j : Int32} (x : Int32) {k : Nat} (hj : j.toInt = (k : Int)) (hk : k < vs.length)
    {pc : Nat} (pc' : Nat) {Ls : Array Slot} {st : List Value} (hd : decode c.code pc = .ok (.iastore, 1)) (hp : pc + 1 = pc') :
    ∃ T' h', Stand p l e R s m args below meth c T' (locs ++ [⟨a, k⟩]) cells slots ∧ T'.heap = h' ∧ Wr h h' a k (.int x) ∧ Arl Z h' a .int (vs.set k (.int x)) ∧
      ∀ {P : State → Outcome → Prop}, Go p e below P (T'.setTop (mkF m pc' Ls st)) → Go p e below P (T.setTop (mkF m pc Ls (.int x :: .int j :: .ref a :: st))) := by
  subst hp
  have B0 := B
  obtain ⟨cl, A, r⟩ := B
  obtain ⟨c1, c2⟩ := own_clamp hj
  obtain ⟨T', h', X', e', W, f'⟩ := stI X hx hZ eT A (j := j) (x := x) (by rw [c1, r, List.size_toArray]; intro z; rcases z with z | z; exact c2 z; omega) (g := mkF m pc Ls (.int x :: .int j :: .ref a :: st)) rfl rfl hd
  rw [c1] at X' W
  exact ⟨T', h', X', e', W, B0.set W, fun G => Go.of G f'⟩
theorem g_lastore (X : Stand p l e R s m args below meth c T locs cells slots) (hx : p.tables.exec = Jvm.exec) (hZ : Z.Warmed39 s.vm) (eT : T.heap = h) {a : Addr} {vs : List Value} (B : Arl Z h a .long vs) {j : Int32} (x : Int64) {k : Nat} (hj : j.toInt = (k : Int)) (hk : k < vs.length)
    {pc : Nat} (pc' : Nat) {Ls : Array Slot} {st : List Value} (hd : decode c.code pc = .ok (.lastore, 1)) (hp : pc + 1 = pc') :
    ∃ T' h', Stand p l e R s m args below meth c T' (locs ++ [⟨a, k⟩]) cells slots ∧ T'.heap = h' ∧ Wr h h' a k (.long x) ∧ Arl Z h' a .long (vs.set k (.long x)) ∧
      ∀ {P : State → Outcome → Prop}, Go p e below P (T'.setTop (mkF m pc' Ls st)) → Go p e below P (T.setTop (mkF m pc Ls (.long x :: .int j :: .ref a :: st))) := by
  subst hp
  have B0 := B
  obtain ⟨cl, A, r⟩ := B
  obtain ⟨c1, c2⟩ := own_clamp hj
  obtain ⟨T', h', X', e', W, f'⟩ := stJ X hx hZ eT A (j := j) (x := x) (by rw [c1, r, List.size_toArray]; intro z; rcases z with z | z; exact c2 z; omega) (g := mkF m pc Ls (.long x :: .int j :: .ref a :: st)) rfl rfl hd
  rw [c1] at X' W
  exact ⟨T', h', X', e', W, B0.set W, fun G => Go.of G f'⟩
theorem g_castore (X : Stand p l e R s m args below meth c T locs cells slots) (hx : p.tables.exec = Jvm.exec) (hZ : Z.Warmed39 s.vm) (eT : T.heap = h) {a : Addr} {vs : List Value} (B : Arl Z h a .char vs) {j : Int32} (x : Int32) {k : Nat} (hj : j.toInt = (k : Int)) (hk : k < vs.length)
    {pc : Nat} (pc' : Nat) {Ls : Array Slot} {st : List Value} (hd : decode c.code pc = .ok (.castore, 1)) (hp : pc + 1 = pc') :
    ∃ T' h', Stand p l e R s m args below meth c T' (locs ++ [⟨a, k⟩]) cells slots ∧ T'.heap = h' ∧ Wr h h' a k (.int (nar .char x)) ∧ Arl Z h' a .char (vs.set k (.int (nar .char x))) ∧
      ∀ {P : State → Outcome → Prop}, Go p e below P (T'.setTop (mkF m pc' Ls st)) → Go p e below P (T.setTop (mkF m pc Ls (.int x :: .int j :: .ref a :: st))) := by
  subst hp
  have B0 := B
  obtain ⟨cl, A, r⟩ := B
  obtain ⟨c1, c2⟩ := own_clamp hj
  obtain ⟨T', h', X', e', W, f'⟩ := stC X hx hZ eT A (j := j) (x := x) (by rw [c1, r, List.size_toArray]; intro z; rcases z with z | z; exact c2 z; omega) (g := mkF m pc Ls (.int x :: .int j :: .ref a :: st)) rfl rfl hd
  rw [c1] at X' W
  exact ⟨T', h', X', e', W, B0.set W, fun G => Go.of G f'⟩
theorem g_bastore (X : Stand p l e R s m args below meth c T locs cells slots) (hx : p.tables.exec = Jvm.exec) (hZ : Z.Warmed39 s.vm) (eT : T.heap = h) {a : Addr} {vs : List Value} (B : Arl Z h a .byte vs) {j : Int32} (x : Int32) {k : Nat} (hj : j.toInt = (k : Int)) (hk : k < vs.length)
    {pc : Nat} (pc' : Nat) {Ls : Array Slot} {st : List Value} (hd : decode c.code pc = .ok (.bastore, 1)) (hp : pc + 1 = pc') :
    ∃ T' h', Stand p l e R s m args below meth c T' (locs ++ [⟨a, k⟩]) cells slots ∧ T'.heap = h' ∧ Wr h h' a k (.int (nar .byte x)) ∧ Arl Z h' a .byte (vs.set k (.int (nar .byte x))) ∧
      ∀ {P : State → Outcome → Prop}, Go p e below P (T'.setTop (mkF m pc' Ls st)) → Go p e below P (T.setTop (mkF m pc Ls (.int x :: .int j :: .ref a :: st))) := by
  subst hp
  have B0 := B
  obtain ⟨cl, A, r⟩ := B
  obtain ⟨c1, c2⟩ := own_clamp hj
  obtain ⟨T', h', X', e', W, f'⟩ := stB X hx hZ eT A (j := j) (x := x) (by rw [c1, r, List.size_toArray]; intro z; rcases z with z | z; exact c2 z; omega) (g := mkF m pc Ls (.int x :: .int j :: .ref a :: st)) rfl rfl hd
  rw [c1] at X' W
  exact ⟨T', h', X', e', W, B0.set W, fun G => Go.of G f'⟩
theorem g_zastore (X : Stand p l e R s m args below meth c T locs cells slots) (hx : p.tables.exec = Jvm.exec) (hZ : Z.Warmed39 s.vm) (eT : T.heap = h) {a : Addr} {vs : List Value} (B : Arl Z h a .boolean vs) {j : Int32} (x : Int32) {k : Nat} (hj : j.toInt = (k : Int)) (hk : k < vs.length)
    {pc : Nat} (pc' : Nat) {Ls : Array Slot} {st : List Value} (hd : decode c.code pc = .ok (.bastore, 1)) (hp : pc + 1 = pc') :
    ∃ T' h', Stand p l e R s m args below meth c T' (locs ++ [⟨a, k⟩]) cells slots ∧ T'.heap = h' ∧ Wr h h' a k (.int (nar .boolean x)) ∧ Arl Z h' a .boolean (vs.set k (.int (nar .boolean x))) ∧
      ∀ {P : State → Outcome → Prop}, Go p e below P (T'.setTop (mkF m pc' Ls st)) → Go p e below P (T.setTop (mkF m pc Ls (.int x :: .int j :: .ref a :: st))) := by
  subst hp
  have B0 := B
  obtain ⟨cl, A, r⟩ := B
  obtain ⟨c1, c2⟩ := own_clamp hj
  obtain ⟨T', h', X', e', W, f'⟩ := stZ X hx hZ eT A (j := j) (x := x) (by rw [c1, r, List.size_toArray]; intro z; rcases z with z | z; exact c2 z; omega) (g := mkF m pc Ls (.int x :: .int j :: .ref a :: st)) rfl rfl hd
  rw [c1] at X' W
  exact ⟨T', h', X', e', W, B0.set W, fun G => Go.of G f'⟩

/-- the end of a method that may have loaded String constants for the first time -/
def EndW (below : List Frame) (s : State) (Q : Option Value → Vm → Heap → List Loc → Prop) (kc ks : Nat) (s₂ : State) (o : Outcome) : Prop := s₂.status = .running ∧ Ended s₂ below o ∧ ∃ v L, o = .returned v ∧ Q v s₂.vm s₂.heap L ∧ ReturnedEndW s o s₂ L kc ks
theorem endW_of {vm0 : Vm} {k0 : Nat} {Qw : Option Value → Vm → Heap → List Loc → Prop} (X : Stand p l e R (s.setVm vm0) m args below meth c T locs cells slots) (hS : s.Since vm0 k0) (hk : k0 ≤ T.heap.size) (hlk : meth.locks = false) {v : Option Value} (hv : meth.sig.returnType = none → v = none) (hc : cells ≤ kc) (hs : slots ≤ ks) (hQ : Qw v T.vm T.heap locs) {s₀ : State}
    (st : ∀ fs, (∀ (f : JFrame) (acts : List Action), f.method = m → f.locked = none → f.entered = [] → (doReturn e (T.setTop f) acts v).1 = T.setFrames fs) → Steps p.tables e below s₀ (T.setFrames fs)) : Go p e below (EndW below s Qw kc ks) s₀ := by
  obtain ⟨fs, hr, hrun, hended, hW⟩ := X.leaveW hS hk hv hlk
  exact ⟨_, _, st fs hr, hrun, hended, _, _, rfl, hQ, hW.1, hW.2.1, hW.2.2.1, hW.2.2.2.mono hc hs⟩
theorem GoW.ret {vm0 : Vm} {k0 : Nat} {Qw : Option Value → Vm → Heap → List Loc → Prop} (X : Stand p l e R (s.setVm vm0) m args below meth c T locs cells slots) (hS : s.Since vm0 k0) (hk : k0 ≤ T.heap.size) (hx : p.tables.exec = Jvm.exec) (hlk : meth.locks = false) {pc : Nat} {Ls : Array Slot} {w : Value} {t : FieldType} {i : Instr} {rest : List Value} (hret : meth.sig.returnType = some t) (hd : decode c.code pc = .ok (i, 1)) (hn : narrow t w = w)
    (hi : (i = .ireturn ∧ (t = .int ∨ t = .boolean ∨ t = .byte ∨ t = .char ∨ t = .short) ∧ ∃ z, w = .int z) ∨ (i = .lreturn ∧ t = .long ∧ ∃ z, w = .long z) ∨ (i = .dreturn ∧ t = .double ∧ ∃ z, w = .double z) ∨ (i = .freturn ∧ t = .float ∧ ∃ z, w = .float z) ∨ (i = .areturn ∧ t.isReference = true ∧ w.isRef = true))
    (hc : cells ≤ kc) (hs : slots ≤ ks) (hQ : Qw (some w) T.vm T.heap locs) : Go p e below (EndW below s Qw kc ks) (T.setTop (mkF m pc Ls (w :: rest))) :=
  endW_of X hS hk hlk (fun h => by rw [hret] at h; cases h) hc hs hQ fun fs hr => retOut X hx hret hn hi hd hr
theorem GoW.retV {vm0 : Vm} {k0 : Nat} {Qw : Option Value → Vm → Heap → List Loc → Prop} (X : Stand p l e R (s.setVm vm0) m args below meth c T locs cells slots) (hS : s.Since vm0 k0) (hk : k0 ≤ T.heap.size) (hx : p.tables.exec = Jvm.exec) (hlk : meth.locks = false) {pc : Nat} {Ls : Array Slot} (hret : meth.sig.returnType = none) (hd : decode c.code pc = .ok (.return_, 1))
    (hc : cells ≤ kc) (hs : slots ≤ ks) (hQ : Qw none T.vm T.heap locs) : Go p e below (EndW below s Qw kc ks) (T.setTop (mkF m pc Ls [])) :=
  endW_of X hS hk hlk (fun _ => rfl) hc hs hQ fun fs hr => X.returnOut hx hret hd hr
theorem GoW.retZ {vm0 : Vm} {k0 : Nat} {Qw : Option Value → Vm → Heap → List Loc → Prop} (X : Stand p l e R (s.setVm vm0) m args below meth c T locs cells slots) (hS : s.Since vm0 k0) (hk : k0 ≤ T.heap.size) (hx : p.tables.exec = Jvm.exec) (hlk : meth.locks = false) {pc : Nat} {Ls : Array Slot} {z : Int32} {t : FieldType} {rest : List Value} (hret : meth.sig.returnType = some t) (ht : t = .boolean ∨ t = .byte ∨ t = .char ∨ t = .short) (hd : decode c.code pc = .ok (.ireturn, 1))
    (hc : cells ≤ kc) (hs : slots ≤ ks) (hQ : Qw (some (.int (nar t z))) T.vm T.heap locs) : Go p e below (EndW below s Qw kc ks) (T.setTop (mkF m pc Ls (.int z :: rest))) :=
  endW_of X hS hk hlk (fun h => by rw [hret] at h; cases h) hc hs hQ fun fs hr => retN X hx hret ht hd hr
theorem GoW.retA {vm0 : Vm} {k0 : Nat} {Qw : Option Value → Vm → Heap → List Loc → Prop} (X : Stand p l e R (s.setVm vm0) m args below meth c T locs cells slots) (hS : s.Since vm0 k0) (hk : k0 ≤ T.heap.size) (hx : p.tables.exec = Jvm.exec) (hlk : meth.locks = false) {pc : Nat} {Ls : Array Slot} {w : Value} {t : FieldType} {rest : List Value} (hret : meth.sig.returnType = some t) (ht : t.isReference = true) (hw : w.isRef = true) (hd : decode c.code pc = .ok (.areturn, 1))
    (hc : cells ≤ kc) (hs : slots ≤ ks) (hQ : Qw (some w) T.vm T.heap locs) : Go p e below (EndW below s Qw kc ks) (T.setTop (mkF m pc Ls (w :: rest))) :=
  GoW.ret X hS hk hx hlk hret hd (by cases t <;> first | (cases ht; done) | rfl) (Or.inr (Or.inr (Or.inr (Or.inr ⟨rfl, ht, hw⟩)))) hc hs hQ
/-- a String: its coder, its array, the bytes -/
def Stl (Z : State) (h : Heap) (a b : Addr) (co : Int32) (vs : List Value) : Prop := Exa Z h a "java/lang/String" ∧ Fld Z h a "java/lang/String" "coder" "B" (.int co) ∧ Fld Z h a "java/lang/String" "value" "[B" (.ref b) ∧ Arl Z h b .byte vs
theorem Stl.ext {a b : Addr} {co : Int32} {vs : List Value} {h' : Heap} (F : Stl Z h a b co vs) (E : Ext h h') : Stl Z h' a b co vs := ⟨F.1.ext E, F.2.1.ext E, F.2.2.1.ext E, F.2.2.2.ext E⟩
theorem Stl.keep {a b : Addr} {co : Int32} {vs : List Value} {h' : Heap} {ws : List Addr} (F : Stl Z h a b co vs) (K : Keep h h' ws) (q : a ∉ ws) (r : b ∉ ws) : Stl Z h' a b co vs := ⟨F.1.keep K, F.2.1.keep K q, F.2.2.1.keep K q, F.2.2.2.keep K r⟩
theorem g_ldcC {vm0 : Vm} {k0 : Nat} (X : Stand p l e R (s.setVm vm0) m args below meth c T locs cells slots) (hx : p.tables.exec = Jvm.exec) (hZ : Z.Warmed39 vm0) {own text : String} {index : Nat} {Ts : List String} (hown : vm0.findClass own = some m.cls) (w : (Jvm.Cond.stringLink own index text).before a0 Z = true) (wS : ∀ a ∈ Bundle.stringAtoms, a.before a0 Z = true)
    (eT : T.heap = h) (hS : s.Since vm0 k0) (hk : k0 ≤ h.size) (N : Fr s.heap.size locs) (hkeep : ∀ (b : Addr) (cl : Cell), Z.heap[b]? = some cl → s.heap[b]? = some cl) (I : IB Z vm0 Ts) (hnot : text ∉ Ts) (hh : Jvm.Lit.constHeld Z own index) (hcw : Jvm.Lit.compactW.before a0 Z = true)
    (vs : List Value) (z : Int32) (ht : (∀ c ∈ text.toList, c.toNat < 256) ∧ text.toList.map (fun c => Value.int (Jvm.Lit.byteI c.toNat.toUInt16)) = vs) (hz : ¬ z < 0) (hl : z.toNatClampNeg = vs.length) (n : Nat) (hn : 4 * text.toList.length ≤ n) (hbig : n ≤ 536870912) (hc : cells + 2 ≤ R.cells) (hl' : slots + (n + 4) ≤ R.slots)
    {pc : Nat} (pc' : Nat) {Ls : Array Slot} {st : List Value} (hd : decode c.code pc = .ok (.ldc index, 2)) (hp : pc + 2 = pc') :
    ∃ (a : Addr) (T' : State) (h' : Heap) (k1 : Nat) (b : Addr), Stand p l e R (s.setVm T'.vm) m args below meth c T' locs (cells + 2) (slots + (n + 4)) ∧ T'.heap = h' ∧ Ext h h' ∧ s.Since T'.vm k1 ∧ k1 ≤ h'.size ∧ Z.Warmed39 (s.setVm T'.vm).vm ∧ (s.setVm T'.vm).vm.findClass own = some m.cls ∧
      Stl Z h' a b 0 vs ∧ IB Z T'.vm (text :: Ts) ∧ Lit (Z.setVm T'.vm) own index a ∧ ∀ {P : State → Outcome → Prop}, Go p e below P (T'.setTop (mkF m pc' Ls (.ref a :: st))) → Go p e below P (T.setTop (mkF m pc Ls st)) := by
  subst hp
  obtain ⟨a, T', h', k1, b, k, r1, r2, r3, r4, r5, r6, r7, r8, r9, r10, r11, -, -, r14, r15, r16⟩ := ldcSVL X hx hZ hown w wS eT hS hk N hkeep I hnot hh hcw ht hz hl (g := mkF m pc Ls st) rfl hd hn hbig hc hl'
  exact ⟨a, T', h', k1, b, r1, r2, r3, r4, r5, r6, r7, ⟨r8, r9, r10, Arl.of_arv r11 hl⟩, r14, r15, fun G => Go.of G r16⟩
/-- a constant that has been loaded already -/
theorem g_ldcA {vm0 : Vm} (X : Stand p l e R (s.setVm vm0) m args below meth c T locs cells slots) (hx : p.tables.exec = Jvm.exec) (hZ : Z.Warmed39 vm0) {own text : String} {index : Nat} (hown : vm0.findClass own = some m.cls) (w : (Jvm.Cond.stringLink own index text).before a0 Z = true) {a : Addr} (L : Lit (Z.setVm vm0) own index a)
    {pc : Nat} (pc' : Nat) {Ls : Array Slot} {st : List Value} (hd : decode c.code pc = .ok (.ldc index, 2)) (hp : pc + 2 = pc') (G : Go p e below P (T.setTop (mkF m pc' Ls (.ref a :: st)))) : Go p e below P (T.setTop (mkF m pc Ls st)) := by
  subst hp
  exact Go.of G (ldcAgain (s := s) X hx hZ hown w (a := a) L (g := mkF m pc Ls st) rfl hd)
theorem lit_warm {vm0 vm1 : Vm} {own : String} {index : Nat} {a : Addr} (L : Lit (Z.setVm vm0) own index a) (hW : (s.setVm vm0).Warmed39 vm1) : Lit (Z.setVm vm1) own index a := Lit.stays (s := s) (vm0 := vm0) L hW
theorem ib_warm {vm0 vm1 : Vm} {Ts : List String} (I : IB Z vm0 Ts) (hW : (s.setVm vm0).WarmedH vm1) : IB Z vm1 Ts := by
  obtain ⟨more, q, r⟩ := I
  exact ⟨more, hW.interned_eq.trans q, r⟩
theorem backOfSV {y : MethodName} {bytes : ByteArray} {maxL : Nat} {ret : Option FieldType} {rm : Room} {len W : Nat} {as' : Array Value} {P' : Vm → Prop} {Q' : Option Value → Vm → Heap → List Loc → Prop}
    (hM : MetFree l y (head1 [Jvm.Cond.code y bytes maxL ret] rm) (fun a U => a = as' ∧ Z.Warmed39 U.vm ∧ U.heap = h ∧ P' U.vm) (fun _ _ _ _ _ => True) (fun _ U o U' => ∃ v L, o = .returned v ∧ Q' v U'.vm U'.heap L ∧ ReturnedEndW U o U' L rm.cells rm.slots))
    (hZ : Z.Warmed39 s.vm) (wc : (Jvm.Cond.code y bytes maxL ret).before a0 Z = true) (wz : (Jvm.Cond.initialized y.cls).before a0 Z = true) (hf : rm.frames + 1 ≤ R.frames) (hl : W + (maxL + 11) + rm.locals ≤ R.locals) :
    BackS l R p e below s args y len W (fun A a => a = as' ∧ A.U.heap = h ∧ P' A.U.vm ∧ A.cells + rm.cells ≤ R.cells ∧ A.slots + rm.slots ≤ R.slots)
      (fun A _ v B => ∃ L, Q' v B.U.vm B.U.heap L ∧ B.locs = A.locs ++ L ∧ B.cells = A.cells + rm.cells ∧ B.slots = A.slots + rm.slots) :=
  BackS.of_freeW (bytes := bytes) (maxL := maxL) (ret := ret) (E := fun _ _ o t L k n => k = rm.cells ∧ n = rm.slots ∧ ∃ v, o = .returned v ∧ Q' v t.vm t.heap L) hM hf hl
    (fun m meth c A a Y hp => have hU : Z.Warmed39 A.U.vm := wtrans hZ Y.warmed
      ⟨by show (Jvm.Cond.and _ .tt).before a A.U = true; rw [Cond.before_and, mv hU wc]; rfl, mv hU wc, mv hU wz, hp.2.2.2.1, hp.2.2.2.2⟩)
    (fun m meth c A a g mk Y hp => ⟨hp.1, wtrans hZ Y.warmed, hp.2.1, hp.2.2.1⟩) (fun _ _ _ _ _ _ _ _ _ => trivial)
    (fun _ _ _ _ ⟨v, L, h1, h2, h3⟩ => ⟨L, _, _, h3, rfl, rfl, v, h1, h2⟩)
    (fun m meth c A a g mk v t L k n Y hp _ _ ⟨e1, e2, v', e3, e4⟩ => by cases e3; subst e1 e2; exact ⟨L, e4, rfl, rfl, rfl⟩)
/-- behind a callee that may have loaded constants: all said of the true start -/
theorem reb {vm0 vm1 : Vm} {k0 n1 n : Nat} {own : String} (hS : s.Since vm0 k0) (hk : k0 ≤ n1) (X : Stand p l e R ((s.setVm vm0).setVm vm1) m args below meth c T locs cells slots) (h2 : (s.setVm vm0).Since vm1 n) (g : n1 ≤ n) (hZ : Z.Warmed39 vm0) (hown : vm0.findClass own = some m.cls) :
    Stand p l e R (s.setVm vm1) m args below meth c T locs cells slots ∧ s.Since vm1 n ∧ Z.Warmed39 (s.setVm vm1).vm ∧ (s.setVm vm1).vm.findClass own = some m.cls := rebS hS hk X h2 g hZ hown
theorem g_callSW {vm0 : Vm} {k0 : Nat} (X : Stand p l e R (s.setVm vm0) m args below meth c T locs cells slots) (hx : p.tables.exec = Jvm.exec) (hZ : Z.Warmed39 vm0) (hS : s.Since vm0 k0) (hk : k0 ≤ h.size) {own : String} {index : Nat} {y : MethodName} {bytes : ByteArray} {maxL : Nat} {ret : Option FieldType} {rm : Room} {as' : List Value} {P' : Vm → Prop} {Q' : Option Value → Vm → Heap → List Loc → Prop}
    (hown : vm0.findClass own = some m.cls) (w1 : (Jvm.Cond.methodLink own index y).before a0 Z = true) (w2 : (Jvm.Cond.static y).before a0 Z = true) (w3 : (Jvm.Cond.initialized y.cls).before a0 Z = true) (w4 : (Jvm.Cond.code y bytes maxL ret).before a0 Z = true)
    (np : y.cls ≠ "java/lang/invoke/MethodHandle" ∧ y.cls ≠ "java/lang/invoke/VarHandle") (eT : T.heap = h) (hP' : ∀ vm₁, (s.setVm vm0).WarmedH vm₁ → P' vm₁)
    (hM : MetFree l y (head1 [Jvm.Cond.code y bytes maxL ret] rm) (fun a U => a = as'.toArray ∧ Z.Warmed39 U.vm ∧ U.heap = h ∧ P' U.vm) (fun _ _ _ _ _ => True) (fun _ U o U' => ∃ v L, o = .returned v ∧ Q' v U'.vm U'.heap L ∧ ReturnedEndW U o U' L rm.cells rm.slots))
    {ps : List FieldType} {rt : Option FieldType} (pd : parseMethodDescriptor y.desc = some ⟨ps, rt⟩) (hlen : as'.length = ps.length)
    (W : Nat) (hf : rm.frames + 1 ≤ R.frames) (hl : W + (maxL + 11) + rm.locals ≤ R.locals) (hc : cells + rm.cells ≤ R.cells) (hs : slots + rm.slots ≤ R.slots)
    {pc : Nat} {Ls : Array Slot} {rest st : List Value} (hsz : Ls.size = c.maxLocals) (hst : st = as'.reverse ++ rest) (hW : (rest.map fun v => v.category).sum ≤ W) (hd : decode c.code pc = .ok (.invokestatic index, 3)) :
    ∃ v T' L, Stand p l e R (s.setVm T'.vm) m args below meth c T' (locs ++ L) (cells + rm.cells) (slots + rm.slots) ∧ s.Since T'.vm T'.heap.size ∧ Z.Warmed39 (s.setVm T'.vm).vm ∧ (s.setVm T'.vm).vm.findClass own = some m.cls ∧ (s.setVm vm0).Warmed39 T'.vm ∧ Q' v T'.vm T'.heap L ∧
      ∀ {P : State → Outcome → Prop}, Go p e below P (T'.setTop (mkF m (pc + 3) Ls (v.toList ++ rest))) → Go p e below P (T.setTop (mkF m pc Ls st)) := by
  obtain ⟨v, _, ⟨T', L', k', n'⟩, -, X', hS', hg, ⟨L, hQ, l1, y1, z1⟩, st'⟩ := callSS X hx (y := y) (s := s.setVm vm0) hown (mvT (s := s.setVm vm0) hZ w1) (mvT (s := s.setVm vm0) hZ w2) (mvT (s := s.setVm vm0) hZ w3) (mvT (s := s.setVm vm0) hZ w4) np (backOfSV (s := s.setVm vm0) (W := W) hM hZ w4 w3 hf hl) (g := mkF m pc Ls st) rfl hsz (argsL := as') (rest := rest) (lenOf pd hlen) hst (by show 2 * 0 + _ ≤ _; omega) hd (fun vm₁ hw₁ => ⟨rfl, eT, hP' vm₁ hw₁, hc, hs⟩)
  dsimp only [Pt.U, Pt.locs, Pt.cells, Pt.slots] at X' l1 y1 z1 st' hQ hS' hg
  subst l1 y1 z1
  obtain ⟨X'', hS'', hZ'', ho''⟩ := reb hS (by rw [eT]; exact hk) X' hS' hg hZ hown
  exact ⟨v, T', L, X'', hS'', hZ'', ho'', hS'.1, hQ, fun G => Go.of G fun _ q => st'.trans q⟩
theorem g_callIW {vm0 : Vm} {k0 : Nat} (X : Stand p l e R (s.setVm vm0) m args below meth c T locs cells slots) (hx : p.tables.exec = Jvm.exec) (hZ : Z.Warmed39 vm0) (hS : s.Since vm0 k0) (hk : k0 ≤ h.size) {own : String} {index : Nat} {y : MethodName} {bytes : ByteArray} {maxL : Nat} {rm : Room} {a : Addr} {as' : List Value} {P' : Vm → Prop} {Q' : Option Value → Vm → Heap → List Loc → Prop} (hy1 : y.name = "<init>")
    (hown : vm0.findClass own = some m.cls) (w1 : (Jvm.Cond.methodLink own index y).before a0 Z = true) (w2 : (Jvm.Cond.instanceMethod y).before a0 Z = true) (w3 : (Jvm.Cond.initialized y.cls).before a0 Z = true) (w4 : (Jvm.Cond.code y bytes maxL none).before a0 Z = true)
    (np : y.cls ≠ "java/lang/invoke/MethodHandle" ∧ y.cls ≠ "java/lang/invoke/VarHandle") (eT : T.heap = h) (hP' : ∀ vm₁, (s.setVm vm0).WarmedH vm₁ → P' vm₁)
    (hM : MetFree l y (head1 [Jvm.Cond.code y bytes maxL none] rm) (fun b U => b = (.ref a :: as').toArray ∧ Z.Warmed39 U.vm ∧ U.heap = h ∧ P' U.vm) (fun _ _ _ _ _ => True) (fun _ U o U' => ∃ v L, o = .returned v ∧ Q' v U'.vm U'.heap L ∧ ReturnedEndW U o U' L rm.cells rm.slots))
    {ps : List FieldType} {rt : Option FieldType} (pd : parseMethodDescriptor y.desc = some ⟨ps, rt⟩) (hlen : as'.length = ps.length)
    (W : Nat) (hf : rm.frames + 1 ≤ R.frames) (hl : W + (maxL + 11) + rm.locals ≤ R.locals) (hc : cells + rm.cells ≤ R.cells) (hs : slots + rm.slots ≤ R.slots)
    {pc : Nat} {Ls : Array Slot} {rest st : List Value} (hsz : Ls.size = c.maxLocals) (hst : st = as'.reverse ++ .ref a :: rest) (hW : (rest.map fun v => v.category).sum ≤ W) (hd : decode c.code pc = .ok (.invokespecial index, 3)) :
    ∃ v T' L, Stand p l e R (s.setVm T'.vm) m args below meth c T' (locs ++ L) (cells + rm.cells) (slots + rm.slots) ∧ s.Since T'.vm T'.heap.size ∧ Z.Warmed39 (s.setVm T'.vm).vm ∧ (s.setVm T'.vm).vm.findClass own = some m.cls ∧ (s.setVm vm0).Warmed39 T'.vm ∧ Q' v T'.vm T'.heap L ∧
      ∀ {P : State → Outcome → Prop}, Go p e below P (T'.setTop (mkF m (pc + 3) Ls (v.toList ++ rest))) → Go p e below P (T.setTop (mkF m pc Ls st)) := by
  obtain ⟨v, _, ⟨T', L', k', n'⟩, -, X', hS', hg, ⟨L, hQ, l1, y1, z1⟩, st'⟩ := X.specialBackS hx (y := y) hy1 hown (mvT (s := s.setVm vm0) hZ w1) (mvT (s := s.setVm vm0) hZ w2) (mvT (s := s.setVm vm0) hZ w4) np (backOfSV (s := s.setVm vm0) (W := W) hM hZ w4 w3 hf hl) (g := mkF m pc Ls st) rfl hsz (Steps.refl _) (a := a) (argsL := as') (rest := rest) (lenOf pd hlen) hst (by show 2 * 0 + _ ≤ _; omega) hd (fun vm₁ hw₁ => ⟨rfl, eT, hP' vm₁ hw₁, hc, hs⟩)
  dsimp only [Pt.U, Pt.locs, Pt.cells, Pt.slots] at X' l1 y1 z1 st' hQ hS' hg
  subst l1 y1 z1
  obtain ⟨X'', hS'', hZ'', ho''⟩ := reb hS (by rw [eT]; exact hk) X' hS' hg hZ hown
  exact ⟨v, T', L, X'', hS'', hZ'', ho'', hS'.1, hQ, fun G => Go.of G fun _ q => st'.trans q⟩
theorem g_callVW {vm0 : Vm} {k0 : Nat} (X : Stand p l e R (s.setVm vm0) m args below meth c T locs cells slots) (hx : p.tables.exec = Jvm.exec) (hZ : Z.Warmed39 vm0) (hS : s.Since vm0 k0) (hk : k0 ≤ h.size) {own C : String} {index : Nat} {y z : MethodName} {bytes : ByteArray} {maxL : Nat} {ret : Option FieldType} {rm : Room} {a : Addr} {as' : List Value} {P' : Vm → Prop} {Q' : Option Value → Vm → Heap → List Loc → Prop}
    (hown : vm0.findClass own = some m.cls) (w1 : (Jvm.Cond.methodLink own index y).before a0 Z = true) (w2 : (Jvm.Cond.declares y).before a0 Z = true) (w5 : (Jvm.Cond.selects y.cls y y).before a0 Z = true) (w6 : (Jvm.Cond.selects C y z).before a0 Z = true) (w7 : (Jvm.Cond.instanceMethod z).before a0 Z = true) (w3 : (Jvm.Cond.initialized z.cls).before a0 Z = true) (w4 : (Jvm.Cond.code z bytes maxL ret).before a0 Z = true)
    (np : y.cls ≠ "java/lang/invoke/MethodHandle" ∧ y.cls ≠ "java/lang/invoke/VarHandle") (eT : T.heap = h) (E : Exa Z h a C) (hP' : ∀ vm₁, (s.setVm vm0).WarmedH vm₁ → P' vm₁)
    (hM : MetFree l z (head1 [Jvm.Cond.code z bytes maxL ret] rm) (fun b U => b = (.ref a :: as').toArray ∧ Z.Warmed39 U.vm ∧ U.heap = h ∧ P' U.vm) (fun _ _ _ _ _ => True) (fun _ U o U' => ∃ v L, o = .returned v ∧ Q' v U'.vm U'.heap L ∧ ReturnedEndW U o U' L rm.cells rm.slots))
    {ps : List FieldType} {rt : Option FieldType} (pd : parseMethodDescriptor y.desc = some ⟨ps, rt⟩) (hlen : as'.length = ps.length)
    (W : Nat) (hf : rm.frames + 1 ≤ R.frames) (hl : W + (maxL + 11) + rm.locals ≤ R.locals) (hc : cells + rm.cells ≤ R.cells) (hs : slots + rm.slots ≤ R.slots)
    {pc : Nat} {Ls : Array Slot} {rest st : List Value} (hsz : Ls.size = c.maxLocals) (hst : st = as'.reverse ++ .ref a :: rest) (hW : (rest.map fun v => v.category).sum ≤ W) (hd : decode c.code pc = .ok (.invokevirtual index, 3)) :
    ∃ v T' L, Stand p l e R (s.setVm T'.vm) m args below meth c T' (locs ++ L) (cells + rm.cells) (slots + rm.slots) ∧ s.Since T'.vm T'.heap.size ∧ Z.Warmed39 (s.setVm T'.vm).vm ∧ (s.setVm T'.vm).vm.findClass own = some m.cls ∧ (s.setVm vm0).Warmed39 T'.vm ∧ Q' v T'.vm T'.heap L ∧
      ∀ {P : State → Outcome → Prop}, Go p e below P (T'.setTop (mkF m (pc + 3) Ls (v.toList ++ rest))) → Go p e below P (T.setTop (mkF m pc Ls st)) := by
  obtain ⟨cq, kq, qa, qb, qc⟩ := isOf (s := s.setVm vm0) hZ eT E
  obtain ⟨v, _, ⟨T', L', k', n'⟩, -, X', hS', hg, ⟨L, hQ, l1, y1, z1⟩, st'⟩ := X.virtualBackS hx (y := y) (z := z) hown (mvT (s := s.setVm vm0) hZ w1) (mvT (s := s.setVm vm0) hZ w2) (notFace_of_selects (args := #[]) (mvT (s := s.setVm vm0) hZ w5)) (mvT (s := s.setVm vm0) hZ w6) (mvT (s := s.setVm vm0) hZ w7) np (backOfSV (s := s.setVm vm0) (W := W) hM hZ w4 w3 hf hl) qa qc (g := mkF m pc Ls st) rfl hsz (Steps.refl _) (argsL := as') (rest := rest) (lenOf pd hlen) hst (by show 2 * 0 + _ ≤ _; omega) hd (fun vm₁ hw₁ => ⟨rfl, eT, hP' vm₁ hw₁, hc, hs⟩)
  dsimp only [Pt.U, Pt.locs, Pt.cells, Pt.slots] at X' l1 y1 z1 st' hQ hS' hg
  subst l1 y1 z1
  obtain ⟨X'', hS'', hZ'', ho''⟩ := reb hS (by rw [eT]; exact hk) X' hS' hg hZ hown
  exact ⟨v, T', L, X'', hS'', hZ'', ho'', hS'.1, hQ, fun G => Go.of G fun _ q => st'.trans q⟩

theorem g_cast (X : Stand p l e R s m args below meth c T locs cells slots) (hx : p.tables.exec = Jvm.exec) (hZ : Z.Warmed39 s.vm) {own K : String} {index : Nat} (hown : s.vm.findClass own = some m.cls) (w : (Jvm.Cond.classLink own index K).before a0 Z = true) (eT : T.heap = h) {a : Addr} (F : Ins Z h a K true)
    {pc : Nat} (pc' : Nat) {Ls : Array Slot} {st : List Value} (hd : decode c.code pc = .ok (.checkcast index, 3)) (hp : pc + 3 = pc') :
    ∃ T', Stand p l e R s m args below meth c T' locs cells slots ∧ T'.heap = h ∧ ∀ {P : State → Outcome → Prop}, Go p e below P (T'.setTop (mkF m pc' Ls (.ref a :: st))) → Go p e below P (T.setTop (mkF m pc Ls (.ref a :: st))) := by
  subst hp
  obtain ⟨T', X', e', f⟩ := castY X hx hZ hown w eT F (g := mkF m pc Ls (.ref a :: st)) rfl rfl hd
  exact ⟨T', X', e', fun G => Go.of G f⟩
theorem g_instY (X : Stand p l e R s m args below meth c T locs cells slots) (hx : p.tables.exec = Jvm.exec) (hZ : Z.Warmed39 s.vm) {own K : String} {index : Nat} (hown : s.vm.findClass own = some m.cls) (w : (Jvm.Cond.classLink own index K).before a0 Z = true) (eT : T.heap = h) {a : Addr} (F : Ins Z h a K true)
    {pc : Nat} (pc' : Nat) {Ls : Array Slot} {st : List Value} (hd : decode c.code pc = .ok (.instanceof index, 3)) (hp : pc + 3 = pc') :
    ∃ T', Stand p l e R s m args below meth c T' locs cells slots ∧ T'.heap = h ∧ ∀ {P : State → Outcome → Prop}, Go p e below P (T'.setTop (mkF m pc' Ls (.int 1 :: st))) → Go p e below P (T.setTop (mkF m pc Ls (.ref a :: st))) := by
  subst hp
  obtain ⟨T', X', e', f⟩ := instY X hx hZ hown w eT F (g := mkF m pc Ls (.ref a :: st)) rfl rfl hd
  exact ⟨T', X', e', fun G => Go.of G f⟩
theorem g_instN (X : Stand p l e R s m args below meth c T locs cells slots) (hx : p.tables.exec = Jvm.exec) (hZ : Z.Warmed39 s.vm) {own K C : String} {index : Nat} (hown : s.vm.findClass own = some m.cls) (w : (Jvm.Cond.classLink own index K).before a0 Z = true) (eT : T.heap = h) {a : Addr} (E : Exa Z h a C) (F : ∃ c t, Z.vm.findClass C = some c ∧ Z.vm.findClass K = some t ∧ Z.vm.assignable c t = false)
    {pc : Nat} (pc' : Nat) {Ls : Array Slot} {st : List Value} (hd : decode c.code pc = .ok (.instanceof index, 3)) (hp : pc + 3 = pc') :
    ∃ T', Stand p l e R s m args below meth c T' locs cells slots ∧ T'.heap = h ∧ ∀ {P : State → Outcome → Prop}, Go p e below P (T'.setTop (mkF m pc' Ls (.int 0 :: st))) → Go p e below P (T.setTop (mkF m pc Ls (.ref a :: st))) := by
  subst hp
  obtain ⟨T', X', e', f⟩ := instNo X hx hZ hown w eT E F (g := mkF m pc Ls (.ref a :: st)) rfl rfl hd
  exact ⟨T', X', e', fun G => Go.of G f⟩
theorem g_instNull (X : Stand p l e R s m args below meth c T locs cells slots) (hx : p.tables.exec = Jvm.exec) {index : Nat} {pc : Nat} (pc' : Nat) {Ls : Array Slot} {st : List Value} (hd : decode c.code pc = .ok (.instanceof index, 3)) (hp : pc + 3 = pc') (G : Go p e below P (T.setTop (mkF m pc' Ls (.int 0 :: st)))) : Go p e below P (T.setTop (mkF m pc Ls (.null :: st))) := by
  subst hp
  exact Go.of G (X.instanceofNull hx (g := mkF m pc Ls (.null :: st)) rfl rfl hd)
theorem own_notinst {C S K : String} {n : Nat} (w1 : (Jvm.Cond.superclass C S).before a0 Z = true) (w2 : (Jvm.Cond.noSuperclass S).before a0 Z = true) (w3 : (Jvm.Cond.instantiable K n).before a0 Z = true) (hn : C ≠ K) (hn2 : S ≠ K) : ∃ c t, Z.vm.findClass C = some c ∧ Z.vm.findClass K = some t ∧ Z.vm.assignable c t = false := by
  obtain ⟨c, h0⟩ := found_sup w1
  obtain ⟨p', k, kp, h1, h2, h3, h4, h5, h6, h7⟩ := Cond.superclass_spec h0 w1
  obtain ⟨t, kt, g0, g1, g2, g3, -⟩ := Cond.instantiable_spec w3
  obtain ⟨c2, k2, r1, r2, r3, -, -⟩ := Cond.noSuperclass_spec w2
  cases h1.symm.trans r1
  cases h3.symm.trans r2
  have ne := ids_ne h0 g0 hn
  have ne2 := ids_ne h1 g0 hn2
  have gi : kt.isInterface = false := by cases q : kt.isInterface <;> simp [q] at g3 ⊢
  have sup : ∀ fuel, Z.vm.isSubclassAux fuel c t = false := fun fuel => by
    cases fuel with
    | zero => rfl
    | succ f =>
      have s2 : Z.vm.isSubclassAux f p' t = false := by
        cases f with
        | zero => rfl
        | succ f' => simp [Vm.isSubclassAux, ne2, h3, r3]
      simp [Vm.isSubclassAux, ne, h2, h4, s2]
  refine ⟨c, t, h0, g0, ?_⟩
  show Z.vm.assignableAux (255 + 1) c t = false
  simp [Vm.assignableAux, ne, h2, g1, h5, g2, gi, Vm.isSubclass, sup]

end Own
def Strq (Z : State) (h : Heap) (a b : Addr) (co : Int32) (vs : List Value) : Prop := Stl Z h a b co vs
theorem own_i2c {x : Int32} (h1 : 0 ≤ x.toInt) (h2 : x.toInt < 65536) : x.toUInt32.toUInt16.toUInt32.toInt32 = x := by
  have h := c_i2c x
  apply Int32.toInt_inj.mp; omega
theorem own_m255 (x : Int32) : 0 ≤ (x &&& (255 : Int32)).toInt ∧ (x &&& (255 : Int32)).toInt ≤ 255 := c_and x 255 (by decide)
theorem own_back {c : Int32} (h1 : 0 ≤ c.toInt) (h2 : c.toInt ≤ 255) : (c.toInt8.toInt32 &&& (255 : Int32)) = c := by
  have e1 : (c.toInt8.toInt32 &&& (255 : Int32)).toInt = c.toInt8.toInt32.toInt % 2 ^ 8 := Jvm.Kit.i32_mask _ _ (k := 8) (by decide) (by decide)
  have e2 := c_i2b c
  apply Int32.toInt_inj.mp; rw [e1]; omega
theorem own_char {c : Int32} (h1 : 0 ≤ c.toInt) (h2 : c.toInt ≤ 255) : nar .char ((c.toInt8.toInt32 &&& (255 : Int32)).toUInt32.toUInt16.toUInt32.toInt32) = c := by
  rw [own_back h1 h2, own_i2c h1 (by omega)]; exact own_i2c h1 (by omega)
theorem own_nb (c : Int32) : nar .byte (c.toInt8.toInt32) = c.toInt8.toInt32 := by simp [nar]
theorem own_le255 {c : Int32} (h : c.toInt ≤ 255) : ¬ (255 : Int32) < c := by rw [Int32.lt_iff_toInt_lt]; have : (255 : Int32).toInt = 255 := rfl; omega
def LQ (h0 : Heap) (v : Option Value) (_ : Vm) (h : Heap) (L : List Loc) : Prop := v = some (.int 1) ∧ Fr h0.size L
def b2i (p : Prop) [Decidable p] : Int32 := if p then 1 else 0
theorem b2i_t {p : Prop} [Decidable p] (h : p) : b2i p = 1 := if_pos h
theorem b2i_f {p : Prop} [Decidable p] (h : ¬ p) : b2i p = 0 := if_neg h
def Ch (c : Int32) : Prop := 0 ≤ c.toInt ∧ c.toInt < 65536
def lo8 (c : Int32) : Int32 := ((c >>> ((0 : Int32) &&& 31)).toInt8.toInt32)
def hi8 (c : Int32) : Int32 := ((c >>> ((8 : Int32) &&& 31)).toInt8.toInt32)
def rec8 (a b : Int32) : Int32 := ((((a &&& (255 : Int32)) <<< ((0 : Int32) &&& 31)) ||| ((b &&& (255 : Int32)) <<< ((8 : Int32) &&& 31))).toUInt32.toUInt16.toUInt32.toInt32)
theorem rec_lohi {c : Int32} (h : Ch c) : rec8 (lo8 c) (hi8 c) = c := by
  obtain ⟨h1, h2⟩ := h
  have a1 : (c >>> ((0 : Int32) &&& 31)).toInt = c.toInt := by rw [c_ishr c 0 0 (by decide)]; simp
  have a2 : (c >>> ((8 : Int32) &&& 31)).toInt = c.toInt / 256 := by rw [c_ishr c 8 8 (by decide)]; rfl
  have e1 : (lo8 c &&& (255 : Int32)).toInt = (lo8 c).toInt % 2 ^ 8 := Jvm.Kit.i32_mask _ _ (k := 8) (by decide) (by decide)
  have e2 : (hi8 c &&& (255 : Int32)).toInt = (hi8 c).toInt % 2 ^ 8 := Jvm.Kit.i32_mask _ _ (k := 8) (by decide) (by decide)
  have b1 := c_i2b (c >>> ((0 : Int32) &&& 31))
  have b2 := c_i2b (c >>> ((8 : Int32) &&& 31))
  have f1 : (lo8 c &&& (255 : Int32)).toInt = c.toInt % 256 := by rw [e1]; unfold lo8; omega
  have f2 : (hi8 c &&& (255 : Int32)).toInt = c.toInt / 256 := by rw [e2]; unfold hi8; omega
  have s1 := c_ishl (lo8 c &&& (255 : Int32)) 0 0 (by decide)
  have s2 := c_ishl (hi8 c &&& (255 : Int32)) 8 8 (by decide)
  have r1 := rng32 ((lo8 c &&& (255 : Int32)) <<< ((0 : Int32) &&& 31))
  have r2 := rng32 ((hi8 c &&& (255 : Int32)) <<< ((8 : Int32) &&& 31))
  have t1 : ((lo8 c &&& (255 : Int32)) <<< ((0 : Int32) &&& 31)).toInt = c.toInt % 256 := by
    have : ((2 ^ 0 : Nat) : Int) = 1 := rfl
    rw [this] at s1; omega
  have t2 : ((hi8 c &&& (255 : Int32)) <<< ((8 : Int32) &&& 31)).toInt = (c.toInt / 256) * 256 := by
    have : ((2 ^ 8 : Nat) : Int) = 256 := rfl
    rw [this] at s2; omega
  have o1 := c_or' ((lo8 c &&& (255 : Int32)) <<< ((0 : Int32) &&& 31)) ((hi8 c &&& (255 : Int32)) <<< ((8 : Int32) &&& 31)) 8 (by decide) 256 rfl (by rw [t2]; omega) (by omega) (by omega)
  have r3 := rng32 (((lo8 c &&& (255 : Int32)) <<< ((0 : Int32) &&& 31)) ||| ((hi8 c &&& (255 : Int32)) <<< ((8 : Int32) &&& 31)))
  have t3 : (((lo8 c &&& (255 : Int32)) <<< ((0 : Int32) &&& 31)) ||| ((hi8 c &&& (255 : Int32)) <<< ((8 : Int32) &&& 31))).toInt = c.toInt := by omega
  unfold rec8
  rw [own_i2c (by omega) (by omega)]
  exact Int32.toInt_inj.mp t3
theorem ch_nar {c : Int32} (h : Ch c) : nar .char c = c := own_i2c h.1 h.2
theorem ch_i2c (x : Int32) : Ch (x.toUInt32.toUInt16.toUInt32.toInt32) := ⟨(c_i2c x).2.1, (c_i2c x).2.2⟩
/-- the coder and the bytes of a String of these chars -/
def lat (cs : List Int32) : Bool := cs.all fun c => !decide ((255 : Int32) < c)
def coOf (cs : List Int32) : Int32 := if lat cs = true then 0 else 1
def bsOf (cs : List Int32) : List Int32 := if lat cs = true then cs.map fun c => c.toInt8.toInt32 else cs.flatMap fun c => [lo8 c, hi8 c]
theorem le255 {c : Int32} (h : ¬ (255 : Int32) < c) : c.toInt ≤ 255 := by rw [Int32.lt_iff_toInt_lt] at h; have : (255 : Int32).toInt = 255 := rfl; omega
theorem flat_inj : ∀ (cs ds : List Int32), (∀ c ∈ cs, Ch c) → (∀ c ∈ ds, Ch c) → (cs.flatMap fun c => [lo8 c, hi8 c]) = (ds.flatMap fun c => [lo8 c, hi8 c]) → cs = ds
  | [], [], _, _, _ => rfl
  | [], d :: ds, _, _, h => by simp at h
  | c :: cs, [], _, _, h => by simp at h
  | c :: cs, d :: ds, h1, h2, h => by
    simp only [List.flatMap_cons, List.cons_append, List.nil_append, List.cons.injEq] at h
    have e : c = d := by rw [← rec_lohi (h1 c (List.mem_cons_self ..)), ← rec_lohi (h2 d (List.mem_cons_self ..)), h.1, h.2.1]
    rw [e, flat_inj cs ds (fun x hx => h1 x (List.mem_cons_of_mem _ hx)) (fun x hx => h2 x (List.mem_cons_of_mem _ hx)) h.2.2]
theorem map_inj : ∀ (cs ds : List Int32), (∀ c ∈ cs, 0 ≤ c.toInt ∧ c.toInt ≤ 255) → (∀ c ∈ ds, 0 ≤ c.toInt ∧ c.toInt ≤ 255) → (cs.map fun c => c.toInt8.toInt32) = (ds.map fun c => c.toInt8.toInt32) → cs = ds
  | [], [], _, _, _ => rfl
  | [], d :: ds, _, _, h => by simp at h
  | c :: cs, [], _, _, h => by simp at h
  | c :: cs, d :: ds, h1, h2, h => by
    simp only [List.map_cons, List.cons.injEq] at h
    have c1 := h1 c (List.mem_cons_self ..)
    have d1 := h2 d (List.mem_cons_self ..)
    have e : c = d := by rw [← own_back c1.1 c1.2, ← own_back d1.1 d1.2, h.1]
    rw [e, map_inj cs ds (fun x hx => h1 x (List.mem_cons_of_mem _ hx)) (fun x hx => h2 x (List.mem_cons_of_mem _ hx)) h.2]
theorem lat_all {cs : List Int32} (h : lat cs = true) : ∀ c ∈ cs, c.toInt ≤ 255 := fun c hc => by
  have q := List.all_eq_true.mp h c hc
  exact le255 (by simpa using q)
theorem same_str {cs ds : List Int32} (h1 : ∀ c ∈ cs, Ch c) (h2 : ∀ c ∈ ds, Ch c) : (coOf cs = coOf ds ∧ bsOf cs = bsOf ds) ↔ cs = ds := by
  refine ⟨fun h => ?_, fun h => by rw [h]; exact ⟨rfl, rfl⟩⟩
  obtain ⟨a, b⟩ := h
  unfold coOf at a; unfold bsOf at b
  by_cases l1 : lat cs = true
  · by_cases l2 : lat ds = true
    · rw [if_pos l1, if_pos l2] at b
      exact map_inj cs ds (fun c hc => ⟨(h1 c hc).1, lat_all l1 c hc⟩) (fun c hc => ⟨(h2 c hc).1, lat_all l2 c hc⟩) b
    · rw [if_pos l1, if_neg l2] at a; exact absurd a (by decide)
  · by_cases l2 : lat ds = true
    · rw [if_neg l1, if_pos l2] at a; exact absurd a (by decide)
    · rw [if_neg l1, if_neg l2] at b
      exact flat_inj cs ds h1 h2 b
def mkl (k c0 c1 : Int32) : List Int32 := if k = (0 : Int32) then [] else if k = (1 : Int32) then [c0] else [c0, c1]
theorem mkl_ch {k c0 c1 : Int32} (h0 : Ch c0) (h1 : Ch c1) : ∀ c ∈ mkl k c0 c1, Ch c := by
  unfold mkl
  split
  · simp
  · split
    · simp [h0]
    · simp [h0, h1]
theorem bs_len {cs : List Int32} (h : cs.length ≤ 2) : (bsOf cs).length ≤ 4 := by
  unfold bsOf
  split
  · simp; omega
  · match cs, h with
    | [], _ => simp
    | [a], _ => simp
    | [a, b], _ => simp
theorem mkl_len (k c0 c1 : Int32) : (mkl k c0 c1).length ≤ 2 := by unfold mkl; split; · simp
                                                                   · split <;> simp
theorem co_b (cs : List Int32) : nar .byte (coOf cs) = coOf cs := by unfold coOf; split <;> rfl
/-- the constant of the empty text: not loaded yet, or loaded; that of the field's name isn't -/
def EV (Z : State) (vm : Vm) (h : Heap) : Prop := ∃ Ts : List String, IB Z vm Ts ∧ "value" ∉ Ts ∧ ("" ∈ Ts → ∃ a b, Lit (Z.setVm vm) "java/lang/String" 7 a ∧ Stl Z h a b 0 [])
theorem ev_warm {Z s : State} {vm0 vm1 : Vm} {h : Heap} (L : EV Z vm0 h) (hW : (s.setVm vm0).WarmedH vm1) : EV Z vm1 h := by
  obtain ⟨Ts, I, n, f⟩ := L
  exact ⟨Ts, ib_warm I hW, n, fun q => by obtain ⟨a, b, l1, l2⟩ := f q; exact ⟨a, b, lit_warm l1 hW.wide, l2⟩⟩
theorem ev_keep {Z : State} {vm : Vm} {h h' : Heap} (L : EV Z vm h) (K : Keep h h' []) : EV Z vm h' := by
  obtain ⟨Ts, I, n, f⟩ := L
  exact ⟨Ts, I, n, fun q => by obtain ⟨a, b, l1, l2⟩ := f q; exact ⟨a, b, l1, l2.keep K nin0 nin0⟩⟩
def LV (Z : State) (vm : Vm) : Prop := (∃ Ts : List String, IB Z vm Ts ∧ "value" ∉ Ts) ∨ ∃ a, Lit (Z.setVm vm) "com/example/assayer/assayer/core/JsonString" 7 a
theorem lv_warm {Z s : State} {vm0 vm1 : Vm} (L : LV Z vm0) (hW : (s.setVm vm0).WarmedH vm1) : LV Z vm1 := by
  rcases L with ⟨Ts, I, n⟩ | ⟨a, l1⟩
  · exact Or.inl ⟨Ts, ib_warm I hW, n⟩
  · exact Or.inr ⟨a, lit_warm l1 hW.wide⟩
theorem own_wS : ∀ d ∈ Bundle.stringAtoms, d ∈ tables_1 := by decide +kernel
def PQ_2_0 (Z : State) (qb : Addr) (q1 v0 v1 : Int32) (h0 : Heap) (n0 : Nat) (v : Option Value) (h : Heap) (L : List Loc) : Prop := v = none ∧ Fr n0 L ∧ Keep h0 h [qb] ∧ Arl Z h qb .byte [(.int (lo8 q1)), (.int (hi8 q1))]
theorem pch_2_0_0 : decode jdk_52_method_4_code 0 = .ok (.getstatic 44, 3) := by decide +kernel
theorem pch_2_0_3 : decode jdk_52_method_4_code 3 = .ok (.ifCond .ne 25, 3) := by decide +kernel
theorem pch_2_0_6 : decode jdk_52_method_4_code 6 = .ok (.iload_n 1, 1) := by decide +kernel
theorem pch_2_0_7 : decode jdk_52_method_4_code 7 = .ok (.ifCond .lt 11, 3) := by decide +kernel
theorem pch_2_0_10 : decode jdk_52_method_4_code 10 = .ok (.iload_n 1, 1) := by decide +kernel
theorem pch_2_0_11 : decode jdk_52_method_4_code 11 = .ok (.aload_n 0, 1) := by decide +kernel
theorem pch_2_0_12 : decode jdk_52_method_4_code 12 = .ok (.invokestatic 48, 3) := by decide +kernel
theorem pch_2_0_15 : decode jdk_52_method_4_code 15 = .ok (.if_icmp .lt 13, 3) := by decide +kernel
theorem pch_2_0_18 : decode jdk_52_method_4_code 18 = .ok (.new 52, 3) := by decide +kernel
theorem pch_2_0_21 : decode jdk_52_method_4_code 21 = .ok (.dup, 1) := by decide +kernel
theorem pch_2_0_22 : decode jdk_52_method_4_code 22 = .ok (.ldc 54, 2) := by decide +kernel
theorem pch_2_0_24 : decode jdk_52_method_4_code 24 = .ok (.invokespecial 56, 3) := by decide +kernel
theorem pch_2_0_27 : decode jdk_52_method_4_code 27 = .ok (.athrow, 1) := by decide +kernel
theorem pch_2_0_28 : decode jdk_52_method_4_code 28 = .ok (.iload_n 1, 1) := by decide +kernel
theorem pch_2_0_29 : decode jdk_52_method_4_code 29 = .ok (.iconst 1, 1) := by decide +kernel
theorem pch_2_0_30 : decode jdk_52_method_4_code 30 = .ok (.ishl, 1) := by decide +kernel
theorem pch_2_0_31 : decode jdk_52_method_4_code 31 = .ok (.istore_n 1, 1) := by decide +kernel
theorem pch_2_0_32 : decode jdk_52_method_4_code 32 = .ok (.aload_n 0, 1) := by decide +kernel
theorem pch_2_0_33 : decode jdk_52_method_4_code 33 = .ok (.iload_n 1, 1) := by decide +kernel
theorem pch_2_0_34 : decode jdk_52_method_4_code 34 = .ok (.iinc 1 1, 3) := by decide +kernel
theorem pch_2_0_37 : decode jdk_52_method_4_code 37 = .ok (.iload_n 2, 1) := by decide +kernel
theorem pch_2_0_38 : decode jdk_52_method_4_code 38 = .ok (.getstatic 59, 3) := by decide +kernel
theorem pch_2_0_41 : decode jdk_52_method_4_code 41 = .ok (.ishr, 1) := by decide +kernel
theorem pch_2_0_42 : decode jdk_52_method_4_code 42 = .ok (.i2b, 1) := by decide +kernel
theorem pch_2_0_43 : decode jdk_52_method_4_code 43 = .ok (.bastore, 1) := by decide +kernel
theorem pch_2_0_44 : decode jdk_52_method_4_code 44 = .ok (.aload_n 0, 1) := by decide +kernel
theorem pch_2_0_45 : decode jdk_52_method_4_code 45 = .ok (.iload_n 1, 1) := by decide +kernel
theorem pch_2_0_46 : decode jdk_52_method_4_code 46 = .ok (.iload_n 2, 1) := by decide +kernel
theorem pch_2_0_47 : decode jdk_52_method_4_code 47 = .ok (.getstatic 63, 3) := by decide +kernel
theorem pch_2_0_50 : decode jdk_52_method_4_code 50 = .ok (.ishr, 1) := by decide +kernel
theorem pch_2_0_51 : decode jdk_52_method_4_code 51 = .ok (.i2b, 1) := by decide +kernel
theorem pch_2_0_52 : decode jdk_52_method_4_code 52 = .ok (.bastore, 1) := by decide +kernel
theorem pch_2_0_53 : decode jdk_52_method_4_code 53 = .ok (.return_, 1) := by decide +kernel
theorem pn_pch_2_0 : plainFor (⟨"java/lang/StringUTF16", "putChar", "([BII)V"⟩ : MethodName) = true := by first | exact plainFor_of_name (by first | (simp [plainName, overriddenIn]; done) | decide +kernel) | decide +kernel
theorem ef_pch_2_0 (m : MethodId) (qb : Addr) (q1 : Int32)  : entryFrame m #[(.ref qb), (.int (0 : Int32)), (.int q1)] 3 = mkF m 0 #[.val (.ref qb), .val (.int (0 : Int32)), .val (.int q1)] [] := by first | (simp [entryFrame, mkF, argsToLocals, Value.category, maxLocals]; done) | rfl
theorem pd_pch_2_0 : parseMethodDescriptor "([BII)V" = some ⟨[.array (.byte), .int, .int], none⟩ := by decide +kernel
set_option maxRecDepth 65536 in
set_option maxHeartbeats 40000000 in
theorem rm_pch_2_0 (l : Launch) (Z : State) (a0 : Array Value) (hw : ∀ d ∈ tables_1, d.before a0 Z = true)  (qb : Addr) (q1 : Int32) (h0 : Heap) (n0 : Nat) (XO : Old Z n0 h0) (SA : Sta Z Z.heap "java/lang/StringUTF16" "$assertionsDisabled" "Z" (.int (1 : Int32))) (SH : Sta Z Z.heap "java/lang/StringUTF16" "HI_BYTE_SHIFT" "I" (.int (0 : Int32))) (SL : Sta Z Z.heap "java/lang/StringUTF16" "LO_BYTE_SHIFT" "I" (.int (8 : Int32))) (ga : n0 ≤ qb) (v0 v1 : Int32) (A1 : Arl Z h0 qb .byte [(.int v0), (.int v1)]) :
    MetFree l (⟨"java/lang/StringUTF16", "putChar", "([BII)V"⟩ : MethodName) (head1 [Jvm.Cond.code (⟨"java/lang/StringUTF16", "putChar", "([BII)V"⟩ : MethodName) jdk_52_method_4_code 3 none] ({ frames := 0, cells := 0, slots := 0, locals := 0 } : Room)) (fun a U => a = #[(.ref qb), (.int (0 : Int32)), (.int q1)] ∧ Z.Warmed39 U.vm ∧ U.heap = h0) (fun _ _ _ _ _ => True) (fun _ U o U' => ∃ v L, o = .returned v ∧ PQ_2_0 Z qb q1 v0 v1 h0 n0 v U'.heap L ∧ FrameEnd U o U' L ({ frames := 0, cells := 0, slots := 0, locals := 0 } : Room).cells ({ frames := 0, cells := 0, slots := 0, locals := 0 } : Room).slots) := by
  refine MetFree.of_bodySF pn_pch_2_0 hisR ?_
  intro p e s m args below meth c s₁ Bd hml0 hP hK
  obtain ⟨rfl, hZ, hh⟩ := hP
  have hx := Bd.exec
  have hby := Bd.bytes
  have hml : c.maxLocals = 3 := hml0
  have hown : s.vm.findClass "java/lang/StringUTF16" = some m.cls := findClass_of_methodNamed Bd.named
  have hnm := (name_of_methodNamed Bd.named Bd.method).1
  have hlk : meth.locks = false := BodyLoose.notSynchronized Bd
  have X0 : Stand p l e ({ frames := 0, cells := 0, slots := 0, locals := 0 } : Room) s m #[(.ref qb), (.int (0 : Int32)), (.int q1)] below meth c s₁ [] 0 0 := Stand.of_body Bd
  have e0 : s₁.heap = h0 := by rw [← hh, Bd.state]; rfl
  show Go p e below (EndN below s (PQ_2_0 Z qb q1 v0 v1 h0 n0) ({ frames := 0, cells := 0, slots := 0, locals := 0 } : Room).cells ({ frames := 0, cells := 0, slots := 0, locals := 0 } : Room).slots) (s₁.setTop (entryFrame m #[(.ref qb), (.int (0 : Int32)), (.int q1)] 3))
  rw [ef_pch_2_0]
  obtain ⟨T_0, X_0, e_0, st_0⟩ := g_getS X0 hx hZ hown (hw _ (List.mem_of_getElem? (i := 89) rfl)) e0 (SA.ext XO.2) 3 (hb hby pch_2_0_0) rfl
  refine st_0 ?_
  refine g_ifY X_0 hx 28 (hb hby pch_2_0_3) (XT.i0_ne_t (by decide)) (by decide) (by decide) ?_
  refine g_iload_n X_0 hx 29 (0 : Int32) (hb hby pch_2_0_28) rfl rfl ?_
  refine g_iconst X_0 hx 30 (1 : Int32) (hb hby pch_2_0_29) rfl rfl ?_
  refine g_ishl X_0 hx 31 (hb hby pch_2_0_30) rfl ?_
  show Go p e below _ (T_0.setTop (mkF m 31 #[.val (.ref qb), .val (.int (0 : Int32)), .val (.int q1)] [(.int (0 : Int32))]))
  refine g_istore_n X_0 hx 32 #[.val (.ref qb), .val (.int (0 : Int32)), .val (.int q1)] (hb hby pch_2_0_31) rfl rfl ?_
  refine g_aload_n X_0 hx 33 (.ref qb) (hb hby pch_2_0_32) rfl rfl rfl ?_
  refine g_iload_n X_0 hx 34 (0 : Int32) (hb hby pch_2_0_33) rfl rfl ?_
  refine g_iinc X_0 hx 37 (1 : Int32) #[.val (.ref qb), .val (.int (1 : Int32)), .val (.int q1)] (hb hby pch_2_0_34) rfl rfl rfl rfl ?_
  refine g_iload_n X_0 hx 38 q1 (hb hby pch_2_0_37) rfl rfl ?_
  obtain ⟨T_38, X_38, e_38, st_38⟩ := g_getS X_0 hx hZ hown (hw _ (List.mem_of_getElem? (i := 90) rfl)) e_0 (SH.ext XO.2) 41 (hb hby pch_2_0_38) rfl
  refine st_38 ?_
  refine g_ishr X_38 hx 42 (hb hby pch_2_0_41) rfl ?_
  refine g_i2b X_38 hx 43 (hb hby pch_2_0_42) rfl ?_
  obtain ⟨T_43, h_43, X_43, e_43, W_43, B_43, st_43⟩ := g_bastore X_38 hx hZ e_38 A1 (j := (0 : Int32)) ((q1 >>> ((0 : Int32) &&& 31)).toInt8.toInt32) (k := 0) rfl (Nat.le_of_ble_eq_true rfl) 44 (hb hby pch_2_0_43) rfl
  refine st_43 ?_
  have C_43 : Arl Z h_43 qb .byte [(.int (lo8 q1)), (.int v1)] := by have z := B_43; rw [show (nar .byte ((q1 >>> ((0 : Int32) &&& 31)).toInt8.toInt32)) = (lo8 q1) from own_nb _] at z; exact z
  have F_43_0 : Arl Z h_43 qb .byte [(.int (lo8 q1)), (.int v1)] := C_43
  have N_43 := Fr.snoc X_43 (Fr.nil _) ga
  have Z_43 : h0.size ≤ h_43.size := by rw [W_43.size]; exact (Nat.le_refl _)
  have O_43 := Old.wr XO W_43 ga
  refine g_aload_n X_43 hx 45 (.ref qb) (hb hby pch_2_0_44) rfl rfl rfl ?_
  refine g_iload_n X_43 hx 46 (1 : Int32) (hb hby pch_2_0_45) rfl rfl ?_
  refine g_iload_n X_43 hx 47 q1 (hb hby pch_2_0_46) rfl rfl ?_
  obtain ⟨T_47, X_47, e_47, st_47⟩ := g_getS X_43 hx hZ hown (hw _ (List.mem_of_getElem? (i := 91) rfl)) e_43 (SL.ext O_43.2) 50 (hb hby pch_2_0_47) rfl
  refine st_47 ?_
  refine g_ishr X_47 hx 51 (hb hby pch_2_0_50) rfl ?_
  refine g_i2b X_47 hx 52 (hb hby pch_2_0_51) rfl ?_
  obtain ⟨T_52, h_52, X_52, e_52, W_52, B_52, st_52⟩ := g_bastore X_47 hx hZ e_47 F_43_0 (j := (1 : Int32)) ((q1 >>> ((8 : Int32) &&& 31)).toInt8.toInt32) (k := 1) rfl (Nat.le_of_ble_eq_true rfl) 53 (hb hby pch_2_0_52) rfl
  refine st_52 ?_
  have C_52 : Arl Z h_52 qb .byte [(.int (lo8 q1)), (.int (hi8 q1))] := by have z := B_52; rw [show (nar .byte ((q1 >>> ((8 : Int32) &&& 31)).toInt8.toInt32)) = (hi8 q1) from own_nb _] at z; exact z
  have F_52_0 : Arl Z h_52 qb .byte [(.int (lo8 q1)), (.int (hi8 q1))] := C_52
  have N_52 := Fr.snoc X_52 N_43 ga
  have Z_52 : h0.size ≤ h_52.size := by rw [W_52.size]; exact Z_43
  have O_52 := Old.wr O_43 W_52 ga
  exact Go.retV X_52 hx hlk Bd.returns (hb hby pch_2_0_53) (by decide) (by decide) ⟨rfl, N_52, e_52.symm ▸ (((Keep.refl _ _).wr W_43 (Or.inl (by simp))).wr W_52 (Or.inl (by simp))), e_52.symm ▸ F_52_0⟩
def PQ_4_0 (Z : State) (qb : Addr) (q1 v0 v1 v2 v3 : Int32) (h0 : Heap) (n0 : Nat) (v : Option Value) (h : Heap) (L : List Loc) : Prop := v = none ∧ Fr n0 L ∧ Keep h0 h [qb] ∧ Arl Z h qb .byte [(.int (lo8 q1)), (.int (hi8 q1)), (.int v2), (.int v3)]
theorem pch_4_0_0 : decode jdk_52_method_4_code 0 = .ok (.getstatic 44, 3) := by decide +kernel
theorem pch_4_0_3 : decode jdk_52_method_4_code 3 = .ok (.ifCond .ne 25, 3) := by decide +kernel
theorem pch_4_0_6 : decode jdk_52_method_4_code 6 = .ok (.iload_n 1, 1) := by decide +kernel
theorem pch_4_0_7 : decode jdk_52_method_4_code 7 = .ok (.ifCond .lt 11, 3) := by decide +kernel
theorem pch_4_0_10 : decode jdk_52_method_4_code 10 = .ok (.iload_n 1, 1) := by decide +kernel
theorem pch_4_0_11 : decode jdk_52_method_4_code 11 = .ok (.aload_n 0, 1) := by decide +kernel
theorem pch_4_0_12 : decode jdk_52_method_4_code 12 = .ok (.invokestatic 48, 3) := by decide +kernel
theorem pch_4_0_15 : decode jdk_52_method_4_code 15 = .ok (.if_icmp .lt 13, 3) := by decide +kernel
theorem pch_4_0_18 : decode jdk_52_method_4_code 18 = .ok (.new 52, 3) := by decide +kernel
theorem pch_4_0_21 : decode jdk_52_method_4_code 21 = .ok (.dup, 1) := by decide +kernel
theorem pch_4_0_22 : decode jdk_52_method_4_code 22 = .ok (.ldc 54, 2) := by decide +kernel
theorem pch_4_0_24 : decode jdk_52_method_4_code 24 = .ok (.invokespecial 56, 3) := by decide +kernel
theorem pch_4_0_27 : decode jdk_52_method_4_code 27 = .ok (.athrow, 1) := by decide +kernel
theorem pch_4_0_28 : decode jdk_52_method_4_code 28 = .ok (.iload_n 1, 1) := by decide +kernel
theorem pch_4_0_29 : decode jdk_52_method_4_code 29 = .ok (.iconst 1, 1) := by decide +kernel
theorem pch_4_0_30 : decode jdk_52_method_4_code 30 = .ok (.ishl, 1) := by decide +kernel
theorem pch_4_0_31 : decode jdk_52_method_4_code 31 = .ok (.istore_n 1, 1) := by decide +kernel
theorem pch_4_0_32 : decode jdk_52_method_4_code 32 = .ok (.aload_n 0, 1) := by decide +kernel
theorem pch_4_0_33 : decode jdk_52_method_4_code 33 = .ok (.iload_n 1, 1) := by decide +kernel
theorem pch_4_0_34 : decode jdk_52_method_4_code 34 = .ok (.iinc 1 1, 3) := by decide +kernel
theorem pch_4_0_37 : decode jdk_52_method_4_code 37 = .ok (.iload_n 2, 1) := by decide +kernel
theorem pch_4_0_38 : decode jdk_52_method_4_code 38 = .ok (.getstatic 59, 3) := by decide +kernel
theorem pch_4_0_41 : decode jdk_52_method_4_code 41 = .ok (.ishr, 1) := by decide +kernel
theorem pch_4_0_42 : decode jdk_52_method_4_code 42 = .ok (.i2b, 1) := by decide +kernel
theorem pch_4_0_43 : decode jdk_52_method_4_code 43 = .ok (.bastore, 1) := by decide +kernel
theorem pch_4_0_44 : decode jdk_52_method_4_code 44 = .ok (.aload_n 0, 1) := by decide +kernel
theorem pch_4_0_45 : decode jdk_52_method_4_code 45 = .ok (.iload_n 1, 1) := by decide +kernel
theorem pch_4_0_46 : decode jdk_52_method_4_code 46 = .ok (.iload_n 2, 1) := by decide +kernel
theorem pch_4_0_47 : decode jdk_52_method_4_code 47 = .ok (.getstatic 63, 3) := by decide +kernel
theorem pch_4_0_50 : decode jdk_52_method_4_code 50 = .ok (.ishr, 1) := by decide +kernel
theorem pch_4_0_51 : decode jdk_52_method_4_code 51 = .ok (.i2b, 1) := by decide +kernel
theorem pch_4_0_52 : decode jdk_52_method_4_code 52 = .ok (.bastore, 1) := by decide +kernel
theorem pch_4_0_53 : decode jdk_52_method_4_code 53 = .ok (.return_, 1) := by decide +kernel
theorem pn_pch_4_0 : plainFor (⟨"java/lang/StringUTF16", "putChar", "([BII)V"⟩ : MethodName) = true := by first | exact plainFor_of_name (by first | (simp [plainName, overriddenIn]; done) | decide +kernel) | decide +kernel
theorem ef_pch_4_0 (m : MethodId) (qb : Addr) (q1 : Int32)  : entryFrame m #[(.ref qb), (.int (0 : Int32)), (.int q1)] 3 = mkF m 0 #[.val (.ref qb), .val (.int (0 : Int32)), .val (.int q1)] [] := by first | (simp [entryFrame, mkF, argsToLocals, Value.category, maxLocals]; done) | rfl
theorem pd_pch_4_0 : parseMethodDescriptor "([BII)V" = some ⟨[.array (.byte), .int, .int], none⟩ := by decide +kernel
set_option maxRecDepth 65536 in
set_option maxHeartbeats 40000000 in
theorem rm_pch_4_0 (l : Launch) (Z : State) (a0 : Array Value) (hw : ∀ d ∈ tables_1, d.before a0 Z = true)  (qb : Addr) (q1 : Int32) (h0 : Heap) (n0 : Nat) (XO : Old Z n0 h0) (SA : Sta Z Z.heap "java/lang/StringUTF16" "$assertionsDisabled" "Z" (.int (1 : Int32))) (SH : Sta Z Z.heap "java/lang/StringUTF16" "HI_BYTE_SHIFT" "I" (.int (0 : Int32))) (SL : Sta Z Z.heap "java/lang/StringUTF16" "LO_BYTE_SHIFT" "I" (.int (8 : Int32))) (ga : n0 ≤ qb) (v0 v1 v2 v3 : Int32) (A1 : Arl Z h0 qb .byte [(.int v0), (.int v1), (.int v2), (.int v3)]) :
    MetFree l (⟨"java/lang/StringUTF16", "putChar", "([BII)V"⟩ : MethodName) (head1 [Jvm.Cond.code (⟨"java/lang/StringUTF16", "putChar", "([BII)V"⟩ : MethodName) jdk_52_method_4_code 3 none] ({ frames := 0, cells := 0, slots := 0, locals := 0 } : Room)) (fun a U => a = #[(.ref qb), (.int (0 : Int32)), (.int q1)] ∧ Z.Warmed39 U.vm ∧ U.heap = h0) (fun _ _ _ _ _ => True) (fun _ U o U' => ∃ v L, o = .returned v ∧ PQ_4_0 Z qb q1 v0 v1 v2 v3 h0 n0 v U'.heap L ∧ FrameEnd U o U' L ({ frames := 0, cells := 0, slots := 0, locals := 0 } : Room).cells ({ frames := 0, cells := 0, slots := 0, locals := 0 } : Room).slots) := by
  refine MetFree.of_bodySF pn_pch_4_0 hisR ?_
  intro p e s m args below meth c s₁ Bd hml0 hP hK
  obtain ⟨rfl, hZ, hh⟩ := hP
  have hx := Bd.exec
  have hby := Bd.bytes
  have hml : c.maxLocals = 3 := hml0
  have hown : s.vm.findClass "java/lang/StringUTF16" = some m.cls := findClass_of_methodNamed Bd.named
  have hnm := (name_of_methodNamed Bd.named Bd.method).1
  have hlk : meth.locks = false := BodyLoose.notSynchronized Bd
  have X0 : Stand p l e ({ frames := 0, cells := 0, slots := 0, locals := 0 } : Room) s m #[(.ref qb), (.int (0 : Int32)), (.int q1)] below meth c s₁ [] 0 0 := Stand.of_body Bd
  have e0 : s₁.heap = h0 := by rw [← hh, Bd.state]; rfl
  show Go p e below (EndN below s (PQ_4_0 Z qb q1 v0 v1 v2 v3 h0 n0) ({ frames := 0, cells := 0, slots := 0, locals := 0 } : Room).cells ({ frames := 0, cells := 0, slots := 0, locals := 0 } : Room).slots) (s₁.setTop (entryFrame m #[(.ref qb), (.int (0 : Int32)), (.int q1)] 3))
  rw [ef_pch_4_0]
  obtain ⟨T_0, X_0, e_0, st_0⟩ := g_getS X0 hx hZ hown (hw _ (List.mem_of_getElem? (i := 89) rfl)) e0 (SA.ext XO.2) 3 (hb hby pch_4_0_0) rfl
  refine st_0 ?_
  refine g_ifY X_0 hx 28 (hb hby pch_4_0_3) (XT.i0_ne_t (by decide)) (by decide) (by decide) ?_
  refine g_iload_n X_0 hx 29 (0 : Int32) (hb hby pch_4_0_28) rfl rfl ?_
  refine g_iconst X_0 hx 30 (1 : Int32) (hb hby pch_4_0_29) rfl rfl ?_
  refine g_ishl X_0 hx 31 (hb hby pch_4_0_30) rfl ?_
  show Go p e below _ (T_0.setTop (mkF m 31 #[.val (.ref qb), .val (.int (0 : Int32)), .val (.int q1)] [(.int (0 : Int32))]))
  refine g_istore_n X_0 hx 32 #[.val (.ref qb), .val (.int (0 : Int32)), .val (.int q1)] (hb hby pch_4_0_31) rfl rfl ?_
  refine g_aload_n X_0 hx 33 (.ref qb) (hb hby pch_4_0_32) rfl rfl rfl ?_
  refine g_iload_n X_0 hx 34 (0 : Int32) (hb hby pch_4_0_33) rfl rfl ?_
  refine g_iinc X_0 hx 37 (1 : Int32) #[.val (.ref qb), .val (.int (1 : Int32)), .val (.int q1)] (hb hby pch_4_0_34) rfl rfl rfl rfl ?_
  refine g_iload_n X_0 hx 38 q1 (hb hby pch_4_0_37) rfl rfl ?_
  obtain ⟨T_38, X_38, e_38, st_38⟩ := g_getS X_0 hx hZ hown (hw _ (List.mem_of_getElem? (i := 90) rfl)) e_0 (SH.ext XO.2) 41 (hb hby pch_4_0_38) rfl
  refine st_38 ?_
  refine g_ishr X_38 hx 42 (hb hby pch_4_0_41) rfl ?_
  refine g_i2b X_38 hx 43 (hb hby pch_4_0_42) rfl ?_
  obtain ⟨T_43, h_43, X_43, e_43, W_43, B_43, st_43⟩ := g_bastore X_38 hx hZ e_38 A1 (j := (0 : Int32)) ((q1 >>> ((0 : Int32) &&& 31)).toInt8.toInt32) (k := 0) rfl (Nat.le_of_ble_eq_true rfl) 44 (hb hby pch_4_0_43) rfl
  refine st_43 ?_
  have C_43 : Arl Z h_43 qb .byte [(.int (lo8 q1)), (.int v1), (.int v2), (.int v3)] := by have z := B_43; rw [show (nar .byte ((q1 >>> ((0 : Int32) &&& 31)).toInt8.toInt32)) = (lo8 q1) from own_nb _] at z; exact z
  have F_43_0 : Arl Z h_43 qb .byte [(.int (lo8 q1)), (.int v1), (.int v2), (.int v3)] := C_43
  have N_43 := Fr.snoc X_43 (Fr.nil _) ga
  have Z_43 : h0.size ≤ h_43.size := by rw [W_43.size]; exact (Nat.le_refl _)
  have O_43 := Old.wr XO W_43 ga
  refine g_aload_n X_43 hx 45 (.ref qb) (hb hby pch_4_0_44) rfl rfl rfl ?_
  refine g_iload_n X_43 hx 46 (1 : Int32) (hb hby pch_4_0_45) rfl rfl ?_
  refine g_iload_n X_43 hx 47 q1 (hb hby pch_4_0_46) rfl rfl ?_
  obtain ⟨T_47, X_47, e_47, st_47⟩ := g_getS X_43 hx hZ hown (hw _ (List.mem_of_getElem? (i := 91) rfl)) e_43 (SL.ext O_43.2) 50 (hb hby pch_4_0_47) rfl
  refine st_47 ?_
  refine g_ishr X_47 hx 51 (hb hby pch_4_0_50) rfl ?_
  refine g_i2b X_47 hx 52 (hb hby pch_4_0_51) rfl ?_
  obtain ⟨T_52, h_52, X_52, e_52, W_52, B_52, st_52⟩ := g_bastore X_47 hx hZ e_47 F_43_0 (j := (1 : Int32)) ((q1 >>> ((8 : Int32) &&& 31)).toInt8.toInt32) (k := 1) rfl (Nat.le_of_ble_eq_true rfl) 53 (hb hby pch_4_0_52) rfl
  refine st_52 ?_
  have C_52 : Arl Z h_52 qb .byte [(.int (lo8 q1)), (.int (hi8 q1)), (.int v2), (.int v3)] := by have z := B_52; rw [show (nar .byte ((q1 >>> ((8 : Int32) &&& 31)).toInt8.toInt32)) = (hi8 q1) from own_nb _] at z; exact z
  have F_52_0 : Arl Z h_52 qb .byte [(.int (lo8 q1)), (.int (hi8 q1)), (.int v2), (.int v3)] := C_52
  have N_52 := Fr.snoc X_52 N_43 ga
  have Z_52 : h0.size ≤ h_52.size := by rw [W_52.size]; exact Z_43
  have O_52 := Old.wr O_43 W_52 ga
  exact Go.retV X_52 hx hlk Bd.returns (hb hby pch_4_0_53) (by decide) (by decide) ⟨rfl, N_52, e_52.symm ▸ (((Keep.refl _ _).wr W_43 (Or.inl (by simp))).wr W_52 (Or.inl (by simp))), e_52.symm ▸ F_52_0⟩
def PQ_4_1 (Z : State) (qb : Addr) (q1 v0 v1 v2 v3 : Int32) (h0 : Heap) (n0 : Nat) (v : Option Value) (h : Heap) (L : List Loc) : Prop := v = none ∧ Fr n0 L ∧ Keep h0 h [qb] ∧ Arl Z h qb .byte [(.int v0), (.int v1), (.int (lo8 q1)), (.int (hi8 q1))]
theorem pch_4_1_0 : decode jdk_52_method_4_code 0 = .ok (.getstatic 44, 3) := by decide +kernel
theorem pch_4_1_3 : decode jdk_52_method_4_code 3 = .ok (.ifCond .ne 25, 3) := by decide +kernel
theorem pch_4_1_6 : decode jdk_52_method_4_code 6 = .ok (.iload_n 1, 1) := by decide +kernel
theorem pch_4_1_7 : decode jdk_52_method_4_code 7 = .ok (.ifCond .lt 11, 3) := by decide +kernel
theorem pch_4_1_10 : decode jdk_52_method_4_code 10 = .ok (.iload_n 1, 1) := by decide +kernel
theorem pch_4_1_11 : decode jdk_52_method_4_code 11 = .ok (.aload_n 0, 1) := by decide +kernel
theorem pch_4_1_12 : decode jdk_52_method_4_code 12 = .ok (.invokestatic 48, 3) := by decide +kernel
theorem pch_4_1_15 : decode jdk_52_method_4_code 15 = .ok (.if_icmp .lt 13, 3) := by decide +kernel
theorem pch_4_1_18 : decode jdk_52_method_4_code 18 = .ok (.new 52, 3) := by decide +kernel
theorem pch_4_1_21 : decode jdk_52_method_4_code 21 = .ok (.dup, 1) := by decide +kernel
theorem pch_4_1_22 : decode jdk_52_method_4_code 22 = .ok (.ldc 54, 2) := by decide +kernel
theorem pch_4_1_24 : decode jdk_52_method_4_code 24 = .ok (.invokespecial 56, 3) := by decide +kernel
theorem pch_4_1_27 : decode jdk_52_method_4_code 27 = .ok (.athrow, 1) := by decide +kernel
theorem pch_4_1_28 : decode jdk_52_method_4_code 28 = .ok (.iload_n 1, 1) := by decide +kernel
theorem pch_4_1_29 : decode jdk_52_method_4_code 29 = .ok (.iconst 1, 1) := by decide +kernel
theorem pch_4_1_30 : decode jdk_52_method_4_code 30 = .ok (.ishl, 1) := by decide +kernel
theorem pch_4_1_31 : decode jdk_52_method_4_code 31 = .ok (.istore_n 1, 1) := by decide +kernel
theorem pch_4_1_32 : decode jdk_52_method_4_code 32 = .ok (.aload_n 0, 1) := by decide +kernel
theorem pch_4_1_33 : decode jdk_52_method_4_code 33 = .ok (.iload_n 1, 1) := by decide +kernel
theorem pch_4_1_34 : decode jdk_52_method_4_code 34 = .ok (.iinc 1 1, 3) := by decide +kernel
theorem pch_4_1_37 : decode jdk_52_method_4_code 37 = .ok (.iload_n 2, 1) := by decide +kernel
theorem pch_4_1_38 : decode jdk_52_method_4_code 38 = .ok (.getstatic 59, 3) := by decide +kernel
theorem pch_4_1_41 : decode jdk_52_method_4_code 41 = .ok (.ishr, 1) := by decide +kernel
theorem pch_4_1_42 : decode jdk_52_method_4_code 42 = .ok (.i2b, 1) := by decide +kernel
theorem pch_4_1_43 : decode jdk_52_method_4_code 43 = .ok (.bastore, 1) := by decide +kernel
theorem pch_4_1_44 : decode jdk_52_method_4_code 44 = .ok (.aload_n 0, 1) := by decide +kernel
theorem pch_4_1_45 : decode jdk_52_method_4_code 45 = .ok (.iload_n 1, 1) := by decide +kernel
theorem pch_4_1_46 : decode jdk_52_method_4_code 46 = .ok (.iload_n 2, 1) := by decide +kernel
theorem pch_4_1_47 : decode jdk_52_method_4_code 47 = .ok (.getstatic 63, 3) := by decide +kernel
theorem pch_4_1_50 : decode jdk_52_method_4_code 50 = .ok (.ishr, 1) := by decide +kernel
theorem pch_4_1_51 : decode jdk_52_method_4_code 51 = .ok (.i2b, 1) := by decide +kernel
theorem pch_4_1_52 : decode jdk_52_method_4_code 52 = .ok (.bastore, 1) := by decide +kernel
theorem pch_4_1_53 : decode jdk_52_method_4_code 53 = .ok (.return_, 1) := by decide +kernel
theorem pn_pch_4_1 : plainFor (⟨"java/lang/StringUTF16", "putChar", "([BII)V"⟩ : MethodName) = true := by first | exact plainFor_of_name (by first | (simp [plainName, overriddenIn]; done) | decide +kernel) | decide +kernel
theorem ef_pch_4_1 (m : MethodId) (qb : Addr) (q1 : Int32)  : entryFrame m #[(.ref qb), (.int (1 : Int32)), (.int q1)] 3 = mkF m 0 #[.val (.ref qb), .val (.int (1 : Int32)), .val (.int q1)] [] := by first | (simp [entryFrame, mkF, argsToLocals, Value.category, maxLocals]; done) | rfl
theorem pd_pch_4_1 : parseMethodDescriptor "([BII)V" = some ⟨[.array (.byte), .int, .int], none⟩ := by decide +kernel
set_option maxRecDepth 65536 in
set_option maxHeartbeats 40000000 in
theorem rm_pch_4_1 (l : Launch) (Z : State) (a0 : Array Value) (hw : ∀ d ∈ tables_1, d.before a0 Z = true)  (qb : Addr) (q1 : Int32) (h0 : Heap) (n0 : Nat) (XO : Old Z n0 h0) (SA : Sta Z Z.heap "java/lang/StringUTF16" "$assertionsDisabled" "Z" (.int (1 : Int32))) (SH : Sta Z Z.heap "java/lang/StringUTF16" "HI_BYTE_SHIFT" "I" (.int (0 : Int32))) (SL : Sta Z Z.heap "java/lang/StringUTF16" "LO_BYTE_SHIFT" "I" (.int (8 : Int32))) (ga : n0 ≤ qb) (v0 v1 v2 v3 : Int32) (A1 : Arl Z h0 qb .byte [(.int v0), (.int v1), (.int v2), (.int v3)]) :
    MetFree l (⟨"java/lang/StringUTF16", "putChar", "([BII)V"⟩ : MethodName) (head1 [Jvm.Cond.code (⟨"java/lang/StringUTF16", "putChar", "([BII)V"⟩ : MethodName) jdk_52_method_4_code 3 none] ({ frames := 0, cells := 0, slots := 0, locals := 0 } : Room)) (fun a U => a = #[(.ref qb), (.int (1 : Int32)), (.int q1)] ∧ Z.Warmed39 U.vm ∧ U.heap = h0) (fun _ _ _ _ _ => True) (fun _ U o U' => ∃ v L, o = .returned v ∧ PQ_4_1 Z qb q1 v0 v1 v2 v3 h0 n0 v U'.heap L ∧ FrameEnd U o U' L ({ frames := 0, cells := 0, slots := 0, locals := 0 } : Room).cells ({ frames := 0, cells := 0, slots := 0, locals := 0 } : Room).slots) := by
  refine MetFree.of_bodySF pn_pch_4_1 hisR ?_
  intro p e s m args below meth c s₁ Bd hml0 hP hK
  obtain ⟨rfl, hZ, hh⟩ := hP
  have hx := Bd.exec
  have hby := Bd.bytes
  have hml : c.maxLocals = 3 := hml0
  have hown : s.vm.findClass "java/lang/StringUTF16" = some m.cls := findClass_of_methodNamed Bd.named
  have hnm := (name_of_methodNamed Bd.named Bd.method).1
  have hlk : meth.locks = false := BodyLoose.notSynchronized Bd
  have X0 : Stand p l e ({ frames := 0, cells := 0, slots := 0, locals := 0 } : Room) s m #[(.ref qb), (.int (1 : Int32)), (.int q1)] below meth c s₁ [] 0 0 := Stand.of_body Bd
  have e0 : s₁.heap = h0 := by rw [← hh, Bd.state]; rfl
  show Go p e below (EndN below s (PQ_4_1 Z qb q1 v0 v1 v2 v3 h0 n0) ({ frames := 0, cells := 0, slots := 0, locals := 0 } : Room).cells ({ frames := 0, cells := 0, slots := 0, locals := 0 } : Room).slots) (s₁.setTop (entryFrame m #[(.ref qb), (.int (1 : Int32)), (.int q1)] 3))
  rw [ef_pch_4_1]
  obtain ⟨T_0, X_0, e_0, st_0⟩ := g_getS X0 hx hZ hown (hw _ (List.mem_of_getElem? (i := 89) rfl)) e0 (SA.ext XO.2) 3 (hb hby pch_4_1_0) rfl
  refine st_0 ?_
  refine g_ifY X_0 hx 28 (hb hby pch_4_1_3) (XT.i0_ne_t (by decide)) (by decide) (by decide) ?_
  refine g_iload_n X_0 hx 29 (1 : Int32) (hb hby pch_4_1_28) rfl rfl ?_
  refine g_iconst X_0 hx 30 (1 : Int32) (hb hby pch_4_1_29) rfl rfl ?_
  refine g_ishl X_0 hx 31 (hb hby pch_4_1_30) rfl ?_
  show Go p e below _ (T_0.setTop (mkF m 31 #[.val (.ref qb), .val (.int (1 : Int32)), .val (.int q1)] [(.int (2 : Int32))]))
  refine g_istore_n X_0 hx 32 #[.val (.ref qb), .val (.int (2 : Int32)), .val (.int q1)] (hb hby pch_4_1_31) rfl rfl ?_
  refine g_aload_n X_0 hx 33 (.ref qb) (hb hby pch_4_1_32) rfl rfl rfl ?_
  refine g_iload_n X_0 hx 34 (2 : Int32) (hb hby pch_4_1_33) rfl rfl ?_
  refine g_iinc X_0 hx 37 (1 : Int32) #[.val (.ref qb), .val (.int (3 : Int32)), .val (.int q1)] (hb hby pch_4_1_34) rfl rfl rfl rfl ?_
  refine g_iload_n X_0 hx 38 q1 (hb hby pch_4_1_37) rfl rfl ?_
  obtain ⟨T_38, X_38, e_38, st_38⟩ := g_getS X_0 hx hZ hown (hw _ (List.mem_of_getElem? (i := 90) rfl)) e_0 (SH.ext XO.2) 41 (hb hby pch_4_1_38) rfl
  refine st_38 ?_
  refine g_ishr X_38 hx 42 (hb hby pch_4_1_41) rfl ?_
  refine g_i2b X_38 hx 43 (hb hby pch_4_1_42) rfl ?_
  obtain ⟨T_43, h_43, X_43, e_43, W_43, B_43, st_43⟩ := g_bastore X_38 hx hZ e_38 A1 (j := (2 : Int32)) ((q1 >>> ((0 : Int32) &&& 31)).toInt8.toInt32) (k := 2) rfl (Nat.le_of_ble_eq_true rfl) 44 (hb hby pch_4_1_43) rfl
  refine st_43 ?_
  have C_43 : Arl Z h_43 qb .byte [(.int v0), (.int v1), (.int (lo8 q1)), (.int v3)] := by have z := B_43; rw [show (nar .byte ((q1 >>> ((0 : Int32) &&& 31)).toInt8.toInt32)) = (lo8 q1) from own_nb _] at z; exact z
  have F_43_0 : Arl Z h_43 qb .byte [(.int v0), (.int v1), (.int (lo8 q1)), (.int v3)] := C_43
  have N_43 := Fr.snoc X_43 (Fr.nil _) ga
  have Z_43 : h0.size ≤ h_43.size := by rw [W_43.size]; exact (Nat.le_refl _)
  have O_43 := Old.wr XO W_43 ga
  refine g_aload_n X_43 hx 45 (.ref qb) (hb hby pch_4_1_44) rfl rfl rfl ?_
  refine g_iload_n X_43 hx 46 (3 : Int32) (hb hby pch_4_1_45) rfl rfl ?_
  refine g_iload_n X_43 hx 47 q1 (hb hby pch_4_1_46) rfl rfl ?_
  obtain ⟨T_47, X_47, e_47, st_47⟩ := g_getS X_43 hx hZ hown (hw _ (List.mem_of_getElem? (i := 91) rfl)) e_43 (SL.ext O_43.2) 50 (hb hby pch_4_1_47) rfl
  refine st_47 ?_
  refine g_ishr X_47 hx 51 (hb hby pch_4_1_50) rfl ?_
  refine g_i2b X_47 hx 52 (hb hby pch_4_1_51) rfl ?_
  obtain ⟨T_52, h_52, X_52, e_52, W_52, B_52, st_52⟩ := g_bastore X_47 hx hZ e_47 F_43_0 (j := (3 : Int32)) ((q1 >>> ((8 : Int32) &&& 31)).toInt8.toInt32) (k := 3) rfl (Nat.le_of_ble_eq_true rfl) 53 (hb hby pch_4_1_52) rfl
  refine st_52 ?_
  have C_52 : Arl Z h_52 qb .byte [(.int v0), (.int v1), (.int (lo8 q1)), (.int (hi8 q1))] := by have z := B_52; rw [show (nar .byte ((q1 >>> ((8 : Int32) &&& 31)).toInt8.toInt32)) = (hi8 q1) from own_nb _] at z; exact z
  have F_52_0 : Arl Z h_52 qb .byte [(.int v0), (.int v1), (.int (lo8 q1)), (.int (hi8 q1))] := C_52
  have N_52 := Fr.snoc X_52 N_43 ga
  have Z_52 : h0.size ≤ h_52.size := by rw [W_52.size]; exact Z_43
  have O_52 := Old.wr O_43 W_52 ga
  exact Go.retV X_52 hx hlk Bd.returns (hb hby pch_4_1_53) (by decide) (by decide) ⟨rfl, N_52, e_52.symm ▸ (((Keep.refl _ _).wr W_43 (Or.inl (by simp))).wr W_52 (Or.inl (by simp))), e_52.symm ▸ F_52_0⟩
theorem gch_0_0 : decode jdk_52_method_5_code 0 = .ok (.getstatic 44, 3) := by decide +kernel
theorem gch_0_3 : decode jdk_52_method_5_code 3 = .ok (.ifCond .ne 25, 3) := by decide +kernel
theorem gch_0_6 : decode jdk_52_method_5_code 6 = .ok (.iload_n 1, 1) := by decide +kernel
theorem gch_0_7 : decode jdk_52_method_5_code 7 = .ok (.ifCond .lt 11, 3) := by decide +kernel
theorem gch_0_10 : decode jdk_52_method_5_code 10 = .ok (.iload_n 1, 1) := by decide +kernel
theorem gch_0_11 : decode jdk_52_method_5_code 11 = .ok (.aload_n 0, 1) := by decide +kernel
theorem gch_0_12 : decode jdk_52_method_5_code 12 = .ok (.invokestatic 48, 3) := by decide +kernel
theorem gch_0_15 : decode jdk_52_method_5_code 15 = .ok (.if_icmp .lt 13, 3) := by decide +kernel
theorem gch_0_18 : decode jdk_52_method_5_code 18 = .ok (.new 52, 3) := by decide +kernel
theorem gch_0_21 : decode jdk_52_method_5_code 21 = .ok (.dup, 1) := by decide +kernel
theorem gch_0_22 : decode jdk_52_method_5_code 22 = .ok (.ldc 54, 2) := by decide +kernel
theorem gch_0_24 : decode jdk_52_method_5_code 24 = .ok (.invokespecial 56, 3) := by decide +kernel
theorem gch_0_27 : decode jdk_52_method_5_code 27 = .ok (.athrow, 1) := by decide +kernel
theorem gch_0_28 : decode jdk_52_method_5_code 28 = .ok (.iload_n 1, 1) := by decide +kernel
theorem gch_0_29 : decode jdk_52_method_5_code 29 = .ok (.iconst 1, 1) := by decide +kernel
theorem gch_0_30 : decode jdk_52_method_5_code 30 = .ok (.ishl, 1) := by decide +kernel
theorem gch_0_31 : decode jdk_52_method_5_code 31 = .ok (.istore_n 1, 1) := by decide +kernel
theorem gch_0_32 : decode jdk_52_method_5_code 32 = .ok (.aload_n 0, 1) := by decide +kernel
theorem gch_0_33 : decode jdk_52_method_5_code 33 = .ok (.iload_n 1, 1) := by decide +kernel
theorem gch_0_34 : decode jdk_52_method_5_code 34 = .ok (.iinc 1 1, 3) := by decide +kernel
theorem gch_0_37 : decode jdk_52_method_5_code 37 = .ok (.baload, 1) := by decide +kernel
theorem gch_0_38 : decode jdk_52_method_5_code 38 = .ok (.sipush 255, 3) := by decide +kernel
theorem gch_0_41 : decode jdk_52_method_5_code 41 = .ok (.iand, 1) := by decide +kernel
theorem gch_0_42 : decode jdk_52_method_5_code 42 = .ok (.getstatic 59, 3) := by decide +kernel
theorem gch_0_45 : decode jdk_52_method_5_code 45 = .ok (.ishl, 1) := by decide +kernel
theorem gch_0_46 : decode jdk_52_method_5_code 46 = .ok (.aload_n 0, 1) := by decide +kernel
theorem gch_0_47 : decode jdk_52_method_5_code 47 = .ok (.iload_n 1, 1) := by decide +kernel
theorem gch_0_48 : decode jdk_52_method_5_code 48 = .ok (.baload, 1) := by decide +kernel
theorem gch_0_49 : decode jdk_52_method_5_code 49 = .ok (.sipush 255, 3) := by decide +kernel
theorem gch_0_52 : decode jdk_52_method_5_code 52 = .ok (.iand, 1) := by decide +kernel
theorem gch_0_53 : decode jdk_52_method_5_code 53 = .ok (.getstatic 63, 3) := by decide +kernel
theorem gch_0_56 : decode jdk_52_method_5_code 56 = .ok (.ishl, 1) := by decide +kernel
theorem gch_0_57 : decode jdk_52_method_5_code 57 = .ok (.ior, 1) := by decide +kernel
theorem gch_0_58 : decode jdk_52_method_5_code 58 = .ok (.i2c, 1) := by decide +kernel
theorem gch_0_59 : decode jdk_52_method_5_code 59 = .ok (.ireturn, 1) := by decide +kernel
theorem pn_gch_0 : plainFor (⟨"java/lang/StringUTF16", "getChar", "([BI)C"⟩ : MethodName) = true := by first | exact plainFor_of_name (by first | (simp [plainName, overriddenIn]; done) | decide +kernel) | decide +kernel
theorem ef_gch_0 (m : MethodId) (qb : Addr)  : entryFrame m #[(.ref qb), (.int (0 : Int32))] 2 = mkF m 0 #[.val (.ref qb), .val (.int (0 : Int32))] [] := by first | (simp [entryFrame, mkF, argsToLocals, Value.category, maxLocals]; done) | rfl
theorem pd_gch_0 : parseMethodDescriptor "([BI)C" = some ⟨[.array (.byte), .int], some (.char)⟩ := by decide +kernel
set_option maxRecDepth 65536 in
set_option maxHeartbeats 40000000 in
theorem rm_gch_0 (l : Launch) (Z : State) (a0 : Array Value) (hw : ∀ d ∈ tables_1, d.before a0 Z = true)  (qb : Addr) (h0 : Heap) (n0 : Nat) (XO : Old Z n0 h0) (SA : Sta Z Z.heap "java/lang/StringUTF16" "$assertionsDisabled" "Z" (.int (1 : Int32))) (SH : Sta Z Z.heap "java/lang/StringUTF16" "HI_BYTE_SHIFT" "I" (.int (0 : Int32))) (SL : Sta Z Z.heap "java/lang/StringUTF16" "LO_BYTE_SHIFT" "I" (.int (8 : Int32))) (c0 c1 : Int32) (hch : Ch c0) (A1 : Arl Z h0 qb .byte [(.int (lo8 c0)), (.int (hi8 c0)), (.int (lo8 c1)), (.int (hi8 c1))]) :
    MetFree l (⟨"java/lang/StringUTF16", "getChar", "([BI)C"⟩ : MethodName) (head1 [Jvm.Cond.code (⟨"java/lang/StringUTF16", "getChar", "([BI)C"⟩ : MethodName) jdk_52_method_5_code 2 (some Jvm.ClassFile.FieldType.char)] ({ frames := 0, cells := 0, slots := 0, locals := 0 } : Room)) (fun a U => a = #[(.ref qb), (.int (0 : Int32))] ∧ Z.Warmed39 U.vm ∧ U.heap = h0) (fun _ _ _ _ _ => True) (fun _ U o U' => ∃ v L, o = .returned v ∧ Pur (some (.int c0)) h0 v U'.heap L ∧ FrameEnd U o U' L ({ frames := 0, cells := 0, slots := 0, locals := 0 } : Room).cells ({ frames := 0, cells := 0, slots := 0, locals := 0 } : Room).slots) := by
  refine MetFree.of_bodySF pn_gch_0 hisR ?_
  intro p e s m args below meth c s₁ Bd hml0 hP hK
  obtain ⟨rfl, hZ, hh⟩ := hP
  have hx := Bd.exec
  have hby := Bd.bytes
  have hml : c.maxLocals = 2 := hml0
  have hown : s.vm.findClass "java/lang/StringUTF16" = some m.cls := findClass_of_methodNamed Bd.named
  have hnm := (name_of_methodNamed Bd.named Bd.method).1
  have hlk : meth.locks = false := BodyLoose.notSynchronized Bd
  have X0 : Stand p l e ({ frames := 0, cells := 0, slots := 0, locals := 0 } : Room) s m #[(.ref qb), (.int (0 : Int32))] below meth c s₁ [] 0 0 := Stand.of_body Bd
  have e0 : s₁.heap = h0 := by rw [← hh, Bd.state]; rfl
  show Go p e below (EndN below s (Pur (some (.int c0)) h0) ({ frames := 0, cells := 0, slots := 0, locals := 0 } : Room).cells ({ frames := 0, cells := 0, slots := 0, locals := 0 } : Room).slots) (s₁.setTop (entryFrame m #[(.ref qb), (.int (0 : Int32))] 2))
  rw [ef_gch_0]
  obtain ⟨T_0, X_0, e_0, st_0⟩ := g_getS X0 hx hZ hown (hw _ (List.mem_of_getElem? (i := 89) rfl)) e0 (SA.ext XO.2) 3 (hb hby gch_0_0) rfl
  refine st_0 ?_
  refine g_ifY X_0 hx 28 (hb hby gch_0_3) (XT.i0_ne_t (by decide)) (by decide) (by decide) ?_
  refine g_iload_n X_0 hx 29 (0 : Int32) (hb hby gch_0_28) rfl rfl ?_
  refine g_iconst X_0 hx 30 (1 : Int32) (hb hby gch_0_29) rfl rfl ?_
  refine g_ishl X_0 hx 31 (hb hby gch_0_30) rfl ?_
  show Go p e below _ (T_0.setTop (mkF m 31 #[.val (.ref qb), .val (.int (0 : Int32))] [(.int (0 : Int32))]))
  refine g_istore_n X_0 hx 32 #[.val (.ref qb), .val (.int (0 : Int32))] (hb hby gch_0_31) rfl rfl ?_
  refine g_aload_n X_0 hx 33 (.ref qb) (hb hby gch_0_32) rfl rfl rfl ?_
  refine g_iload_n X_0 hx 34 (0 : Int32) (hb hby gch_0_33) rfl rfl ?_
  refine g_iinc X_0 hx 37 (1 : Int32) #[.val (.ref qb), .val (.int (1 : Int32))] (hb hby gch_0_34) rfl rfl rfl rfl ?_
  refine g_baload X_0 hx hZ e_0 A1 (k := 0) rfl (.int (lo8 c0)) rfl 38 (hb hby gch_0_37) rfl ?_
  refine g_sipush X_0 hx 41 (255 : Int32) (hb hby gch_0_38) rfl rfl ?_
  refine g_iand X_0 hx 42 (hb hby gch_0_41) rfl ?_
  obtain ⟨T_42, X_42, e_42, st_42⟩ := g_getS X_0 hx hZ hown (hw _ (List.mem_of_getElem? (i := 90) rfl)) e_0 (SH.ext XO.2) 45 (hb hby gch_0_42) rfl
  refine st_42 ?_
  refine g_ishl X_42 hx 46 (hb hby gch_0_45) rfl ?_
  refine g_aload_n X_42 hx 47 (.ref qb) (hb hby gch_0_46) rfl rfl rfl ?_
  refine g_iload_n X_42 hx 48 (1 : Int32) (hb hby gch_0_47) rfl rfl ?_
  refine g_baload X_42 hx hZ e_42 A1 (k := 1) rfl (.int (hi8 c0)) rfl 49 (hb hby gch_0_48) rfl ?_
  refine g_sipush X_42 hx 52 (255 : Int32) (hb hby gch_0_49) rfl rfl ?_
  refine g_iand X_42 hx 53 (hb hby gch_0_52) rfl ?_
  obtain ⟨T_53, X_53, e_53, st_53⟩ := g_getS X_42 hx hZ hown (hw _ (List.mem_of_getElem? (i := 91) rfl)) e_42 (SL.ext XO.2) 56 (hb hby gch_0_53) rfl
  refine st_53 ?_
  refine g_ishl X_53 hx 57 (hb hby gch_0_56) rfl ?_
  refine g_ior X_53 hx 58 (hb hby gch_0_57) rfl ?_
  refine g_i2c X_53 hx 59 (hb hby gch_0_58) rfl ?_
  rw [show (((((lo8 c0) &&& (255 : Int32)) <<< ((0 : Int32) &&& 31)) ||| (((hi8 c0) &&& (255 : Int32)) <<< ((8 : Int32) &&& 31))).toUInt32.toUInt16.toUInt32.toInt32) = c0 from rec_lohi hch]
  exact Go.retZ X_53 hx hlk Bd.returns (by simp) (hb hby gch_0_59) (by decide) (by decide) ⟨by rw [ch_nar hch], rfl, e_53⟩
theorem gch_1_0 : decode jdk_52_method_5_code 0 = .ok (.getstatic 44, 3) := by decide +kernel
theorem gch_1_3 : decode jdk_52_method_5_code 3 = .ok (.ifCond .ne 25, 3) := by decide +kernel
theorem gch_1_6 : decode jdk_52_method_5_code 6 = .ok (.iload_n 1, 1) := by decide +kernel
theorem gch_1_7 : decode jdk_52_method_5_code 7 = .ok (.ifCond .lt 11, 3) := by decide +kernel
theorem gch_1_10 : decode jdk_52_method_5_code 10 = .ok (.iload_n 1, 1) := by decide +kernel
theorem gch_1_11 : decode jdk_52_method_5_code 11 = .ok (.aload_n 0, 1) := by decide +kernel
theorem gch_1_12 : decode jdk_52_method_5_code 12 = .ok (.invokestatic 48, 3) := by decide +kernel
theorem gch_1_15 : decode jdk_52_method_5_code 15 = .ok (.if_icmp .lt 13, 3) := by decide +kernel
theorem gch_1_18 : decode jdk_52_method_5_code 18 = .ok (.new 52, 3) := by decide +kernel
theorem gch_1_21 : decode jdk_52_method_5_code 21 = .ok (.dup, 1) := by decide +kernel
theorem gch_1_22 : decode jdk_52_method_5_code 22 = .ok (.ldc 54, 2) := by decide +kernel
theorem gch_1_24 : decode jdk_52_method_5_code 24 = .ok (.invokespecial 56, 3) := by decide +kernel
theorem gch_1_27 : decode jdk_52_method_5_code 27 = .ok (.athrow, 1) := by decide +kernel
theorem gch_1_28 : decode jdk_52_method_5_code 28 = .ok (.iload_n 1, 1) := by decide +kernel
theorem gch_1_29 : decode jdk_52_method_5_code 29 = .ok (.iconst 1, 1) := by decide +kernel
theorem gch_1_30 : decode jdk_52_method_5_code 30 = .ok (.ishl, 1) := by decide +kernel
theorem gch_1_31 : decode jdk_52_method_5_code 31 = .ok (.istore_n 1, 1) := by decide +kernel
theorem gch_1_32 : decode jdk_52_method_5_code 32 = .ok (.aload_n 0, 1) := by decide +kernel
theorem gch_1_33 : decode jdk_52_method_5_code 33 = .ok (.iload_n 1, 1) := by decide +kernel
theorem gch_1_34 : decode jdk_52_method_5_code 34 = .ok (.iinc 1 1, 3) := by decide +kernel
theorem gch_1_37 : decode jdk_52_method_5_code 37 = .ok (.baload, 1) := by decide +kernel
theorem gch_1_38 : decode jdk_52_method_5_code 38 = .ok (.sipush 255, 3) := by decide +kernel
theorem gch_1_41 : decode jdk_52_method_5_code 41 = .ok (.iand, 1) := by decide +kernel
theorem gch_1_42 : decode jdk_52_method_5_code 42 = .ok (.getstatic 59, 3) := by decide +kernel
theorem gch_1_45 : decode jdk_52_method_5_code 45 = .ok (.ishl, 1) := by decide +kernel
theorem gch_1_46 : decode jdk_52_method_5_code 46 = .ok (.aload_n 0, 1) := by decide +kernel
theorem gch_1_47 : decode jdk_52_method_5_code 47 = .ok (.iload_n 1, 1) := by decide +kernel
theorem gch_1_48 : decode jdk_52_method_5_code 48 = .ok (.baload, 1) := by decide +kernel
theorem gch_1_49 : decode jdk_52_method_5_code 49 = .ok (.sipush 255, 3) := by decide +kernel
theorem gch_1_52 : decode jdk_52_method_5_code 52 = .ok (.iand, 1) := by decide +kernel
theorem gch_1_53 : decode jdk_52_method_5_code 53 = .ok (.getstatic 63, 3) := by decide +kernel
theorem gch_1_56 : decode jdk_52_method_5_code 56 = .ok (.ishl, 1) := by decide +kernel
theorem gch_1_57 : decode jdk_52_method_5_code 57 = .ok (.ior, 1) := by decide +kernel
theorem gch_1_58 : decode jdk_52_method_5_code 58 = .ok (.i2c, 1) := by decide +kernel
theorem gch_1_59 : decode jdk_52_method_5_code 59 = .ok (.ireturn, 1) := by decide +kernel
theorem pn_gch_1 : plainFor (⟨"java/lang/StringUTF16", "getChar", "([BI)C"⟩ : MethodName) = true := by first | exact plainFor_of_name (by first | (simp [plainName, overriddenIn]; done) | decide +kernel) | decide +kernel
theorem ef_gch_1 (m : MethodId) (qb : Addr)  : entryFrame m #[(.ref qb), (.int (1 : Int32))] 2 = mkF m 0 #[.val (.ref qb), .val (.int (1 : Int32))] [] := by first | (simp [entryFrame, mkF, argsToLocals, Value.category, maxLocals]; done) | rfl
theorem pd_gch_1 : parseMethodDescriptor "([BI)C" = some ⟨[.array (.byte), .int], some (.char)⟩ := by decide +kernel
set_option maxRecDepth 65536 in
set_option maxHeartbeats 40000000 in
theorem rm_gch_1 (l : Launch) (Z : State) (a0 : Array Value) (hw : ∀ d ∈ tables_1, d.before a0 Z = true)  (qb : Addr) (h0 : Heap) (n0 : Nat) (XO : Old Z n0 h0) (SA : Sta Z Z.heap "java/lang/StringUTF16" "$assertionsDisabled" "Z" (.int (1 : Int32))) (SH : Sta Z Z.heap "java/lang/StringUTF16" "HI_BYTE_SHIFT" "I" (.int (0 : Int32))) (SL : Sta Z Z.heap "java/lang/StringUTF16" "LO_BYTE_SHIFT" "I" (.int (8 : Int32))) (c0 c1 : Int32) (hch : Ch c1) (A1 : Arl Z h0 qb .byte [(.int (lo8 c0)), (.int (hi8 c0)), (.int (lo8 c1)), (.int (hi8 c1))]) :
    MetFree l (⟨"java/lang/StringUTF16", "getChar", "([BI)C"⟩ : MethodName) (head1 [Jvm.Cond.code (⟨"java/lang/StringUTF16", "getChar", "([BI)C"⟩ : MethodName) jdk_52_method_5_code 2 (some Jvm.ClassFile.FieldType.char)] ({ frames := 0, cells := 0, slots := 0, locals := 0 } : Room)) (fun a U => a = #[(.ref qb), (.int (1 : Int32))] ∧ Z.Warmed39 U.vm ∧ U.heap = h0) (fun _ _ _ _ _ => True) (fun _ U o U' => ∃ v L, o = .returned v ∧ Pur (some (.int c1)) h0 v U'.heap L ∧ FrameEnd U o U' L ({ frames := 0, cells := 0, slots := 0, locals := 0 } : Room).cells ({ frames := 0, cells := 0, slots := 0, locals := 0 } : Room).slots) := by
  refine MetFree.of_bodySF pn_gch_1 hisR ?_
  intro p e s m args below meth c s₁ Bd hml0 hP hK
  obtain ⟨rfl, hZ, hh⟩ := hP
  have hx := Bd.exec
  have hby := Bd.bytes
  have hml : c.maxLocals = 2 := hml0
  have hown : s.vm.findClass "java/lang/StringUTF16" = some m.cls := findClass_of_methodNamed Bd.named
  have hnm := (name_of_methodNamed Bd.named Bd.method).1
  have hlk : meth.locks = false := BodyLoose.notSynchronized Bd
  have X0 : Stand p l e ({ frames := 0, cells := 0, slots := 0, locals := 0 } : Room) s m #[(.ref qb), (.int (1 : Int32))] below meth c s₁ [] 0 0 := Stand.of_body Bd
  have e0 : s₁.heap = h0 := by rw [← hh, Bd.state]; rfl
  show Go p e below (EndN below s (Pur (some (.int c1)) h0) ({ frames := 0, cells := 0, slots := 0, locals := 0 } : Room).cells ({ frames := 0, cells := 0, slots := 0, locals := 0 } : Room).slots) (s₁.setTop (entryFrame m #[(.ref qb), (.int (1 : Int32))] 2))
  rw [ef_gch_1]
  obtain ⟨T_0, X_0, e_0, st_0⟩ := g_getS X0 hx hZ hown (hw _ (List.mem_of_getElem? (i := 89) rfl)) e0 (SA.ext XO.2) 3 (hb hby gch_1_0) rfl
  refine st_0 ?_
  refine g_ifY X_0 hx 28 (hb hby gch_1_3) (XT.i0_ne_t (by decide)) (by decide) (by decide) ?_
  refine g_iload_n X_0 hx 29 (1 : Int32) (hb hby gch_1_28) rfl rfl ?_
  refine g_iconst X_0 hx 30 (1 : Int32) (hb hby gch_1_29) rfl rfl ?_
  refine g_ishl X_0 hx 31 (hb hby gch_1_30) rfl ?_
  show Go p e below _ (T_0.setTop (mkF m 31 #[.val (.ref qb), .val (.int (1 : Int32))] [(.int (2 : Int32))]))
  refine g_istore_n X_0 hx 32 #[.val (.ref qb), .val (.int (2 : Int32))] (hb hby gch_1_31) rfl rfl ?_
  refine g_aload_n X_0 hx 33 (.ref qb) (hb hby gch_1_32) rfl rfl rfl ?_
  refine g_iload_n X_0 hx 34 (2 : Int32) (hb hby gch_1_33) rfl rfl ?_
  refine g_iinc X_0 hx 37 (1 : Int32) #[.val (.ref qb), .val (.int (3 : Int32))] (hb hby gch_1_34) rfl rfl rfl rfl ?_
  refine g_baload X_0 hx hZ e_0 A1 (k := 2) rfl (.int (lo8 c1)) rfl 38 (hb hby gch_1_37) rfl ?_
  refine g_sipush X_0 hx 41 (255 : Int32) (hb hby gch_1_38) rfl rfl ?_
  refine g_iand X_0 hx 42 (hb hby gch_1_41) rfl ?_
  obtain ⟨T_42, X_42, e_42, st_42⟩ := g_getS X_0 hx hZ hown (hw _ (List.mem_of_getElem? (i := 90) rfl)) e_0 (SH.ext XO.2) 45 (hb hby gch_1_42) rfl
  refine st_42 ?_
  refine g_ishl X_42 hx 46 (hb hby gch_1_45) rfl ?_
  refine g_aload_n X_42 hx 47 (.ref qb) (hb hby gch_1_46) rfl rfl rfl ?_
  refine g_iload_n X_42 hx 48 (3 : Int32) (hb hby gch_1_47) rfl rfl ?_
  refine g_baload X_42 hx hZ e_42 A1 (k := 3) rfl (.int (hi8 c1)) rfl 49 (hb hby gch_1_48) rfl ?_
  refine g_sipush X_42 hx 52 (255 : Int32) (hb hby gch_1_49) rfl rfl ?_
  refine g_iand X_42 hx 53 (hb hby gch_1_52) rfl ?_
  obtain ⟨T_53, X_53, e_53, st_53⟩ := g_getS X_42 hx hZ hown (hw _ (List.mem_of_getElem? (i := 91) rfl)) e_42 (SL.ext XO.2) 56 (hb hby gch_1_53) rfl
  refine st_53 ?_
  refine g_ishl X_53 hx 57 (hb hby gch_1_56) rfl ?_
  refine g_ior X_53 hx 58 (hb hby gch_1_57) rfl ?_
  refine g_i2c X_53 hx 59 (hb hby gch_1_58) rfl ?_
  rw [show (((((lo8 c1) &&& (255 : Int32)) <<< ((0 : Int32) &&& 31)) ||| (((hi8 c1) &&& (255 : Int32)) <<< ((8 : Int32) &&& 31))).toUInt32.toUInt16.toUInt32.toInt32) = c1 from rec_lohi hch]
  exact Go.retZ X_53 hx hlk Bd.returns (by simp) (hb hby gch_1_59) (by decide) (by decide) ⟨by rw [ch_nar hch], rfl, e_53⟩
theorem nbl_0 : decode jdk_52_method_3_code 0 = .ok (.iload_n 0, 1) := by decide +kernel
theorem nbl_1 : decode jdk_52_method_3_code 1 = .ok (.ifCond .ge 11, 3) := by decide +kernel
theorem nbl_4 : decode jdk_52_method_3_code 4 = .ok (.new 17, 3) := by decide +kernel
theorem nbl_7 : decode jdk_52_method_3_code 7 = .ok (.dup, 1) := by decide +kernel
theorem nbl_8 : decode jdk_52_method_3_code 8 = .ok (.invokespecial 19, 3) := by decide +kernel
theorem nbl_11 : decode jdk_52_method_3_code 11 = .ok (.athrow, 1) := by decide +kernel
theorem nbl_12 : decode jdk_52_method_3_code 12 = .ok (.iload_n 0, 1) := by decide +kernel
theorem nbl_13 : decode jdk_52_method_3_code 13 = .ok (.ldc 20, 2) := by decide +kernel
theorem nbl_15 : decode jdk_52_method_3_code 15 = .ok (.if_icmp .lt 40, 3) := by decide +kernel
theorem nbl_18 : decode jdk_52_method_3_code 18 = .ok (.new 21, 3) := by decide +kernel
theorem nbl_21 : decode jdk_52_method_3_code 21 = .ok (.dup, 1) := by decide +kernel
theorem nbl_22 : decode jdk_52_method_3_code 22 = .ok (.new 23, 3) := by decide +kernel
theorem nbl_25 : decode jdk_52_method_3_code 25 = .ok (.dup, 1) := by decide +kernel
theorem nbl_26 : decode jdk_52_method_3_code 26 = .ok (.invokespecial 25, 3) := by decide +kernel
theorem nbl_29 : decode jdk_52_method_3_code 29 = .ok (.ldc 26, 2) := by decide +kernel
theorem nbl_31 : decode jdk_52_method_3_code 31 = .ok (.invokevirtual 28, 3) := by decide +kernel
theorem nbl_34 : decode jdk_52_method_3_code 34 = .ok (.iload_n 0, 1) := by decide +kernel
theorem nbl_35 : decode jdk_52_method_3_code 35 = .ok (.invokevirtual 32, 3) := by decide +kernel
theorem nbl_38 : decode jdk_52_method_3_code 38 = .ok (.ldc 35, 2) := by decide +kernel
theorem nbl_40 : decode jdk_52_method_3_code 40 = .ok (.invokevirtual 28, 3) := by decide +kernel
theorem nbl_43 : decode jdk_52_method_3_code 43 = .ok (.ldc 20, 2) := by decide +kernel
theorem nbl_45 : decode jdk_52_method_3_code 45 = .ok (.invokevirtual 32, 3) := by decide +kernel
theorem nbl_48 : decode jdk_52_method_3_code 48 = .ok (.invokevirtual 37, 3) := by decide +kernel
theorem nbl_51 : decode jdk_52_method_3_code 51 = .ok (.invokespecial 41, 3) := by decide +kernel
theorem nbl_54 : decode jdk_52_method_3_code 54 = .ok (.athrow, 1) := by decide +kernel
theorem nbl_55 : decode jdk_52_method_3_code 55 = .ok (.iload_n 0, 1) := by decide +kernel
theorem nbl_56 : decode jdk_52_method_3_code 56 = .ok (.iconst 1, 1) := by decide +kernel
theorem nbl_57 : decode jdk_52_method_3_code 57 = .ok (.ishl, 1) := by decide +kernel
theorem nbl_58 : decode jdk_52_method_3_code 58 = .ok (.ireturn, 1) := by decide +kernel
theorem pn_nbl : plainFor (⟨"java/lang/StringUTF16", "newBytesLength", "(I)I"⟩ : MethodName) = true := by first | exact plainFor_of_name (by first | (simp [plainName, overriddenIn]; done) | decide +kernel) | decide +kernel
theorem ef_nbl (m : MethodId)   : entryFrame m #[(.int (2 : Int32))] 1 = mkF m 0 #[.val (.int (2 : Int32))] [] := by first | (simp [entryFrame, mkF, argsToLocals, Value.category, maxLocals]; done) | rfl
theorem pd_nbl : parseMethodDescriptor "(I)I" = some ⟨[.int], some (.int)⟩ := by decide +kernel
set_option maxRecDepth 65536 in
set_option maxHeartbeats 40000000 in
theorem rm_nbl (l : Launch) (Z : State) (a0 : Array Value) (hw : ∀ d ∈ tables_1, d.before a0 Z = true)   (h0 : Heap)  :
    MetFree l (⟨"java/lang/StringUTF16", "newBytesLength", "(I)I"⟩ : MethodName) (head1 [Jvm.Cond.code (⟨"java/lang/StringUTF16", "newBytesLength", "(I)I"⟩ : MethodName) jdk_52_method_3_code 1 (some Jvm.ClassFile.FieldType.int)] ({ frames := 0, cells := 0, slots := 0, locals := 0 } : Room)) (fun a U => a = #[(.int (2 : Int32))] ∧ Z.Warmed39 U.vm ∧ U.heap = h0) (fun _ _ _ _ _ => True) (fun _ U o U' => ∃ v L, o = .returned v ∧ Pur (some (.int (4 : Int32))) h0 v U'.heap L ∧ FrameEnd U o U' L ({ frames := 0, cells := 0, slots := 0, locals := 0 } : Room).cells ({ frames := 0, cells := 0, slots := 0, locals := 0 } : Room).slots) := by
  refine MetFree.of_bodySF pn_nbl hisR ?_
  intro p e s m args below meth c s₁ Bd hml0 hP hK
  obtain ⟨rfl, hZ, hh⟩ := hP
  have hx := Bd.exec
  have hby := Bd.bytes
  have hml : c.maxLocals = 1 := hml0
  have hown : s.vm.findClass "java/lang/StringUTF16" = some m.cls := findClass_of_methodNamed Bd.named
  have hnm := (name_of_methodNamed Bd.named Bd.method).1
  have hlk : meth.locks = false := BodyLoose.notSynchronized Bd
  have X0 : Stand p l e ({ frames := 0, cells := 0, slots := 0, locals := 0 } : Room) s m #[(.int (2 : Int32))] below meth c s₁ [] 0 0 := Stand.of_body Bd
  have e0 : s₁.heap = h0 := by rw [← hh, Bd.state]; rfl
  show Go p e below (EndN below s (Pur (some (.int (4 : Int32))) h0) ({ frames := 0, cells := 0, slots := 0, locals := 0 } : Room).cells ({ frames := 0, cells := 0, slots := 0, locals := 0 } : Room).slots) (s₁.setTop (entryFrame m #[(.int (2 : Int32))] 1))
  rw [ef_nbl]
  refine g_iload_n X0 hx 1 (2 : Int32) (hb hby nbl_0) rfl rfl ?_
  refine g_ifY X0 hx 12 (hb hby nbl_1) (XT.i0_ge_t (by decide)) (by decide) (by decide) ?_
  refine g_iload_n X0 hx 13 (2 : Int32) (hb hby nbl_12) rfl rfl ?_
  refine g_ldc X0 hx 15 (hb hby nbl_13) hown (mvT hZ (hw _ (List.mem_of_getElem? (i := 107) rfl))) rfl ?_
  refine g_icmpY X0 hx 55 (hb hby nbl_15) (XT.ii_lt_t (by decide)) (by decide) (by decide) ?_
  refine g_iload_n X0 hx 56 (2 : Int32) (hb hby nbl_55) rfl rfl ?_
  refine g_iconst X0 hx 57 (1 : Int32) (hb hby nbl_56) rfl rfl ?_
  refine g_ishl X0 hx 58 (hb hby nbl_57) rfl ?_
  show Go p e below _ (s₁.setTop (mkF m 58 #[.val (.int (2 : Int32))] [(.int (4 : Int32))]))
  exact Go.retI X0 hx hlk Bd.returns (hb hby nbl_58) (by decide) (by decide) ⟨rfl, rfl, e0⟩
def NBQ (Z : State)  (h0 : Heap) (n0 : Nat) (v : Option Value) (h : Heap) (L : List Loc) : Prop := ∃ qb : Addr, v = some (.ref qb) ∧ h0.size ≤ qb ∧ Fr n0 L ∧ Keep h0 h [] ∧ Arl Z h qb .byte [(.int (0 : Int32)), (.int (0 : Int32)), (.int (0 : Int32)), (.int (0 : Int32))]
theorem nbf_0 : decode jdk_52_method_2_code 0 = .ok (.iload_n 0, 1) := by decide +kernel
theorem nbf_1 : decode jdk_52_method_2_code 1 = .ok (.invokestatic 11, 3) := by decide +kernel
theorem nbf_4 : decode jdk_52_method_2_code 4 = .ok (.newarray .byte, 2) := by decide +kernel
theorem nbf_6 : decode jdk_52_method_2_code 6 = .ok (.areturn, 1) := by decide +kernel
theorem pn_nbf : plainFor (⟨"java/lang/StringUTF16", "newBytesFor", "(I)[B"⟩ : MethodName) = true := by first | exact plainFor_of_name (by first | (simp [plainName, overriddenIn]; done) | decide +kernel) | decide +kernel
theorem ef_nbf (m : MethodId)   : entryFrame m #[(.int (2 : Int32))] 1 = mkF m 0 #[.val (.int (2 : Int32))] [] := by first | (simp [entryFrame, mkF, argsToLocals, Value.category, maxLocals]; done) | rfl
theorem pd_nbf : parseMethodDescriptor "(I)[B" = some ⟨[.int], some (.array (.byte))⟩ := by decide +kernel
set_option maxRecDepth 65536 in
set_option maxHeartbeats 40000000 in
theorem rm_nbf (l : Launch) (Z : State) (a0 : Array Value) (hw : ∀ d ∈ tables_1, d.before a0 Z = true)   (h0 : Heap) (n0 : Nat) (XO : Old Z n0 h0)  :
    MetFree l (⟨"java/lang/StringUTF16", "newBytesFor", "(I)[B"⟩ : MethodName) (head1 [Jvm.Cond.code (⟨"java/lang/StringUTF16", "newBytesFor", "(I)[B"⟩ : MethodName) jdk_52_method_2_code 1 (some (Jvm.ClassFile.FieldType.array Jvm.ClassFile.FieldType.byte))] ({ frames := 1, cells := 1, slots := 4, locals := 12 } : Room)) (fun a U => a = #[(.int (2 : Int32))] ∧ Z.Warmed39 U.vm ∧ U.heap = h0) (fun _ _ _ _ _ => True) (fun _ U o U' => ∃ v L, o = .returned v ∧ NBQ Z h0 n0 v U'.heap L ∧ FrameEnd U o U' L ({ frames := 1, cells := 1, slots := 4, locals := 12 } : Room).cells ({ frames := 1, cells := 1, slots := 4, locals := 12 } : Room).slots) := by
  refine MetFree.of_bodySF pn_nbf hisR ?_
  intro p e s m args below meth c s₁ Bd hml0 hP hK
  obtain ⟨rfl, hZ, hh⟩ := hP
  have hx := Bd.exec
  have hby := Bd.bytes
  have hml : c.maxLocals = 1 := hml0
  have hown : s.vm.findClass "java/lang/StringUTF16" = some m.cls := findClass_of_methodNamed Bd.named
  have hnm := (name_of_methodNamed Bd.named Bd.method).1
  have hlk : meth.locks = false := BodyLoose.notSynchronized Bd
  have X0 : Stand p l e ({ frames := 1, cells := 1, slots := 4, locals := 12 } : Room) s m #[(.int (2 : Int32))] below meth c s₁ [] 0 0 := Stand.of_body Bd
  have e0 : s₁.heap = h0 := by rw [← hh, Bd.state]; rfl
  show Go p e below (EndN below s (NBQ Z h0 n0) ({ frames := 1, cells := 1, slots := 4, locals := 12 } : Room).cells ({ frames := 1, cells := 1, slots := 4, locals := 12 } : Room).slots) (s₁.setTop (entryFrame m #[(.int (2 : Int32))] 1))
  rw [ef_nbf]
  refine g_iload_n X0 hx 1 (2 : Int32) (hb hby nbf_0) rfl rfl ?_
  obtain ⟨_, T_1, L_1, X_1, ⟨rfl, rfl, e_1⟩, st_1⟩ := g_callS X0 hx hZ  (own := "java/lang/StringUTF16") (index := 11) (y := (⟨"java/lang/StringUTF16", "newBytesLength", "(I)I"⟩ : MethodName)) (as' := [(.int (2 : Int32))]) hown (hw _ (List.mem_of_getElem? (i := 104) rfl)) (hw _ (List.mem_of_getElem? (i := 105) rfl)) (hw _ (List.mem_of_getElem? (i := 69) rfl)) (hw _ (List.mem_of_getElem? (i := 106) rfl)) (by decide) e0 (rm_nbl l Z a0 hw h0) pd_nbl rfl 0 (by decide) (by decide) (by decide) (by decide) (pc := 1) (Ls := #[.val (.int (2 : Int32))]) (rest := []) (st := [(.int (2 : Int32))]) (by rw [hml]; rfl) rfl (Nat.le_of_eq rfl) (hb hby nbf_1)
  refine Go.of ?_ st_1
  rw [List.append_nil] at X_1
  show Go p e below _ (T_1.setTop (mkF m 4 #[.val (.int (2 : Int32))] [(.int (4 : Int32))]))
  obtain ⟨T_4, h_4, a_4, k_4, X_4, e_4, ga_4, E_4, A_4, st_4⟩ := g_newP X_1 hx hZ (aty := .byte) (n := (4 : Int32)) (hw _ (List.mem_of_getElem? (i := 20) rfl)) e_1 4 (by decide) (by decide) (by decide) (by decide) (by decide) 6 (hb hby nbf_4) rfl
  refine st_4 ?_
  have g_4 : n0 ≤ a_4 := by rw [ga_4]; exact Nat.le_trans (XO.1 ▸ XO.2.1) (Nat.le_refl _)
  have gh_4 : h0.size ≤ a_4 := by rw [ga_4]; exact (Nat.le_refl _)
  have Z_4 : h0.size ≤ h_4.size := Nat.le_trans (Nat.le_refl _) E_4.1
  have O_4 := Old.ext XO E_4
  have G_4 : Arl Z h_4 a_4 .byte [(.int (0 : Int32)), (.int (0 : Int32)), (.int (0 : Int32)), (.int (0 : Int32))] := Arl.new A_4 rfl
  exact Go.retA X_4 hx hlk Bd.returns rfl rfl (hb hby nbf_6) (by decide) (by decide) ⟨a_4, rfl, gh_4, (Fr.nil _), e_4.symm ▸ ((Keep.refl _ _).ext E_4), e_4.symm ▸ G_4⟩
def TBQ (Z : State) (q1 : Int32) (h0 : Heap) (n0 : Nat) (v : Option Value) (h : Heap) (L : List Loc) : Prop := ∃ qb : Addr, v = some (.ref qb) ∧ h0.size ≤ qb ∧ Fr n0 L ∧ Keep h0 h [] ∧ Arl Z h qb .byte [(.int (lo8 q1)), (.int (hi8 q1))]
theorem tb1_0 : decode jdk_52_method_24_code 0 = .ok (.iconst 2, 1) := by decide +kernel
theorem tb1_1 : decode jdk_52_method_24_code 1 = .ok (.newarray .byte, 2) := by decide +kernel
theorem tb1_3 : decode jdk_52_method_24_code 3 = .ok (.astore_n 1, 1) := by decide +kernel
theorem tb1_4 : decode jdk_52_method_24_code 4 = .ok (.aload_n 1, 1) := by decide +kernel
theorem tb1_5 : decode jdk_52_method_24_code 5 = .ok (.iconst 0, 1) := by decide +kernel
theorem tb1_6 : decode jdk_52_method_24_code 6 = .ok (.iload_n 0, 1) := by decide +kernel
theorem tb1_7 : decode jdk_52_method_24_code 7 = .ok (.invokestatic 111, 3) := by decide +kernel
theorem tb1_10 : decode jdk_52_method_24_code 10 = .ok (.aload_n 1, 1) := by decide +kernel
theorem tb1_11 : decode jdk_52_method_24_code 11 = .ok (.areturn, 1) := by decide +kernel
theorem pn_tb1 : plainFor (⟨"java/lang/StringUTF16", "toBytes", "(C)[B"⟩ : MethodName) = true := by first | exact plainFor_of_name (by first | (simp [plainName, overriddenIn]; done) | decide +kernel) | decide +kernel
theorem ef_tb1 (m : MethodId) (q1 : Int32)  : entryFrame m #[(.int q1)] 2 = mkF m 0 #[.val (.int q1), .unset] [] := by first | (simp [entryFrame, mkF, argsToLocals, Value.category, maxLocals]; done) | rfl
theorem pd_tb1 : parseMethodDescriptor "(C)[B" = some ⟨[.char], some (.array (.byte))⟩ := by decide +kernel
set_option maxRecDepth 65536 in
set_option maxHeartbeats 40000000 in
theorem rm_tb1 (l : Launch) (Z : State) (a0 : Array Value) (hw : ∀ d ∈ tables_1, d.before a0 Z = true)  (q1 : Int32) (h0 : Heap) (n0 : Nat) (XO : Old Z n0 h0) (SA : Sta Z Z.heap "java/lang/StringUTF16" "$assertionsDisabled" "Z" (.int (1 : Int32))) (SH : Sta Z Z.heap "java/lang/StringUTF16" "HI_BYTE_SHIFT" "I" (.int (0 : Int32))) (SL : Sta Z Z.heap "java/lang/StringUTF16" "LO_BYTE_SHIFT" "I" (.int (8 : Int32)))  :
    MetFree l (⟨"java/lang/StringUTF16", "toBytes", "(C)[B"⟩ : MethodName) (head1 [Jvm.Cond.code (⟨"java/lang/StringUTF16", "toBytes", "(C)[B"⟩ : MethodName) jdk_52_method_24_code 2 (some (Jvm.ClassFile.FieldType.array Jvm.ClassFile.FieldType.byte))] ({ frames := 1, cells := 1, slots := 2, locals := 14 } : Room)) (fun a U => a = #[(.int q1)] ∧ Z.Warmed39 U.vm ∧ U.heap = h0) (fun _ _ _ _ _ => True) (fun _ U o U' => ∃ v L, o = .returned v ∧ TBQ Z q1 h0 n0 v U'.heap L ∧ FrameEnd U o U' L ({ frames := 1, cells := 1, slots := 2, locals := 14 } : Room).cells ({ frames := 1, cells := 1, slots := 2, locals := 14 } : Room).slots) := by
  refine MetFree.of_bodySF pn_tb1 hisR ?_
  intro p e s m args below meth c s₁ Bd hml0 hP hK
  obtain ⟨rfl, hZ, hh⟩ := hP
  have hx := Bd.exec
  have hby := Bd.bytes
  have hml : c.maxLocals = 2 := hml0
  have hown : s.vm.findClass "java/lang/StringUTF16" = some m.cls := findClass_of_methodNamed Bd.named
  have hnm := (name_of_methodNamed Bd.named Bd.method).1
  have hlk : meth.locks = false := BodyLoose.notSynchronized Bd
  have X0 : Stand p l e ({ frames := 1, cells := 1, slots := 2, locals := 14 } : Room) s m #[(.int q1)] below meth c s₁ [] 0 0 := Stand.of_body Bd
  have e0 : s₁.heap = h0 := by rw [← hh, Bd.state]; rfl
  show Go p e below (EndN below s (TBQ Z q1 h0 n0) ({ frames := 1, cells := 1, slots := 2, locals := 14 } : Room).cells ({ frames := 1, cells := 1, slots := 2, locals := 14 } : Room).slots) (s₁.setTop (entryFrame m #[(.int q1)] 2))
  rw [ef_tb1]
  refine g_iconst X0 hx 1 (2 : Int32) (hb hby tb1_0) rfl rfl ?_
  obtain ⟨T_1, h_1, a_1, k_1, X_1, e_1, ga_1, E_1, A_1, st_1⟩ := g_newP X0 hx hZ (aty := .byte) (n := (2 : Int32)) (hw _ (List.mem_of_getElem? (i := 20) rfl)) e0 2 (by decide) (by decide) (by decide) (by decide) (by decide) 3 (hb hby tb1_1) rfl
  refine st_1 ?_
  have g_1 : n0 ≤ a_1 := by rw [ga_1]; exact Nat.le_trans (XO.1 ▸ XO.2.1) (Nat.le_refl _)
  have gh_1 : h0.size ≤ a_1 := by rw [ga_1]; exact (Nat.le_refl _)
  have Z_1 : h0.size ≤ h_1.size := Nat.le_trans (Nat.le_refl _) E_1.1
  have O_1 := Old.ext XO E_1
  have G_1 : Arl Z h_1 a_1 .byte [(.int (0 : Int32)), (.int (0 : Int32))] := Arl.new A_1 rfl
  refine g_astore_n X_1 hx 4 #[.val (.int q1), .val (.ref a_1)] (hb hby tb1_3) rfl rfl rfl ?_
  refine g_aload_n X_1 hx 5 (.ref a_1) (hb hby tb1_4) rfl rfl rfl ?_
  refine g_iconst X_1 hx 6 (0 : Int32) (hb hby tb1_5) rfl rfl ?_
  refine g_iload_n X_1 hx 7 q1 (hb hby tb1_6) rfl rfl ?_
  obtain ⟨_, T_7, L_7, X_7, ⟨rfl, M_7, K_7, B_7⟩, st_7⟩ := g_callS X_1 hx hZ  (own := "java/lang/StringUTF16") (index := 111) (y := (⟨"java/lang/StringUTF16", "putChar", "([BII)V"⟩ : MethodName)) (as' := [(.ref a_1), (.int (0 : Int32)), (.int q1)]) hown (hw _ (List.mem_of_getElem? (i := 86) rfl)) (hw _ (List.mem_of_getElem? (i := 87) rfl)) (hw _ (List.mem_of_getElem? (i := 69) rfl)) (hw _ (List.mem_of_getElem? (i := 88) rfl)) (by decide) e_1 (rm_pch_2_0 l Z a0 hw a_1 q1 h_1 n0 O_1 SA SH SL g_1 (0 : Int32) (0 : Int32) G_1) pd_pch_2_0 rfl 0 (by decide) (by decide) (by decide) (by decide) (pc := 7) (Ls := #[.val (.int q1), .val (.ref a_1)]) (rest := []) (st := [(.int q1), (.int (0 : Int32)), (.ref a_1)]) (by rw [hml]; rfl) rfl (Nat.le_of_eq rfl) (hb hby tb1_7)
  refine Go.of ?_ st_7
  have F_7_0 : Arl Z T_7.heap a_1 .byte [(.int (lo8 q1)), (.int (hi8 q1))] := B_7
  have N_7 := Fr.app (Fr.nil _) M_7
  have Z_7 : h0.size ≤ T_7.heap.size := Nat.le_trans Z_1 K_7.1
  have O_7 := Old.keep O_1 K_7 (allS g_1 all0)
  show Go p e below _ (T_7.setTop (mkF m 10 #[.val (.int q1), .val (.ref a_1)] []))
  refine g_aload_n X_7 hx 11 (.ref a_1) (hb hby tb1_10) rfl rfl rfl ?_
  exact Go.retA X_7 hx hlk Bd.returns rfl rfl (hb hby tb1_11) (by decide) (by decide) ⟨a_1, rfl, gh_1, N_7, (((Keep.refl _ _).ext E_1).trans K_7 (allS (Or.inr gh_1) all0)), F_7_0⟩
def LBQ (Z : State) (q1 : Int32) (h0 : Heap) (n0 : Nat) (v : Option Value) (h : Heap) (L : List Loc) : Prop := ∃ qb : Addr, v = some (.ref qb) ∧ h0.size ≤ qb ∧ Fr n0 L ∧ Keep h0 h [] ∧ Arl Z h qb .byte [(.int (q1.toInt8.toInt32))]
theorem l1b_0 : decode jdk_43_method_46_code 0 = .ok (.iconst 1, 1) := by decide +kernel
theorem l1b_1 : decode jdk_43_method_46_code 1 = .ok (.newarray .byte, 2) := by decide +kernel
theorem l1b_3 : decode jdk_43_method_46_code 3 = .ok (.dup, 1) := by decide +kernel
theorem l1b_4 : decode jdk_43_method_46_code 4 = .ok (.iconst 0, 1) := by decide +kernel
theorem l1b_5 : decode jdk_43_method_46_code 5 = .ok (.iload_n 0, 1) := by decide +kernel
theorem l1b_6 : decode jdk_43_method_46_code 6 = .ok (.i2b, 1) := by decide +kernel
theorem l1b_7 : decode jdk_43_method_46_code 7 = .ok (.bastore, 1) := by decide +kernel
theorem l1b_8 : decode jdk_43_method_46_code 8 = .ok (.areturn, 1) := by decide +kernel
theorem pn_l1b : plainFor (⟨"java/lang/StringLatin1", "toBytes", "(C)[B"⟩ : MethodName) = true := by first | exact plainFor_of_name (by first | (simp [plainName, overriddenIn]; done) | decide +kernel) | decide +kernel
theorem ef_l1b (m : MethodId) (q1 : Int32)  : entryFrame m #[(.int q1)] 1 = mkF m 0 #[.val (.int q1)] [] := by first | (simp [entryFrame, mkF, argsToLocals, Value.category, maxLocals]; done) | rfl
theorem pd_l1b : parseMethodDescriptor "(C)[B" = some ⟨[.char], some (.array (.byte))⟩ := by decide +kernel
set_option maxRecDepth 65536 in
set_option maxHeartbeats 40000000 in
theorem rm_l1b (l : Launch) (Z : State) (a0 : Array Value) (hw : ∀ d ∈ tables_1, d.before a0 Z = true)  (q1 : Int32) (h0 : Heap) (n0 : Nat) (XO : Old Z n0 h0)  :
    MetFree l (⟨"java/lang/StringLatin1", "toBytes", "(C)[B"⟩ : MethodName) (head1 [Jvm.Cond.code (⟨"java/lang/StringLatin1", "toBytes", "(C)[B"⟩ : MethodName) jdk_43_method_46_code 1 (some (Jvm.ClassFile.FieldType.array Jvm.ClassFile.FieldType.byte))] ({ frames := 0, cells := 1, slots := 1, locals := 0 } : Room)) (fun a U => a = #[(.int q1)] ∧ Z.Warmed39 U.vm ∧ U.heap = h0) (fun _ _ _ _ _ => True) (fun _ U o U' => ∃ v L, o = .returned v ∧ LBQ Z q1 h0 n0 v U'.heap L ∧ FrameEnd U o U' L ({ frames := 0, cells := 1, slots := 1, locals := 0 } : Room).cells ({ frames := 0, cells := 1, slots := 1, locals := 0 } : Room).slots) := by
  refine MetFree.of_bodySF pn_l1b hisR ?_
  intro p e s m args below meth c s₁ Bd hml0 hP hK
  obtain ⟨rfl, hZ, hh⟩ := hP
  have hx := Bd.exec
  have hby := Bd.bytes
  have hml : c.maxLocals = 1 := hml0
  have hown : s.vm.findClass "java/lang/StringLatin1" = some m.cls := findClass_of_methodNamed Bd.named
  have hnm := (name_of_methodNamed Bd.named Bd.method).1
  have hlk : meth.locks = false := BodyLoose.notSynchronized Bd
  have X0 : Stand p l e ({ frames := 0, cells := 1, slots := 1, locals := 0 } : Room) s m #[(.int q1)] below meth c s₁ [] 0 0 := Stand.of_body Bd
  have e0 : s₁.heap = h0 := by rw [← hh, Bd.state]; rfl
  show Go p e below (EndN below s (LBQ Z q1 h0 n0) ({ frames := 0, cells := 1, slots := 1, locals := 0 } : Room).cells ({ frames := 0, cells := 1, slots := 1, locals := 0 } : Room).slots) (s₁.setTop (entryFrame m #[(.int q1)] 1))
  rw [ef_l1b]
  refine g_iconst X0 hx 1 (1 : Int32) (hb hby l1b_0) rfl rfl ?_
  obtain ⟨T_1, h_1, a_1, k_1, X_1, e_1, ga_1, E_1, A_1, st_1⟩ := g_newP X0 hx hZ (aty := .byte) (n := (1 : Int32)) (hw _ (List.mem_of_getElem? (i := 20) rfl)) e0 1 (by decide) (by decide) (by decide) (by decide) (by decide) 3 (hb hby l1b_1) rfl
  refine st_1 ?_
  have g_1 : n0 ≤ a_1 := by rw [ga_1]; exact Nat.le_trans (XO.1 ▸ XO.2.1) (Nat.le_refl _)
  have gh_1 : h0.size ≤ a_1 := by rw [ga_1]; exact (Nat.le_refl _)
  have Z_1 : h0.size ≤ h_1.size := Nat.le_trans (Nat.le_refl _) E_1.1
  have O_1 := Old.ext XO E_1
  have G_1 : Arl Z h_1 a_1 .byte [(.int (0 : Int32))] := Arl.new A_1 rfl
  refine g_dup X_1 hx 4 (hb hby l1b_3) rfl rfl ?_
  refine g_iconst X_1 hx 5 (0 : Int32) (hb hby l1b_4) rfl rfl ?_
  refine g_iload_n X_1 hx 6 q1 (hb hby l1b_5) rfl rfl ?_
  refine g_i2b X_1 hx 7 (hb hby l1b_6) rfl ?_
  obtain ⟨T_7, h_7, X_7, e_7, W_7, B_7, st_7⟩ := g_bastore X_1 hx hZ e_1 G_1 (j := (0 : Int32)) (q1.toInt8.toInt32) (k := 0) rfl (Nat.le_of_ble_eq_true rfl) 8 (hb hby l1b_7) rfl
  refine st_7 ?_
  have C_7 : Arl Z h_7 a_1 .byte [(.int (q1.toInt8.toInt32))] := by have z := B_7; rw [show (nar .byte (q1.toInt8.toInt32)) = (q1.toInt8.toInt32) from own_nb _] at z; exact z
  have F_7_0 : Arl Z h_7 a_1 .byte [(.int (q1.toInt8.toInt32))] := C_7
  have N_7 := Fr.snoc X_7 (Fr.nil _) g_1
  have Z_7 : h0.size ≤ h_7.size := by rw [W_7.size]; exact Z_1
  have O_7 := Old.wr O_1 W_7 g_1
  exact Go.retA X_7 hx hlk Bd.returns rfl rfl (hb hby l1b_8) (by decide) (by decide) ⟨a_1, rfl, gh_1, N_7, e_7.symm ▸ (((Keep.refl _ _).ext E_1).wr W_7 (Or.inr gh_1)), e_7.symm ▸ F_7_0⟩
theorem cen_0 : decode jdk_43_method_3_code 0 = .ok (.iload_n 0, 1) := by decide +kernel
theorem cen_1 : decode jdk_43_method_3_code 1 = .ok (.sipush 255, 3) := by decide +kernel
theorem cen_4 : decode jdk_43_method_3_code 4 = .ok (.if_icmp .gt 7, 3) := by decide +kernel
theorem cen_7 : decode jdk_43_method_3_code 7 = .ok (.iconst 1, 1) := by decide +kernel
theorem cen_8 : decode jdk_43_method_3_code 8 = .ok (.goto 4, 3) := by decide +kernel
theorem cen_11 : decode jdk_43_method_3_code 11 = .ok (.iconst 0, 1) := by decide +kernel
theorem cen_12 : decode jdk_43_method_3_code 12 = .ok (.ireturn, 1) := by decide +kernel
theorem pn_cen : plainFor (⟨"java/lang/StringLatin1", "canEncode", "(C)Z"⟩ : MethodName) = true := by first | exact plainFor_of_name (by first | (simp [plainName, overriddenIn]; done) | decide +kernel) | decide +kernel
theorem ef_cen (m : MethodId) (q1 : Int32)  : entryFrame m #[(.int q1)] 1 = mkF m 0 #[.val (.int q1)] [] := by first | (simp [entryFrame, mkF, argsToLocals, Value.category, maxLocals]; done) | rfl
theorem pd_cen : parseMethodDescriptor "(C)Z" = some ⟨[.char], some (.boolean)⟩ := by decide +kernel
set_option maxRecDepth 65536 in
set_option maxHeartbeats 40000000 in
theorem rm_cen (l : Launch) (Z : State) (a0 : Array Value) (hw : ∀ d ∈ tables_1, d.before a0 Z = true)  (q1 : Int32) (h0 : Heap) (y : Int32) (hy : b2i (¬ (255 : Int32) < q1) = y) :
    MetFree l (⟨"java/lang/StringLatin1", "canEncode", "(C)Z"⟩ : MethodName) (head1 [Jvm.Cond.code (⟨"java/lang/StringLatin1", "canEncode", "(C)Z"⟩ : MethodName) jdk_43_method_3_code 1 (some Jvm.ClassFile.FieldType.boolean)] ({ frames := 0, cells := 0, slots := 0, locals := 0 } : Room)) (fun a U => a = #[(.int q1)] ∧ Z.Warmed39 U.vm ∧ U.heap = h0) (fun _ _ _ _ _ => True) (fun _ U o U' => ∃ v L, o = .returned v ∧ Pur (some (.int y)) h0 v U'.heap L ∧ FrameEnd U o U' L ({ frames := 0, cells := 0, slots := 0, locals := 0 } : Room).cells ({ frames := 0, cells := 0, slots := 0, locals := 0 } : Room).slots) := by
  refine MetFree.of_bodySF pn_cen hisR ?_
  intro p e s m args below meth c s₁ Bd hml0 hP hK
  obtain ⟨rfl, hZ, hh⟩ := hP
  have hx := Bd.exec
  have hby := Bd.bytes
  have hml : c.maxLocals = 1 := hml0
  have hown : s.vm.findClass "java/lang/StringLatin1" = some m.cls := findClass_of_methodNamed Bd.named
  have hnm := (name_of_methodNamed Bd.named Bd.method).1
  have hlk : meth.locks = false := BodyLoose.notSynchronized Bd
  have X0 : Stand p l e ({ frames := 0, cells := 0, slots := 0, locals := 0 } : Room) s m #[(.int q1)] below meth c s₁ [] 0 0 := Stand.of_body Bd
  have e0 : s₁.heap = h0 := by rw [← hh, Bd.state]; rfl
  show Go p e below (EndN below s (Pur (some (.int y)) h0) ({ frames := 0, cells := 0, slots := 0, locals := 0 } : Room).cells ({ frames := 0, cells := 0, slots := 0, locals := 0 } : Room).slots) (s₁.setTop (entryFrame m #[(.int q1)] 1))
  rw [ef_cen]
  refine g_iload_n X0 hx 1 q1 (hb hby cen_0) rfl rfl ?_
  refine g_sipush X0 hx 4 (255 : Int32) (hb hby cen_1) rfl rfl ?_
  by_cases c4 : (255 : Int32) < q1
  ·
    refine g_icmpY X0 hx 11 (hb hby cen_4) (XT.ii_gt_t c4) (by decide) (by decide) ?_
    refine g_iconst X0 hx 12 (0 : Int32) (hb hby cen_11) rfl rfl ?_
    exact Go.retZ X0 hx hlk Bd.returns (by simp) (hb hby cen_12) (by decide) (by decide) ⟨by rw [← hy, b2i_f (fun q => q c4)]; rfl, rfl, e0⟩
  ·
    refine g_icmpN X0 hx 7 (hb hby cen_4) (XT.ii_gt_f c4) rfl ?_
    refine g_iconst X0 hx 8 (1 : Int32) (hb hby cen_7) rfl rfl ?_
    refine g_goto X0 hx 12 (hb hby cen_8) (by decide) (by decide) ?_
    exact Go.retZ X0 hx hlk Bd.returns (by simp) (hb hby cen_12) (by decide) (by decide) ⟨by rw [← hy, b2i_t c4]; rfl, rfl, e0⟩
def UBQ (Z : State) (c0 c1 : Int32) (h0 : Heap) (n0 : Nat) (v : Option Value) (h : Heap) (L : List Loc) : Prop := ∃ qb : Addr, v = some (.ref qb) ∧ h0.size ≤ qb ∧ Fr n0 L ∧ Keep h0 h [] ∧ Arl Z h qb .byte [(.int (lo8 c0)), (.int (hi8 c0)), (.int (lo8 c1)), (.int (hi8 c1))]
theorem tb2_0 : decode jdk_52_method_14_code 0 = .ok (.iload_n 2, 1) := by decide +kernel
theorem tb2_1 : decode jdk_52_method_14_code 1 = .ok (.invokestatic 107, 3) := by decide +kernel
theorem tb2_4 : decode jdk_52_method_14_code 4 = .ok (.astore_n 3, 1) := by decide +kernel
theorem tb2_5 : decode jdk_52_method_14_code 5 = .ok (.iconst 0, 1) := by decide +kernel
theorem tb2_6 : decode jdk_52_method_14_code 6 = .ok (.istore 4, 2) := by decide +kernel
theorem tb2_8 : decode jdk_52_method_14_code 8 = .ok (.iload 4, 2) := by decide +kernel
theorem tb2_10 : decode jdk_52_method_14_code 10 = .ok (.iload_n 2, 1) := by decide +kernel
theorem tb2_11 : decode jdk_52_method_14_code 11 = .ok (.if_icmp .ge 21, 3) := by decide +kernel
theorem tb2_14 : decode jdk_52_method_14_code 14 = .ok (.aload_n 3, 1) := by decide +kernel
theorem tb2_15 : decode jdk_52_method_14_code 15 = .ok (.iload 4, 2) := by decide +kernel
theorem tb2_17 : decode jdk_52_method_14_code 17 = .ok (.aload_n 0, 1) := by decide +kernel
theorem tb2_18 : decode jdk_52_method_14_code 18 = .ok (.iload_n 1, 1) := by decide +kernel
theorem tb2_19 : decode jdk_52_method_14_code 19 = .ok (.caload, 1) := by decide +kernel
theorem tb2_20 : decode jdk_52_method_14_code 20 = .ok (.invokestatic 111, 3) := by decide +kernel
theorem tb2_23 : decode jdk_52_method_14_code 23 = .ok (.iinc 1 1, 3) := by decide +kernel
theorem tb2_26 : decode jdk_52_method_14_code 26 = .ok (.iinc 4 1, 3) := by decide +kernel
theorem tb2_29 : decode jdk_52_method_14_code 29 = .ok (.goto (-21), 3) := by decide +kernel
theorem tb2_32 : decode jdk_52_method_14_code 32 = .ok (.aload_n 3, 1) := by decide +kernel
theorem tb2_33 : decode jdk_52_method_14_code 33 = .ok (.areturn, 1) := by decide +kernel
theorem pn_tb2 : plainFor (⟨"java/lang/StringUTF16", "toBytes", "([CII)[B"⟩ : MethodName) = true := by first | exact plainFor_of_name (by first | (simp [plainName, overriddenIn]; done) | decide +kernel) | decide +kernel
theorem ef_tb2 (m : MethodId) (qc : Addr)  : entryFrame m #[(.ref qc), (.int (0 : Int32)), (.int (2 : Int32))] 5 = mkF m 0 #[.val (.ref qc), .val (.int (0 : Int32)), .val (.int (2 : Int32)), .unset, .unset] [] := by first | (simp [entryFrame, mkF, argsToLocals, Value.category, maxLocals]; done) | rfl
theorem pd_tb2 : parseMethodDescriptor "([CII)[B" = some ⟨[.array (.char), .int, .int], some (.array (.byte))⟩ := by decide +kernel
set_option maxRecDepth 65536 in
set_option maxHeartbeats 40000000 in
theorem rm_tb2 (l : Launch) (Z : State) (a0 : Array Value) (hw : ∀ d ∈ tables_1, d.before a0 Z = true)  (qc : Addr) (h0 : Heap) (n0 : Nat) (XO : Old Z n0 h0) (SA : Sta Z Z.heap "java/lang/StringUTF16" "$assertionsDisabled" "Z" (.int (1 : Int32))) (SH : Sta Z Z.heap "java/lang/StringUTF16" "HI_BYTE_SHIFT" "I" (.int (0 : Int32))) (SL : Sta Z Z.heap "java/lang/StringUTF16" "LO_BYTE_SHIFT" "I" (.int (8 : Int32))) (c0 c1 : Int32) (A1 : Arl Z h0 qc .char [(.int c0), (.int c1)]) :
    MetFree l (⟨"java/lang/StringUTF16", "toBytes", "([CII)[B"⟩ : MethodName) (head1 [Jvm.Cond.code (⟨"java/lang/StringUTF16", "toBytes", "([CII)[B"⟩ : MethodName) jdk_52_method_14_code 5 (some (Jvm.ClassFile.FieldType.array Jvm.ClassFile.FieldType.byte))] ({ frames := 2, cells := 1, slots := 4, locals := 24 } : Room)) (fun a U => a = #[(.ref qc), (.int (0 : Int32)), (.int (2 : Int32))] ∧ Z.Warmed39 U.vm ∧ U.heap = h0) (fun _ _ _ _ _ => True) (fun _ U o U' => ∃ v L, o = .returned v ∧ UBQ Z c0 c1 h0 n0 v U'.heap L ∧ FrameEnd U o U' L ({ frames := 2, cells := 1, slots := 4, locals := 24 } : Room).cells ({ frames := 2, cells := 1, slots := 4, locals := 24 } : Room).slots) := by
  refine MetFree.of_bodySF pn_tb2 hisR ?_
  intro p e s m args below meth c s₁ Bd hml0 hP hK
  obtain ⟨rfl, hZ, hh⟩ := hP
  have hx := Bd.exec
  have hby := Bd.bytes
  have hml : c.maxLocals = 5 := hml0
  have hown : s.vm.findClass "java/lang/StringUTF16" = some m.cls := findClass_of_methodNamed Bd.named
  have hnm := (name_of_methodNamed Bd.named Bd.method).1
  have hlk : meth.locks = false := BodyLoose.notSynchronized Bd
  have X0 : Stand p l e ({ frames := 2, cells := 1, slots := 4, locals := 24 } : Room) s m #[(.ref qc), (.int (0 : Int32)), (.int (2 : Int32))] below meth c s₁ [] 0 0 := Stand.of_body Bd
  have e0 : s₁.heap = h0 := by rw [← hh, Bd.state]; rfl
  show Go p e below (EndN below s (UBQ Z c0 c1 h0 n0) ({ frames := 2, cells := 1, slots := 4, locals := 24 } : Room).cells ({ frames := 2, cells := 1, slots := 4, locals := 24 } : Room).slots) (s₁.setTop (entryFrame m #[(.ref qc), (.int (0 : Int32)), (.int (2 : Int32))] 5))
  rw [ef_tb2]
  refine g_iload_n X0 hx 1 (2 : Int32) (hb hby tb2_0) rfl rfl ?_
  obtain ⟨_, T_1, L_1, X_1, ⟨b_1, rfl, g_1, M_1, K_1, B_1⟩, st_1⟩ := g_callS X0 hx hZ  (own := "java/lang/StringUTF16") (index := 107) (y := (⟨"java/lang/StringUTF16", "newBytesFor", "(I)[B"⟩ : MethodName)) (as' := [(.int (2 : Int32))]) hown (hw _ (List.mem_of_getElem? (i := 101) rfl)) (hw _ (List.mem_of_getElem? (i := 102) rfl)) (hw _ (List.mem_of_getElem? (i := 69) rfl)) (hw _ (List.mem_of_getElem? (i := 103) rfl)) (by decide) e0 (rm_nbf l Z a0 hw h0 n0 XO) pd_nbf rfl 0 (by decide) (by decide) (by decide) (by decide) (pc := 1) (Ls := #[.val (.ref qc), .val (.int (0 : Int32)), .val (.int (2 : Int32)), .unset, .unset]) (rest := []) (st := [(.int (2 : Int32))]) (by rw [hml]; rfl) rfl (Nat.le_of_eq rfl) (hb hby tb2_1)
  refine Go.of ?_ st_1
  have F_1_0 : Arl Z T_1.heap qc .char [(.int c0), (.int c1)] := A1.keep K_1 nin0
  have N_1 := Fr.app (Fr.nil _) M_1
  have Z_1 : h0.size ≤ T_1.heap.size := Nat.le_trans (Nat.le_refl _) K_1.1
  have O_1 := Old.keep XO K_1 all0
  have gn_1 : n0 ≤ b_1 := Nat.le_trans (Nat.le_trans (XO.1 ▸ XO.2.1) (Nat.le_refl _)) g_1
  have gg_1 : h0.size ≤ b_1 := Nat.le_trans (Nat.le_refl _) g_1
  have nb_1_qc : qc ≠ b_1 := Nat.ne_of_lt (Nat.lt_of_lt_of_le A1.lt g_1)
  show Go p e below _ (T_1.setTop (mkF m 4 #[.val (.ref qc), .val (.int (0 : Int32)), .val (.int (2 : Int32)), .unset, .unset] [(.ref b_1)]))
  refine g_astore_n X_1 hx 5 #[.val (.ref qc), .val (.int (0 : Int32)), .val (.int (2 : Int32)), .val (.ref b_1), .unset] (hb hby tb2_4) rfl rfl rfl ?_
  refine g_iconst X_1 hx 6 (0 : Int32) (hb hby tb2_5) rfl rfl ?_
  refine g_istore X_1 hx 8 #[.val (.ref qc), .val (.int (0 : Int32)), .val (.int (2 : Int32)), .val (.ref b_1), .val (.int (0 : Int32))] (hb hby tb2_6) rfl rfl ?_
  refine g_iload X_1 hx 10 (0 : Int32) (hb hby tb2_8) rfl rfl ?_
  refine g_iload_n X_1 hx 11 (2 : Int32) (hb hby tb2_10) rfl rfl ?_
  refine g_icmpN X_1 hx 14 (hb hby tb2_11) (XT.ii_ge_f (by decide)) rfl ?_
  refine g_aload_n X_1 hx 15 (.ref b_1) (hb hby tb2_14) rfl rfl rfl ?_
  refine g_iload X_1 hx 17 (0 : Int32) (hb hby tb2_15) rfl rfl ?_
  refine g_aload_n X_1 hx 18 (.ref qc) (hb hby tb2_17) rfl rfl rfl ?_
  refine g_iload_n X_1 hx 19 (0 : Int32) (hb hby tb2_18) rfl rfl ?_
  refine g_caload X_1 hx hZ rfl F_1_0 (k := 0) rfl (.int c0) rfl 20 (hb hby tb2_19) rfl ?_
  obtain ⟨_, T_20, L_20, X_20, ⟨rfl, M_20, K_20, B_20⟩, st_20⟩ := g_callS X_1 hx hZ  (own := "java/lang/StringUTF16") (index := 111) (y := (⟨"java/lang/StringUTF16", "putChar", "([BII)V"⟩ : MethodName)) (as' := [(.ref b_1), (.int (0 : Int32)), (.int c0)]) hown (hw _ (List.mem_of_getElem? (i := 86) rfl)) (hw _ (List.mem_of_getElem? (i := 87) rfl)) (hw _ (List.mem_of_getElem? (i := 69) rfl)) (hw _ (List.mem_of_getElem? (i := 88) rfl)) (by decide) rfl (rm_pch_4_0 l Z a0 hw b_1 c0 T_1.heap n0 O_1 SA SH SL gn_1 (0 : Int32) (0 : Int32) (0 : Int32) (0 : Int32) B_1) pd_pch_4_0 rfl 0 (by decide) (by decide) (by decide) (by decide) (pc := 20) (Ls := #[.val (.ref qc), .val (.int (0 : Int32)), .val (.int (2 : Int32)), .val (.ref b_1), .val (.int (0 : Int32))]) (rest := []) (st := [(.int c0), (.int (0 : Int32)), (.ref b_1)]) (by rw [hml]; rfl) rfl (Nat.le_of_eq rfl) (hb hby tb2_20)
  refine Go.of ?_ st_20
  have F_20_0 : Arl Z T_20.heap b_1 .byte [(.int (lo8 c0)), (.int (hi8 c0)), (.int (0 : Int32)), (.int (0 : Int32))] := B_20
  have F_20_1 : Arl Z T_20.heap qc .char [(.int c0), (.int c1)] := F_1_0.keep K_20 (ninS nb_1_qc nin0)
  have N_20 := Fr.app N_1 M_20
  have Z_20 : h0.size ≤ T_20.heap.size := Nat.le_trans Z_1 K_20.1
  have O_20 := Old.keep O_1 K_20 (allS gn_1 all0)
  show Go p e below _ (T_20.setTop (mkF m 23 #[.val (.ref qc), .val (.int (0 : Int32)), .val (.int (2 : Int32)), .val (.ref b_1), .val (.int (0 : Int32))] []))
  refine g_iinc X_20 hx 26 (1 : Int32) #[.val (.ref qc), .val (.int (1 : Int32)), .val (.int (2 : Int32)), .val (.ref b_1), .val (.int (0 : Int32))] (hb hby tb2_23) rfl rfl rfl rfl ?_
  refine g_iinc X_20 hx 29 (1 : Int32) #[.val (.ref qc), .val (.int (1 : Int32)), .val (.int (2 : Int32)), .val (.ref b_1), .val (.int (1 : Int32))] (hb hby tb2_26) rfl rfl rfl rfl ?_
  refine g_goto X_20 hx 8 (hb hby tb2_29) (by decide) (by decide) ?_
  refine g_iload X_20 hx 10 (1 : Int32) (hb hby tb2_8) rfl rfl ?_
  refine g_iload_n X_20 hx 11 (2 : Int32) (hb hby tb2_10) rfl rfl ?_
  refine g_icmpN X_20 hx 14 (hb hby tb2_11) (XT.ii_ge_f (by decide)) rfl ?_
  refine g_aload_n X_20 hx 15 (.ref b_1) (hb hby tb2_14) rfl rfl rfl ?_
  refine g_iload X_20 hx 17 (1 : Int32) (hb hby tb2_15) rfl rfl ?_
  refine g_aload_n X_20 hx 18 (.ref qc) (hb hby tb2_17) rfl rfl rfl ?_
  refine g_iload_n X_20 hx 19 (1 : Int32) (hb hby tb2_18) rfl rfl ?_
  refine g_caload X_20 hx hZ rfl F_20_1 (k := 1) rfl (.int c1) rfl 20 (hb hby tb2_19) rfl ?_
  obtain ⟨_, T_20x1, L_20x1, X_20x1, ⟨rfl, M_20x1, K_20x1, B_20x1⟩, st_20x1⟩ := g_callS X_20 hx hZ  (own := "java/lang/StringUTF16") (index := 111) (y := (⟨"java/lang/StringUTF16", "putChar", "([BII)V"⟩ : MethodName)) (as' := [(.ref b_1), (.int (1 : Int32)), (.int c1)]) hown (hw _ (List.mem_of_getElem? (i := 86) rfl)) (hw _ (List.mem_of_getElem? (i := 87) rfl)) (hw _ (List.mem_of_getElem? (i := 69) rfl)) (hw _ (List.mem_of_getElem? (i := 88) rfl)) (by decide) rfl (rm_pch_4_1 l Z a0 hw b_1 c1 T_20.heap n0 O_20 SA SH SL gn_1 (lo8 c0) (hi8 c0) (0 : Int32) (0 : Int32) F_20_0) pd_pch_4_1 rfl 0 (by decide) (by decide) (by decide) (by decide) (pc := 20) (Ls := #[.val (.ref qc), .val (.int (1 : Int32)), .val (.int (2 : Int32)), .val (.ref b_1), .val (.int (1 : Int32))]) (rest := []) (st := [(.int c1), (.int (1 : Int32)), (.ref b_1)]) (by rw [hml]; rfl) rfl (Nat.le_of_eq rfl) (hb hby tb2_20)
  refine Go.of ?_ st_20x1
  have F_20x1_0 : Arl Z T_20x1.heap b_1 .byte [(.int (lo8 c0)), (.int (hi8 c0)), (.int (lo8 c1)), (.int (hi8 c1))] := B_20x1
  have F_20x1_1 : Arl Z T_20x1.heap qc .char [(.int c0), (.int c1)] := F_20_1.keep K_20x1 (ninS nb_1_qc nin0)
  have N_20x1 := Fr.app N_20 M_20x1
  have Z_20x1 : h0.size ≤ T_20x1.heap.size := Nat.le_trans Z_20 K_20x1.1
  have O_20x1 := Old.keep O_20 K_20x1 (allS gn_1 all0)
  show Go p e below _ (T_20x1.setTop (mkF m 23 #[.val (.ref qc), .val (.int (1 : Int32)), .val (.int (2 : Int32)), .val (.ref b_1), .val (.int (1 : Int32))] []))
  refine g_iinc X_20x1 hx 26 (1 : Int32) #[.val (.ref qc), .val (.int (2 : Int32)), .val (.int (2 : Int32)), .val (.ref b_1), .val (.int (1 : Int32))] (hb hby tb2_23) rfl rfl rfl rfl ?_
  refine g_iinc X_20x1 hx 29 (1 : Int32) #[.val (.ref qc), .val (.int (2 : Int32)), .val (.int (2 : Int32)), .val (.ref b_1), .val (.int (2 : Int32))] (hb hby tb2_26) rfl rfl rfl rfl ?_
  refine g_goto X_20x1 hx 8 (hb hby tb2_29) (by decide) (by decide) ?_
  refine g_iload X_20x1 hx 10 (2 : Int32) (hb hby tb2_8) rfl rfl ?_
  refine g_iload_n X_20x1 hx 11 (2 : Int32) (hb hby tb2_10) rfl rfl ?_
  refine g_icmpY X_20x1 hx 32 (hb hby tb2_11) (XT.ii_ge_t (by decide)) (by decide) (by decide) ?_
  refine g_aload_n X_20x1 hx 33 (.ref b_1) (hb hby tb2_32) rfl rfl rfl ?_
  exact Go.retA X_20x1 hx hlk Bd.returns rfl rfl (hb hby tb2_33) (by decide) (by decide) ⟨b_1, rfl, gg_1, N_20x1, ((((Keep.refl _ _).trans K_1 all0).trans K_20 (allS (Or.inr gg_1) all0)).trans K_20x1 (allS (Or.inr gg_1) all0)), F_20x1_0⟩
theorem cfl_0 : decode jdk_52_method_15_code 0 = .ok (.iload_n 1, 1) := by decide +kernel
theorem cfl_1 : decode jdk_52_method_15_code 1 = .ok (.aload_n 0, 1) := by decide +kernel
theorem cfl_2 : decode jdk_52_method_15_code 2 = .ok (.arraylength, 1) := by decide +kernel
theorem cfl_3 : decode jdk_52_method_15_code 3 = .ok (.isub, 1) := by decide +kernel
theorem cfl_4 : decode jdk_52_method_15_code 4 = .ok (.bipush 31, 2) := by decide +kernel
theorem cfl_6 : decode jdk_52_method_15_code 6 = .ok (.iushr, 1) := by decide +kernel
theorem cfl_7 : decode jdk_52_method_15_code 7 = .ok (.i2b, 1) := by decide +kernel
theorem cfl_8 : decode jdk_52_method_15_code 8 = .ok (.ireturn, 1) := by decide +kernel
theorem pn_cfl : plainFor (⟨"java/lang/StringUTF16", "coderFromArrayLen", "([BI)B"⟩ : MethodName) = true := by first | exact plainFor_of_name (by first | (simp [plainName, overriddenIn]; done) | decide +kernel) | decide +kernel
theorem ef_cfl (m : MethodId) (qb : Addr) (q1 : Int32)  : entryFrame m #[(.ref qb), (.int q1)] 2 = mkF m 0 #[.val (.ref qb), .val (.int q1)] [] := by first | (simp [entryFrame, mkF, argsToLocals, Value.category, maxLocals]; done) | rfl
theorem pd_cfl : parseMethodDescriptor "([BI)B" = some ⟨[.array (.byte), .int], some (.byte)⟩ := by decide +kernel
set_option maxRecDepth 65536 in
set_option maxHeartbeats 40000000 in
theorem rm_cfl (l : Launch) (Z : State) (a0 : Array Value) (hw : ∀ d ∈ tables_1, d.before a0 Z = true)  (qb : Addr) (q1 : Int32) (h0 : Heap) (vs : List Value) (hz : vs.length.toInt32 = q1) (hA : Arl Z h0 qb .byte vs) :
    MetFree l (⟨"java/lang/StringUTF16", "coderFromArrayLen", "([BI)B"⟩ : MethodName) (head1 [Jvm.Cond.code (⟨"java/lang/StringUTF16", "coderFromArrayLen", "([BI)B"⟩ : MethodName) jdk_52_method_15_code 2 (some Jvm.ClassFile.FieldType.byte)] ({ frames := 0, cells := 0, slots := 0, locals := 0 } : Room)) (fun a U => a = #[(.ref qb), (.int q1)] ∧ Z.Warmed39 U.vm ∧ U.heap = h0) (fun _ _ _ _ _ => True) (fun _ U o U' => ∃ v L, o = .returned v ∧ Pur (some (.int (0 : Int32))) h0 v U'.heap L ∧ FrameEnd U o U' L ({ frames := 0, cells := 0, slots := 0, locals := 0 } : Room).cells ({ frames := 0, cells := 0, slots := 0, locals := 0 } : Room).slots) := by
  refine MetFree.of_bodySF pn_cfl hisR ?_
  intro p e s m args below meth c s₁ Bd hml0 hP hK
  obtain ⟨rfl, hZ, hh⟩ := hP
  have hx := Bd.exec
  have hby := Bd.bytes
  have hml : c.maxLocals = 2 := hml0
  have hown : s.vm.findClass "java/lang/StringUTF16" = some m.cls := findClass_of_methodNamed Bd.named
  have hnm := (name_of_methodNamed Bd.named Bd.method).1
  have hlk : meth.locks = false := BodyLoose.notSynchronized Bd
  have X0 : Stand p l e ({ frames := 0, cells := 0, slots := 0, locals := 0 } : Room) s m #[(.ref qb), (.int q1)] below meth c s₁ [] 0 0 := Stand.of_body Bd
  have e0 : s₁.heap = h0 := by rw [← hh, Bd.state]; rfl
  show Go p e below (EndN below s (Pur (some (.int (0 : Int32))) h0) ({ frames := 0, cells := 0, slots := 0, locals := 0 } : Room).cells ({ frames := 0, cells := 0, slots := 0, locals := 0 } : Room).slots) (s₁.setTop (entryFrame m #[(.ref qb), (.int q1)] 2))
  rw [ef_cfl]
  refine g_iload_n X0 hx 1 q1 (hb hby cfl_0) rfl rfl ?_
  refine g_aload_n X0 hx 2 (.ref qb) (hb hby cfl_1) rfl rfl rfl ?_
  refine g_alen X0 hx hZ e0 hA q1 hz 3 (hb hby cfl_2) rfl ?_
  refine g_isub X0 hx 4 (hb hby cfl_3) rfl ?_
  refine g_bipush X0 hx 6 (31 : Int32) (hb hby cfl_4) rfl rfl ?_
  refine g_iushr X0 hx 7 (hb hby cfl_6) rfl ?_
  refine g_i2b X0 hx 8 (hb hby cfl_7) rfl ?_
  rw [show q1 - q1 = 0 from by simp]
  exact Go.retZ X0 hx hlk Bd.returns (by simp) (hb hby cfl_8) (by decide) (by decide) ⟨rfl, rfl, e0⟩
def CQ2_2 (Z : State) (qb : Addr) (c0 c1 : Int32) (h0 : Heap) (n0 : Nat) (v : Option Value) (h : Heap) (L : List Loc) : Prop := v = some (.int (2 : Int32)) ∧ Fr n0 L ∧ Keep h0 h [qb] ∧ Arl Z h qb .byte [(.int (c0.toInt8.toInt32)), (.int (c1.toInt8.toInt32))]
theorem cp2_2_0 : decode jdk_52_method_21_code 0 = .ok (.iconst 0, 1) := by decide +kernel
theorem cp2_2_1 : decode jdk_52_method_21_code 1 = .ok (.istore 5, 2) := by decide +kernel
theorem cp2_2_3 : decode jdk_52_method_21_code 3 = .ok (.iload 5, 2) := by decide +kernel
theorem cp2_2_5 : decode jdk_52_method_21_code 5 = .ok (.iload 4, 2) := by decide +kernel
theorem cp2_2_7 : decode jdk_52_method_21_code 7 = .ok (.if_icmp .ge 37, 3) := by decide +kernel
theorem cp2_2_10 : decode jdk_52_method_21_code 10 = .ok (.aload_n 0, 1) := by decide +kernel
theorem cp2_2_11 : decode jdk_52_method_21_code 11 = .ok (.iload_n 1, 1) := by decide +kernel
theorem cp2_2_12 : decode jdk_52_method_21_code 12 = .ok (.caload, 1) := by decide +kernel
theorem cp2_2_13 : decode jdk_52_method_21_code 13 = .ok (.istore 6, 2) := by decide +kernel
theorem cp2_2_15 : decode jdk_52_method_21_code 15 = .ok (.iload 6, 2) := by decide +kernel
theorem cp2_2_17 : decode jdk_52_method_21_code 17 = .ok (.sipush 255, 3) := by decide +kernel
theorem cp2_2_20 : decode jdk_52_method_21_code 20 = .ok (.if_icmp .le 6, 3) := by decide +kernel
theorem cp2_2_23 : decode jdk_52_method_21_code 23 = .ok (.iload 5, 2) := by decide +kernel
theorem cp2_2_25 : decode jdk_52_method_21_code 25 = .ok (.ireturn, 1) := by decide +kernel
theorem cp2_2_26 : decode jdk_52_method_21_code 26 = .ok (.aload_n 2, 1) := by decide +kernel
theorem cp2_2_27 : decode jdk_52_method_21_code 27 = .ok (.iload_n 3, 1) := by decide +kernel
theorem cp2_2_28 : decode jdk_52_method_21_code 28 = .ok (.iload 6, 2) := by decide +kernel
theorem cp2_2_30 : decode jdk_52_method_21_code 30 = .ok (.i2b, 1) := by decide +kernel
theorem cp2_2_31 : decode jdk_52_method_21_code 31 = .ok (.bastore, 1) := by decide +kernel
theorem cp2_2_32 : decode jdk_52_method_21_code 32 = .ok (.iinc 1 1, 3) := by decide +kernel
theorem cp2_2_35 : decode jdk_52_method_21_code 35 = .ok (.iinc 3 1, 3) := by decide +kernel
theorem cp2_2_38 : decode jdk_52_method_21_code 38 = .ok (.iinc 5 1, 3) := by decide +kernel
theorem cp2_2_41 : decode jdk_52_method_21_code 41 = .ok (.goto (-38), 3) := by decide +kernel
theorem cp2_2_44 : decode jdk_52_method_21_code 44 = .ok (.iload 4, 2) := by decide +kernel
theorem cp2_2_46 : decode jdk_52_method_21_code 46 = .ok (.ireturn, 1) := by decide +kernel
theorem pn_cp2_2 : plainFor (⟨"java/lang/StringUTF16", "compress", "([CI[BII)I"⟩ : MethodName) = true := by first | exact plainFor_of_name (by first | (simp [plainName, overriddenIn]; done) | decide +kernel) | decide +kernel
theorem ef_cp2_2 (m : MethodId) (qa : Addr) (qb : Addr)  : entryFrame m #[(.ref qa), (.int (0 : Int32)), (.ref qb), (.int (0 : Int32)), (.int (2 : Int32))] 7 = mkF m 0 #[.val (.ref qa), .val (.int (0 : Int32)), .val (.ref qb), .val (.int (0 : Int32)), .val (.int (2 : Int32)), .unset, .unset] [] := by first | (simp [entryFrame, mkF, argsToLocals, Value.category, maxLocals]; done) | rfl
theorem pd_cp2_2 : parseMethodDescriptor "([CI[BII)I" = some ⟨[.array (.char), .int, .array (.byte), .int, .int], some (.int)⟩ := by decide +kernel
set_option maxRecDepth 65536 in
set_option maxHeartbeats 40000000 in
theorem rm_cp2_2 (l : Launch) (Z : State) (a0 : Array Value) (hw : ∀ d ∈ tables_1, d.before a0 Z = true)  (qa : Addr) (qb : Addr) (h0 : Heap) (n0 : Nat) (ga : n0 ≤ qb) (c0 c1 : Int32) (hc0 : ¬ (255 : Int32) < c0) (hc1 : ¬ (255 : Int32) < c1) (hne : qa ≠ qb) (A1 : Arl Z h0 qa .char [(.int c0), (.int c1)])(A2 : Arl Z h0 qb .byte [(.int (0 : Int32)), (.int (0 : Int32))]) :
    MetFree l (⟨"java/lang/StringUTF16", "compress", "([CI[BII)I"⟩ : MethodName) (head1 [Jvm.Cond.code (⟨"java/lang/StringUTF16", "compress", "([CI[BII)I"⟩ : MethodName) jdk_52_method_21_code 7 (some Jvm.ClassFile.FieldType.int)] ({ frames := 0, cells := 0, slots := 0, locals := 0 } : Room)) (fun a U => a = #[(.ref qa), (.int (0 : Int32)), (.ref qb), (.int (0 : Int32)), (.int (2 : Int32))] ∧ Z.Warmed39 U.vm ∧ U.heap = h0) (fun _ _ _ _ _ => True) (fun _ U o U' => ∃ v L, o = .returned v ∧ CQ2_2 Z qb c0 c1 h0 n0 v U'.heap L ∧ FrameEnd U o U' L ({ frames := 0, cells := 0, slots := 0, locals := 0 } : Room).cells ({ frames := 0, cells := 0, slots := 0, locals := 0 } : Room).slots) := by
  refine MetFree.of_bodySF pn_cp2_2 hisR ?_
  intro p e s m args below meth c s₁ Bd hml0 hP hK
  obtain ⟨rfl, hZ, hh⟩ := hP
  have hx := Bd.exec
  have hby := Bd.bytes
  have hml : c.maxLocals = 7 := hml0
  have hown : s.vm.findClass "java/lang/StringUTF16" = some m.cls := findClass_of_methodNamed Bd.named
  have hnm := (name_of_methodNamed Bd.named Bd.method).1
  have hlk : meth.locks = false := BodyLoose.notSynchronized Bd
  have X0 : Stand p l e ({ frames := 0, cells := 0, slots := 0, locals := 0 } : Room) s m #[(.ref qa), (.int (0 : Int32)), (.ref qb), (.int (0 : Int32)), (.int (2 : Int32))] below meth c s₁ [] 0 0 := Stand.of_body Bd
  have e0 : s₁.heap = h0 := by rw [← hh, Bd.state]; rfl
  show Go p e below (EndN below s (CQ2_2 Z qb c0 c1 h0 n0) ({ frames := 0, cells := 0, slots := 0, locals := 0 } : Room).cells ({ frames := 0, cells := 0, slots := 0, locals := 0 } : Room).slots) (s₁.setTop (entryFrame m #[(.ref qa), (.int (0 : Int32)), (.ref qb), (.int (0 : Int32)), (.int (2 : Int32))] 7))
  rw [ef_cp2_2]
  refine g_iconst X0 hx 1 (0 : Int32) (hb hby cp2_2_0) rfl rfl ?_
  refine g_istore X0 hx 3 #[.val (.ref qa), .val (.int (0 : Int32)), .val (.ref qb), .val (.int (0 : Int32)), .val (.int (2 : Int32)), .val (.int (0 : Int32)), .unset] (hb hby cp2_2_1) rfl rfl ?_
  refine g_iload X0 hx 5 (0 : Int32) (hb hby cp2_2_3) rfl rfl ?_
  refine g_iload X0 hx 7 (2 : Int32) (hb hby cp2_2_5) rfl rfl ?_
  refine g_icmpN X0 hx 10 (hb hby cp2_2_7) (XT.ii_ge_f (by decide)) rfl ?_
  refine g_aload_n X0 hx 11 (.ref qa) (hb hby cp2_2_10) rfl rfl rfl ?_
  refine g_iload_n X0 hx 12 (0 : Int32) (hb hby cp2_2_11) rfl rfl ?_
  refine g_caload X0 hx hZ e0 A1 (k := 0) rfl (.int c0) rfl 13 (hb hby cp2_2_12) rfl ?_
  refine g_istore X0 hx 15 #[.val (.ref qa), .val (.int (0 : Int32)), .val (.ref qb), .val (.int (0 : Int32)), .val (.int (2 : Int32)), .val (.int (0 : Int32)), .val (.int c0)] (hb hby cp2_2_13) rfl rfl ?_
  refine g_iload X0 hx 17 c0 (hb hby cp2_2_15) rfl rfl ?_
  refine g_sipush X0 hx 20 (255 : Int32) (hb hby cp2_2_17) rfl rfl ?_
  refine g_icmpY X0 hx 26 (hb hby cp2_2_20) (XT.ii_le_t hc0) (by decide) (by decide) ?_
  refine g_aload_n X0 hx 27 (.ref qb) (hb hby cp2_2_26) rfl rfl rfl ?_
  refine g_iload_n X0 hx 28 (0 : Int32) (hb hby cp2_2_27) rfl rfl ?_
  refine g_iload X0 hx 30 c0 (hb hby cp2_2_28) rfl rfl ?_
  refine g_i2b X0 hx 31 (hb hby cp2_2_30) rfl ?_
  obtain ⟨T_31, h_31, X_31, e_31, W_31, B_31, st_31⟩ := g_bastore X0 hx hZ e0 A2 (j := (0 : Int32)) (c0.toInt8.toInt32) (k := 0) rfl (Nat.le_of_ble_eq_true rfl) 32 (hb hby cp2_2_31) rfl
  refine st_31 ?_
  have C_31 : Arl Z h_31 qb .byte [(.int (c0.toInt8.toInt32)), (.int (0 : Int32))] := by have z := B_31; rw [show (nar .byte (c0.toInt8.toInt32)) = (c0.toInt8.toInt32) from own_nb _] at z; exact z
  have F_31_0 : Arl Z h_31 qb .byte [(.int (c0.toInt8.toInt32)), (.int (0 : Int32))] := C_31
  have F_31_1 : Arl Z h_31 qa .char [(.int c0), (.int c1)] := A1.other W_31 hne
  have N_31 := Fr.snoc X_31 (Fr.nil _) ga
  have Z_31 : h0.size ≤ h_31.size := by rw [W_31.size]; exact (Nat.le_refl _)
  refine g_iinc X_31 hx 35 (1 : Int32) #[.val (.ref qa), .val (.int (1 : Int32)), .val (.ref qb), .val (.int (0 : Int32)), .val (.int (2 : Int32)), .val (.int (0 : Int32)), .val (.int c0)] (hb hby cp2_2_32) rfl rfl rfl rfl ?_
  refine g_iinc X_31 hx 38 (1 : Int32) #[.val (.ref qa), .val (.int (1 : Int32)), .val (.ref qb), .val (.int (1 : Int32)), .val (.int (2 : Int32)), .val (.int (0 : Int32)), .val (.int c0)] (hb hby cp2_2_35) rfl rfl rfl rfl ?_
  refine g_iinc X_31 hx 41 (1 : Int32) #[.val (.ref qa), .val (.int (1 : Int32)), .val (.ref qb), .val (.int (1 : Int32)), .val (.int (2 : Int32)), .val (.int (1 : Int32)), .val (.int c0)] (hb hby cp2_2_38) rfl rfl rfl rfl ?_
  refine g_goto X_31 hx 3 (hb hby cp2_2_41) (by decide) (by decide) ?_
  refine g_iload X_31 hx 5 (1 : Int32) (hb hby cp2_2_3) rfl rfl ?_
  refine g_iload X_31 hx 7 (2 : Int32) (hb hby cp2_2_5) rfl rfl ?_
  refine g_icmpN X_31 hx 10 (hb hby cp2_2_7) (XT.ii_ge_f (by decide)) rfl ?_
  refine g_aload_n X_31 hx 11 (.ref qa) (hb hby cp2_2_10) rfl rfl rfl ?_
  refine g_iload_n X_31 hx 12 (1 : Int32) (hb hby cp2_2_11) rfl rfl ?_
  refine g_caload X_31 hx hZ e_31 F_31_1 (k := 1) rfl (.int c1) rfl 13 (hb hby cp2_2_12) rfl ?_
  refine g_istore X_31 hx 15 #[.val (.ref qa), .val (.int (1 : Int32)), .val (.ref qb), .val (.int (1 : Int32)), .val (.int (2 : Int32)), .val (.int (1 : Int32)), .val (.int c1)] (hb hby cp2_2_13) rfl rfl ?_
  refine g_iload X_31 hx 17 c1 (hb hby cp2_2_15) rfl rfl ?_
  refine g_sipush X_31 hx 20 (255 : Int32) (hb hby cp2_2_17) rfl rfl ?_
  refine g_icmpY X_31 hx 26 (hb hby cp2_2_20) (XT.ii_le_t hc1) (by decide) (by decide) ?_
  refine g_aload_n X_31 hx 27 (.ref qb) (hb hby cp2_2_26) rfl rfl rfl ?_
  refine g_iload_n X_31 hx 28 (1 : Int32) (hb hby cp2_2_27) rfl rfl ?_
  refine g_iload X_31 hx 30 c1 (hb hby cp2_2_28) rfl rfl ?_
  refine g_i2b X_31 hx 31 (hb hby cp2_2_30) rfl ?_
  obtain ⟨T_31x1, h_31x1, X_31x1, e_31x1, W_31x1, B_31x1, st_31x1⟩ := g_bastore X_31 hx hZ e_31 F_31_0 (j := (1 : Int32)) (c1.toInt8.toInt32) (k := 1) rfl (Nat.le_of_ble_eq_true rfl) 32 (hb hby cp2_2_31) rfl
  refine st_31x1 ?_
  have C_31x1 : Arl Z h_31x1 qb .byte [(.int (c0.toInt8.toInt32)), (.int (c1.toInt8.toInt32))] := by have z := B_31x1; rw [show (nar .byte (c1.toInt8.toInt32)) = (c1.toInt8.toInt32) from own_nb _] at z; exact z
  have F_31x1_0 : Arl Z h_31x1 qb .byte [(.int (c0.toInt8.toInt32)), (.int (c1.toInt8.toInt32))] := C_31x1
  have F_31x1_1 : Arl Z h_31x1 qa .char [(.int c0), (.int c1)] := F_31_1.other W_31x1 hne
  have N_31x1 := Fr.snoc X_31x1 N_31 ga
  have Z_31x1 : h0.size ≤ h_31x1.size := by rw [W_31x1.size]; exact Z_31
  refine g_iinc X_31x1 hx 35 (1 : Int32) #[.val (.ref qa), .val (.int (2 : Int32)), .val (.ref qb), .val (.int (1 : Int32)), .val (.int (2 : Int32)), .val (.int (1 : Int32)), .val (.int c1)] (hb hby cp2_2_32) rfl rfl rfl rfl ?_
  refine g_iinc X_31x1 hx 38 (1 : Int32) #[.val (.ref qa), .val (.int (2 : Int32)), .val (.ref qb), .val (.int (2 : Int32)), .val (.int (2 : Int32)), .val (.int (1 : Int32)), .val (.int c1)] (hb hby cp2_2_35) rfl rfl rfl rfl ?_
  refine g_iinc X_31x1 hx 41 (1 : Int32) #[.val (.ref qa), .val (.int (2 : Int32)), .val (.ref qb), .val (.int (2 : Int32)), .val (.int (2 : Int32)), .val (.int (2 : Int32)), .val (.int c1)] (hb hby cp2_2_38) rfl rfl rfl rfl ?_
  refine g_goto X_31x1 hx 3 (hb hby cp2_2_41) (by decide) (by decide) ?_
  refine g_iload X_31x1 hx 5 (2 : Int32) (hb hby cp2_2_3) rfl rfl ?_
  refine g_iload X_31x1 hx 7 (2 : Int32) (hb hby cp2_2_5) rfl rfl ?_
  refine g_icmpY X_31x1 hx 44 (hb hby cp2_2_7) (XT.ii_ge_t (by decide)) (by decide) (by decide) ?_
  refine g_iload X_31x1 hx 46 (2 : Int32) (hb hby cp2_2_44) rfl rfl ?_
  exact Go.retI X_31x1 hx hlk Bd.returns (hb hby cp2_2_46) (by decide) (by decide) ⟨rfl, N_31x1, e_31x1.symm ▸ (((Keep.refl _ _).wr W_31 (Or.inl (by simp))).wr W_31x1 (Or.inl (by simp))), e_31x1.symm ▸ F_31x1_0⟩
def CQ1_2 (Z : State) (c0 c1 : Int32) (h0 : Heap) (n0 : Nat) (v : Option Value) (h : Heap) (L : List Loc) : Prop := ∃ qb : Addr, v = some (.ref qb) ∧ h0.size ≤ qb ∧ Fr n0 L ∧ Keep h0 h [] ∧ Arl Z h qb .byte [(.int (c0.toInt8.toInt32)), (.int (c1.toInt8.toInt32))]
theorem cp1_2_0 : decode jdk_52_method_16_code 0 = .ok (.iload_n 2, 1) := by decide +kernel
theorem cp1_2_1 : decode jdk_52_method_16_code 1 = .ok (.newarray .byte, 2) := by decide +kernel
theorem cp1_2_3 : decode jdk_52_method_16_code 3 = .ok (.astore_n 3, 1) := by decide +kernel
theorem cp1_2_4 : decode jdk_52_method_16_code 4 = .ok (.aload_n 0, 1) := by decide +kernel
theorem cp1_2_5 : decode jdk_52_method_16_code 5 = .ok (.iload_n 1, 1) := by decide +kernel
theorem cp1_2_6 : decode jdk_52_method_16_code 6 = .ok (.aload_n 3, 1) := by decide +kernel
theorem cp1_2_7 : decode jdk_52_method_16_code 7 = .ok (.iconst 0, 1) := by decide +kernel
theorem cp1_2_8 : decode jdk_52_method_16_code 8 = .ok (.iload_n 2, 1) := by decide +kernel
theorem cp1_2_9 : decode jdk_52_method_16_code 9 = .ok (.invokestatic 115, 3) := by decide +kernel
theorem cp1_2_12 : decode jdk_52_method_16_code 12 = .ok (.istore 4, 2) := by decide +kernel
theorem cp1_2_14 : decode jdk_52_method_16_code 14 = .ok (.iload 4, 2) := by decide +kernel
theorem cp1_2_16 : decode jdk_52_method_16_code 16 = .ok (.iload_n 2, 1) := by decide +kernel
theorem cp1_2_17 : decode jdk_52_method_16_code 17 = .ok (.if_icmp .eq 40, 3) := by decide +kernel
theorem cp1_2_20 : decode jdk_52_method_16_code 20 = .ok (.aload_n 0, 1) := by decide +kernel
theorem cp1_2_21 : decode jdk_52_method_16_code 21 = .ok (.iload_n 1, 1) := by decide +kernel
theorem cp1_2_22 : decode jdk_52_method_16_code 22 = .ok (.iload_n 2, 1) := by decide +kernel
theorem cp1_2_23 : decode jdk_52_method_16_code 23 = .ok (.invokestatic 119, 3) := by decide +kernel
theorem cp1_2_26 : decode jdk_52_method_16_code 26 = .ok (.astore 5, 2) := by decide +kernel
theorem cp1_2_28 : decode jdk_52_method_16_code 28 = .ok (.aload 5, 2) := by decide +kernel
theorem cp1_2_30 : decode jdk_52_method_16_code 30 = .ok (.iload 4, 2) := by decide +kernel
theorem cp1_2_32 : decode jdk_52_method_16_code 32 = .ok (.invokestatic 71, 3) := by decide +kernel
theorem cp1_2_35 : decode jdk_52_method_16_code 35 = .ok (.sipush 255, 3) := by decide +kernel
theorem cp1_2_38 : decode jdk_52_method_16_code 38 = .ok (.if_icmp .gt 16, 3) := by decide +kernel
theorem cp1_2_41 : decode jdk_52_method_16_code 41 = .ok (.aload 5, 2) := by decide +kernel
theorem cp1_2_43 : decode jdk_52_method_16_code 43 = .ok (.iconst 0, 1) := by decide +kernel
theorem cp1_2_44 : decode jdk_52_method_16_code 44 = .ok (.aload_n 3, 1) := by decide +kernel
theorem cp1_2_45 : decode jdk_52_method_16_code 45 = .ok (.iconst 0, 1) := by decide +kernel
theorem cp1_2_46 : decode jdk_52_method_16_code 46 = .ok (.iload_n 2, 1) := by decide +kernel
theorem cp1_2_47 : decode jdk_52_method_16_code 47 = .ok (.invokestatic 123, 3) := by decide +kernel
theorem cp1_2_50 : decode jdk_52_method_16_code 50 = .ok (.iload_n 2, 1) := by decide +kernel
theorem cp1_2_51 : decode jdk_52_method_16_code 51 = .ok (.if_icmp .eq 6, 3) := by decide +kernel
theorem cp1_2_54 : decode jdk_52_method_16_code 54 = .ok (.aload 5, 2) := by decide +kernel
theorem cp1_2_56 : decode jdk_52_method_16_code 56 = .ok (.areturn, 1) := by decide +kernel
theorem cp1_2_57 : decode jdk_52_method_16_code 57 = .ok (.aload_n 3, 1) := by decide +kernel
theorem cp1_2_58 : decode jdk_52_method_16_code 58 = .ok (.areturn, 1) := by decide +kernel
theorem pn_cp1_2 : plainFor (⟨"java/lang/StringUTF16", "compress", "([CII)[B"⟩ : MethodName) = true := by first | exact plainFor_of_name (by first | (simp [plainName, overriddenIn]; done) | decide +kernel) | decide +kernel
theorem ef_cp1_2 (m : MethodId) (qa : Addr)  : entryFrame m #[(.ref qa), (.int (0 : Int32)), (.int (2 : Int32))] 6 = mkF m 0 #[.val (.ref qa), .val (.int (0 : Int32)), .val (.int (2 : Int32)), .unset, .unset, .unset] [] := by first | (simp [entryFrame, mkF, argsToLocals, Value.category, maxLocals]; done) | rfl
theorem pd_cp1_2 : parseMethodDescriptor "([CII)[B" = some ⟨[.array (.char), .int, .int], some (.array (.byte))⟩ := by decide +kernel
set_option maxRecDepth 65536 in
set_option maxHeartbeats 40000000 in
theorem rm_cp1_2 (l : Launch) (Z : State) (a0 : Array Value) (hw : ∀ d ∈ tables_1, d.before a0 Z = true)  (qa : Addr) (h0 : Heap) (n0 : Nat) (Z0 : n0 ≤ h0.size) (c0 c1 : Int32) (hc0 : ¬ (255 : Int32) < c0) (hc1 : ¬ (255 : Int32) < c1) (A1 : Arl Z h0 qa .char [(.int c0), (.int c1)]) :
    MetFree l (⟨"java/lang/StringUTF16", "compress", "([CII)[B"⟩ : MethodName) (head1 [Jvm.Cond.code (⟨"java/lang/StringUTF16", "compress", "([CII)[B"⟩ : MethodName) jdk_52_method_16_code 6 (some (Jvm.ClassFile.FieldType.array Jvm.ClassFile.FieldType.byte))] ({ frames := 1, cells := 1, slots := 2, locals := 18 } : Room)) (fun a U => a = #[(.ref qa), (.int (0 : Int32)), (.int (2 : Int32))] ∧ Z.Warmed39 U.vm ∧ U.heap = h0) (fun _ _ _ _ _ => True) (fun _ U o U' => ∃ v L, o = .returned v ∧ CQ1_2 Z c0 c1 h0 n0 v U'.heap L ∧ FrameEnd U o U' L ({ frames := 1, cells := 1, slots := 2, locals := 18 } : Room).cells ({ frames := 1, cells := 1, slots := 2, locals := 18 } : Room).slots) := by
  refine MetFree.of_bodySF pn_cp1_2 hisR ?_
  intro p e s m args below meth c s₁ Bd hml0 hP hK
  obtain ⟨rfl, hZ, hh⟩ := hP
  have hx := Bd.exec
  have hby := Bd.bytes
  have hml : c.maxLocals = 6 := hml0
  have hown : s.vm.findClass "java/lang/StringUTF16" = some m.cls := findClass_of_methodNamed Bd.named
  have hnm := (name_of_methodNamed Bd.named Bd.method).1
  have hlk : meth.locks = false := BodyLoose.notSynchronized Bd
  have X0 : Stand p l e ({ frames := 1, cells := 1, slots := 2, locals := 18 } : Room) s m #[(.ref qa), (.int (0 : Int32)), (.int (2 : Int32))] below meth c s₁ [] 0 0 := Stand.of_body Bd
  have e0 : s₁.heap = h0 := by rw [← hh, Bd.state]; rfl
  show Go p e below (EndN below s (CQ1_2 Z c0 c1 h0 n0) ({ frames := 1, cells := 1, slots := 2, locals := 18 } : Room).cells ({ frames := 1, cells := 1, slots := 2, locals := 18 } : Room).slots) (s₁.setTop (entryFrame m #[(.ref qa), (.int (0 : Int32)), (.int (2 : Int32))] 6))
  rw [ef_cp1_2]
  refine g_iload_n X0 hx 1 (2 : Int32) (hb hby cp1_2_0) rfl rfl ?_
  obtain ⟨T_1, h_1, a_1, k_1, X_1, e_1, ga_1, E_1, A_1, st_1⟩ := g_newP X0 hx hZ (aty := .byte) (n := (2 : Int32)) (hw _ (List.mem_of_getElem? (i := 20) rfl)) e0 2 (by decide) (by decide) (by decide) (by decide) (by decide) 3 (hb hby cp1_2_1) rfl
  refine st_1 ?_
  have g_1 : n0 ≤ a_1 := by rw [ga_1]; exact Nat.le_trans Z0 (Nat.le_refl _)
  have gh_1 : h0.size ≤ a_1 := by rw [ga_1]; exact (Nat.le_refl _)
  have n_1_qa : qa ≠ a_1 := by rw [ga_1]; exact Nat.ne_of_lt A1.lt
  have F_1_0 : Arl Z h_1 qa .char [(.int c0), (.int c1)] := A1.ext E_1
  have Z_1 : h0.size ≤ h_1.size := Nat.le_trans (Nat.le_refl _) E_1.1
  have G_1 : Arl Z h_1 a_1 .byte [(.int (0 : Int32)), (.int (0 : Int32))] := Arl.new A_1 rfl
  refine g_astore_n X_1 hx 4 #[.val (.ref qa), .val (.int (0 : Int32)), .val (.int (2 : Int32)), .val (.ref a_1), .unset, .unset] (hb hby cp1_2_3) rfl rfl rfl ?_
  refine g_aload_n X_1 hx 5 (.ref qa) (hb hby cp1_2_4) rfl rfl rfl ?_
  refine g_iload_n X_1 hx 6 (0 : Int32) (hb hby cp1_2_5) rfl rfl ?_
  refine g_aload_n X_1 hx 7 (.ref a_1) (hb hby cp1_2_6) rfl rfl rfl ?_
  refine g_iconst X_1 hx 8 (0 : Int32) (hb hby cp1_2_7) rfl rfl ?_
  refine g_iload_n X_1 hx 9 (2 : Int32) (hb hby cp1_2_8) rfl rfl ?_
  obtain ⟨_, T_9, L_9, X_9, ⟨rfl, M_9, K_9, B_9⟩, st_9⟩ := g_callS X_1 hx hZ  (own := "java/lang/StringUTF16") (index := 115) (y := (⟨"java/lang/StringUTF16", "compress", "([CI[BII)I"⟩ : MethodName)) (as' := [(.ref qa), (.int (0 : Int32)), (.ref a_1), (.int (0 : Int32)), (.int (2 : Int32))]) hown (hw _ (List.mem_of_getElem? (i := 71) rfl)) (hw _ (List.mem_of_getElem? (i := 72) rfl)) (hw _ (List.mem_of_getElem? (i := 69) rfl)) (hw _ (List.mem_of_getElem? (i := 73) rfl)) (by decide) e_1 (rm_cp2_2 l Z a0 hw qa a_1 h_1 n0 g_1 c0 c1 hc0 hc1 n_1_qa F_1_0 G_1) pd_cp2_2 rfl 0 (by decide) (by decide) (by decide) (by decide) (pc := 9) (Ls := #[.val (.ref qa), .val (.int (0 : Int32)), .val (.int (2 : Int32)), .val (.ref a_1), .unset, .unset]) (rest := []) (st := [(.int (2 : Int32)), (.int (0 : Int32)), (.ref a_1), (.int (0 : Int32)), (.ref qa)]) (by rw [hml]; rfl) rfl (Nat.le_of_eq rfl) (hb hby cp1_2_9)
  refine Go.of ?_ st_9
  have F_9_0 : Arl Z T_9.heap a_1 .byte [(.int (c0.toInt8.toInt32)), (.int (c1.toInt8.toInt32))] := B_9
  have F_9_1 : Arl Z T_9.heap qa .char [(.int c0), (.int c1)] := F_1_0.keep K_9 (ninS n_1_qa nin0)
  have N_9 := Fr.app (Fr.nil _) M_9
  have Z_9 : h0.size ≤ T_9.heap.size := Nat.le_trans Z_1 K_9.1
  show Go p e below _ (T_9.setTop (mkF m 12 #[.val (.ref qa), .val (.int (0 : Int32)), .val (.int (2 : Int32)), .val (.ref a_1), .unset, .unset] [(.int (2 : Int32))]))
  refine g_istore X_9 hx 14 #[.val (.ref qa), .val (.int (0 : Int32)), .val (.int (2 : Int32)), .val (.ref a_1), .val (.int (2 : Int32)), .unset] (hb hby cp1_2_12) rfl rfl ?_
  refine g_iload X_9 hx 16 (2 : Int32) (hb hby cp1_2_14) rfl rfl ?_
  refine g_iload_n X_9 hx 17 (2 : Int32) (hb hby cp1_2_16) rfl rfl ?_
  refine g_icmpY X_9 hx 57 (hb hby cp1_2_17) (XT.ii_eq_t (by decide)) (by decide) (by decide) ?_
  refine g_aload_n X_9 hx 58 (.ref a_1) (hb hby cp1_2_57) rfl rfl rfl ?_
  exact Go.retA X_9 hx hlk Bd.returns rfl rfl (hb hby cp1_2_58) (by decide) (by decide) ⟨_, rfl, gh_1, N_9, (((Keep.refl _ _).ext E_1).trans K_9 (allS (Or.inr gh_1) all0)), F_9_0⟩
def CQ2a (Z : State) (qb : Addr) (h0 : Heap) (n0 : Nat) (v : Option Value) (h : Heap) (L : List Loc) : Prop := v = some (.int (0 : Int32)) ∧ Fr n0 L ∧ Keep h0 h [qb]
theorem cp2a_0 : decode jdk_52_method_21_code 0 = .ok (.iconst 0, 1) := by decide +kernel
theorem cp2a_1 : decode jdk_52_method_21_code 1 = .ok (.istore 5, 2) := by decide +kernel
theorem cp2a_3 : decode jdk_52_method_21_code 3 = .ok (.iload 5, 2) := by decide +kernel
theorem cp2a_5 : decode jdk_52_method_21_code 5 = .ok (.iload 4, 2) := by decide +kernel
theorem cp2a_7 : decode jdk_52_method_21_code 7 = .ok (.if_icmp .ge 37, 3) := by decide +kernel
theorem cp2a_10 : decode jdk_52_method_21_code 10 = .ok (.aload_n 0, 1) := by decide +kernel
theorem cp2a_11 : decode jdk_52_method_21_code 11 = .ok (.iload_n 1, 1) := by decide +kernel
theorem cp2a_12 : decode jdk_52_method_21_code 12 = .ok (.caload, 1) := by decide +kernel
theorem cp2a_13 : decode jdk_52_method_21_code 13 = .ok (.istore 6, 2) := by decide +kernel
theorem cp2a_15 : decode jdk_52_method_21_code 15 = .ok (.iload 6, 2) := by decide +kernel
theorem cp2a_17 : decode jdk_52_method_21_code 17 = .ok (.sipush 255, 3) := by decide +kernel
theorem cp2a_20 : decode jdk_52_method_21_code 20 = .ok (.if_icmp .le 6, 3) := by decide +kernel
theorem cp2a_23 : decode jdk_52_method_21_code 23 = .ok (.iload 5, 2) := by decide +kernel
theorem cp2a_25 : decode jdk_52_method_21_code 25 = .ok (.ireturn, 1) := by decide +kernel
theorem cp2a_26 : decode jdk_52_method_21_code 26 = .ok (.aload_n 2, 1) := by decide +kernel
theorem cp2a_27 : decode jdk_52_method_21_code 27 = .ok (.iload_n 3, 1) := by decide +kernel
theorem cp2a_28 : decode jdk_52_method_21_code 28 = .ok (.iload 6, 2) := by decide +kernel
theorem cp2a_30 : decode jdk_52_method_21_code 30 = .ok (.i2b, 1) := by decide +kernel
theorem cp2a_31 : decode jdk_52_method_21_code 31 = .ok (.bastore, 1) := by decide +kernel
theorem cp2a_32 : decode jdk_52_method_21_code 32 = .ok (.iinc 1 1, 3) := by decide +kernel
theorem cp2a_35 : decode jdk_52_method_21_code 35 = .ok (.iinc 3 1, 3) := by decide +kernel
theorem cp2a_38 : decode jdk_52_method_21_code 38 = .ok (.iinc 5 1, 3) := by decide +kernel
theorem cp2a_41 : decode jdk_52_method_21_code 41 = .ok (.goto (-38), 3) := by decide +kernel
theorem cp2a_44 : decode jdk_52_method_21_code 44 = .ok (.iload 4, 2) := by decide +kernel
theorem cp2a_46 : decode jdk_52_method_21_code 46 = .ok (.ireturn, 1) := by decide +kernel
theorem pn_cp2a : plainFor (⟨"java/lang/StringUTF16", "compress", "([CI[BII)I"⟩ : MethodName) = true := by first | exact plainFor_of_name (by first | (simp [plainName, overriddenIn]; done) | decide +kernel) | decide +kernel
theorem ef_cp2a (m : MethodId) (qa : Addr) (qb : Addr)  : entryFrame m #[(.ref qa), (.int (0 : Int32)), (.ref qb), (.int (0 : Int32)), (.int (2 : Int32))] 7 = mkF m 0 #[.val (.ref qa), .val (.int (0 : Int32)), .val (.ref qb), .val (.int (0 : Int32)), .val (.int (2 : Int32)), .unset, .unset] [] := by first | (simp [entryFrame, mkF, argsToLocals, Value.category, maxLocals]; done) | rfl
theorem pd_cp2a : parseMethodDescriptor "([CI[BII)I" = some ⟨[.array (.char), .int, .array (.byte), .int, .int], some (.int)⟩ := by decide +kernel
set_option maxRecDepth 65536 in
set_option maxHeartbeats 40000000 in
theorem rm_cp2a (l : Launch) (Z : State) (a0 : Array Value) (hw : ∀ d ∈ tables_1, d.before a0 Z = true)  (qa : Addr) (qb : Addr) (h0 : Heap) (n0 : Nat) (ga : n0 ≤ qb) (c0 c1 : Int32) (hc0 : (255 : Int32) < c0) (hne : qa ≠ qb) (A1 : Arl Z h0 qa .char [(.int c0), (.int c1)])(A2 : Arl Z h0 qb .byte [(.int (0 : Int32)), (.int (0 : Int32))]) :
    MetFree l (⟨"java/lang/StringUTF16", "compress", "([CI[BII)I"⟩ : MethodName) (head1 [Jvm.Cond.code (⟨"java/lang/StringUTF16", "compress", "([CI[BII)I"⟩ : MethodName) jdk_52_method_21_code 7 (some Jvm.ClassFile.FieldType.int)] ({ frames := 0, cells := 0, slots := 0, locals := 0 } : Room)) (fun a U => a = #[(.ref qa), (.int (0 : Int32)), (.ref qb), (.int (0 : Int32)), (.int (2 : Int32))] ∧ Z.Warmed39 U.vm ∧ U.heap = h0) (fun _ _ _ _ _ => True) (fun _ U o U' => ∃ v L, o = .returned v ∧ CQ2a Z qb h0 n0 v U'.heap L ∧ FrameEnd U o U' L ({ frames := 0, cells := 0, slots := 0, locals := 0 } : Room).cells ({ frames := 0, cells := 0, slots := 0, locals := 0 } : Room).slots) := by
  refine MetFree.of_bodySF pn_cp2a hisR ?_
  intro p e s m args below meth c s₁ Bd hml0 hP hK
  obtain ⟨rfl, hZ, hh⟩ := hP
  have hx := Bd.exec
  have hby := Bd.bytes
  have hml : c.maxLocals = 7 := hml0
  have hown : s.vm.findClass "java/lang/StringUTF16" = some m.cls := findClass_of_methodNamed Bd.named
  have hnm := (name_of_methodNamed Bd.named Bd.method).1
  have hlk : meth.locks = false := BodyLoose.notSynchronized Bd
  have X0 : Stand p l e ({ frames := 0, cells := 0, slots := 0, locals := 0 } : Room) s m #[(.ref qa), (.int (0 : Int32)), (.ref qb), (.int (0 : Int32)), (.int (2 : Int32))] below meth c s₁ [] 0 0 := Stand.of_body Bd
  have e0 : s₁.heap = h0 := by rw [← hh, Bd.state]; rfl
  show Go p e below (EndN below s (CQ2a Z qb h0 n0) ({ frames := 0, cells := 0, slots := 0, locals := 0 } : Room).cells ({ frames := 0, cells := 0, slots := 0, locals := 0 } : Room).slots) (s₁.setTop (entryFrame m #[(.ref qa), (.int (0 : Int32)), (.ref qb), (.int (0 : Int32)), (.int (2 : Int32))] 7))
  rw [ef_cp2a]
  refine g_iconst X0 hx 1 (0 : Int32) (hb hby cp2a_0) rfl rfl ?_
  refine g_istore X0 hx 3 #[.val (.ref qa), .val (.int (0 : Int32)), .val (.ref qb), .val (.int (0 : Int32)), .val (.int (2 : Int32)), .val (.int (0 : Int32)), .unset] (hb hby cp2a_1) rfl rfl ?_
  refine g_iload X0 hx 5 (0 : Int32) (hb hby cp2a_3) rfl rfl ?_
  refine g_iload X0 hx 7 (2 : Int32) (hb hby cp2a_5) rfl rfl ?_
  refine g_icmpN X0 hx 10 (hb hby cp2a_7) (XT.ii_ge_f (by decide)) rfl ?_
  refine g_aload_n X0 hx 11 (.ref qa) (hb hby cp2a_10) rfl rfl rfl ?_
  refine g_iload_n X0 hx 12 (0 : Int32) (hb hby cp2a_11) rfl rfl ?_
  refine g_caload X0 hx hZ e0 A1 (k := 0) rfl (.int c0) rfl 13 (hb hby cp2a_12) rfl ?_
  refine g_istore X0 hx 15 #[.val (.ref qa), .val (.int (0 : Int32)), .val (.ref qb), .val (.int (0 : Int32)), .val (.int (2 : Int32)), .val (.int (0 : Int32)), .val (.int c0)] (hb hby cp2a_13) rfl rfl ?_
  refine g_iload X0 hx 17 c0 (hb hby cp2a_15) rfl rfl ?_
  refine g_sipush X0 hx 20 (255 : Int32) (hb hby cp2a_17) rfl rfl ?_
  refine g_icmpN X0 hx 23 (hb hby cp2a_20) (XT.ii_le_f hc0) rfl ?_
  refine g_iload X0 hx 25 (0 : Int32) (hb hby cp2a_23) rfl rfl ?_
  exact Go.retI X0 hx hlk Bd.returns (hb hby cp2a_25) (by decide) (by decide) ⟨rfl, (Fr.nil _), e0.symm ▸ (Keep.refl _ _)⟩
theorem cp1a_0 : decode jdk_52_method_16_code 0 = .ok (.iload_n 2, 1) := by decide +kernel
theorem cp1a_1 : decode jdk_52_method_16_code 1 = .ok (.newarray .byte, 2) := by decide +kernel
theorem cp1a_3 : decode jdk_52_method_16_code 3 = .ok (.astore_n 3, 1) := by decide +kernel
theorem cp1a_4 : decode jdk_52_method_16_code 4 = .ok (.aload_n 0, 1) := by decide +kernel
theorem cp1a_5 : decode jdk_52_method_16_code 5 = .ok (.iload_n 1, 1) := by decide +kernel
theorem cp1a_6 : decode jdk_52_method_16_code 6 = .ok (.aload_n 3, 1) := by decide +kernel
theorem cp1a_7 : decode jdk_52_method_16_code 7 = .ok (.iconst 0, 1) := by decide +kernel
theorem cp1a_8 : decode jdk_52_method_16_code 8 = .ok (.iload_n 2, 1) := by decide +kernel
theorem cp1a_9 : decode jdk_52_method_16_code 9 = .ok (.invokestatic 115, 3) := by decide +kernel
theorem cp1a_12 : decode jdk_52_method_16_code 12 = .ok (.istore 4, 2) := by decide +kernel
theorem cp1a_14 : decode jdk_52_method_16_code 14 = .ok (.iload 4, 2) := by decide +kernel
theorem cp1a_16 : decode jdk_52_method_16_code 16 = .ok (.iload_n 2, 1) := by decide +kernel
theorem cp1a_17 : decode jdk_52_method_16_code 17 = .ok (.if_icmp .eq 40, 3) := by decide +kernel
theorem cp1a_20 : decode jdk_52_method_16_code 20 = .ok (.aload_n 0, 1) := by decide +kernel
theorem cp1a_21 : decode jdk_52_method_16_code 21 = .ok (.iload_n 1, 1) := by decide +kernel
theorem cp1a_22 : decode jdk_52_method_16_code 22 = .ok (.iload_n 2, 1) := by decide +kernel
theorem cp1a_23 : decode jdk_52_method_16_code 23 = .ok (.invokestatic 119, 3) := by decide +kernel
theorem cp1a_26 : decode jdk_52_method_16_code 26 = .ok (.astore 5, 2) := by decide +kernel
theorem cp1a_28 : decode jdk_52_method_16_code 28 = .ok (.aload 5, 2) := by decide +kernel
theorem cp1a_30 : decode jdk_52_method_16_code 30 = .ok (.iload 4, 2) := by decide +kernel
theorem cp1a_32 : decode jdk_52_method_16_code 32 = .ok (.invokestatic 71, 3) := by decide +kernel
theorem cp1a_35 : decode jdk_52_method_16_code 35 = .ok (.sipush 255, 3) := by decide +kernel
theorem cp1a_38 : decode jdk_52_method_16_code 38 = .ok (.if_icmp .gt 16, 3) := by decide +kernel
theorem cp1a_41 : decode jdk_52_method_16_code 41 = .ok (.aload 5, 2) := by decide +kernel
theorem cp1a_43 : decode jdk_52_method_16_code 43 = .ok (.iconst 0, 1) := by decide +kernel
theorem cp1a_44 : decode jdk_52_method_16_code 44 = .ok (.aload_n 3, 1) := by decide +kernel
theorem cp1a_45 : decode jdk_52_method_16_code 45 = .ok (.iconst 0, 1) := by decide +kernel
theorem cp1a_46 : decode jdk_52_method_16_code 46 = .ok (.iload_n 2, 1) := by decide +kernel
theorem cp1a_47 : decode jdk_52_method_16_code 47 = .ok (.invokestatic 123, 3) := by decide +kernel
theorem cp1a_50 : decode jdk_52_method_16_code 50 = .ok (.iload_n 2, 1) := by decide +kernel
theorem cp1a_51 : decode jdk_52_method_16_code 51 = .ok (.if_icmp .eq 6, 3) := by decide +kernel
theorem cp1a_54 : decode jdk_52_method_16_code 54 = .ok (.aload 5, 2) := by decide +kernel
theorem cp1a_56 : decode jdk_52_method_16_code 56 = .ok (.areturn, 1) := by decide +kernel
theorem cp1a_57 : decode jdk_52_method_16_code 57 = .ok (.aload_n 3, 1) := by decide +kernel
theorem cp1a_58 : decode jdk_52_method_16_code 58 = .ok (.areturn, 1) := by decide +kernel
theorem pn_cp1a : plainFor (⟨"java/lang/StringUTF16", "compress", "([CII)[B"⟩ : MethodName) = true := by first | exact plainFor_of_name (by first | (simp [plainName, overriddenIn]; done) | decide +kernel) | decide +kernel
theorem ef_cp1a (m : MethodId) (qa : Addr)  : entryFrame m #[(.ref qa), (.int (0 : Int32)), (.int (2 : Int32))] 6 = mkF m 0 #[.val (.ref qa), .val (.int (0 : Int32)), .val (.int (2 : Int32)), .unset, .unset, .unset] [] := by first | (simp [entryFrame, mkF, argsToLocals, Value.category, maxLocals]; done) | rfl
theorem pd_cp1a : parseMethodDescriptor "([CII)[B" = some ⟨[.array (.char), .int, .int], some (.array (.byte))⟩ := by decide +kernel
set_option maxRecDepth 65536 in
set_option maxHeartbeats 40000000 in
theorem rm_cp1a (l : Launch) (Z : State) (a0 : Array Value) (hw : ∀ d ∈ tables_1, d.before a0 Z = true)  (qa : Addr) (h0 : Heap) (n0 : Nat) (XO : Old Z n0 h0) (SA : Sta Z Z.heap "java/lang/StringUTF16" "$assertionsDisabled" "Z" (.int (1 : Int32))) (SH : Sta Z Z.heap "java/lang/StringUTF16" "HI_BYTE_SHIFT" "I" (.int (0 : Int32))) (SL : Sta Z Z.heap "java/lang/StringUTF16" "LO_BYTE_SHIFT" "I" (.int (8 : Int32))) (c0 c1 : Int32) (hc0 : (255 : Int32) < c0) (h0c : Ch c0) (h1c : Ch c1) (A1 : Arl Z h0 qa .char [(.int c0), (.int c1)]) :
    MetFree l (⟨"java/lang/StringUTF16", "compress", "([CII)[B"⟩ : MethodName) (head1 [Jvm.Cond.code (⟨"java/lang/StringUTF16", "compress", "([CII)[B"⟩ : MethodName) jdk_52_method_16_code 6 (some (Jvm.ClassFile.FieldType.array Jvm.ClassFile.FieldType.byte))] ({ frames := 3, cells := 2, slots := 6, locals := 40 } : Room)) (fun a U => a = #[(.ref qa), (.int (0 : Int32)), (.int (2 : Int32))] ∧ Z.Warmed39 U.vm ∧ U.heap = h0) (fun _ _ _ _ _ => True) (fun _ U o U' => ∃ v L, o = .returned v ∧ UBQ Z c0 c1 h0 n0 v U'.heap L ∧ FrameEnd U o U' L ({ frames := 3, cells := 2, slots := 6, locals := 40 } : Room).cells ({ frames := 3, cells := 2, slots := 6, locals := 40 } : Room).slots) := by
  refine MetFree.of_bodySF pn_cp1a hisR ?_
  intro p e s m args below meth c s₁ Bd hml0 hP hK
  obtain ⟨rfl, hZ, hh⟩ := hP
  have hx := Bd.exec
  have hby := Bd.bytes
  have hml : c.maxLocals = 6 := hml0
  have hown : s.vm.findClass "java/lang/StringUTF16" = some m.cls := findClass_of_methodNamed Bd.named
  have hnm := (name_of_methodNamed Bd.named Bd.method).1
  have hlk : meth.locks = false := BodyLoose.notSynchronized Bd
  have X0 : Stand p l e ({ frames := 3, cells := 2, slots := 6, locals := 40 } : Room) s m #[(.ref qa), (.int (0 : Int32)), (.int (2 : Int32))] below meth c s₁ [] 0 0 := Stand.of_body Bd
  have e0 : s₁.heap = h0 := by rw [← hh, Bd.state]; rfl
  show Go p e below (EndN below s (UBQ Z c0 c1 h0 n0) ({ frames := 3, cells := 2, slots := 6, locals := 40 } : Room).cells ({ frames := 3, cells := 2, slots := 6, locals := 40 } : Room).slots) (s₁.setTop (entryFrame m #[(.ref qa), (.int (0 : Int32)), (.int (2 : Int32))] 6))
  rw [ef_cp1a]
  refine g_iload_n X0 hx 1 (2 : Int32) (hb hby cp1a_0) rfl rfl ?_
  obtain ⟨T_1, h_1, a_1, k_1, X_1, e_1, ga_1, E_1, A_1, st_1⟩ := g_newP X0 hx hZ (aty := .byte) (n := (2 : Int32)) (hw _ (List.mem_of_getElem? (i := 20) rfl)) e0 2 (by decide) (by decide) (by decide) (by decide) (by decide) 3 (hb hby cp1a_1) rfl
  refine st_1 ?_
  have g_1 : n0 ≤ a_1 := by rw [ga_1]; exact Nat.le_trans (XO.1 ▸ XO.2.1) (Nat.le_refl _)
  have gh_1 : h0.size ≤ a_1 := by rw [ga_1]; exact (Nat.le_refl _)
  have n_1_qa : qa ≠ a_1 := by rw [ga_1]; exact Nat.ne_of_lt A1.lt
  have F_1_0 : Arl Z h_1 qa .char [(.int c0), (.int c1)] := A1.ext E_1
  have Z_1 : h0.size ≤ h_1.size := Nat.le_trans (Nat.le_refl _) E_1.1
  have O_1 := Old.ext XO E_1
  have G_1 : Arl Z h_1 a_1 .byte [(.int (0 : Int32)), (.int (0 : Int32))] := Arl.new A_1 rfl
  refine g_astore_n X_1 hx 4 #[.val (.ref qa), .val (.int (0 : Int32)), .val (.int (2 : Int32)), .val (.ref a_1), .unset, .unset] (hb hby cp1a_3) rfl rfl rfl ?_
  refine g_aload_n X_1 hx 5 (.ref qa) (hb hby cp1a_4) rfl rfl rfl ?_
  refine g_iload_n X_1 hx 6 (0 : Int32) (hb hby cp1a_5) rfl rfl ?_
  refine g_aload_n X_1 hx 7 (.ref a_1) (hb hby cp1a_6) rfl rfl rfl ?_
  refine g_iconst X_1 hx 8 (0 : Int32) (hb hby cp1a_7) rfl rfl ?_
  refine g_iload_n X_1 hx 9 (2 : Int32) (hb hby cp1a_8) rfl rfl ?_
  obtain ⟨_, T_9, L_9, X_9, ⟨rfl, M_9, K_9⟩, st_9⟩ := g_callS X_1 hx hZ  (own := "java/lang/StringUTF16") (index := 115) (y := (⟨"java/lang/StringUTF16", "compress", "([CI[BII)I"⟩ : MethodName)) (as' := [(.ref qa), (.int (0 : Int32)), (.ref a_1), (.int (0 : Int32)), (.int (2 : Int32))]) hown (hw _ (List.mem_of_getElem? (i := 71) rfl)) (hw _ (List.mem_of_getElem? (i := 72) rfl)) (hw _ (List.mem_of_getElem? (i := 69) rfl)) (hw _ (List.mem_of_getElem? (i := 73) rfl)) (by decide) e_1 (rm_cp2a l Z a0 hw qa a_1 h_1 n0 g_1 c0 c1 hc0 n_1_qa F_1_0 G_1) pd_cp2a rfl 0 (by decide) (by decide) (by decide) (by decide) (pc := 9) (Ls := #[.val (.ref qa), .val (.int (0 : Int32)), .val (.int (2 : Int32)), .val (.ref a_1), .unset, .unset]) (rest := []) (st := [(.int (2 : Int32)), (.int (0 : Int32)), (.ref a_1), (.int (0 : Int32)), (.ref qa)]) (by rw [hml]; rfl) rfl (Nat.le_of_eq rfl) (hb hby cp1a_9)
  refine Go.of ?_ st_9
  have F_9_0 : Arl Z T_9.heap qa .char [(.int c0), (.int c1)] := F_1_0.keep K_9 (ninS n_1_qa nin0)
  have N_9 := Fr.app (Fr.nil _) M_9
  have Z_9 : h0.size ≤ T_9.heap.size := Nat.le_trans Z_1 K_9.1
  have O_9 := Old.keep O_1 K_9 (allS g_1 all0)
  show Go p e below _ (T_9.setTop (mkF m 12 #[.val (.ref qa), .val (.int (0 : Int32)), .val (.int (2 : Int32)), .val (.ref a_1), .unset, .unset] [(.int (0 : Int32))]))
  refine g_istore X_9 hx 14 #[.val (.ref qa), .val (.int (0 : Int32)), .val (.int (2 : Int32)), .val (.ref a_1), .val (.int (0 : Int32)), .unset] (hb hby cp1a_12) rfl rfl ?_
  refine g_iload X_9 hx 16 (0 : Int32) (hb hby cp1a_14) rfl rfl ?_
  refine g_iload_n X_9 hx 17 (2 : Int32) (hb hby cp1a_16) rfl rfl ?_
  refine g_icmpN X_9 hx 20 (hb hby cp1a_17) (XT.ii_eq_f (by decide)) rfl ?_
  refine g_aload_n X_9 hx 21 (.ref qa) (hb hby cp1a_20) rfl rfl rfl ?_
  refine g_iload_n X_9 hx 22 (0 : Int32) (hb hby cp1a_21) rfl rfl ?_
  refine g_iload_n X_9 hx 23 (2 : Int32) (hb hby cp1a_22) rfl rfl ?_
  obtain ⟨_, T_23, L_23, X_23, ⟨b_23, rfl, g_23, M_23, K_23, B_23⟩, st_23⟩ := g_callS X_9 hx hZ  (own := "java/lang/StringUTF16") (index := 119) (y := (⟨"java/lang/StringUTF16", "toBytes", "([CII)[B"⟩ : MethodName)) (as' := [(.ref qa), (.int (0 : Int32)), (.int (2 : Int32))]) hown (hw _ (List.mem_of_getElem? (i := 98) rfl)) (hw _ (List.mem_of_getElem? (i := 99) rfl)) (hw _ (List.mem_of_getElem? (i := 69) rfl)) (hw _ (List.mem_of_getElem? (i := 100) rfl)) (by decide) rfl (rm_tb2 l Z a0 hw qa T_9.heap n0 O_9 SA SH SL c0 c1 F_9_0) pd_tb2 rfl 0 (by decide) (by decide) (by decide) (by decide) (pc := 23) (Ls := #[.val (.ref qa), .val (.int (0 : Int32)), .val (.int (2 : Int32)), .val (.ref a_1), .val (.int (0 : Int32)), .unset]) (rest := []) (st := [(.int (2 : Int32)), (.int (0 : Int32)), (.ref qa)]) (by rw [hml]; rfl) rfl (Nat.le_of_eq rfl) (hb hby cp1a_23)
  refine Go.of ?_ st_23
  have F_23_0 : Arl Z T_23.heap qa .char [(.int c0), (.int c1)] := F_9_0.keep K_23 nin0
  have N_23 := Fr.app N_9 M_23
  have Z_23 : h0.size ≤ T_23.heap.size := Nat.le_trans Z_9 K_23.1
  have O_23 := Old.keep O_9 K_23 all0
  have gn_23 : n0 ≤ b_23 := Nat.le_trans (Nat.le_trans (XO.1 ▸ XO.2.1) Z_9) g_23
  have gg_23 : h0.size ≤ b_23 := Nat.le_trans Z_9 g_23
  have nb_23_qa : qa ≠ b_23 := Nat.ne_of_lt (Nat.lt_of_lt_of_le F_9_0.lt g_23)
  show Go p e below _ (T_23.setTop (mkF m 26 #[.val (.ref qa), .val (.int (0 : Int32)), .val (.int (2 : Int32)), .val (.ref a_1), .val (.int (0 : Int32)), .unset] [(.ref b_23)]))
  refine g_astore X_23 hx 28 #[.val (.ref qa), .val (.int (0 : Int32)), .val (.int (2 : Int32)), .val (.ref a_1), .val (.int (0 : Int32)), .val (.ref b_23)] (hb hby cp1a_26) rfl rfl rfl ?_
  refine g_aload X_23 hx 30 (.ref b_23) (hb hby cp1a_28) rfl rfl rfl ?_
  refine g_iload X_23 hx 32 (0 : Int32) (hb hby cp1a_30) rfl rfl ?_
  obtain ⟨_, T_32, L_32, X_32, ⟨rfl, rfl, e_32⟩, st_32⟩ := g_callS X_23 hx hZ  (own := "java/lang/StringUTF16") (index := 71) (y := (⟨"java/lang/StringUTF16", "getChar", "([BI)C"⟩ : MethodName)) (as' := [(.ref b_23), (.int (0 : Int32))]) hown (hw _ (List.mem_of_getElem? (i := 108) rfl)) (hw _ (List.mem_of_getElem? (i := 109) rfl)) (hw _ (List.mem_of_getElem? (i := 69) rfl)) (hw _ (List.mem_of_getElem? (i := 110) rfl)) (by decide) rfl (rm_gch_0 l Z a0 hw b_23 T_23.heap n0 O_23 SA SH SL c0 c1 h0c B_23) pd_gch_0 rfl 0 (by decide) (by decide) (by decide) (by decide) (pc := 32) (Ls := #[.val (.ref qa), .val (.int (0 : Int32)), .val (.int (2 : Int32)), .val (.ref a_1), .val (.int (0 : Int32)), .val (.ref b_23)]) (rest := []) (st := [(.int (0 : Int32)), (.ref b_23)]) (by rw [hml]; rfl) rfl (Nat.le_of_eq rfl) (hb hby cp1a_32)
  refine Go.of ?_ st_32
  rw [List.append_nil] at X_32
  show Go p e below _ (T_32.setTop (mkF m 35 #[.val (.ref qa), .val (.int (0 : Int32)), .val (.int (2 : Int32)), .val (.ref a_1), .val (.int (0 : Int32)), .val (.ref b_23)] [(.int c0)]))
  refine g_sipush X_32 hx 38 (255 : Int32) (hb hby cp1a_35) rfl rfl ?_
  refine g_icmpY X_32 hx 54 (hb hby cp1a_38) (XT.ii_gt_t hc0) (by decide) (by decide) ?_
  refine g_aload X_32 hx 56 (.ref b_23) (hb hby cp1a_54) rfl rfl rfl ?_
  exact Go.retA X_32 hx hlk Bd.returns rfl rfl (hb hby cp1a_56) (by decide) (by decide) ⟨b_23, rfl, gg_23, N_23, e_32.symm ▸ ((((Keep.refl _ _).ext E_1).trans K_9 (allS (Or.inr gh_1) all0)).trans K_23 all0), e_32.symm ▸ B_23⟩
def CQ2b (Z : State) (qb : Addr) (h0 : Heap) (n0 : Nat) (v : Option Value) (h : Heap) (L : List Loc) : Prop := v = some (.int (1 : Int32)) ∧ Fr n0 L ∧ Keep h0 h [qb]
theorem cp2b_0 : decode jdk_52_method_21_code 0 = .ok (.iconst 0, 1) := by decide +kernel
theorem cp2b_1 : decode jdk_52_method_21_code 1 = .ok (.istore 5, 2) := by decide +kernel
theorem cp2b_3 : decode jdk_52_method_21_code 3 = .ok (.iload 5, 2) := by decide +kernel
theorem cp2b_5 : decode jdk_52_method_21_code 5 = .ok (.iload 4, 2) := by decide +kernel
theorem cp2b_7 : decode jdk_52_method_21_code 7 = .ok (.if_icmp .ge 37, 3) := by decide +kernel
theorem cp2b_10 : decode jdk_52_method_21_code 10 = .ok (.aload_n 0, 1) := by decide +kernel
theorem cp2b_11 : decode jdk_52_method_21_code 11 = .ok (.iload_n 1, 1) := by decide +kernel
theorem cp2b_12 : decode jdk_52_method_21_code 12 = .ok (.caload, 1) := by decide +kernel
theorem cp2b_13 : decode jdk_52_method_21_code 13 = .ok (.istore 6, 2) := by decide +kernel
theorem cp2b_15 : decode jdk_52_method_21_code 15 = .ok (.iload 6, 2) := by decide +kernel
theorem cp2b_17 : decode jdk_52_method_21_code 17 = .ok (.sipush 255, 3) := by decide +kernel
theorem cp2b_20 : decode jdk_52_method_21_code 20 = .ok (.if_icmp .le 6, 3) := by decide +kernel
theorem cp2b_23 : decode jdk_52_method_21_code 23 = .ok (.iload 5, 2) := by decide +kernel
theorem cp2b_25 : decode jdk_52_method_21_code 25 = .ok (.ireturn, 1) := by decide +kernel
theorem cp2b_26 : decode jdk_52_method_21_code 26 = .ok (.aload_n 2, 1) := by decide +kernel
theorem cp2b_27 : decode jdk_52_method_21_code 27 = .ok (.iload_n 3, 1) := by decide +kernel
theorem cp2b_28 : decode jdk_52_method_21_code 28 = .ok (.iload 6, 2) := by decide +kernel
theorem cp2b_30 : decode jdk_52_method_21_code 30 = .ok (.i2b, 1) := by decide +kernel
theorem cp2b_31 : decode jdk_52_method_21_code 31 = .ok (.bastore, 1) := by decide +kernel
theorem cp2b_32 : decode jdk_52_method_21_code 32 = .ok (.iinc 1 1, 3) := by decide +kernel
theorem cp2b_35 : decode jdk_52_method_21_code 35 = .ok (.iinc 3 1, 3) := by decide +kernel
theorem cp2b_38 : decode jdk_52_method_21_code 38 = .ok (.iinc 5 1, 3) := by decide +kernel
theorem cp2b_41 : decode jdk_52_method_21_code 41 = .ok (.goto (-38), 3) := by decide +kernel
theorem cp2b_44 : decode jdk_52_method_21_code 44 = .ok (.iload 4, 2) := by decide +kernel
theorem cp2b_46 : decode jdk_52_method_21_code 46 = .ok (.ireturn, 1) := by decide +kernel
theorem pn_cp2b : plainFor (⟨"java/lang/StringUTF16", "compress", "([CI[BII)I"⟩ : MethodName) = true := by first | exact plainFor_of_name (by first | (simp [plainName, overriddenIn]; done) | decide +kernel) | decide +kernel
theorem ef_cp2b (m : MethodId) (qa : Addr) (qb : Addr)  : entryFrame m #[(.ref qa), (.int (0 : Int32)), (.ref qb), (.int (0 : Int32)), (.int (2 : Int32))] 7 = mkF m 0 #[.val (.ref qa), .val (.int (0 : Int32)), .val (.ref qb), .val (.int (0 : Int32)), .val (.int (2 : Int32)), .unset, .unset] [] := by first | (simp [entryFrame, mkF, argsToLocals, Value.category, maxLocals]; done) | rfl
theorem pd_cp2b : parseMethodDescriptor "([CI[BII)I" = some ⟨[.array (.char), .int, .array (.byte), .int, .int], some (.int)⟩ := by decide +kernel
set_option maxRecDepth 65536 in
set_option maxHeartbeats 40000000 in
theorem rm_cp2b (l : Launch) (Z : State) (a0 : Array Value) (hw : ∀ d ∈ tables_1, d.before a0 Z = true)  (qa : Addr) (qb : Addr) (h0 : Heap) (n0 : Nat) (ga : n0 ≤ qb) (c0 c1 : Int32) (hc0 : ¬ (255 : Int32) < c0) (hc1 : (255 : Int32) < c1) (hne : qa ≠ qb) (A1 : Arl Z h0 qa .char [(.int c0), (.int c1)])(A2 : Arl Z h0 qb .byte [(.int (0 : Int32)), (.int (0 : Int32))]) :
    MetFree l (⟨"java/lang/StringUTF16", "compress", "([CI[BII)I"⟩ : MethodName) (head1 [Jvm.Cond.code (⟨"java/lang/StringUTF16", "compress", "([CI[BII)I"⟩ : MethodName) jdk_52_method_21_code 7 (some Jvm.ClassFile.FieldType.int)] ({ frames := 0, cells := 0, slots := 0, locals := 0 } : Room)) (fun a U => a = #[(.ref qa), (.int (0 : Int32)), (.ref qb), (.int (0 : Int32)), (.int (2 : Int32))] ∧ Z.Warmed39 U.vm ∧ U.heap = h0) (fun _ _ _ _ _ => True) (fun _ U o U' => ∃ v L, o = .returned v ∧ CQ2b Z qb h0 n0 v U'.heap L ∧ FrameEnd U o U' L ({ frames := 0, cells := 0, slots := 0, locals := 0 } : Room).cells ({ frames := 0, cells := 0, slots := 0, locals := 0 } : Room).slots) := by
  refine MetFree.of_bodySF pn_cp2b hisR ?_
  intro p e s m args below meth c s₁ Bd hml0 hP hK
  obtain ⟨rfl, hZ, hh⟩ := hP
  have hx := Bd.exec
  have hby := Bd.bytes
  have hml : c.maxLocals = 7 := hml0
  have hown : s.vm.findClass "java/lang/StringUTF16" = some m.cls := findClass_of_methodNamed Bd.named
  have hnm := (name_of_methodNamed Bd.named Bd.method).1
  have hlk : meth.locks = false := BodyLoose.notSynchronized Bd
  have X0 : Stand p l e ({ frames := 0, cells := 0, slots := 0, locals := 0 } : Room) s m #[(.ref qa), (.int (0 : Int32)), (.ref qb), (.int (0 : Int32)), (.int (2 : Int32))] below meth c s₁ [] 0 0 := Stand.of_body Bd
  have e0 : s₁.heap = h0 := by rw [← hh, Bd.state]; rfl
  show Go p e below (EndN below s (CQ2b Z qb h0 n0) ({ frames := 0, cells := 0, slots := 0, locals := 0 } : Room).cells ({ frames := 0, cells := 0, slots := 0, locals := 0 } : Room).slots) (s₁.setTop (entryFrame m #[(.ref qa), (.int (0 : Int32)), (.ref qb), (.int (0 : Int32)), (.int (2 : Int32))] 7))
  rw [ef_cp2b]
  refine g_iconst X0 hx 1 (0 : Int32) (hb hby cp2b_0) rfl rfl ?_
  refine g_istore X0 hx 3 #[.val (.ref qa), .val (.int (0 : Int32)), .val (.ref qb), .val (.int (0 : Int32)), .val (.int (2 : Int32)), .val (.int (0 : Int32)), .unset] (hb hby cp2b_1) rfl rfl ?_
  refine g_iload X0 hx 5 (0 : Int32) (hb hby cp2b_3) rfl rfl ?_
  refine g_iload X0 hx 7 (2 : Int32) (hb hby cp2b_5) rfl rfl ?_
  refine g_icmpN X0 hx 10 (hb hby cp2b_7) (XT.ii_ge_f (by decide)) rfl ?_
  refine g_aload_n X0 hx 11 (.ref qa) (hb hby cp2b_10) rfl rfl rfl ?_
  refine g_iload_n X0 hx 12 (0 : Int32) (hb hby cp2b_11) rfl rfl ?_
  refine g_caload X0 hx hZ e0 A1 (k := 0) rfl (.int c0) rfl 13 (hb hby cp2b_12) rfl ?_
  refine g_istore X0 hx 15 #[.val (.ref qa), .val (.int (0 : Int32)), .val (.ref qb), .val (.int (0 : Int32)), .val (.int (2 : Int32)), .val (.int (0 : Int32)), .val (.int c0)] (hb hby cp2b_13) rfl rfl ?_
  refine g_iload X0 hx 17 c0 (hb hby cp2b_15) rfl rfl ?_
  refine g_sipush X0 hx 20 (255 : Int32) (hb hby cp2b_17) rfl rfl ?_
  refine g_icmpY X0 hx 26 (hb hby cp2b_20) (XT.ii_le_t hc0) (by decide) (by decide) ?_
  refine g_aload_n X0 hx 27 (.ref qb) (hb hby cp2b_26) rfl rfl rfl ?_
  refine g_iload_n X0 hx 28 (0 : Int32) (hb hby cp2b_27) rfl rfl ?_
  refine g_iload X0 hx 30 c0 (hb hby cp2b_28) rfl rfl ?_
  refine g_i2b X0 hx 31 (hb hby cp2b_30) rfl ?_
  obtain ⟨T_31, h_31, X_31, e_31, W_31, B_31, st_31⟩ := g_bastore X0 hx hZ e0 A2 (j := (0 : Int32)) (c0.toInt8.toInt32) (k := 0) rfl (Nat.le_of_ble_eq_true rfl) 32 (hb hby cp2b_31) rfl
  refine st_31 ?_
  have C_31 : Arl Z h_31 qb .byte [(.int (c0.toInt8.toInt32)), (.int (0 : Int32))] := by have z := B_31; rw [show (nar .byte (c0.toInt8.toInt32)) = (c0.toInt8.toInt32) from own_nb _] at z; exact z
  have F_31_0 : Arl Z h_31 qb .byte [(.int (c0.toInt8.toInt32)), (.int (0 : Int32))] := C_31
  have F_31_1 : Arl Z h_31 qa .char [(.int c0), (.int c1)] := A1.other W_31 hne
  have N_31 := Fr.snoc X_31 (Fr.nil _) ga
  have Z_31 : h0.size ≤ h_31.size := by rw [W_31.size]; exact (Nat.le_refl _)
  refine g_iinc X_31 hx 35 (1 : Int32) #[.val (.ref qa), .val (.int (1 : Int32)), .val (.ref qb), .val (.int (0 : Int32)), .val (.int (2 : Int32)), .val (.int (0 : Int32)), .val (.int c0)] (hb hby cp2b_32) rfl rfl rfl rfl ?_
  refine g_iinc X_31 hx 38 (1 : Int32) #[.val (.ref qa), .val (.int (1 : Int32)), .val (.ref qb), .val (.int (1 : Int32)), .val (.int (2 : Int32)), .val (.int (0 : Int32)), .val (.int c0)] (hb hby cp2b_35) rfl rfl rfl rfl ?_
  refine g_iinc X_31 hx 41 (1 : Int32) #[.val (.ref qa), .val (.int (1 : Int32)), .val (.ref qb), .val (.int (1 : Int32)), .val (.int (2 : Int32)), .val (.int (1 : Int32)), .val (.int c0)] (hb hby cp2b_38) rfl rfl rfl rfl ?_
  refine g_goto X_31 hx 3 (hb hby cp2b_41) (by decide) (by decide) ?_
  refine g_iload X_31 hx 5 (1 : Int32) (hb hby cp2b_3) rfl rfl ?_
  refine g_iload X_31 hx 7 (2 : Int32) (hb hby cp2b_5) rfl rfl ?_
  refine g_icmpN X_31 hx 10 (hb hby cp2b_7) (XT.ii_ge_f (by decide)) rfl ?_
  refine g_aload_n X_31 hx 11 (.ref qa) (hb hby cp2b_10) rfl rfl rfl ?_
  refine g_iload_n X_31 hx 12 (1 : Int32) (hb hby cp2b_11) rfl rfl ?_
  refine g_caload X_31 hx hZ e_31 F_31_1 (k := 1) rfl (.int c1) rfl 13 (hb hby cp2b_12) rfl ?_
  refine g_istore X_31 hx 15 #[.val (.ref qa), .val (.int (1 : Int32)), .val (.ref qb), .val (.int (1 : Int32)), .val (.int (2 : Int32)), .val (.int (1 : Int32)), .val (.int c1)] (hb hby cp2b_13) rfl rfl ?_
  refine g_iload X_31 hx 17 c1 (hb hby cp2b_15) rfl rfl ?_
  refine g_sipush X_31 hx 20 (255 : Int32) (hb hby cp2b_17) rfl rfl ?_
  refine g_icmpN X_31 hx 23 (hb hby cp2b_20) (XT.ii_le_f hc1) rfl ?_
  refine g_iload X_31 hx 25 (1 : Int32) (hb hby cp2b_23) rfl rfl ?_
  exact Go.retI X_31 hx hlk Bd.returns (hb hby cp2b_25) (by decide) (by decide) ⟨rfl, N_31, e_31.symm ▸ ((Keep.refl _ _).wr W_31 (Or.inl (by simp)))⟩
theorem cp1b_0 : decode jdk_52_method_16_code 0 = .ok (.iload_n 2, 1) := by decide +kernel
theorem cp1b_1 : decode jdk_52_method_16_code 1 = .ok (.newarray .byte, 2) := by decide +kernel
theorem cp1b_3 : decode jdk_52_method_16_code 3 = .ok (.astore_n 3, 1) := by decide +kernel
theorem cp1b_4 : decode jdk_52_method_16_code 4 = .ok (.aload_n 0, 1) := by decide +kernel
theorem cp1b_5 : decode jdk_52_method_16_code 5 = .ok (.iload_n 1, 1) := by decide +kernel
theorem cp1b_6 : decode jdk_52_method_16_code 6 = .ok (.aload_n 3, 1) := by decide +kernel
theorem cp1b_7 : decode jdk_52_method_16_code 7 = .ok (.iconst 0, 1) := by decide +kernel
theorem cp1b_8 : decode jdk_52_method_16_code 8 = .ok (.iload_n 2, 1) := by decide +kernel
theorem cp1b_9 : decode jdk_52_method_16_code 9 = .ok (.invokestatic 115, 3) := by decide +kernel
theorem cp1b_12 : decode jdk_52_method_16_code 12 = .ok (.istore 4, 2) := by decide +kernel
theorem cp1b_14 : decode jdk_52_method_16_code 14 = .ok (.iload 4, 2) := by decide +kernel
theorem cp1b_16 : decode jdk_52_method_16_code 16 = .ok (.iload_n 2, 1) := by decide +kernel
theorem cp1b_17 : decode jdk_52_method_16_code 17 = .ok (.if_icmp .eq 40, 3) := by decide +kernel
theorem cp1b_20 : decode jdk_52_method_16_code 20 = .ok (.aload_n 0, 1) := by decide +kernel
theorem cp1b_21 : decode jdk_52_method_16_code 21 = .ok (.iload_n 1, 1) := by decide +kernel
theorem cp1b_22 : decode jdk_52_method_16_code 22 = .ok (.iload_n 2, 1) := by decide +kernel
theorem cp1b_23 : decode jdk_52_method_16_code 23 = .ok (.invokestatic 119, 3) := by decide +kernel
theorem cp1b_26 : decode jdk_52_method_16_code 26 = .ok (.astore 5, 2) := by decide +kernel
theorem cp1b_28 : decode jdk_52_method_16_code 28 = .ok (.aload 5, 2) := by decide +kernel
theorem cp1b_30 : decode jdk_52_method_16_code 30 = .ok (.iload 4, 2) := by decide +kernel
theorem cp1b_32 : decode jdk_52_method_16_code 32 = .ok (.invokestatic 71, 3) := by decide +kernel
theorem cp1b_35 : decode jdk_52_method_16_code 35 = .ok (.sipush 255, 3) := by decide +kernel
theorem cp1b_38 : decode jdk_52_method_16_code 38 = .ok (.if_icmp .gt 16, 3) := by decide +kernel
theorem cp1b_41 : decode jdk_52_method_16_code 41 = .ok (.aload 5, 2) := by decide +kernel
theorem cp1b_43 : decode jdk_52_method_16_code 43 = .ok (.iconst 0, 1) := by decide +kernel
theorem cp1b_44 : decode jdk_52_method_16_code 44 = .ok (.aload_n 3, 1) := by decide +kernel
theorem cp1b_45 : decode jdk_52_method_16_code 45 = .ok (.iconst 0, 1) := by decide +kernel
theorem cp1b_46 : decode jdk_52_method_16_code 46 = .ok (.iload_n 2, 1) := by decide +kernel
theorem cp1b_47 : decode jdk_52_method_16_code 47 = .ok (.invokestatic 123, 3) := by decide +kernel
theorem cp1b_50 : decode jdk_52_method_16_code 50 = .ok (.iload_n 2, 1) := by decide +kernel
theorem cp1b_51 : decode jdk_52_method_16_code 51 = .ok (.if_icmp .eq 6, 3) := by decide +kernel
theorem cp1b_54 : decode jdk_52_method_16_code 54 = .ok (.aload 5, 2) := by decide +kernel
theorem cp1b_56 : decode jdk_52_method_16_code 56 = .ok (.areturn, 1) := by decide +kernel
theorem cp1b_57 : decode jdk_52_method_16_code 57 = .ok (.aload_n 3, 1) := by decide +kernel
theorem cp1b_58 : decode jdk_52_method_16_code 58 = .ok (.areturn, 1) := by decide +kernel
theorem pn_cp1b : plainFor (⟨"java/lang/StringUTF16", "compress", "([CII)[B"⟩ : MethodName) = true := by first | exact plainFor_of_name (by first | (simp [plainName, overriddenIn]; done) | decide +kernel) | decide +kernel
theorem ef_cp1b (m : MethodId) (qa : Addr)  : entryFrame m #[(.ref qa), (.int (0 : Int32)), (.int (2 : Int32))] 6 = mkF m 0 #[.val (.ref qa), .val (.int (0 : Int32)), .val (.int (2 : Int32)), .unset, .unset, .unset] [] := by first | (simp [entryFrame, mkF, argsToLocals, Value.category, maxLocals]; done) | rfl
theorem pd_cp1b : parseMethodDescriptor "([CII)[B" = some ⟨[.array (.char), .int, .int], some (.array (.byte))⟩ := by decide +kernel
set_option maxRecDepth 65536 in
set_option maxHeartbeats 40000000 in
theorem rm_cp1b (l : Launch) (Z : State) (a0 : Array Value) (hw : ∀ d ∈ tables_1, d.before a0 Z = true)  (qa : Addr) (h0 : Heap) (n0 : Nat) (XO : Old Z n0 h0) (SA : Sta Z Z.heap "java/lang/StringUTF16" "$assertionsDisabled" "Z" (.int (1 : Int32))) (SH : Sta Z Z.heap "java/lang/StringUTF16" "HI_BYTE_SHIFT" "I" (.int (0 : Int32))) (SL : Sta Z Z.heap "java/lang/StringUTF16" "LO_BYTE_SHIFT" "I" (.int (8 : Int32))) (c0 c1 : Int32) (hc0 : ¬ (255 : Int32) < c0) (hc1 : (255 : Int32) < c1) (h0c : Ch c0) (h1c : Ch c1) (A1 : Arl Z h0 qa .char [(.int c0), (.int c1)]) :
    MetFree l (⟨"java/lang/StringUTF16", "compress", "([CII)[B"⟩ : MethodName) (head1 [Jvm.Cond.code (⟨"java/lang/StringUTF16", "compress", "([CII)[B"⟩ : MethodName) jdk_52_method_16_code 6 (some (Jvm.ClassFile.FieldType.array Jvm.ClassFile.FieldType.byte))] ({ frames := 3, cells := 2, slots := 6, locals := 40 } : Room)) (fun a U => a = #[(.ref qa), (.int (0 : Int32)), (.int (2 : Int32))] ∧ Z.Warmed39 U.vm ∧ U.heap = h0) (fun _ _ _ _ _ => True) (fun _ U o U' => ∃ v L, o = .returned v ∧ UBQ Z c0 c1 h0 n0 v U'.heap L ∧ FrameEnd U o U' L ({ frames := 3, cells := 2, slots := 6, locals := 40 } : Room).cells ({ frames := 3, cells := 2, slots := 6, locals := 40 } : Room).slots) := by
  refine MetFree.of_bodySF pn_cp1b hisR ?_
  intro p e s m args below meth c s₁ Bd hml0 hP hK
  obtain ⟨rfl, hZ, hh⟩ := hP
  have hx := Bd.exec
  have hby := Bd.bytes
  have hml : c.maxLocals = 6 := hml0
  have hown : s.vm.findClass "java/lang/StringUTF16" = some m.cls := findClass_of_methodNamed Bd.named
  have hnm := (name_of_methodNamed Bd.named Bd.method).1
  have hlk : meth.locks = false := BodyLoose.notSynchronized Bd
  have X0 : Stand p l e ({ frames := 3, cells := 2, slots := 6, locals := 40 } : Room) s m #[(.ref qa), (.int (0 : Int32)), (.int (2 : Int32))] below meth c s₁ [] 0 0 := Stand.of_body Bd
  have e0 : s₁.heap = h0 := by rw [← hh, Bd.state]; rfl
  show Go p e below (EndN below s (UBQ Z c0 c1 h0 n0) ({ frames := 3, cells := 2, slots := 6, locals := 40 } : Room).cells ({ frames := 3, cells := 2, slots := 6, locals := 40 } : Room).slots) (s₁.setTop (entryFrame m #[(.ref qa), (.int (0 : Int32)), (.int (2 : Int32))] 6))
  rw [ef_cp1b]
  refine g_iload_n X0 hx 1 (2 : Int32) (hb hby cp1b_0) rfl rfl ?_
  obtain ⟨T_1, h_1, a_1, k_1, X_1, e_1, ga_1, E_1, A_1, st_1⟩ := g_newP X0 hx hZ (aty := .byte) (n := (2 : Int32)) (hw _ (List.mem_of_getElem? (i := 20) rfl)) e0 2 (by decide) (by decide) (by decide) (by decide) (by decide) 3 (hb hby cp1b_1) rfl
  refine st_1 ?_
  have g_1 : n0 ≤ a_1 := by rw [ga_1]; exact Nat.le_trans (XO.1 ▸ XO.2.1) (Nat.le_refl _)
  have gh_1 : h0.size ≤ a_1 := by rw [ga_1]; exact (Nat.le_refl _)
  have n_1_qa : qa ≠ a_1 := by rw [ga_1]; exact Nat.ne_of_lt A1.lt
  have F_1_0 : Arl Z h_1 qa .char [(.int c0), (.int c1)] := A1.ext E_1
  have Z_1 : h0.size ≤ h_1.size := Nat.le_trans (Nat.le_refl _) E_1.1
  have O_1 := Old.ext XO E_1
  have G_1 : Arl Z h_1 a_1 .byte [(.int (0 : Int32)), (.int (0 : Int32))] := Arl.new A_1 rfl
  refine g_astore_n X_1 hx 4 #[.val (.ref qa), .val (.int (0 : Int32)), .val (.int (2 : Int32)), .val (.ref a_1), .unset, .unset] (hb hby cp1b_3) rfl rfl rfl ?_
  refine g_aload_n X_1 hx 5 (.ref qa) (hb hby cp1b_4) rfl rfl rfl ?_
  refine g_iload_n X_1 hx 6 (0 : Int32) (hb hby cp1b_5) rfl rfl ?_
  refine g_aload_n X_1 hx 7 (.ref a_1) (hb hby cp1b_6) rfl rfl rfl ?_
  refine g_iconst X_1 hx 8 (0 : Int32) (hb hby cp1b_7) rfl rfl ?_
  refine g_iload_n X_1 hx 9 (2 : Int32) (hb hby cp1b_8) rfl rfl ?_
  obtain ⟨_, T_9, L_9, X_9, ⟨rfl, M_9, K_9⟩, st_9⟩ := g_callS X_1 hx hZ  (own := "java/lang/StringUTF16") (index := 115) (y := (⟨"java/lang/StringUTF16", "compress", "([CI[BII)I"⟩ : MethodName)) (as' := [(.ref qa), (.int (0 : Int32)), (.ref a_1), (.int (0 : Int32)), (.int (2 : Int32))]) hown (hw _ (List.mem_of_getElem? (i := 71) rfl)) (hw _ (List.mem_of_getElem? (i := 72) rfl)) (hw _ (List.mem_of_getElem? (i := 69) rfl)) (hw _ (List.mem_of_getElem? (i := 73) rfl)) (by decide) e_1 (rm_cp2b l Z a0 hw qa a_1 h_1 n0 g_1 c0 c1 hc0 hc1 n_1_qa F_1_0 G_1) pd_cp2b rfl 0 (by decide) (by decide) (by decide) (by decide) (pc := 9) (Ls := #[.val (.ref qa), .val (.int (0 : Int32)), .val (.int (2 : Int32)), .val (.ref a_1), .unset, .unset]) (rest := []) (st := [(.int (2 : Int32)), (.int (0 : Int32)), (.ref a_1), (.int (0 : Int32)), (.ref qa)]) (by rw [hml]; rfl) rfl (Nat.le_of_eq rfl) (hb hby cp1b_9)
  refine Go.of ?_ st_9
  have F_9_0 : Arl Z T_9.heap qa .char [(.int c0), (.int c1)] := F_1_0.keep K_9 (ninS n_1_qa nin0)
  have N_9 := Fr.app (Fr.nil _) M_9
  have Z_9 : h0.size ≤ T_9.heap.size := Nat.le_trans Z_1 K_9.1
  have O_9 := Old.keep O_1 K_9 (allS g_1 all0)
  show Go p e below _ (T_9.setTop (mkF m 12 #[.val (.ref qa), .val (.int (0 : Int32)), .val (.int (2 : Int32)), .val (.ref a_1), .unset, .unset] [(.int (1 : Int32))]))
  refine g_istore X_9 hx 14 #[.val (.ref qa), .val (.int (0 : Int32)), .val (.int (2 : Int32)), .val (.ref a_1), .val (.int (1 : Int32)), .unset] (hb hby cp1b_12) rfl rfl ?_
  refine g_iload X_9 hx 16 (1 : Int32) (hb hby cp1b_14) rfl rfl ?_
  refine g_iload_n X_9 hx 17 (2 : Int32) (hb hby cp1b_16) rfl rfl ?_
  refine g_icmpN X_9 hx 20 (hb hby cp1b_17) (XT.ii_eq_f (by decide)) rfl ?_
  refine g_aload_n X_9 hx 21 (.ref qa) (hb hby cp1b_20) rfl rfl rfl ?_
  refine g_iload_n X_9 hx 22 (0 : Int32) (hb hby cp1b_21) rfl rfl ?_
  refine g_iload_n X_9 hx 23 (2 : Int32) (hb hby cp1b_22) rfl rfl ?_
  obtain ⟨_, T_23, L_23, X_23, ⟨b_23, rfl, g_23, M_23, K_23, B_23⟩, st_23⟩ := g_callS X_9 hx hZ  (own := "java/lang/StringUTF16") (index := 119) (y := (⟨"java/lang/StringUTF16", "toBytes", "([CII)[B"⟩ : MethodName)) (as' := [(.ref qa), (.int (0 : Int32)), (.int (2 : Int32))]) hown (hw _ (List.mem_of_getElem? (i := 98) rfl)) (hw _ (List.mem_of_getElem? (i := 99) rfl)) (hw _ (List.mem_of_getElem? (i := 69) rfl)) (hw _ (List.mem_of_getElem? (i := 100) rfl)) (by decide) rfl (rm_tb2 l Z a0 hw qa T_9.heap n0 O_9 SA SH SL c0 c1 F_9_0) pd_tb2 rfl 0 (by decide) (by decide) (by decide) (by decide) (pc := 23) (Ls := #[.val (.ref qa), .val (.int (0 : Int32)), .val (.int (2 : Int32)), .val (.ref a_1), .val (.int (1 : Int32)), .unset]) (rest := []) (st := [(.int (2 : Int32)), (.int (0 : Int32)), (.ref qa)]) (by rw [hml]; rfl) rfl (Nat.le_of_eq rfl) (hb hby cp1b_23)
  refine Go.of ?_ st_23
  have F_23_0 : Arl Z T_23.heap qa .char [(.int c0), (.int c1)] := F_9_0.keep K_23 nin0
  have N_23 := Fr.app N_9 M_23
  have Z_23 : h0.size ≤ T_23.heap.size := Nat.le_trans Z_9 K_23.1
  have O_23 := Old.keep O_9 K_23 all0
  have gn_23 : n0 ≤ b_23 := Nat.le_trans (Nat.le_trans (XO.1 ▸ XO.2.1) Z_9) g_23
  have gg_23 : h0.size ≤ b_23 := Nat.le_trans Z_9 g_23
  have nb_23_qa : qa ≠ b_23 := Nat.ne_of_lt (Nat.lt_of_lt_of_le F_9_0.lt g_23)
  show Go p e below _ (T_23.setTop (mkF m 26 #[.val (.ref qa), .val (.int (0 : Int32)), .val (.int (2 : Int32)), .val (.ref a_1), .val (.int (1 : Int32)), .unset] [(.ref b_23)]))
  refine g_astore X_23 hx 28 #[.val (.ref qa), .val (.int (0 : Int32)), .val (.int (2 : Int32)), .val (.ref a_1), .val (.int (1 : Int32)), .val (.ref b_23)] (hb hby cp1b_26) rfl rfl rfl ?_
  refine g_aload X_23 hx 30 (.ref b_23) (hb hby cp1b_28) rfl rfl rfl ?_
  refine g_iload X_23 hx 32 (1 : Int32) (hb hby cp1b_30) rfl rfl ?_
  obtain ⟨_, T_32, L_32, X_32, ⟨rfl, rfl, e_32⟩, st_32⟩ := g_callS X_23 hx hZ  (own := "java/lang/StringUTF16") (index := 71) (y := (⟨"java/lang/StringUTF16", "getChar", "([BI)C"⟩ : MethodName)) (as' := [(.ref b_23), (.int (1 : Int32))]) hown (hw _ (List.mem_of_getElem? (i := 108) rfl)) (hw _ (List.mem_of_getElem? (i := 109) rfl)) (hw _ (List.mem_of_getElem? (i := 69) rfl)) (hw _ (List.mem_of_getElem? (i := 110) rfl)) (by decide) rfl (rm_gch_1 l Z a0 hw b_23 T_23.heap n0 O_23 SA SH SL c0 c1 h1c B_23) pd_gch_1 rfl 0 (by decide) (by decide) (by decide) (by decide) (pc := 32) (Ls := #[.val (.ref qa), .val (.int (0 : Int32)), .val (.int (2 : Int32)), .val (.ref a_1), .val (.int (1 : Int32)), .val (.ref b_23)]) (rest := []) (st := [(.int (1 : Int32)), (.ref b_23)]) (by rw [hml]; rfl) rfl (Nat.le_of_eq rfl) (hb hby cp1b_32)
  refine Go.of ?_ st_32
  rw [List.append_nil] at X_32
  show Go p e below _ (T_32.setTop (mkF m 35 #[.val (.ref qa), .val (.int (0 : Int32)), .val (.int (2 : Int32)), .val (.ref a_1), .val (.int (1 : Int32)), .val (.ref b_23)] [(.int c1)]))
  refine g_sipush X_32 hx 38 (255 : Int32) (hb hby cp1b_35) rfl rfl ?_
  refine g_icmpY X_32 hx 54 (hb hby cp1b_38) (XT.ii_gt_t hc1) (by decide) (by decide) ?_
  refine g_aload X_32 hx 56 (.ref b_23) (hb hby cp1b_54) rfl rfl rfl ?_
  exact Go.retA X_32 hx hlk Bd.returns rfl rfl (hb hby cp1b_56) (by decide) (by decide) ⟨b_23, rfl, gg_23, N_23, e_32.symm ▸ ((((Keep.refl _ _).ext E_1).trans K_9 (allS (Or.inr gh_1) all0)).trans K_23 all0), e_32.symm ▸ B_23⟩
theorem cfu_0 : decode jdk_52_method_15_code 0 = .ok (.iload_n 1, 1) := by decide +kernel
theorem cfu_1 : decode jdk_52_method_15_code 1 = .ok (.aload_n 0, 1) := by decide +kernel
theorem cfu_2 : decode jdk_52_method_15_code 2 = .ok (.arraylength, 1) := by decide +kernel
theorem cfu_3 : decode jdk_52_method_15_code 3 = .ok (.isub, 1) := by decide +kernel
theorem cfu_4 : decode jdk_52_method_15_code 4 = .ok (.bipush 31, 2) := by decide +kernel
theorem cfu_6 : decode jdk_52_method_15_code 6 = .ok (.iushr, 1) := by decide +kernel
theorem cfu_7 : decode jdk_52_method_15_code 7 = .ok (.i2b, 1) := by decide +kernel
theorem cfu_8 : decode jdk_52_method_15_code 8 = .ok (.ireturn, 1) := by decide +kernel
theorem pn_cfu : plainFor (⟨"java/lang/StringUTF16", "coderFromArrayLen", "([BI)B"⟩ : MethodName) = true := by first | exact plainFor_of_name (by first | (simp [plainName, overriddenIn]; done) | decide +kernel) | decide +kernel
theorem ef_cfu (m : MethodId) (qb : Addr) (q1 : Int32)  : entryFrame m #[(.ref qb), (.int q1)] 2 = mkF m 0 #[.val (.ref qb), .val (.int q1)] [] := by first | (simp [entryFrame, mkF, argsToLocals, Value.category, maxLocals]; done) | rfl
theorem pd_cfu : parseMethodDescriptor "([BI)B" = some ⟨[.array (.byte), .int], some (.byte)⟩ := by decide +kernel
set_option maxRecDepth 65536 in
set_option maxHeartbeats 40000000 in
theorem rm_cfu (l : Launch) (Z : State) (a0 : Array Value) (hw : ∀ d ∈ tables_1, d.before a0 Z = true)  (qb : Addr) (q1 : Int32) (h0 : Heap) (vs : List Value) (z y : Int32) (hz : vs.length.toInt32 = z) (hy : nar .byte ((XT.ushr (q1 - z) (31 : Int32)).toInt8.toInt32) = y) (hA : Arl Z h0 qb .byte vs) :
    MetFree l (⟨"java/lang/StringUTF16", "coderFromArrayLen", "([BI)B"⟩ : MethodName) (head1 [Jvm.Cond.code (⟨"java/lang/StringUTF16", "coderFromArrayLen", "([BI)B"⟩ : MethodName) jdk_52_method_15_code 2 (some Jvm.ClassFile.FieldType.byte)] ({ frames := 0, cells := 0, slots := 0, locals := 0 } : Room)) (fun a U => a = #[(.ref qb), (.int q1)] ∧ Z.Warmed39 U.vm ∧ U.heap = h0) (fun _ _ _ _ _ => True) (fun _ U o U' => ∃ v L, o = .returned v ∧ Pur (some (.int y)) h0 v U'.heap L ∧ FrameEnd U o U' L ({ frames := 0, cells := 0, slots := 0, locals := 0 } : Room).cells ({ frames := 0, cells := 0, slots := 0, locals := 0 } : Room).slots) := by
  refine MetFree.of_bodySF pn_cfu hisR ?_
  intro p e s m args below meth c s₁ Bd hml0 hP hK
  obtain ⟨rfl, hZ, hh⟩ := hP
  have hx := Bd.exec
  have hby := Bd.bytes
  have hml : c.maxLocals = 2 := hml0
  have hown : s.vm.findClass "java/lang/StringUTF16" = some m.cls := findClass_of_methodNamed Bd.named
  have hnm := (name_of_methodNamed Bd.named Bd.method).1
  have hlk : meth.locks = false := BodyLoose.notSynchronized Bd
  have X0 : Stand p l e ({ frames := 0, cells := 0, slots := 0, locals := 0 } : Room) s m #[(.ref qb), (.int q1)] below meth c s₁ [] 0 0 := Stand.of_body Bd
  have e0 : s₁.heap = h0 := by rw [← hh, Bd.state]; rfl
  show Go p e below (EndN below s (Pur (some (.int y)) h0) ({ frames := 0, cells := 0, slots := 0, locals := 0 } : Room).cells ({ frames := 0, cells := 0, slots := 0, locals := 0 } : Room).slots) (s₁.setTop (entryFrame m #[(.ref qb), (.int q1)] 2))
  rw [ef_cfu]
  refine g_iload_n X0 hx 1 q1 (hb hby cfu_0) rfl rfl ?_
  refine g_aload_n X0 hx 2 (.ref qb) (hb hby cfu_1) rfl rfl rfl ?_
  refine g_alen X0 hx hZ e0 hA z hz 3 (hb hby cfu_2) rfl ?_
  refine g_isub X0 hx 4 (hb hby cfu_3) rfl ?_
  refine g_bipush X0 hx 6 (31 : Int32) (hb hby cfu_4) rfl rfl ?_
  refine g_iushr X0 hx 7 (hb hby cfu_6) rfl ?_
  refine g_i2b X0 hx 8 (hb hby cfu_7) rfl ?_
  exact Go.retZ X0 hx hlk Bd.returns (by simp) (hb hby cfu_8) (by decide) (by decide) ⟨by rw [hy], rfl, e0⟩
def S2Q (Z : State) (qa : Addr) (c0 c1 : Int32) (h0 : Heap) (n0 : Nat) (v : Option Value) (h : Heap) (L : List Loc) : Prop := ∃ qb : Addr, v = none ∧ h0.size ≤ qb ∧ Fr n0 L ∧ Keep h0 h [qa] ∧ Stl Z h qa qb (coOf [c0, c1]) ((bsOf [c0, c1]).map Value.int)
theorem in2_2_0 : decode jdk_42_method_149_code 0 = .ok (.aload_n 0, 1) := by decide +kernel
theorem in2_2_1 : decode jdk_42_method_149_code 1 = .ok (.invokespecial 1, 3) := by decide +kernel
theorem in2_2_4 : decode jdk_42_method_149_code 4 = .ok (.iload_n 3, 1) := by decide +kernel
theorem in2_2_5 : decode jdk_42_method_149_code 5 = .ok (.ifCond .ne 22, 3) := by decide +kernel
theorem in2_2_8 : decode jdk_42_method_149_code 8 = .ok (.aload_n 0, 1) := by decide +kernel
theorem in2_2_9 : decode jdk_42_method_149_code 9 = .ok (.ldc 7, 2) := by decide +kernel
theorem in2_2_11 : decode jdk_42_method_149_code 11 = .ok (.getfield 9, 3) := by decide +kernel
theorem in2_2_14 : decode jdk_42_method_149_code 14 = .ok (.putfield 9, 3) := by decide +kernel
theorem in2_2_17 : decode jdk_42_method_149_code 17 = .ok (.aload_n 0, 1) := by decide +kernel
theorem in2_2_18 : decode jdk_42_method_149_code 18 = .ok (.ldc 7, 2) := by decide +kernel
theorem in2_2_20 : decode jdk_42_method_149_code 20 = .ok (.getfield 15, 3) := by decide +kernel
theorem in2_2_23 : decode jdk_42_method_149_code 23 = .ok (.putfield 15, 3) := by decide +kernel
theorem in2_2_26 : decode jdk_42_method_149_code 26 = .ok (.return_, 1) := by decide +kernel
theorem in2_2_27 : decode jdk_42_method_149_code 27 = .ok (.getstatic 38, 3) := by decide +kernel
theorem in2_2_30 : decode jdk_42_method_149_code 30 = .ok (.ifCond .eq 28, 3) := by decide +kernel
theorem in2_2_33 : decode jdk_42_method_149_code 33 = .ok (.aload_n 1, 1) := by decide +kernel
theorem in2_2_34 : decode jdk_42_method_149_code 34 = .ok (.iload_n 2, 1) := by decide +kernel
theorem in2_2_35 : decode jdk_42_method_149_code 35 = .ok (.iload_n 3, 1) := by decide +kernel
theorem in2_2_36 : decode jdk_42_method_149_code 36 = .ok (.invokestatic 177, 3) := by decide +kernel
theorem in2_2_39 : decode jdk_42_method_149_code 39 = .ok (.astore 5, 2) := by decide +kernel
theorem in2_2_41 : decode jdk_42_method_149_code 41 = .ok (.aload_n 0, 1) := by decide +kernel
theorem in2_2_42 : decode jdk_42_method_149_code 42 = .ok (.aload 5, 2) := by decide +kernel
theorem in2_2_44 : decode jdk_42_method_149_code 44 = .ok (.iload_n 3, 1) := by decide +kernel
theorem in2_2_45 : decode jdk_42_method_149_code 45 = .ok (.invokestatic 47, 3) := by decide +kernel
theorem in2_2_48 : decode jdk_42_method_149_code 48 = .ok (.putfield 15, 3) := by decide +kernel
theorem in2_2_51 : decode jdk_42_method_149_code 51 = .ok (.aload_n 0, 1) := by decide +kernel
theorem in2_2_52 : decode jdk_42_method_149_code 52 = .ok (.aload 5, 2) := by decide +kernel
theorem in2_2_54 : decode jdk_42_method_149_code 54 = .ok (.putfield 9, 3) := by decide +kernel
theorem in2_2_57 : decode jdk_42_method_149_code 57 = .ok (.return_, 1) := by decide +kernel
theorem in2_2_58 : decode jdk_42_method_149_code 58 = .ok (.aload_n 0, 1) := by decide +kernel
theorem in2_2_59 : decode jdk_42_method_149_code 59 = .ok (.iconst 1, 1) := by decide +kernel
theorem in2_2_60 : decode jdk_42_method_149_code 60 = .ok (.putfield 15, 3) := by decide +kernel
theorem in2_2_63 : decode jdk_42_method_149_code 63 = .ok (.aload_n 0, 1) := by decide +kernel
theorem in2_2_64 : decode jdk_42_method_149_code 64 = .ok (.aload_n 1, 1) := by decide +kernel
theorem in2_2_65 : decode jdk_42_method_149_code 65 = .ok (.iload_n 2, 1) := by decide +kernel
theorem in2_2_66 : decode jdk_42_method_149_code 66 = .ok (.iload_n 3, 1) := by decide +kernel
theorem in2_2_67 : decode jdk_42_method_149_code 67 = .ok (.invokestatic 180, 3) := by decide +kernel
theorem in2_2_70 : decode jdk_42_method_149_code 70 = .ok (.putfield 9, 3) := by decide +kernel
theorem in2_2_73 : decode jdk_42_method_149_code 73 = .ok (.return_, 1) := by decide +kernel
theorem pn_in2_2 : plainFor (⟨"java/lang/String", "<init>", "([CIILjava/lang/Void;)V"⟩ : MethodName) = true := by first | exact plainFor_of_name (by first | (simp [plainName, overriddenIn]; done) | decide +kernel) | decide +kernel
theorem ef_in2_2 (m : MethodId) (qa : Addr) (qc : Addr)  : entryFrame m #[(.ref qa), (.ref qc), (.int (0 : Int32)), (.int (2 : Int32)), .null] 6 = mkF m 0 #[.val (.ref qa), .val (.ref qc), .val (.int (0 : Int32)), .val (.int (2 : Int32)), .val .null, .unset] [] := by first | (simp [entryFrame, mkF, argsToLocals, Value.category, maxLocals]; done) | rfl
theorem pd_in2_2 : parseMethodDescriptor "([CIILjava/lang/Void;)V" = some ⟨[.array (.char), .int, .int, .object "java/lang/Void"], none⟩ := by decide +kernel
set_option maxRecDepth 65536 in
set_option maxHeartbeats 40000000 in
theorem rm_in2_2 (l : Launch) (Z : State) (a0 : Array Value) (hw : ∀ d ∈ tables_1, d.before a0 Z = true)  (qa : Addr) (qc : Addr) (h0 : Heap) (n0 : Nat) (XO : Old Z n0 h0) (cs : Int32) (hcs : ¬ cs = (0 : Int32)) (SC : Sta Z Z.heap "java/lang/String" "COMPACT_STRINGS" "Z" (.int cs)) (SA : Sta Z Z.heap "java/lang/StringUTF16" "$assertionsDisabled" "Z" (.int (1 : Int32))) (SH : Sta Z Z.heap "java/lang/StringUTF16" "HI_BYTE_SHIFT" "I" (.int (0 : Int32))) (SL : Sta Z Z.heap "java/lang/StringUTF16" "LO_BYTE_SHIFT" "I" (.int (8 : Int32))) (ga : n0 ≤ qa) (hne : qc ≠ qa) (c0 c1 : Int32) (h0c : Ch c0) (h1c : Ch c1) (A1 : Arl Z h0 qc .char [(.int c0), (.int c1)])(E1 : Exa Z h0 qa "java/lang/String")(F1 : Fld Z h0 qa "java/lang/String" "value" "[B" .null)(F2 : Fld Z h0 qa "java/lang/String" "coder" "B" (.int (0 : Int32))) :
    MetFree l (⟨"java/lang/String", "<init>", "([CIILjava/lang/Void;)V"⟩ : MethodName) (head1 [Jvm.Cond.code (⟨"java/lang/String", "<init>", "([CIILjava/lang/Void;)V"⟩ : MethodName) jdk_42_method_149_code 6 none] ({ frames := 4, cells := 2, slots := 6, locals := 57 } : Room)) (fun a U => a = #[(.ref qa), (.ref qc), (.int (0 : Int32)), (.int (2 : Int32)), .null] ∧ Z.Warmed39 U.vm ∧ U.heap = h0) (fun _ _ _ _ _ => True) (fun _ U o U' => ∃ v L, o = .returned v ∧ S2Q Z qa c0 c1 h0 n0 v U'.heap L ∧ FrameEnd U o U' L ({ frames := 4, cells := 2, slots := 6, locals := 57 } : Room).cells ({ frames := 4, cells := 2, slots := 6, locals := 57 } : Room).slots) := by
  refine MetFree.of_bodySF pn_in2_2 hisR ?_
  intro p e s m args below meth c s₁ Bd hml0 hP hK
  obtain ⟨rfl, hZ, hh⟩ := hP
  have hx := Bd.exec
  have hby := Bd.bytes
  have hml : c.maxLocals = 6 := hml0
  have hown : s.vm.findClass "java/lang/String" = some m.cls := findClass_of_methodNamed Bd.named
  have hnm := (name_of_methodNamed Bd.named Bd.method).1
  have hlk : meth.locks = false := BodyLoose.notSynchronized Bd
  have X0 : Stand p l e ({ frames := 4, cells := 2, slots := 6, locals := 57 } : Room) s m #[(.ref qa), (.ref qc), (.int (0 : Int32)), (.int (2 : Int32)), .null] below meth c s₁ [] 0 0 := Stand.of_body Bd
  have e0 : s₁.heap = h0 := by rw [← hh, Bd.state]; rfl
  show Go p e below (EndN below s (S2Q Z qa c0 c1 h0 n0) ({ frames := 4, cells := 2, slots := 6, locals := 57 } : Room).cells ({ frames := 4, cells := 2, slots := 6, locals := 57 } : Room).slots) (s₁.setTop (entryFrame m #[(.ref qa), (.ref qc), (.int (0 : Int32)), (.int (2 : Int32)), .null] 6))
  rw [ef_in2_2]
  refine g_aload_n X0 hx 1 (.ref qa) (hb hby in2_2_0) rfl rfl rfl ?_
  obtain ⟨T_1, X_1, e_1, st_1⟩ := g_initO X0 hx hZ hown (hw _ (List.mem_of_getElem? (i := 16) rfl)) (hw _ (List.mem_of_getElem? (i := 17) rfl)) (hw _ (List.mem_of_getElem? (i := 18) rfl)) e0 0 (by decide) (by decide) 4 (a := qa) (Ls := #[.val (.ref qa), .val (.ref qc), .val (.int (0 : Int32)), .val (.int (2 : Int32)), .val .null, .unset]) (st := []) (by rw [hml]; rfl) (Nat.le_of_eq rfl) (hb hby in2_2_1) rfl
  refine st_1 ?_
  refine g_iload_n X_1 hx 5 (2 : Int32) (hb hby in2_2_4) rfl rfl ?_
  refine g_ifY X_1 hx 27 (hb hby in2_2_5) (XT.i0_ne_t (by decide)) (by decide) (by decide) ?_
  obtain ⟨T_27, X_27, e_27, st_27⟩ := g_getS X_1 hx hZ hown (hw _ (List.mem_of_getElem? (i := 60) rfl)) e_1 (SC.ext XO.2) 30 (hb hby in2_2_27) rfl
  refine st_27 ?_
  refine g_ifN X_27 hx 33 (hb hby in2_2_30) (XT.i0_eq_f hcs) rfl ?_
  refine g_aload_n X_27 hx 34 (.ref qc) (hb hby in2_2_33) rfl rfl rfl ?_
  refine g_iload_n X_27 hx 35 (0 : Int32) (hb hby in2_2_34) rfl rfl ?_
  refine g_iload_n X_27 hx 36 (2 : Int32) (hb hby in2_2_35) rfl rfl ?_
  by_cases hA : (255 : Int32) < c0
  ·
    obtain ⟨_, T_36, L_36, X_36, ⟨b_36, rfl, g_36, M_36, K_36, B_36⟩, st_36⟩ := g_callS X_27 hx hZ  (own := "java/lang/String") (index := 177) (y := (⟨"java/lang/StringUTF16", "compress", "([CII)[B"⟩ : MethodName)) (as' := [(.ref qc), (.int (0 : Int32)), (.int (2 : Int32))]) hown (hw _ (List.mem_of_getElem? (i := 67) rfl)) (hw _ (List.mem_of_getElem? (i := 68) rfl)) (hw _ (List.mem_of_getElem? (i := 69) rfl)) (hw _ (List.mem_of_getElem? (i := 70) rfl)) (by decide) e_27 (rm_cp1a l Z a0 hw qc h0 n0 XO SA SH SL c0 c1 hA h0c h1c A1) pd_cp1a rfl 0 (by decide) (by decide) (by decide) (by decide) (pc := 36) (Ls := #[.val (.ref qa), .val (.ref qc), .val (.int (0 : Int32)), .val (.int (2 : Int32)), .val .null, .unset]) (rest := []) (st := [(.int (2 : Int32)), (.int (0 : Int32)), (.ref qc)]) (by rw [hml]; rfl) rfl (Nat.le_of_eq rfl) (hb hby in2_2_36)
    refine Go.of ?_ st_36
    have F_36_0 : Arl Z T_36.heap qc .char [(.int c0), (.int c1)] := A1.keep K_36 nin0
    have F_36_1 : Exa Z T_36.heap qa "java/lang/String" := E1.keep K_36
    have F_36_2 : Fld Z T_36.heap qa "java/lang/String" "value" "[B" .null := F1.keep K_36 nin0
    have F_36_3 : Fld Z T_36.heap qa "java/lang/String" "coder" "B" (.int (0 : Int32)) := F2.keep K_36 nin0
    have N_36 := Fr.app (Fr.nil _) M_36
    have Z_36 : h0.size ≤ T_36.heap.size := Nat.le_trans (Nat.le_refl _) K_36.1
    have O_36 := Old.keep XO K_36 all0
    have gn_36 : n0 ≤ b_36 := Nat.le_trans (Nat.le_trans (XO.1 ▸ XO.2.1) (Nat.le_refl _)) g_36
    have gg_36 : h0.size ≤ b_36 := Nat.le_trans (Nat.le_refl _) g_36
    have nb_36_qa : qa ≠ b_36 := Nat.ne_of_lt (Nat.lt_of_lt_of_le E1.lt g_36)
    have nb_36_qc : qc ≠ b_36 := Nat.ne_of_lt (Nat.lt_of_lt_of_le A1.lt g_36)
    show Go p e below _ (T_36.setTop (mkF m 39 #[.val (.ref qa), .val (.ref qc), .val (.int (0 : Int32)), .val (.int (2 : Int32)), .val .null, .unset] [(.ref b_36)]))
    refine g_astore X_36 hx 41 #[.val (.ref qa), .val (.ref qc), .val (.int (0 : Int32)), .val (.int (2 : Int32)), .val .null, .val (.ref b_36)] (hb hby in2_2_39) rfl rfl rfl ?_
    refine g_aload_n X_36 hx 42 (.ref qa) (hb hby in2_2_41) rfl rfl rfl ?_
    refine g_aload X_36 hx 44 (.ref b_36) (hb hby in2_2_42) rfl rfl rfl ?_
    refine g_iload_n X_36 hx 45 (2 : Int32) (hb hby in2_2_44) rfl rfl ?_
    obtain ⟨_, T_45, L_45, X_45, ⟨rfl, rfl, e_45⟩, st_45⟩ := g_callS X_36 hx hZ  (own := "java/lang/String") (index := 47) (y := (⟨"java/lang/StringUTF16", "coderFromArrayLen", "([BI)B"⟩ : MethodName)) (as' := [(.ref b_36), (.int (2 : Int32))]) hown (hw _ (List.mem_of_getElem? (i := 74) rfl)) (hw _ (List.mem_of_getElem? (i := 75) rfl)) (hw _ (List.mem_of_getElem? (i := 69) rfl)) (hw _ (List.mem_of_getElem? (i := 76) rfl)) (by decide) rfl (rm_cfu l Z a0 hw b_36 (2 : Int32) T_36.heap [(.int (lo8 c0)), (.int (hi8 c0)), (.int (lo8 c1)), (.int (hi8 c1))] (4 : Int32) (1 : Int32) rfl (by decide) B_36) pd_cfu rfl 1 (by decide) (by decide) (by decide) (by decide) (pc := 45) (Ls := #[.val (.ref qa), .val (.ref qc), .val (.int (0 : Int32)), .val (.int (2 : Int32)), .val .null, .val (.ref b_36)]) (rest := [(.ref qa)]) (st := [(.int (2 : Int32)), (.ref b_36), (.ref qa)]) (by rw [hml]; rfl) rfl (Nat.le_of_eq rfl) (hb hby in2_2_45)
    refine Go.of ?_ st_45
    rw [List.append_nil] at X_45
    show Go p e below _ (T_45.setTop (mkF m 48 #[.val (.ref qa), .val (.ref qc), .val (.int (0 : Int32)), .val (.int (2 : Int32)), .val .null, .val (.ref b_36)] [(.int (1 : Int32)), (.ref qa)]))
    obtain ⟨T_48, h_48, X_48, e_48, W_48, st_48⟩ := g_putF X_45 hx hZ hown (hw _ (List.mem_of_getElem? (i := 26) rfl)) Via.refl e_45 F_36_3 F_36_1 (Or.inr ⟨hw _ (List.mem_of_getElem? (i := 22) rfl), rfl, hnm⟩) (hw _ (List.mem_of_getElem? (i := 6) rfl)) (ty := .byte) (v := (.int (1 : Int32))) (by decide) rfl rfl 51 (hb hby in2_2_48) rfl
    refine st_48 ?_
    have F_48_0 : Fld Z h_48 qa "java/lang/String" "value" "[B" .null := F_36_2.other W_48 (Or.inr (Jvm.RoadKit.slot_ne (Or.inr (hw _ (List.mem_of_getElem? (i := 21) rfl))) (Or.inr (hw _ (List.mem_of_getElem? (i := 22) rfl))) (by decide) (t := .array (.byte)) (t' := .byte) (by decide) (by decide)))
    have F_48_1 : Fld Z h_48 qa "java/lang/String" "coder" "B" (.int (1 : Int32)) := F_36_3.same W_48
    have F_48_2 : Arl Z h_48 qc .char [(.int c0), (.int c1)] := F_36_0.other W_48 hne
    have F_48_3 : Exa Z h_48 qa "java/lang/String" := F_36_1.wr W_48
    have F_48_4 : Arl Z h_48 b_36 .byte [(.int (lo8 c0)), (.int (hi8 c0)), (.int (lo8 c1)), (.int (hi8 c1))] := B_36.other W_48 (Ne.symm nb_36_qa)
    have N_48 := Fr.snoc X_48 N_36 ga
    have Z_48 : h0.size ≤ h_48.size := by rw [W_48.size]; exact Z_36
    have O_48 := Old.wr O_36 W_48 ga
    refine g_aload_n X_48 hx 52 (.ref qa) (hb hby in2_2_51) rfl rfl rfl ?_
    refine g_aload X_48 hx 54 (.ref b_36) (hb hby in2_2_52) rfl rfl rfl ?_
    obtain ⟨T_54, h_54, X_54, e_54, W_54, st_54⟩ := g_putF X_48 hx hZ hown (hw _ (List.mem_of_getElem? (i := 25) rfl)) Via.refl e_48 F_48_0 F_48_3 (Or.inr ⟨hw _ (List.mem_of_getElem? (i := 21) rfl), rfl, hnm⟩) (hw _ (List.mem_of_getElem? (i := 6) rfl)) (ty := .array (.byte)) (v := (.ref b_36)) (by decide) rfl rfl 57 (hb hby in2_2_54) rfl
    refine st_54 ?_
    have F_54_0 : Fld Z h_54 qa "java/lang/String" "value" "[B" (.ref b_36) := F_48_0.same W_54
    have F_54_1 : Fld Z h_54 qa "java/lang/String" "coder" "B" (.int (1 : Int32)) := F_48_1.other W_54 (Or.inr (Jvm.RoadKit.slot_ne (Or.inr (hw _ (List.mem_of_getElem? (i := 22) rfl))) (Or.inr (hw _ (List.mem_of_getElem? (i := 21) rfl))) (by decide) (t := .byte) (t' := .array (.byte)) (by decide) (by decide)))
    have F_54_2 : Arl Z h_54 qc .char [(.int c0), (.int c1)] := F_48_2.other W_54 hne
    have F_54_3 : Exa Z h_54 qa "java/lang/String" := F_48_3.wr W_54
    have F_54_4 : Arl Z h_54 b_36 .byte [(.int (lo8 c0)), (.int (hi8 c0)), (.int (lo8 c1)), (.int (hi8 c1))] := F_48_4.other W_54 (Ne.symm nb_36_qa)
    have N_54 := Fr.snoc X_54 N_48 ga
    have Z_54 : h0.size ≤ h_54.size := by rw [W_54.size]; exact Z_48
    have O_54 := Old.wr O_48 W_54 ga
    have hl : lat [c0, c1] = false := by simp [lat, hA]
    have hT' : Stl Z h_54 qa b_36 (coOf [c0, c1]) ((bsOf [c0, c1]).map Value.int) := by simp only [coOf, bsOf, hl]; exact ⟨F_54_3, F_54_1, F_54_0, F_54_4⟩
    exact Go.retV X_54 hx hlk Bd.returns (hb hby in2_2_57) (by decide) (by decide) ⟨b_36, rfl, gg_36, N_54, e_54.symm ▸ ((((Keep.refl _ _).trans K_36 all0).wr W_48 (Or.inl (by simp))).wr W_54 (Or.inl (by simp))), e_54.symm ▸ hT'⟩
  · by_cases hB : (255 : Int32) < c1
    ·
      obtain ⟨_, T_36x1, L_36x1, X_36x1, ⟨b_36x1, rfl, g_36x1, M_36x1, K_36x1, B_36x1⟩, st_36x1⟩ := g_callS X_27 hx hZ  (own := "java/lang/String") (index := 177) (y := (⟨"java/lang/StringUTF16", "compress", "([CII)[B"⟩ : MethodName)) (as' := [(.ref qc), (.int (0 : Int32)), (.int (2 : Int32))]) hown (hw _ (List.mem_of_getElem? (i := 67) rfl)) (hw _ (List.mem_of_getElem? (i := 68) rfl)) (hw _ (List.mem_of_getElem? (i := 69) rfl)) (hw _ (List.mem_of_getElem? (i := 70) rfl)) (by decide) e_27 (rm_cp1b l Z a0 hw qc h0 n0 XO SA SH SL c0 c1 hA hB h0c h1c A1) pd_cp1b rfl 0 (by decide) (by decide) (by decide) (by decide) (pc := 36) (Ls := #[.val (.ref qa), .val (.ref qc), .val (.int (0 : Int32)), .val (.int (2 : Int32)), .val .null, .unset]) (rest := []) (st := [(.int (2 : Int32)), (.int (0 : Int32)), (.ref qc)]) (by rw [hml]; rfl) rfl (Nat.le_of_eq rfl) (hb hby in2_2_36)
      refine Go.of ?_ st_36x1
      have F_36x1_0 : Arl Z T_36x1.heap qc .char [(.int c0), (.int c1)] := A1.keep K_36x1 nin0
      have F_36x1_1 : Exa Z T_36x1.heap qa "java/lang/String" := E1.keep K_36x1
      have F_36x1_2 : Fld Z T_36x1.heap qa "java/lang/String" "value" "[B" .null := F1.keep K_36x1 nin0
      have F_36x1_3 : Fld Z T_36x1.heap qa "java/lang/String" "coder" "B" (.int (0 : Int32)) := F2.keep K_36x1 nin0
      have N_36x1 := Fr.app (Fr.nil _) M_36x1
      have Z_36x1 : h0.size ≤ T_36x1.heap.size := Nat.le_trans (Nat.le_refl _) K_36x1.1
      have O_36x1 := Old.keep XO K_36x1 all0
      have gn_36x1 : n0 ≤ b_36x1 := Nat.le_trans (Nat.le_trans (XO.1 ▸ XO.2.1) (Nat.le_refl _)) g_36x1
      have gg_36x1 : h0.size ≤ b_36x1 := Nat.le_trans (Nat.le_refl _) g_36x1
      have nb_36x1_qa : qa ≠ b_36x1 := Nat.ne_of_lt (Nat.lt_of_lt_of_le E1.lt g_36x1)
      have nb_36x1_qc : qc ≠ b_36x1 := Nat.ne_of_lt (Nat.lt_of_lt_of_le A1.lt g_36x1)
      show Go p e below _ (T_36x1.setTop (mkF m 39 #[.val (.ref qa), .val (.ref qc), .val (.int (0 : Int32)), .val (.int (2 : Int32)), .val .null, .unset] [(.ref b_36x1)]))
      refine g_astore X_36x1 hx 41 #[.val (.ref qa), .val (.ref qc), .val (.int (0 : Int32)), .val (.int (2 : Int32)), .val .null, .val (.ref b_36x1)] (hb hby in2_2_39) rfl rfl rfl ?_
      refine g_aload_n X_36x1 hx 42 (.ref qa) (hb hby in2_2_41) rfl rfl rfl ?_
      refine g_aload X_36x1 hx 44 (.ref b_36x1) (hb hby in2_2_42) rfl rfl rfl ?_
      refine g_iload_n X_36x1 hx 45 (2 : Int32) (hb hby in2_2_44) rfl rfl ?_
      obtain ⟨_, T_45x1, L_45x1, X_45x1, ⟨rfl, rfl, e_45x1⟩, st_45x1⟩ := g_callS X_36x1 hx hZ  (own := "java/lang/String") (index := 47) (y := (⟨"java/lang/StringUTF16", "coderFromArrayLen", "([BI)B"⟩ : MethodName)) (as' := [(.ref b_36x1), (.int (2 : Int32))]) hown (hw _ (List.mem_of_getElem? (i := 74) rfl)) (hw _ (List.mem_of_getElem? (i := 75) rfl)) (hw _ (List.mem_of_getElem? (i := 69) rfl)) (hw _ (List.mem_of_getElem? (i := 76) rfl)) (by decide) rfl (rm_cfu l Z a0 hw b_36x1 (2 : Int32) T_36x1.heap [(.int (lo8 c0)), (.int (hi8 c0)), (.int (lo8 c1)), (.int (hi8 c1))] (4 : Int32) (1 : Int32) rfl (by decide) B_36x1) pd_cfu rfl 1 (by decide) (by decide) (by decide) (by decide) (pc := 45) (Ls := #[.val (.ref qa), .val (.ref qc), .val (.int (0 : Int32)), .val (.int (2 : Int32)), .val .null, .val (.ref b_36x1)]) (rest := [(.ref qa)]) (st := [(.int (2 : Int32)), (.ref b_36x1), (.ref qa)]) (by rw [hml]; rfl) rfl (Nat.le_of_eq rfl) (hb hby in2_2_45)
      refine Go.of ?_ st_45x1
      rw [List.append_nil] at X_45x1
      show Go p e below _ (T_45x1.setTop (mkF m 48 #[.val (.ref qa), .val (.ref qc), .val (.int (0 : Int32)), .val (.int (2 : Int32)), .val .null, .val (.ref b_36x1)] [(.int (1 : Int32)), (.ref qa)]))
      obtain ⟨T_48x1, h_48x1, X_48x1, e_48x1, W_48x1, st_48x1⟩ := g_putF X_45x1 hx hZ hown (hw _ (List.mem_of_getElem? (i := 26) rfl)) Via.refl e_45x1 F_36x1_3 F_36x1_1 (Or.inr ⟨hw _ (List.mem_of_getElem? (i := 22) rfl), rfl, hnm⟩) (hw _ (List.mem_of_getElem? (i := 6) rfl)) (ty := .byte) (v := (.int (1 : Int32))) (by decide) rfl rfl 51 (hb hby in2_2_48) rfl
      refine st_48x1 ?_
      have F_48x1_0 : Fld Z h_48x1 qa "java/lang/String" "value" "[B" .null := F_36x1_2.other W_48x1 (Or.inr (Jvm.RoadKit.slot_ne (Or.inr (hw _ (List.mem_of_getElem? (i := 21) rfl))) (Or.inr (hw _ (List.mem_of_getElem? (i := 22) rfl))) (by decide) (t := .array (.byte)) (t' := .byte) (by decide) (by decide)))
      have F_48x1_1 : Fld Z h_48x1 qa "java/lang/String" "coder" "B" (.int (1 : Int32)) := F_36x1_3.same W_48x1
      have F_48x1_2 : Arl Z h_48x1 qc .char [(.int c0), (.int c1)] := F_36x1_0.other W_48x1 hne
      have F_48x1_3 : Exa Z h_48x1 qa "java/lang/String" := F_36x1_1.wr W_48x1
      have F_48x1_4 : Arl Z h_48x1 b_36x1 .byte [(.int (lo8 c0)), (.int (hi8 c0)), (.int (lo8 c1)), (.int (hi8 c1))] := B_36x1.other W_48x1 (Ne.symm nb_36x1_qa)
      have N_48x1 := Fr.snoc X_48x1 N_36x1 ga
      have Z_48x1 : h0.size ≤ h_48x1.size := by rw [W_48x1.size]; exact Z_36x1
      have O_48x1 := Old.wr O_36x1 W_48x1 ga
      refine g_aload_n X_48x1 hx 52 (.ref qa) (hb hby in2_2_51) rfl rfl rfl ?_
      refine g_aload X_48x1 hx 54 (.ref b_36x1) (hb hby in2_2_52) rfl rfl rfl ?_
      obtain ⟨T_54x1, h_54x1, X_54x1, e_54x1, W_54x1, st_54x1⟩ := g_putF X_48x1 hx hZ hown (hw _ (List.mem_of_getElem? (i := 25) rfl)) Via.refl e_48x1 F_48x1_0 F_48x1_3 (Or.inr ⟨hw _ (List.mem_of_getElem? (i := 21) rfl), rfl, hnm⟩) (hw _ (List.mem_of_getElem? (i := 6) rfl)) (ty := .array (.byte)) (v := (.ref b_36x1)) (by decide) rfl rfl 57 (hb hby in2_2_54) rfl
      refine st_54x1 ?_
      have F_54x1_0 : Fld Z h_54x1 qa "java/lang/String" "value" "[B" (.ref b_36x1) := F_48x1_0.same W_54x1
      have F_54x1_1 : Fld Z h_54x1 qa "java/lang/String" "coder" "B" (.int (1 : Int32)) := F_48x1_1.other W_54x1 (Or.inr (Jvm.RoadKit.slot_ne (Or.inr (hw _ (List.mem_of_getElem? (i := 22) rfl))) (Or.inr (hw _ (List.mem_of_getElem? (i := 21) rfl))) (by decide) (t := .byte) (t' := .array (.byte)) (by decide) (by decide)))
      have F_54x1_2 : Arl Z h_54x1 qc .char [(.int c0), (.int c1)] := F_48x1_2.other W_54x1 hne
      have F_54x1_3 : Exa Z h_54x1 qa "java/lang/String" := F_48x1_3.wr W_54x1
      have F_54x1_4 : Arl Z h_54x1 b_36x1 .byte [(.int (lo8 c0)), (.int (hi8 c0)), (.int (lo8 c1)), (.int (hi8 c1))] := F_48x1_4.other W_54x1 (Ne.symm nb_36x1_qa)
      have N_54x1 := Fr.snoc X_54x1 N_48x1 ga
      have Z_54x1 : h0.size ≤ h_54x1.size := by rw [W_54x1.size]; exact Z_48x1
      have O_54x1 := Old.wr O_48x1 W_54x1 ga
      have hl : lat [c0, c1] = false := by simp [lat, hA, hB]
      have hT' : Stl Z h_54x1 qa b_36x1 (coOf [c0, c1]) ((bsOf [c0, c1]).map Value.int) := by simp only [coOf, bsOf, hl]; exact ⟨F_54x1_3, F_54x1_1, F_54x1_0, F_54x1_4⟩
      exact Go.retV X_54x1 hx hlk Bd.returns (hb hby in2_2_57) (by decide) (by decide) ⟨b_36x1, rfl, gg_36x1, N_54x1, e_54x1.symm ▸ ((((Keep.refl _ _).trans K_36x1 all0).wr W_48x1 (Or.inl (by simp))).wr W_54x1 (Or.inl (by simp))), e_54x1.symm ▸ hT'⟩
    ·
      obtain ⟨_, T_36x2, L_36x2, X_36x2, ⟨b_36x2, rfl, g_36x2, M_36x2, K_36x2, B_36x2⟩, st_36x2⟩ := g_callS X_27 hx hZ  (own := "java/lang/String") (index := 177) (y := (⟨"java/lang/StringUTF16", "compress", "([CII)[B"⟩ : MethodName)) (as' := [(.ref qc), (.int (0 : Int32)), (.int (2 : Int32))]) hown (hw _ (List.mem_of_getElem? (i := 67) rfl)) (hw _ (List.mem_of_getElem? (i := 68) rfl)) (hw _ (List.mem_of_getElem? (i := 69) rfl)) (hw _ (List.mem_of_getElem? (i := 70) rfl)) (by decide) e_27 (rm_cp1_2 l Z a0 hw qc h0 n0 (XO.1 ▸ XO.2.1) c0 c1 hA hB A1) pd_cp1_2 rfl 0 (by decide) (by decide) (by decide) (by decide) (pc := 36) (Ls := #[.val (.ref qa), .val (.ref qc), .val (.int (0 : Int32)), .val (.int (2 : Int32)), .val .null, .unset]) (rest := []) (st := [(.int (2 : Int32)), (.int (0 : Int32)), (.ref qc)]) (by rw [hml]; rfl) rfl (Nat.le_of_eq rfl) (hb hby in2_2_36)
      refine Go.of ?_ st_36x2
      have F_36x2_0 : Arl Z T_36x2.heap qc .char [(.int c0), (.int c1)] := A1.keep K_36x2 nin0
      have F_36x2_1 : Exa Z T_36x2.heap qa "java/lang/String" := E1.keep K_36x2
      have F_36x2_2 : Fld Z T_36x2.heap qa "java/lang/String" "value" "[B" .null := F1.keep K_36x2 nin0
      have F_36x2_3 : Fld Z T_36x2.heap qa "java/lang/String" "coder" "B" (.int (0 : Int32)) := F2.keep K_36x2 nin0
      have N_36x2 := Fr.app (Fr.nil _) M_36x2
      have Z_36x2 : h0.size ≤ T_36x2.heap.size := Nat.le_trans (Nat.le_refl _) K_36x2.1
      have O_36x2 := Old.keep XO K_36x2 all0
      have gn_36x2 : n0 ≤ b_36x2 := Nat.le_trans (Nat.le_trans (XO.1 ▸ XO.2.1) (Nat.le_refl _)) g_36x2
      have gg_36x2 : h0.size ≤ b_36x2 := Nat.le_trans (Nat.le_refl _) g_36x2
      have nb_36x2_qa : qa ≠ b_36x2 := Nat.ne_of_lt (Nat.lt_of_lt_of_le E1.lt g_36x2)
      have nb_36x2_qc : qc ≠ b_36x2 := Nat.ne_of_lt (Nat.lt_of_lt_of_le A1.lt g_36x2)
      show Go p e below _ (T_36x2.setTop (mkF m 39 #[.val (.ref qa), .val (.ref qc), .val (.int (0 : Int32)), .val (.int (2 : Int32)), .val .null, .unset] [(.ref b_36x2)]))
      refine g_astore X_36x2 hx 41 #[.val (.ref qa), .val (.ref qc), .val (.int (0 : Int32)), .val (.int (2 : Int32)), .val .null, .val (.ref b_36x2)] (hb hby in2_2_39) rfl rfl rfl ?_
      refine g_aload_n X_36x2 hx 42 (.ref qa) (hb hby in2_2_41) rfl rfl rfl ?_
      refine g_aload X_36x2 hx 44 (.ref b_36x2) (hb hby in2_2_42) rfl rfl rfl ?_
      refine g_iload_n X_36x2 hx 45 (2 : Int32) (hb hby in2_2_44) rfl rfl ?_
      obtain ⟨_, T_45x2, L_45x2, X_45x2, ⟨rfl, rfl, e_45x2⟩, st_45x2⟩ := g_callS X_36x2 hx hZ  (own := "java/lang/String") (index := 47) (y := (⟨"java/lang/StringUTF16", "coderFromArrayLen", "([BI)B"⟩ : MethodName)) (as' := [(.ref b_36x2), (.int (2 : Int32))]) hown (hw _ (List.mem_of_getElem? (i := 74) rfl)) (hw _ (List.mem_of_getElem? (i := 75) rfl)) (hw _ (List.mem_of_getElem? (i := 69) rfl)) (hw _ (List.mem_of_getElem? (i := 76) rfl)) (by decide) rfl (rm_cfu l Z a0 hw b_36x2 (2 : Int32) T_36x2.heap [(.int (c0.toInt8.toInt32)), (.int (c1.toInt8.toInt32))] (2 : Int32) (0 : Int32) rfl (by decide) B_36x2) pd_cfu rfl 1 (by decide) (by decide) (by decide) (by decide) (pc := 45) (Ls := #[.val (.ref qa), .val (.ref qc), .val (.int (0 : Int32)), .val (.int (2 : Int32)), .val .null, .val (.ref b_36x2)]) (rest := [(.ref qa)]) (st := [(.int (2 : Int32)), (.ref b_36x2), (.ref qa)]) (by rw [hml]; rfl) rfl (Nat.le_of_eq rfl) (hb hby in2_2_45)
      refine Go.of ?_ st_45x2
      rw [List.append_nil] at X_45x2
      show Go p e below _ (T_45x2.setTop (mkF m 48 #[.val (.ref qa), .val (.ref qc), .val (.int (0 : Int32)), .val (.int (2 : Int32)), .val .null, .val (.ref b_36x2)] [(.int (0 : Int32)), (.ref qa)]))
      obtain ⟨T_48x2, h_48x2, X_48x2, e_48x2, W_48x2, st_48x2⟩ := g_putF X_45x2 hx hZ hown (hw _ (List.mem_of_getElem? (i := 26) rfl)) Via.refl e_45x2 F_36x2_3 F_36x2_1 (Or.inr ⟨hw _ (List.mem_of_getElem? (i := 22) rfl), rfl, hnm⟩) (hw _ (List.mem_of_getElem? (i := 6) rfl)) (ty := .byte) (v := (.int (0 : Int32))) (by decide) rfl rfl 51 (hb hby in2_2_48) rfl
      refine st_48x2 ?_
      have F_48x2_0 : Fld Z h_48x2 qa "java/lang/String" "value" "[B" .null := F_36x2_2.other W_48x2 (Or.inr (Jvm.RoadKit.slot_ne (Or.inr (hw _ (List.mem_of_getElem? (i := 21) rfl))) (Or.inr (hw _ (List.mem_of_getElem? (i := 22) rfl))) (by decide) (t := .array (.byte)) (t' := .byte) (by decide) (by decide)))
      have F_48x2_1 : Fld Z h_48x2 qa "java/lang/String" "coder" "B" (.int (0 : Int32)) := F_36x2_3.same W_48x2
      have F_48x2_2 : Arl Z h_48x2 qc .char [(.int c0), (.int c1)] := F_36x2_0.other W_48x2 hne
      have F_48x2_3 : Exa Z h_48x2 qa "java/lang/String" := F_36x2_1.wr W_48x2
      have F_48x2_4 : Arl Z h_48x2 b_36x2 .byte [(.int (c0.toInt8.toInt32)), (.int (c1.toInt8.toInt32))] := B_36x2.other W_48x2 (Ne.symm nb_36x2_qa)
      have N_48x2 := Fr.snoc X_48x2 N_36x2 ga
      have Z_48x2 : h0.size ≤ h_48x2.size := by rw [W_48x2.size]; exact Z_36x2
      have O_48x2 := Old.wr O_36x2 W_48x2 ga
      refine g_aload_n X_48x2 hx 52 (.ref qa) (hb hby in2_2_51) rfl rfl rfl ?_
      refine g_aload X_48x2 hx 54 (.ref b_36x2) (hb hby in2_2_52) rfl rfl rfl ?_
      obtain ⟨T_54x2, h_54x2, X_54x2, e_54x2, W_54x2, st_54x2⟩ := g_putF X_48x2 hx hZ hown (hw _ (List.mem_of_getElem? (i := 25) rfl)) Via.refl e_48x2 F_48x2_0 F_48x2_3 (Or.inr ⟨hw _ (List.mem_of_getElem? (i := 21) rfl), rfl, hnm⟩) (hw _ (List.mem_of_getElem? (i := 6) rfl)) (ty := .array (.byte)) (v := (.ref b_36x2)) (by decide) rfl rfl 57 (hb hby in2_2_54) rfl
      refine st_54x2 ?_
      have F_54x2_0 : Fld Z h_54x2 qa "java/lang/String" "value" "[B" (.ref b_36x2) := F_48x2_0.same W_54x2
      have F_54x2_1 : Fld Z h_54x2 qa "java/lang/String" "coder" "B" (.int (0 : Int32)) := F_48x2_1.other W_54x2 (Or.inr (Jvm.RoadKit.slot_ne (Or.inr (hw _ (List.mem_of_getElem? (i := 22) rfl))) (Or.inr (hw _ (List.mem_of_getElem? (i := 21) rfl))) (by decide) (t := .byte) (t' := .array (.byte)) (by decide) (by decide)))
      have F_54x2_2 : Arl Z h_54x2 qc .char [(.int c0), (.int c1)] := F_48x2_2.other W_54x2 hne
      have F_54x2_3 : Exa Z h_54x2 qa "java/lang/String" := F_48x2_3.wr W_54x2
      have F_54x2_4 : Arl Z h_54x2 b_36x2 .byte [(.int (c0.toInt8.toInt32)), (.int (c1.toInt8.toInt32))] := F_48x2_4.other W_54x2 (Ne.symm nb_36x2_qa)
      have N_54x2 := Fr.snoc X_54x2 N_48x2 ga
      have Z_54x2 : h0.size ≤ h_54x2.size := by rw [W_54x2.size]; exact Z_48x2
      have O_54x2 := Old.wr O_48x2 W_54x2 ga
      have hl : lat [c0, c1] = true := by simp [lat, hA, hB]
      have hT' : Stl Z h_54x2 qa b_36x2 (coOf [c0, c1]) ((bsOf [c0, c1]).map Value.int) := by simp only [coOf, bsOf, hl]; exact ⟨F_54x2_3, F_54x2_1, F_54x2_0, F_54x2_4⟩
      exact Go.retV X_54x2 hx hlk Bd.returns (hb hby in2_2_57) (by decide) (by decide) ⟨b_36x2, rfl, gg_36x2, N_54x2, e_54x2.symm ▸ ((((Keep.refl _ _).trans K_36x2 all0).wr W_48x2 (Or.inl (by simp))).wr W_54x2 (Or.inl (by simp))), e_54x2.symm ▸ hT'⟩
theorem in1_2_0 : decode jdk_42_method_3_code 0 = .ok (.aload_n 0, 1) := by decide +kernel
theorem in1_2_1 : decode jdk_42_method_3_code 1 = .ok (.aload_n 1, 1) := by decide +kernel
theorem in1_2_2 : decode jdk_42_method_3_code 2 = .ok (.iconst 0, 1) := by decide +kernel
theorem in1_2_3 : decode jdk_42_method_3_code 3 = .ok (.aload_n 1, 1) := by decide +kernel
theorem in1_2_4 : decode jdk_42_method_3_code 4 = .ok (.arraylength, 1) := by decide +kernel
theorem in1_2_5 : decode jdk_42_method_3_code 5 = .ok (.aconst_null, 1) := by decide +kernel
theorem in1_2_6 : decode jdk_42_method_3_code 6 = .ok (.invokespecial 27, 3) := by decide +kernel
theorem in1_2_9 : decode jdk_42_method_3_code 9 = .ok (.return_, 1) := by decide +kernel
theorem pn_in1_2 : plainFor (⟨"java/lang/String", "<init>", "([C)V"⟩ : MethodName) = true := by first | exact plainFor_of_name (by first | (simp [plainName, overriddenIn]; done) | decide +kernel) | decide +kernel
theorem ef_in1_2 (m : MethodId) (qa : Addr) (qc : Addr)  : entryFrame m #[(.ref qa), (.ref qc)] 2 = mkF m 0 #[.val (.ref qa), .val (.ref qc)] [] := by first | (simp [entryFrame, mkF, argsToLocals, Value.category, maxLocals]; done) | rfl
theorem pd_in1_2 : parseMethodDescriptor "([C)V" = some ⟨[.array (.char)], none⟩ := by decide +kernel
set_option maxRecDepth 65536 in
set_option maxHeartbeats 40000000 in
theorem rm_in1_2 (l : Launch) (Z : State) (a0 : Array Value) (hw : ∀ d ∈ tables_1, d.before a0 Z = true)  (qa : Addr) (qc : Addr) (h0 : Heap) (n0 : Nat) (XO : Old Z n0 h0) (cs : Int32) (hcs : ¬ cs = (0 : Int32)) (SC : Sta Z Z.heap "java/lang/String" "COMPACT_STRINGS" "Z" (.int cs)) (SA : Sta Z Z.heap "java/lang/StringUTF16" "$assertionsDisabled" "Z" (.int (1 : Int32))) (SH : Sta Z Z.heap "java/lang/StringUTF16" "HI_BYTE_SHIFT" "I" (.int (0 : Int32))) (SL : Sta Z Z.heap "java/lang/StringUTF16" "LO_BYTE_SHIFT" "I" (.int (8 : Int32))) (ga : n0 ≤ qa) (hne : qc ≠ qa) (c0 c1 : Int32) (h0c : Ch c0) (h1c : Ch c1) (A1 : Arl Z h0 qc .char [(.int c0), (.int c1)])(E1 : Exa Z h0 qa "java/lang/String")(F1 : Fld Z h0 qa "java/lang/String" "value" "[B" .null)(F2 : Fld Z h0 qa "java/lang/String" "coder" "B" (.int (0 : Int32))) :
    MetFree l (⟨"java/lang/String", "<init>", "([C)V"⟩ : MethodName) (head1 [Jvm.Cond.code (⟨"java/lang/String", "<init>", "([C)V"⟩ : MethodName) jdk_42_method_3_code 2 none] ({ frames := 5, cells := 2, slots := 6, locals := 74 } : Room)) (fun a U => a = #[(.ref qa), (.ref qc)] ∧ Z.Warmed39 U.vm ∧ U.heap = h0) (fun _ _ _ _ _ => True) (fun _ U o U' => ∃ v L, o = .returned v ∧ S2Q Z qa c0 c1 h0 n0 v U'.heap L ∧ FrameEnd U o U' L ({ frames := 5, cells := 2, slots := 6, locals := 74 } : Room).cells ({ frames := 5, cells := 2, slots := 6, locals := 74 } : Room).slots) := by
  refine MetFree.of_bodySF pn_in1_2 hisR ?_
  intro p e s m args below meth c s₁ Bd hml0 hP hK
  obtain ⟨rfl, hZ, hh⟩ := hP
  have hx := Bd.exec
  have hby := Bd.bytes
  have hml : c.maxLocals = 2 := hml0
  have hown : s.vm.findClass "java/lang/String" = some m.cls := findClass_of_methodNamed Bd.named
  have hnm := (name_of_methodNamed Bd.named Bd.method).1
  have hlk : meth.locks = false := BodyLoose.notSynchronized Bd
  have X0 : Stand p l e ({ frames := 5, cells := 2, slots := 6, locals := 74 } : Room) s m #[(.ref qa), (.ref qc)] below meth c s₁ [] 0 0 := Stand.of_body Bd
  have e0 : s₁.heap = h0 := by rw [← hh, Bd.state]; rfl
  show Go p e below (EndN below s (S2Q Z qa c0 c1 h0 n0) ({ frames := 5, cells := 2, slots := 6, locals := 74 } : Room).cells ({ frames := 5, cells := 2, slots := 6, locals := 74 } : Room).slots) (s₁.setTop (entryFrame m #[(.ref qa), (.ref qc)] 2))
  rw [ef_in1_2]
  refine g_aload_n X0 hx 1 (.ref qa) (hb hby in1_2_0) rfl rfl rfl ?_
  refine g_aload_n X0 hx 2 (.ref qc) (hb hby in1_2_1) rfl rfl rfl ?_
  refine g_iconst X0 hx 3 (0 : Int32) (hb hby in1_2_2) rfl rfl ?_
  refine g_aload_n X0 hx 4 (.ref qc) (hb hby in1_2_3) rfl rfl rfl ?_
  refine g_alen X0 hx hZ e0 A1 (2 : Int32) rfl 5 (hb hby in1_2_4) rfl ?_
  refine g_aconst_null X0 hx 6 (hb hby in1_2_5) rfl ?_
  obtain ⟨_, T_6, L_6, X_6, ⟨b_6, rfl, g_6, M_6, K_6, Q_6⟩, st_6⟩ := g_callI X0 hx hZ  (own := "java/lang/String") (index := 27) (y := (⟨"java/lang/String", "<init>", "([CIILjava/lang/Void;)V"⟩ : MethodName)) (a := qa) (as' := [(.ref qc), (.int (0 : Int32)), (.int (2 : Int32)), .null]) rfl hown (hw _ (List.mem_of_getElem? (i := 12) rfl)) (hw _ (List.mem_of_getElem? (i := 13) rfl)) (hw _ (List.mem_of_getElem? (i := 7) rfl)) (hw _ (List.mem_of_getElem? (i := 15) rfl)) (by decide) e0 (rm_in2_2 l Z a0 hw qa qc h0 n0 XO cs hcs SC SA SH SL ga hne c0 c1 h0c h1c A1 E1 F1 F2) pd_in2_2 rfl 0 (by decide) (by decide) (by decide) (by decide) (pc := 6) (Ls := #[.val (.ref qa), .val (.ref qc)]) (rest := []) (st := [.null, (.int (2 : Int32)), (.int (0 : Int32)), (.ref qc), (.ref qa)]) (by rw [hml]; rfl) rfl (Nat.le_of_eq rfl) (hb hby in1_2_6)
  refine st_6 ?_
  show Go p e below _ (T_6.setTop (mkF m 9 #[.val (.ref qa), .val (.ref qc)] []))
  exact Go.retV X_6 hx hlk Bd.returns (hb hby in1_2_9) (by decide) (by decide) ⟨_, rfl, g_6, (Fr.app (Fr.nil _) M_6), K_6, Q_6⟩
def BBQ (Z : State) (qa qb : Addr) (q1 : Int32) (h0 : Heap) (n0 : Nat) (v : Option Value) (h : Heap) (L : List Loc) : Prop := v = none ∧ Fr n0 L ∧ Keep h0 h [qa] ∧ Exa Z h qa "java/lang/String" ∧ Fld Z h qa "java/lang/String" "coder" "B" (.int q1) ∧ Fld Z h qa "java/lang/String" "value" "[B" (.ref qb)
theorem inb_0 : decode jdk_42_method_151_code 0 = .ok (.aload_n 0, 1) := by decide +kernel
theorem inb_1 : decode jdk_42_method_151_code 1 = .ok (.invokespecial 1, 3) := by decide +kernel
theorem inb_4 : decode jdk_42_method_151_code 4 = .ok (.aload_n 0, 1) := by decide +kernel
theorem inb_5 : decode jdk_42_method_151_code 5 = .ok (.aload_n 1, 1) := by decide +kernel
theorem inb_6 : decode jdk_42_method_151_code 6 = .ok (.putfield 9, 3) := by decide +kernel
theorem inb_9 : decode jdk_42_method_151_code 9 = .ok (.aload_n 0, 1) := by decide +kernel
theorem inb_10 : decode jdk_42_method_151_code 10 = .ok (.iload_n 2, 1) := by decide +kernel
theorem inb_11 : decode jdk_42_method_151_code 11 = .ok (.putfield 15, 3) := by decide +kernel
theorem inb_14 : decode jdk_42_method_151_code 14 = .ok (.return_, 1) := by decide +kernel
theorem pn_inb : plainFor (⟨"java/lang/String", "<init>", "([BB)V"⟩ : MethodName) = true := by first | exact plainFor_of_name (by first | (simp [plainName, overriddenIn]; done) | decide +kernel) | decide +kernel
theorem ef_inb (m : MethodId) (qa : Addr) (qb : Addr) (q1 : Int32)  : entryFrame m #[(.ref qa), (.ref qb), (.int q1)] 3 = mkF m 0 #[.val (.ref qa), .val (.ref qb), .val (.int q1)] [] := by first | (simp [entryFrame, mkF, argsToLocals, Value.category, maxLocals]; done) | rfl
theorem pd_inb : parseMethodDescriptor "([BB)V" = some ⟨[.array (.byte), .byte], none⟩ := by decide +kernel
set_option maxRecDepth 65536 in
set_option maxHeartbeats 40000000 in
theorem rm_inb (l : Launch) (Z : State) (a0 : Array Value) (hw : ∀ d ∈ tables_1, d.before a0 Z = true)  (qa : Addr) (qb : Addr) (q1 : Int32) (h0 : Heap) (n0 : Nat) (ga : n0 ≤ qa) (hq : nar .byte q1 = q1) (hqf : fits .byte (.int q1) = true) (E1 : Exa Z h0 qa "java/lang/String")(F1 : Fld Z h0 qa "java/lang/String" "value" "[B" .null)(F2 : Fld Z h0 qa "java/lang/String" "coder" "B" (.int (0 : Int32))) :
    MetFree l (⟨"java/lang/String", "<init>", "([BB)V"⟩ : MethodName) (head1 [Jvm.Cond.code (⟨"java/lang/String", "<init>", "([BB)V"⟩ : MethodName) jdk_42_method_151_code 3 none] ({ frames := 1, cells := 0, slots := 0, locals := 12 } : Room)) (fun a U => a = #[(.ref qa), (.ref qb), (.int q1)] ∧ Z.Warmed39 U.vm ∧ U.heap = h0) (fun _ _ _ _ _ => True) (fun _ U o U' => ∃ v L, o = .returned v ∧ BBQ Z qa qb q1 h0 n0 v U'.heap L ∧ FrameEnd U o U' L ({ frames := 1, cells := 0, slots := 0, locals := 12 } : Room).cells ({ frames := 1, cells := 0, slots := 0, locals := 12 } : Room).slots) := by
  refine MetFree.of_bodySF pn_inb hisR ?_
  intro p e s m args below meth c s₁ Bd hml0 hP hK
  obtain ⟨rfl, hZ, hh⟩ := hP
  have hx := Bd.exec
  have hby := Bd.bytes
  have hml : c.maxLocals = 3 := hml0
  have hown : s.vm.findClass "java/lang/String" = some m.cls := findClass_of_methodNamed Bd.named
  have hnm := (name_of_methodNamed Bd.named Bd.method).1
  have hlk : meth.locks = false := BodyLoose.notSynchronized Bd
  have X0 : Stand p l e ({ frames := 1, cells := 0, slots := 0, locals := 12 } : Room) s m #[(.ref qa), (.ref qb), (.int q1)] below meth c s₁ [] 0 0 := Stand.of_body Bd
  have e0 : s₁.heap = h0 := by rw [← hh, Bd.state]; rfl
  show Go p e below (EndN below s (BBQ Z qa qb q1 h0 n0) ({ frames := 1, cells := 0, slots := 0, locals := 12 } : Room).cells ({ frames := 1, cells := 0, slots := 0, locals := 12 } : Room).slots) (s₁.setTop (entryFrame m #[(.ref qa), (.ref qb), (.int q1)] 3))
  rw [ef_inb]
  refine g_aload_n X0 hx 1 (.ref qa) (hb hby inb_0) rfl rfl rfl ?_
  obtain ⟨T_1, X_1, e_1, st_1⟩ := g_initO X0 hx hZ hown (hw _ (List.mem_of_getElem? (i := 16) rfl)) (hw _ (List.mem_of_getElem? (i := 17) rfl)) (hw _ (List.mem_of_getElem? (i := 18) rfl)) e0 0 (by decide) (by decide) 4 (a := qa) (Ls := #[.val (.ref qa), .val (.ref qb), .val (.int q1)]) (st := []) (by rw [hml]; rfl) (Nat.le_of_eq rfl) (hb hby inb_1) rfl
  refine st_1 ?_
  refine g_aload_n X_1 hx 5 (.ref qa) (hb hby inb_4) rfl rfl rfl ?_
  refine g_aload_n X_1 hx 6 (.ref qb) (hb hby inb_5) rfl rfl rfl ?_
  obtain ⟨T_6, h_6, X_6, e_6, W_6, st_6⟩ := g_putF X_1 hx hZ hown (hw _ (List.mem_of_getElem? (i := 25) rfl)) Via.refl e_1 F1 E1 (Or.inr ⟨hw _ (List.mem_of_getElem? (i := 21) rfl), rfl, hnm⟩) (hw _ (List.mem_of_getElem? (i := 6) rfl)) (ty := .array (.byte)) (v := (.ref qb)) (by decide) rfl rfl 9 (hb hby inb_6) rfl
  refine st_6 ?_
  have F_6_0 : Fld Z h_6 qa "java/lang/String" "value" "[B" (.ref qb) := F1.same W_6
  have F_6_1 : Fld Z h_6 qa "java/lang/String" "coder" "B" (.int (0 : Int32)) := F2.other W_6 (Or.inr (Jvm.RoadKit.slot_ne (Or.inr (hw _ (List.mem_of_getElem? (i := 22) rfl))) (Or.inr (hw _ (List.mem_of_getElem? (i := 21) rfl))) (by decide) (t := .byte) (t' := .array (.byte)) (by decide) (by decide)))
  have F_6_2 : Exa Z h_6 qa "java/lang/String" := E1.wr W_6
  have N_6 := Fr.snoc X_6 (Fr.nil _) ga
  have Z_6 : h0.size ≤ h_6.size := by rw [W_6.size]; exact (Nat.le_refl _)
  refine g_aload_n X_6 hx 10 (.ref qa) (hb hby inb_9) rfl rfl rfl ?_
  refine g_iload_n X_6 hx 11 q1 (hb hby inb_10) rfl rfl ?_
  obtain ⟨T_11, h_11, X_11, e_11, W_11, st_11⟩ := g_putF X_6 hx hZ hown (hw _ (List.mem_of_getElem? (i := 26) rfl)) Via.refl e_6 F_6_1 F_6_2 (Or.inr ⟨hw _ (List.mem_of_getElem? (i := 22) rfl), rfl, hnm⟩) (hw _ (List.mem_of_getElem? (i := 6) rfl)) (ty := .byte) (v := (.int q1)) (by decide) (by rw [show narrow .byte (.int q1) = .int (nar .byte q1) from rfl, hq]) hqf 14 (hb hby inb_11) rfl
  refine st_11 ?_
  have F_11_0 : Fld Z h_11 qa "java/lang/String" "value" "[B" (.ref qb) := F_6_0.other W_11 (Or.inr (Jvm.RoadKit.slot_ne (Or.inr (hw _ (List.mem_of_getElem? (i := 21) rfl))) (Or.inr (hw _ (List.mem_of_getElem? (i := 22) rfl))) (by decide) (t := .array (.byte)) (t' := .byte) (by decide) (by decide)))
  have F_11_1 : Fld Z h_11 qa "java/lang/String" "coder" "B" (.int q1) := F_6_1.same W_11
  have F_11_2 : Exa Z h_11 qa "java/lang/String" := F_6_2.wr W_11
  have N_11 := Fr.snoc X_11 N_6 ga
  have Z_11 : h0.size ≤ h_11.size := by rw [W_11.size]; exact Z_6
  exact Go.retV X_11 hx hlk Bd.returns (hb hby inb_14) (by decide) (by decide) ⟨rfl, N_11, e_11.symm ▸ (((Keep.refl _ _).wr W_6 (Or.inl (by simp))).wr W_11 (Or.inl (by simp))), e_11.symm ▸ F_11_2, e_11.symm ▸ F_11_1, e_11.symm ▸ F_11_0⟩
def VQ (Z : State) (cs : List Int32) (h0 : Heap) (n0 : Nat) (v : Option Value) (h : Heap) (L : List Loc) : Prop := ∃ qa qb : Addr, v = some (.ref qa) ∧ h0.size ≤ qa ∧ Fr n0 L ∧ Keep h0 h [] ∧ Stl Z h qa qb (coOf cs) ((bsOf cs).map Value.int)
theorem val_0 : decode jdk_42_method_139_code 0 = .ok (.getstatic 38, 3) := by decide +kernel
theorem val_3 : decode jdk_42_method_139_code 3 = .ok (.ifCond .eq 23, 3) := by decide +kernel
theorem val_6 : decode jdk_42_method_139_code 6 = .ok (.iload_n 0, 1) := by decide +kernel
theorem val_7 : decode jdk_42_method_139_code 7 = .ok (.invokestatic 1015, 3) := by decide +kernel
theorem val_10 : decode jdk_42_method_139_code 10 = .ok (.ifCond .eq 16, 3) := by decide +kernel
theorem val_13 : decode jdk_42_method_139_code 13 = .ok (.new 10, 3) := by decide +kernel
theorem val_16 : decode jdk_42_method_139_code 16 = .ok (.dup, 1) := by decide +kernel
theorem val_17 : decode jdk_42_method_139_code 17 = .ok (.iload_n 0, 1) := by decide +kernel
theorem val_18 : decode jdk_42_method_139_code 18 = .ok (.invokestatic 1018, 3) := by decide +kernel
theorem val_21 : decode jdk_42_method_139_code 21 = .ok (.iconst 0, 1) := by decide +kernel
theorem val_22 : decode jdk_42_method_139_code 22 = .ok (.invokespecial 209, 3) := by decide +kernel
theorem val_25 : decode jdk_42_method_139_code 25 = .ok (.areturn, 1) := by decide +kernel
theorem val_26 : decode jdk_42_method_139_code 26 = .ok (.new 10, 3) := by decide +kernel
theorem val_29 : decode jdk_42_method_139_code 29 = .ok (.dup, 1) := by decide +kernel
theorem val_30 : decode jdk_42_method_139_code 30 = .ok (.iload_n 0, 1) := by decide +kernel
theorem val_31 : decode jdk_42_method_139_code 31 = .ok (.invokestatic 1021, 3) := by decide +kernel
theorem val_34 : decode jdk_42_method_139_code 34 = .ok (.iconst 1, 1) := by decide +kernel
theorem val_35 : decode jdk_42_method_139_code 35 = .ok (.invokespecial 209, 3) := by decide +kernel
theorem val_38 : decode jdk_42_method_139_code 38 = .ok (.areturn, 1) := by decide +kernel
theorem pn_val : plainFor (⟨"java/lang/String", "valueOf", "(C)Ljava/lang/String;"⟩ : MethodName) = true := by first | exact plainFor_of_name (by first | (simp [plainName, overriddenIn]; done) | decide +kernel) | decide +kernel
theorem ef_val (m : MethodId) (q1 : Int32)  : entryFrame m #[(.int q1)] 1 = mkF m 0 #[.val (.int q1)] [] := by first | (simp [entryFrame, mkF, argsToLocals, Value.category, maxLocals]; done) | rfl
theorem pd_val : parseMethodDescriptor "(C)Ljava/lang/String;" = some ⟨[.char], some (.object "java/lang/String")⟩ := by decide +kernel
set_option maxRecDepth 65536 in
set_option maxHeartbeats 40000000 in
theorem rm_val (l : Launch) (Z : State) (a0 : Array Value) (hw : ∀ d ∈ tables_1, d.before a0 Z = true)  (q1 : Int32) (h0 : Heap) (n0 : Nat) (XO : Old Z n0 h0) (cs : Int32) (hcs : ¬ cs = (0 : Int32)) (SC : Sta Z Z.heap "java/lang/String" "COMPACT_STRINGS" "Z" (.int cs)) (SA : Sta Z Z.heap "java/lang/StringUTF16" "$assertionsDisabled" "Z" (.int (1 : Int32))) (SH : Sta Z Z.heap "java/lang/StringUTF16" "HI_BYTE_SHIFT" "I" (.int (0 : Int32))) (SL : Sta Z Z.heap "java/lang/StringUTF16" "LO_BYTE_SHIFT" "I" (.int (8 : Int32)))  :
    MetFree l (⟨"java/lang/String", "valueOf", "(C)Ljava/lang/String;"⟩ : MethodName) (head1 [Jvm.Cond.code (⟨"java/lang/String", "valueOf", "(C)Ljava/lang/String;"⟩ : MethodName) jdk_42_method_139_code 1 (some (Jvm.ClassFile.FieldType.object "java/lang/String"))] ({ frames := 2, cells := 2, slots := 6, locals := 32 } : Room)) (fun a U => a = #[(.int q1)] ∧ Z.Warmed39 U.vm ∧ U.heap = h0) (fun _ _ _ _ _ => True) (fun _ U o U' => ∃ v L, o = .returned v ∧ VQ Z [q1] h0 n0 v U'.heap L ∧ FrameEnd U o U' L ({ frames := 2, cells := 2, slots := 6, locals := 32 } : Room).cells ({ frames := 2, cells := 2, slots := 6, locals := 32 } : Room).slots) := by
  refine MetFree.of_bodySF pn_val hisR ?_
  intro p e s m args below meth c s₁ Bd hml0 hP hK
  obtain ⟨rfl, hZ, hh⟩ := hP
  have hx := Bd.exec
  have hby := Bd.bytes
  have hml : c.maxLocals = 1 := hml0
  have hown : s.vm.findClass "java/lang/String" = some m.cls := findClass_of_methodNamed Bd.named
  have hnm := (name_of_methodNamed Bd.named Bd.method).1
  have hlk : meth.locks = false := BodyLoose.notSynchronized Bd
  have X0 : Stand p l e ({ frames := 2, cells := 2, slots := 6, locals := 32 } : Room) s m #[(.int q1)] below meth c s₁ [] 0 0 := Stand.of_body Bd
  have e0 : s₁.heap = h0 := by rw [← hh, Bd.state]; rfl
  show Go p e below (EndN below s (VQ Z [q1] h0 n0) ({ frames := 2, cells := 2, slots := 6, locals := 32 } : Room).cells ({ frames := 2, cells := 2, slots := 6, locals := 32 } : Room).slots) (s₁.setTop (entryFrame m #[(.int q1)] 1))
  rw [ef_val]
  obtain ⟨T_0, X_0, e_0, st_0⟩ := g_getS X0 hx hZ hown (hw _ (List.mem_of_getElem? (i := 60) rfl)) e0 (SC.ext XO.2) 3 (hb hby val_0) rfl
  refine st_0 ?_
  refine g_ifN X_0 hx 6 (hb hby val_3) (XT.i0_eq_f hcs) rfl ?_
  refine g_iload_n X_0 hx 7 q1 (hb hby val_6) rfl rfl ?_
  by_cases hA : (255 : Int32) < q1
  ·
    obtain ⟨_, T_7, L_7, X_7, ⟨rfl, rfl, e_7⟩, st_7⟩ := g_callS X_0 hx hZ  (own := "java/lang/String") (index := 1015) (y := (⟨"java/lang/StringLatin1", "canEncode", "(C)Z"⟩ : MethodName)) (as' := [(.int q1)]) hown (hw _ (List.mem_of_getElem? (i := 80) rfl)) (hw _ (List.mem_of_getElem? (i := 81) rfl)) (hw _ (List.mem_of_getElem? (i := 63) rfl)) (hw _ (List.mem_of_getElem? (i := 82) rfl)) (by decide) e_0 (rm_cen l Z a0 hw q1 h0 (0 : Int32) (b2i_f (fun z => z hA))) pd_cen rfl 0 (by decide) (by decide) (by decide) (by decide) (pc := 7) (Ls := #[.val (.int q1)]) (rest := []) (st := [(.int q1)]) (by rw [hml]; rfl) rfl (Nat.le_of_eq rfl) (hb hby val_7)
    refine Go.of ?_ st_7
    rw [List.append_nil] at X_7
    show Go p e below _ (T_7.setTop (mkF m 10 #[.val (.int q1)] [(.int (0 : Int32))]))
    refine g_ifY X_7 hx 26 (hb hby val_10) (XT.i0_eq_t (by decide)) (by decide) (by decide) ?_
    obtain ⟨T_26, h_26, a_26, X_26, e_26, ga_26, E_26, A_26, D_26, st_26⟩ := g_newO X_7 hx hZ hown (hw _ (List.mem_of_getElem? (i := 59) rfl)) (hw _ (List.mem_of_getElem? (i := 6) rfl)) (hw _ (List.mem_of_getElem? (i := 7) rfl)) e_7 29 (hb hby val_26) rfl (by decide) (by decide)
    refine st_26 ?_
    have g_26 : n0 ≤ a_26 := by rw [ga_26]; exact Nat.le_trans (XO.1 ▸ XO.2.1) (Nat.le_refl _)
    have gh_26 : h0.size ≤ a_26 := by rw [ga_26]; exact (Nat.le_refl _)
    have Z_26 : h0.size ≤ h_26.size := Nat.le_trans (Nat.le_refl _) E_26.1
    have O_26 := Old.ext XO E_26
    have G_26_value : Fld Z h_26 a_26 "java/lang/String" "value" "[B" .null := D_26 (Or.inr (hw _ (List.mem_of_getElem? (i := 21) rfl))) (ty := .array (.byte)) (by decide)
    have G_26_coder : Fld Z h_26 a_26 "java/lang/String" "coder" "B" (.int (0 : Int32)) := D_26 (Or.inr (hw _ (List.mem_of_getElem? (i := 22) rfl))) (ty := .byte) (by decide)
    refine g_dup X_26 hx 30 (hb hby val_29) rfl rfl ?_
    refine g_iload_n X_26 hx 31 q1 (hb hby val_30) rfl rfl ?_
    obtain ⟨_, T_31, L_31, X_31, ⟨b_31, rfl, g_31, M_31, K_31, B_31⟩, st_31⟩ := g_callS X_26 hx hZ  (own := "java/lang/String") (index := 1021) (y := (⟨"java/lang/StringUTF16", "toBytes", "(C)[B"⟩ : MethodName)) (as' := [(.int q1)]) hown (hw _ (List.mem_of_getElem? (i := 83) rfl)) (hw _ (List.mem_of_getElem? (i := 84) rfl)) (hw _ (List.mem_of_getElem? (i := 69) rfl)) (hw _ (List.mem_of_getElem? (i := 85) rfl)) (by decide) e_26 (rm_tb1 l Z a0 hw q1 h_26 n0 O_26 SA SH SL) pd_tb1 rfl 2 (by decide) (by decide) (by decide) (by decide) (pc := 31) (Ls := #[.val (.int q1)]) (rest := [(.ref a_26), (.ref a_26)]) (st := [(.int q1), (.ref a_26), (.ref a_26)]) (by rw [hml]; rfl) rfl (Nat.le_of_eq rfl) (hb hby val_31)
    refine Go.of ?_ st_31
    have F_31_0 : Exa Z T_31.heap a_26 "java/lang/String" := A_26.keep K_31
    have F_31_1 : Fld Z T_31.heap a_26 "java/lang/String" "value" "[B" .null := G_26_value.keep K_31 nin0
    have F_31_2 : Fld Z T_31.heap a_26 "java/lang/String" "coder" "B" (.int (0 : Int32)) := G_26_coder.keep K_31 nin0
    have N_31 := Fr.app (Fr.nil _) M_31
    have Z_31 : h0.size ≤ T_31.heap.size := Nat.le_trans Z_26 K_31.1
    have O_31 := Old.keep O_26 K_31 all0
    have gn_31 : n0 ≤ b_31 := Nat.le_trans (Nat.le_trans (XO.1 ▸ XO.2.1) Z_26) g_31
    have gg_31 : h0.size ≤ b_31 := Nat.le_trans Z_26 g_31
    have nb_31_a_26 : a_26 ≠ b_31 := Nat.ne_of_lt (Nat.lt_of_lt_of_le A_26.lt g_31)
    show Go p e below _ (T_31.setTop (mkF m 34 #[.val (.int q1)] [(.ref b_31), (.ref a_26), (.ref a_26)]))
    refine g_iconst X_31 hx 35 (1 : Int32) (hb hby val_34) rfl rfl ?_
    obtain ⟨_, T_35, L_35, X_35, ⟨rfl, M_35, K_35, E_35, C_35, V_35⟩, st_35⟩ := g_callI X_31 hx hZ  (own := "java/lang/String") (index := 209) (y := (⟨"java/lang/String", "<init>", "([BB)V"⟩ : MethodName)) (a := a_26) (as' := [(.ref b_31), (.int (1 : Int32))]) rfl hown (hw _ (List.mem_of_getElem? (i := 92) rfl)) (hw _ (List.mem_of_getElem? (i := 93) rfl)) (hw _ (List.mem_of_getElem? (i := 7) rfl)) (hw _ (List.mem_of_getElem? (i := 94) rfl)) (by decide) rfl (rm_inb l Z a0 hw a_26 b_31 (1 : Int32) T_31.heap n0 g_26 rfl rfl F_31_0 F_31_1 F_31_2) pd_inb rfl 1 (by decide) (by decide) (by decide) (by decide) (pc := 35) (Ls := #[.val (.int q1)]) (rest := [(.ref a_26)]) (st := [(.int (1 : Int32)), (.ref b_31), (.ref a_26), (.ref a_26)]) (by rw [hml]; rfl) rfl (Nat.le_of_eq rfl) (hb hby val_35)
    refine st_35 ?_
    have F_35_0 : Exa Z T_35.heap a_26 "java/lang/String" := E_35
    have F_35_1 : Fld Z T_35.heap a_26 "java/lang/String" "coder" "B" (.int (1 : Int32)) := C_35
    have F_35_2 : Fld Z T_35.heap a_26 "java/lang/String" "value" "[B" (.ref b_31) := V_35
    have F_35_3 : Arl Z T_35.heap b_31 .byte [(.int (lo8 q1)), (.int (hi8 q1))] := B_31.keep K_35 (ninS (Ne.symm nb_31_a_26) nin0)
    have N_35 := Fr.app N_31 M_35
    have Z_35 : h0.size ≤ T_35.heap.size := Nat.le_trans Z_31 K_35.1
    have O_35 := Old.keep O_31 K_35 (allS g_26 all0)
    show Go p e below _ (T_35.setTop (mkF m 38 #[.val (.int q1)] [(.ref a_26)]))
    have hl : lat [q1] = false := by simp [lat, hA]
    have hT' : Stl Z T_35.heap a_26 b_31 (coOf [q1]) ((bsOf [q1]).map Value.int) := by simp only [coOf, bsOf, hl]; exact ⟨F_35_0, F_35_1, F_35_2, F_35_3⟩
    exact Go.retA X_35 hx hlk Bd.returns rfl rfl (hb hby val_38) (by decide) (by decide) ⟨a_26, b_31, rfl, gh_26, N_35, ((((Keep.refl _ _).ext E_26).trans K_31 all0).trans K_35 (allS (Or.inr gh_26) all0)), hT'⟩
  ·
    obtain ⟨_, T_7x1, L_7x1, X_7x1, ⟨rfl, rfl, e_7x1⟩, st_7x1⟩ := g_callS X_0 hx hZ  (own := "java/lang/String") (index := 1015) (y := (⟨"java/lang/StringLatin1", "canEncode", "(C)Z"⟩ : MethodName)) (as' := [(.int q1)]) hown (hw _ (List.mem_of_getElem? (i := 80) rfl)) (hw _ (List.mem_of_getElem? (i := 81) rfl)) (hw _ (List.mem_of_getElem? (i := 63) rfl)) (hw _ (List.mem_of_getElem? (i := 82) rfl)) (by decide) e_0 (rm_cen l Z a0 hw q1 h0 (1 : Int32) (b2i_t hA)) pd_cen rfl 0 (by decide) (by decide) (by decide) (by decide) (pc := 7) (Ls := #[.val (.int q1)]) (rest := []) (st := [(.int q1)]) (by rw [hml]; rfl) rfl (Nat.le_of_eq rfl) (hb hby val_7)
    refine Go.of ?_ st_7x1
    rw [List.append_nil] at X_7x1
    show Go p e below _ (T_7x1.setTop (mkF m 10 #[.val (.int q1)] [(.int (1 : Int32))]))
    refine g_ifN X_7x1 hx 13 (hb hby val_10) (XT.i0_eq_f (by decide)) rfl ?_
    obtain ⟨T_13, h_13, a_13, X_13, e_13, ga_13, E_13, A_13, D_13, st_13⟩ := g_newO X_7x1 hx hZ hown (hw _ (List.mem_of_getElem? (i := 59) rfl)) (hw _ (List.mem_of_getElem? (i := 6) rfl)) (hw _ (List.mem_of_getElem? (i := 7) rfl)) e_7x1 16 (hb hby val_13) rfl (by decide) (by decide)
    refine st_13 ?_
    have g_13 : n0 ≤ a_13 := by rw [ga_13]; exact Nat.le_trans (XO.1 ▸ XO.2.1) (Nat.le_refl _)
    have gh_13 : h0.size ≤ a_13 := by rw [ga_13]; exact (Nat.le_refl _)
    have Z_13 : h0.size ≤ h_13.size := Nat.le_trans (Nat.le_refl _) E_13.1
    have O_13 := Old.ext XO E_13
    have G_13_value : Fld Z h_13 a_13 "java/lang/String" "value" "[B" .null := D_13 (Or.inr (hw _ (List.mem_of_getElem? (i := 21) rfl))) (ty := .array (.byte)) (by decide)
    have G_13_coder : Fld Z h_13 a_13 "java/lang/String" "coder" "B" (.int (0 : Int32)) := D_13 (Or.inr (hw _ (List.mem_of_getElem? (i := 22) rfl))) (ty := .byte) (by decide)
    refine g_dup X_13 hx 17 (hb hby val_16) rfl rfl ?_
    refine g_iload_n X_13 hx 18 q1 (hb hby val_17) rfl rfl ?_
    obtain ⟨_, T_18, L_18, X_18, ⟨b_18, rfl, g_18, M_18, K_18, B_18⟩, st_18⟩ := g_callS X_13 hx hZ  (own := "java/lang/String") (index := 1018) (y := (⟨"java/lang/StringLatin1", "toBytes", "(C)[B"⟩ : MethodName)) (as' := [(.int q1)]) hown (hw _ (List.mem_of_getElem? (i := 95) rfl)) (hw _ (List.mem_of_getElem? (i := 96) rfl)) (hw _ (List.mem_of_getElem? (i := 63) rfl)) (hw _ (List.mem_of_getElem? (i := 97) rfl)) (by decide) e_13 (rm_l1b l Z a0 hw q1 h_13 n0 O_13) pd_l1b rfl 2 (by decide) (by decide) (by decide) (by decide) (pc := 18) (Ls := #[.val (.int q1)]) (rest := [(.ref a_13), (.ref a_13)]) (st := [(.int q1), (.ref a_13), (.ref a_13)]) (by rw [hml]; rfl) rfl (Nat.le_of_eq rfl) (hb hby val_18)
    refine Go.of ?_ st_18
    have F_18_0 : Exa Z T_18.heap a_13 "java/lang/String" := A_13.keep K_18
    have F_18_1 : Fld Z T_18.heap a_13 "java/lang/String" "value" "[B" .null := G_13_value.keep K_18 nin0
    have F_18_2 : Fld Z T_18.heap a_13 "java/lang/String" "coder" "B" (.int (0 : Int32)) := G_13_coder.keep K_18 nin0
    have N_18 := Fr.app (Fr.nil _) M_18
    have Z_18 : h0.size ≤ T_18.heap.size := Nat.le_trans Z_13 K_18.1
    have O_18 := Old.keep O_13 K_18 all0
    have gn_18 : n0 ≤ b_18 := Nat.le_trans (Nat.le_trans (XO.1 ▸ XO.2.1) Z_13) g_18
    have gg_18 : h0.size ≤ b_18 := Nat.le_trans Z_13 g_18
    have nb_18_a_13 : a_13 ≠ b_18 := Nat.ne_of_lt (Nat.lt_of_lt_of_le A_13.lt g_18)
    show Go p e below _ (T_18.setTop (mkF m 21 #[.val (.int q1)] [(.ref b_18), (.ref a_13), (.ref a_13)]))
    refine g_iconst X_18 hx 22 (0 : Int32) (hb hby val_21) rfl rfl ?_
    obtain ⟨_, T_22, L_22, X_22, ⟨rfl, M_22, K_22, E_22, C_22, V_22⟩, st_22⟩ := g_callI X_18 hx hZ  (own := "java/lang/String") (index := 209) (y := (⟨"java/lang/String", "<init>", "([BB)V"⟩ : MethodName)) (a := a_13) (as' := [(.ref b_18), (.int (0 : Int32))]) rfl hown (hw _ (List.mem_of_getElem? (i := 92) rfl)) (hw _ (List.mem_of_getElem? (i := 93) rfl)) (hw _ (List.mem_of_getElem? (i := 7) rfl)) (hw _ (List.mem_of_getElem? (i := 94) rfl)) (by decide) rfl (rm_inb l Z a0 hw a_13 b_18 (0 : Int32) T_18.heap n0 g_13 rfl rfl F_18_0 F_18_1 F_18_2) pd_inb rfl 1 (by decide) (by decide) (by decide) (by decide) (pc := 22) (Ls := #[.val (.int q1)]) (rest := [(.ref a_13)]) (st := [(.int (0 : Int32)), (.ref b_18), (.ref a_13), (.ref a_13)]) (by rw [hml]; rfl) rfl (Nat.le_of_eq rfl) (hb hby val_22)
    refine st_22 ?_
    have F_22_0 : Exa Z T_22.heap a_13 "java/lang/String" := E_22
    have F_22_1 : Fld Z T_22.heap a_13 "java/lang/String" "coder" "B" (.int (0 : Int32)) := C_22
    have F_22_2 : Fld Z T_22.heap a_13 "java/lang/String" "value" "[B" (.ref b_18) := V_22
    have F_22_3 : Arl Z T_22.heap b_18 .byte [(.int (q1.toInt8.toInt32))] := B_18.keep K_22 (ninS (Ne.symm nb_18_a_13) nin0)
    have N_22 := Fr.app N_18 M_22
    have Z_22 : h0.size ≤ T_22.heap.size := Nat.le_trans Z_18 K_22.1
    have O_22 := Old.keep O_18 K_22 (allS g_13 all0)
    show Go p e below _ (T_22.setTop (mkF m 25 #[.val (.int q1)] [(.ref a_13)]))
    have hl : lat [q1] = true := by simp [lat, hA]
    have hT' : Stl Z T_22.heap a_13 b_18 (coOf [q1]) ((bsOf [q1]).map Value.int) := by simp only [coOf, bsOf, hl]; exact ⟨F_22_0, F_22_1, F_22_2, F_22_3⟩
    exact Go.retA X_22 hx hlk Bd.returns rfl rfl (hb hby val_25) (by decide) (by decide) ⟨a_13, b_18, rfl, gh_13, N_22, ((((Keep.refl _ _).ext E_13).trans K_18 all0).trans K_22 (allS (Or.inr gh_13) all0)), hT'⟩
def SQ0 (Z : State) (qa : Addr) (h0 : Heap) (n0 : Nat) (v : Option Value) (vm : Vm) (h : Heap) (L : List Loc) : Prop := ∃ qb : Addr, v = none ∧ Fr n0 L ∧ Keep h0 h [qa] ∧ Stl Z h qa qb 0 [] ∧ EV Z vm h
theorem in2_0_0 : decode jdk_42_method_149_code 0 = .ok (.aload_n 0, 1) := by decide +kernel
theorem in2_0_1 : decode jdk_42_method_149_code 1 = .ok (.invokespecial 1, 3) := by decide +kernel
theorem in2_0_4 : decode jdk_42_method_149_code 4 = .ok (.iload_n 3, 1) := by decide +kernel
theorem in2_0_5 : decode jdk_42_method_149_code 5 = .ok (.ifCond .ne 22, 3) := by decide +kernel
theorem in2_0_8 : decode jdk_42_method_149_code 8 = .ok (.aload_n 0, 1) := by decide +kernel
theorem in2_0_9 : decode jdk_42_method_149_code 9 = .ok (.ldc 7, 2) := by decide +kernel
theorem in2_0_11 : decode jdk_42_method_149_code 11 = .ok (.getfield 9, 3) := by decide +kernel
theorem in2_0_14 : decode jdk_42_method_149_code 14 = .ok (.putfield 9, 3) := by decide +kernel
theorem in2_0_17 : decode jdk_42_method_149_code 17 = .ok (.aload_n 0, 1) := by decide +kernel
theorem in2_0_18 : decode jdk_42_method_149_code 18 = .ok (.ldc 7, 2) := by decide +kernel
theorem in2_0_20 : decode jdk_42_method_149_code 20 = .ok (.getfield 15, 3) := by decide +kernel
theorem in2_0_23 : decode jdk_42_method_149_code 23 = .ok (.putfield 15, 3) := by decide +kernel
theorem in2_0_26 : decode jdk_42_method_149_code 26 = .ok (.return_, 1) := by decide +kernel
theorem in2_0_27 : decode jdk_42_method_149_code 27 = .ok (.getstatic 38, 3) := by decide +kernel
theorem in2_0_30 : decode jdk_42_method_149_code 30 = .ok (.ifCond .eq 28, 3) := by decide +kernel
theorem in2_0_33 : decode jdk_42_method_149_code 33 = .ok (.aload_n 1, 1) := by decide +kernel
theorem in2_0_34 : decode jdk_42_method_149_code 34 = .ok (.iload_n 2, 1) := by decide +kernel
theorem in2_0_35 : decode jdk_42_method_149_code 35 = .ok (.iload_n 3, 1) := by decide +kernel
theorem in2_0_36 : decode jdk_42_method_149_code 36 = .ok (.invokestatic 177, 3) := by decide +kernel
theorem in2_0_39 : decode jdk_42_method_149_code 39 = .ok (.astore 5, 2) := by decide +kernel
theorem in2_0_41 : decode jdk_42_method_149_code 41 = .ok (.aload_n 0, 1) := by decide +kernel
theorem in2_0_42 : decode jdk_42_method_149_code 42 = .ok (.aload 5, 2) := by decide +kernel
theorem in2_0_44 : decode jdk_42_method_149_code 44 = .ok (.iload_n 3, 1) := by decide +kernel
theorem in2_0_45 : decode jdk_42_method_149_code 45 = .ok (.invokestatic 47, 3) := by decide +kernel
theorem in2_0_48 : decode jdk_42_method_149_code 48 = .ok (.putfield 15, 3) := by decide +kernel
theorem in2_0_51 : decode jdk_42_method_149_code 51 = .ok (.aload_n 0, 1) := by decide +kernel
theorem in2_0_52 : decode jdk_42_method_149_code 52 = .ok (.aload 5, 2) := by decide +kernel
theorem in2_0_54 : decode jdk_42_method_149_code 54 = .ok (.putfield 9, 3) := by decide +kernel
theorem in2_0_57 : decode jdk_42_method_149_code 57 = .ok (.return_, 1) := by decide +kernel
theorem in2_0_58 : decode jdk_42_method_149_code 58 = .ok (.aload_n 0, 1) := by decide +kernel
theorem in2_0_59 : decode jdk_42_method_149_code 59 = .ok (.iconst 1, 1) := by decide +kernel
theorem in2_0_60 : decode jdk_42_method_149_code 60 = .ok (.putfield 15, 3) := by decide +kernel
theorem in2_0_63 : decode jdk_42_method_149_code 63 = .ok (.aload_n 0, 1) := by decide +kernel
theorem in2_0_64 : decode jdk_42_method_149_code 64 = .ok (.aload_n 1, 1) := by decide +kernel
theorem in2_0_65 : decode jdk_42_method_149_code 65 = .ok (.iload_n 2, 1) := by decide +kernel
theorem in2_0_66 : decode jdk_42_method_149_code 66 = .ok (.iload_n 3, 1) := by decide +kernel
theorem in2_0_67 : decode jdk_42_method_149_code 67 = .ok (.invokestatic 180, 3) := by decide +kernel
theorem in2_0_70 : decode jdk_42_method_149_code 70 = .ok (.putfield 9, 3) := by decide +kernel
theorem in2_0_73 : decode jdk_42_method_149_code 73 = .ok (.return_, 1) := by decide +kernel
theorem pn_in2_0 : plainFor (⟨"java/lang/String", "<init>", "([CIILjava/lang/Void;)V"⟩ : MethodName) = true := by first | exact plainFor_of_name (by first | (simp [plainName, overriddenIn]; done) | decide +kernel) | decide +kernel
theorem ef_in2_0 (m : MethodId) (qa : Addr) (qc : Addr) : entryFrame m #[(.ref qa), (.ref qc), (.int (0 : Int32)), (.int (0 : Int32)), .null] 6 = mkF m 0 #[.val (.ref qa), .val (.ref qc), .val (.int (0 : Int32)), .val (.int (0 : Int32)), .val .null, .unset] [] := by first | (simp [entryFrame, mkF, argsToLocals, Value.category, maxLocals]; done) | rfl
theorem pd_in2_0 : parseMethodDescriptor "([CIILjava/lang/Void;)V" = some ⟨[.array (.char), .int, .int, .object "java/lang/Void"], none⟩ := by decide +kernel
set_option maxRecDepth 65536 in
set_option maxHeartbeats 40000000 in
theorem rm_in2_0 (l : Launch) (Z : State) (a0 : Array Value) (hw : ∀ d ∈ tables_1, d.before a0 Z = true)  (qa : Addr) (qc : Addr) (h0 : Heap) (n0 : Nat) (XO : Old Z n0 h0) (hh0 : Jvm.Lit.constHeld Z "java/lang/String" 7) (hcw : Jvm.Lit.compactW.before a0 Z = true) (ga : n0 ≤ qa) (hne : qc ≠ qa) (A1 : Arl Z h0 qc .char [])(E1 : Exa Z h0 qa "java/lang/String")(F1 : Fld Z h0 qa "java/lang/String" "value" "[B" .null)(F2 : Fld Z h0 qa "java/lang/String" "coder" "B" (.int (0 : Int32))) :
    MetFree l (⟨"java/lang/String", "<init>", "([CIILjava/lang/Void;)V"⟩ : MethodName) (head1 [Jvm.Cond.code (⟨"java/lang/String", "<init>", "([CIILjava/lang/Void;)V"⟩ : MethodName) jdk_42_method_149_code 6 none] ({ frames := 1, cells := 2, slots := 4, locals := 12 } : Room)) (fun a U => a = #[(.ref qa), (.ref qc), (.int (0 : Int32)), (.int (0 : Int32)), .null] ∧ Z.Warmed39 U.vm ∧ U.heap = h0 ∧ (fun vm => EV Z vm h0) U.vm) (fun _ _ _ _ _ => True) (fun _ U o U' => ∃ v L, o = .returned v ∧ SQ0 Z qa h0 n0 v U'.vm U'.heap L ∧ ReturnedEndW U o U' L ({ frames := 1, cells := 2, slots := 4, locals := 12 } : Room).cells ({ frames := 1, cells := 2, slots := 4, locals := 12 } : Room).slots) := by
  refine MetFree.of_bodySF pn_in2_0 hisR ?_
  intro p e s m args below meth c s₁ Bd hml0 hP hK
  obtain ⟨rfl, hZ, hh, hI⟩ := hP
  have hx := Bd.exec
  have hby := Bd.bytes
  have hml : c.maxLocals = 6 := hml0
  have hown : s.vm.findClass "java/lang/String" = some m.cls := findClass_of_methodNamed Bd.named
  have hnm := (name_of_methodNamed Bd.named Bd.method).1
  have hlk : meth.locks = false := BodyLoose.notSynchronized Bd
  have X0 : Stand p l e ({ frames := 1, cells := 2, slots := 4, locals := 12 } : Room) (s.setVm s.vm) m #[(.ref qa), (.ref qc), (.int (0 : Int32)), (.int (0 : Int32)), .null] below meth c s₁ [] 0 0 := Stand.of_body Bd
  have e0 : s₁.heap = h0 := by rw [← hh, Bd.state]; rfl
  have hS : s.Since s.vm h0.size := (State.WarmedH.refl s).since _
  have hk0 : h0.size ≤ h0.size := Nat.le_refl _
  show Go p e below (EndW below s (SQ0 Z qa h0 n0) ({ frames := 1, cells := 2, slots := 4, locals := 12 } : Room).cells ({ frames := 1, cells := 2, slots := 4, locals := 12 } : Room).slots) (s₁.setTop (entryFrame m #[(.ref qa), (.ref qc), (.int (0 : Int32)), (.int (0 : Int32)), .null] 6))
  rw [ef_in2_0]
  refine g_aload_n X0 hx 1 (.ref qa) (hb hby in2_0_0) rfl rfl rfl ?_
  obtain ⟨T_1, X_1, e_1, st_1⟩ := g_initO X0 hx hZ hown (hw _ (List.mem_of_getElem? (i := 16) rfl)) (hw _ (List.mem_of_getElem? (i := 17) rfl)) (hw _ (List.mem_of_getElem? (i := 18) rfl)) e0 0 (by decide) (by decide) 4 (a := qa) (Ls := #[.val (.ref qa), .val (.ref qc), .val (.int (0 : Int32)), .val (.int (0 : Int32)), .val .null, .unset]) (st := []) (by rw [hml]; rfl) (Nat.le_of_eq rfl) (hb hby in2_0_1) rfl
  refine st_1 ?_
  refine g_iload_n X_1 hx 5 (0 : Int32) (hb hby in2_0_4) rfl rfl ?_
  refine g_ifN X_1 hx 8 (hb hby in2_0_5) (XT.i0_ne_f (by decide)) rfl ?_
  refine g_aload_n X_1 hx 9 (.ref qa) (hb hby in2_0_8) rfl rfl rfl ?_
  obtain ⟨Ts, hI, hvT, hET⟩ := hI
  by_cases hT : "" ∈ Ts
  ·
    obtain ⟨la, lb, hLit, hLs⟩ := hET hT
    refine g_ldcA X_1 hx hZ hown (hw _ (List.mem_of_getElem? (i := 19) rfl)) hLit 11 (hb hby in2_0_9) rfl ?_
    have nla : la ≠ qa := Fld.ne hLs.2.2.1 F1 (by simp)
    have nlb : lb ≠ qa := Ne.symm (ne_exl E1 (hw _ (List.mem_of_getElem? (i := 6) rfl)) hLs.2.2.2)
    obtain ⟨T_11, X_11, e_11, st_11⟩ := g_getF X_1 hx hZ hown (hw _ (List.mem_of_getElem? (i := 25) rfl)) Via.refl e_1 hLs.2.2.1 14 (hb hby in2_0_11) rfl
    refine st_11 ?_
    obtain ⟨T_14, h_14, X_14, e_14, W_14, st_14⟩ := g_putF X_11 hx hZ hown (hw _ (List.mem_of_getElem? (i := 25) rfl)) Via.refl e_11 F1 E1 (Or.inr ⟨hw _ (List.mem_of_getElem? (i := 21) rfl), rfl, hnm⟩) (hw _ (List.mem_of_getElem? (i := 6) rfl)) (ty := .array (.byte)) (v := (.ref lb)) (by decide) rfl rfl 17 (hb hby in2_0_14) rfl
    refine st_14 ?_
    have F_14_0 : Fld Z h_14 qa "java/lang/String" "value" "[B" (.ref lb) := F1.same W_14
    have F_14_1 : Fld Z h_14 qa "java/lang/String" "coder" "B" (.int (0 : Int32)) := F2.other W_14 (Or.inr (Jvm.RoadKit.slot_ne (Or.inr (hw _ (List.mem_of_getElem? (i := 22) rfl))) (Or.inr (hw _ (List.mem_of_getElem? (i := 21) rfl))) (by decide) (t := .byte) (t' := .array (.byte)) (by decide) (by decide)))
    have F_14_2 : Arl Z h_14 qc .char [] := A1.other W_14 hne
    have F_14_3 : Exa Z h_14 qa "java/lang/String" := E1.wr W_14
    have F_14_4 : Exa Z h_14 la "java/lang/String" := hLs.1.wr W_14
    have F_14_5 : Fld Z h_14 la "java/lang/String" "coder" "B" (.int (0 : Int32)) := hLs.2.1.other W_14 (Or.inl nla)
    have F_14_6 : Fld Z h_14 la "java/lang/String" "value" "[B" (.ref lb) := hLs.2.2.1.other W_14 (Or.inl nla)
    have F_14_7 : Arl Z h_14 lb .byte [] := hLs.2.2.2.other W_14 nlb
    have N_14 := Fr.snoc X_14 (Fr.nil _) ga
    have Z_14 : h0.size ≤ h_14.size := by rw [W_14.size]; exact (Nat.le_refl _)
    have O_14 := Old.wr XO W_14 ga
    have hk_14 := Nat.le_trans hk0 (Nat.le_of_eq W_14.size.symm)
    refine g_aload_n X_14 hx 18 (.ref qa) (hb hby in2_0_17) rfl rfl rfl ?_
    refine g_ldcA X_14 hx hZ hown (hw _ (List.mem_of_getElem? (i := 19) rfl)) hLit 20 (hb hby in2_0_18) rfl ?_
    obtain ⟨T_20, X_20, e_20, st_20⟩ := g_getF X_14 hx hZ hown (hw _ (List.mem_of_getElem? (i := 26) rfl)) Via.refl e_14 F_14_5 23 (hb hby in2_0_20) rfl
    refine st_20 ?_
    obtain ⟨T_23, h_23, X_23, e_23, W_23, st_23⟩ := g_putF X_20 hx hZ hown (hw _ (List.mem_of_getElem? (i := 26) rfl)) Via.refl e_20 F_14_1 F_14_3 (Or.inr ⟨hw _ (List.mem_of_getElem? (i := 22) rfl), rfl, hnm⟩) (hw _ (List.mem_of_getElem? (i := 6) rfl)) (ty := .byte) (v := (.int (0 : Int32))) (by decide) rfl rfl 26 (hb hby in2_0_23) rfl
    refine st_23 ?_
    have F_23_0 : Fld Z h_23 qa "java/lang/String" "value" "[B" (.ref lb) := F_14_0.other W_23 (Or.inr (Jvm.RoadKit.slot_ne (Or.inr (hw _ (List.mem_of_getElem? (i := 21) rfl))) (Or.inr (hw _ (List.mem_of_getElem? (i := 22) rfl))) (by decide) (t := .array (.byte)) (t' := .byte) (by decide) (by decide)))
    have F_23_1 : Fld Z h_23 qa "java/lang/String" "coder" "B" (.int (0 : Int32)) := F_14_1.same W_23
    have F_23_2 : Arl Z h_23 qc .char [] := F_14_2.other W_23 hne
    have F_23_3 : Exa Z h_23 qa "java/lang/String" := F_14_3.wr W_23
    have F_23_4 : Exa Z h_23 la "java/lang/String" := F_14_4.wr W_23
    have F_23_5 : Fld Z h_23 la "java/lang/String" "coder" "B" (.int (0 : Int32)) := F_14_5.other W_23 (Or.inl nla)
    have F_23_6 : Fld Z h_23 la "java/lang/String" "value" "[B" (.ref lb) := F_14_6.other W_23 (Or.inl nla)
    have F_23_7 : Arl Z h_23 lb .byte [] := F_14_7.other W_23 nlb
    have N_23 := Fr.snoc X_23 N_14 ga
    have Z_23 : h0.size ≤ h_23.size := by rw [W_23.size]; exact Z_14
    have O_23 := Old.wr O_14 W_23 ga
    have hk_23 := Nat.le_trans hk_14 (Nat.le_of_eq W_23.size.symm)
    have hT' : Stl Z h_23 qa lb 0 [] := ⟨F_23_3, F_23_1, F_23_0, F_23_7⟩
    have hE' : EV Z T_23.vm h_23 := ⟨Ts, ib_warm hI X_23.warmed, hvT, fun _ => ⟨la, lb, lit_warm hLit X_23.warmed.wide, ⟨F_23_4, F_23_5, F_23_6, F_23_7⟩⟩⟩
    exact GoW.retV X_23 hS (by rw [e_23]; exact hk_23) hx hlk Bd.returns (hb hby in2_0_26) (by decide) (by decide) ⟨lb, rfl, N_23, e_23.symm ▸ (((Keep.refl _ _).wr W_14 (Or.inl (by simp))).wr W_23 (Or.inl (by simp))), e_23.symm ▸ hT', e_23.symm ▸ hE'⟩
  ·
    obtain ⟨la_9, T_9, h_9, k_9, lb_9, X_9, e_9, E_9, hS, hk_9', hZ, hown, hLs_9, hI, hLit_9, st_9⟩ := g_ldcC X_1 hx hZ hown (hw _ (List.mem_of_getElem? (i := 19) rfl)) (fun d hd => hw d (own_wS d hd)) e_1 hS hk0 (Fr.nil _) (fun b cl q => by rw [hh]; exact XO.2.2 b cl q) hI hT hh0 hcw [] (0 : Int32) ⟨by simp, rfl⟩ (by decide) rfl 0 (by decide) (by decide) (by decide) (by decide) 11 (hb hby in2_0_9) rfl
    refine st_9 ?_
    have F_9_0 : Arl Z h_9 qc .char [] := A1.ext E_9
    have F_9_1 : Exa Z h_9 qa "java/lang/String" := E1.ext E_9
    have F_9_2 : Fld Z h_9 qa "java/lang/String" "value" "[B" .null := F1.ext E_9
    have F_9_3 : Fld Z h_9 qa "java/lang/String" "coder" "B" (.int (0 : Int32)) := F2.ext E_9
    have Z_9 : h0.size ≤ h_9.size := Nat.le_trans (Nat.le_refl _) E_9.1
    have O_9 := Old.ext XO E_9
    have nla : la_9 ≠ qa := Fld.ne hLs_9.2.2.1 F_9_2 (by simp)
    have nlb : lb_9 ≠ qa := Ne.symm (ne_exl F_9_1 (hw _ (List.mem_of_getElem? (i := 6) rfl)) hLs_9.2.2.2)
    obtain ⟨T_11x1, X_11x1, e_11x1, st_11x1⟩ := g_getF X_9 hx hZ hown (hw _ (List.mem_of_getElem? (i := 25) rfl)) Via.refl e_9 hLs_9.2.2.1 14 (hb hby in2_0_11) rfl
    refine st_11x1 ?_
    obtain ⟨T_14x1, h_14x1, X_14x1, e_14x1, W_14x1, st_14x1⟩ := g_putF X_11x1 hx hZ hown (hw _ (List.mem_of_getElem? (i := 25) rfl)) Via.refl e_11x1 F_9_2 F_9_1 (Or.inr ⟨hw _ (List.mem_of_getElem? (i := 21) rfl), rfl, hnm⟩) (hw _ (List.mem_of_getElem? (i := 6) rfl)) (ty := .array (.byte)) (v := (.ref lb_9)) (by decide) rfl rfl 17 (hb hby in2_0_14) rfl
    refine st_14x1 ?_
    have F_14x1_0 : Fld Z h_14x1 qa "java/lang/String" "value" "[B" (.ref lb_9) := F_9_2.same W_14x1
    have F_14x1_1 : Fld Z h_14x1 qa "java/lang/String" "coder" "B" (.int (0 : Int32)) := F_9_3.other W_14x1 (Or.inr (Jvm.RoadKit.slot_ne (Or.inr (hw _ (List.mem_of_getElem? (i := 22) rfl))) (Or.inr (hw _ (List.mem_of_getElem? (i := 21) rfl))) (by decide) (t := .byte) (t' := .array (.byte)) (by decide) (by decide)))
    have F_14x1_2 : Arl Z h_14x1 qc .char [] := F_9_0.other W_14x1 hne
    have F_14x1_3 : Exa Z h_14x1 qa "java/lang/String" := F_9_1.wr W_14x1
    have F_14x1_4 : Exa Z h_14x1 la_9 "java/lang/String" := hLs_9.1.wr W_14x1
    have F_14x1_5 : Fld Z h_14x1 la_9 "java/lang/String" "coder" "B" (.int (0 : Int32)) := hLs_9.2.1.other W_14x1 (Or.inl nla)
    have F_14x1_6 : Fld Z h_14x1 la_9 "java/lang/String" "value" "[B" (.ref lb_9) := hLs_9.2.2.1.other W_14x1 (Or.inl nla)
    have F_14x1_7 : Arl Z h_14x1 lb_9 .byte [] := hLs_9.2.2.2.other W_14x1 nlb
    have N_14x1 := Fr.snoc X_14x1 (Fr.nil _) ga
    have Z_14x1 : h0.size ≤ h_14x1.size := by rw [W_14x1.size]; exact Z_9
    have O_14x1 := Old.wr O_9 W_14x1 ga
    have hk_14x1 := Nat.le_trans hk_9' (Nat.le_of_eq W_14x1.size.symm)
    refine g_aload_n X_14x1 hx 18 (.ref qa) (hb hby in2_0_17) rfl rfl rfl ?_
    refine g_ldcA X_14x1 hx hZ hown (hw _ (List.mem_of_getElem? (i := 19) rfl)) hLit_9 20 (hb hby in2_0_18) rfl ?_
    obtain ⟨T_20x1, X_20x1, e_20x1, st_20x1⟩ := g_getF X_14x1 hx hZ hown (hw _ (List.mem_of_getElem? (i := 26) rfl)) Via.refl e_14x1 F_14x1_5 23 (hb hby in2_0_20) rfl
    refine st_20x1 ?_
    obtain ⟨T_23x1, h_23x1, X_23x1, e_23x1, W_23x1, st_23x1⟩ := g_putF X_20x1 hx hZ hown (hw _ (List.mem_of_getElem? (i := 26) rfl)) Via.refl e_20x1 F_14x1_1 F_14x1_3 (Or.inr ⟨hw _ (List.mem_of_getElem? (i := 22) rfl), rfl, hnm⟩) (hw _ (List.mem_of_getElem? (i := 6) rfl)) (ty := .byte) (v := (.int (0 : Int32))) (by decide) rfl rfl 26 (hb hby in2_0_23) rfl
    refine st_23x1 ?_
    have F_23x1_0 : Fld Z h_23x1 qa "java/lang/String" "value" "[B" (.ref lb_9) := F_14x1_0.other W_23x1 (Or.inr (Jvm.RoadKit.slot_ne (Or.inr (hw _ (List.mem_of_getElem? (i := 21) rfl))) (Or.inr (hw _ (List.mem_of_getElem? (i := 22) rfl))) (by decide) (t := .array (.byte)) (t' := .byte) (by decide) (by decide)))
    have F_23x1_1 : Fld Z h_23x1 qa "java/lang/String" "coder" "B" (.int (0 : Int32)) := F_14x1_1.same W_23x1
    have F_23x1_2 : Arl Z h_23x1 qc .char [] := F_14x1_2.other W_23x1 hne
    have F_23x1_3 : Exa Z h_23x1 qa "java/lang/String" := F_14x1_3.wr W_23x1
    have F_23x1_4 : Exa Z h_23x1 la_9 "java/lang/String" := F_14x1_4.wr W_23x1
    have F_23x1_5 : Fld Z h_23x1 la_9 "java/lang/String" "coder" "B" (.int (0 : Int32)) := F_14x1_5.other W_23x1 (Or.inl nla)
    have F_23x1_6 : Fld Z h_23x1 la_9 "java/lang/String" "value" "[B" (.ref lb_9) := F_14x1_6.other W_23x1 (Or.inl nla)
    have F_23x1_7 : Arl Z h_23x1 lb_9 .byte [] := F_14x1_7.other W_23x1 nlb
    have N_23x1 := Fr.snoc X_23x1 N_14x1 ga
    have Z_23x1 : h0.size ≤ h_23x1.size := by rw [W_23x1.size]; exact Z_14x1
    have O_23x1 := Old.wr O_14x1 W_23x1 ga
    have hk_23x1 := Nat.le_trans hk_14x1 (Nat.le_of_eq W_23x1.size.symm)
    have hT' : Stl Z h_23x1 qa lb_9 0 [] := ⟨F_23x1_3, F_23x1_1, F_23x1_0, F_23x1_7⟩
    have hE' : EV Z T_23x1.vm h_23x1 := ⟨("" :: Ts), ib_warm hI X_23x1.warmed, (by simp [hvT]), fun _ => ⟨la_9, lb_9, lit_warm hLit_9 X_23x1.warmed.wide, ⟨F_23x1_4, F_23x1_5, F_23x1_6, F_23x1_7⟩⟩⟩
    exact GoW.retV X_23x1 hS (by rw [e_23x1]; exact hk_23x1) hx hlk Bd.returns (hb hby in2_0_26) (by decide) (by decide) ⟨lb_9, rfl, N_23x1, e_23x1.symm ▸ ((((Keep.refl _ _).ext E_9).wr W_14x1 (Or.inl (by simp))).wr W_23x1 (Or.inl (by simp))), e_23x1.symm ▸ hT', e_23x1.symm ▸ hE'⟩
theorem in1_0_0 : decode jdk_42_method_3_code 0 = .ok (.aload_n 0, 1) := by decide +kernel
theorem in1_0_1 : decode jdk_42_method_3_code 1 = .ok (.aload_n 1, 1) := by decide +kernel
theorem in1_0_2 : decode jdk_42_method_3_code 2 = .ok (.iconst 0, 1) := by decide +kernel
theorem in1_0_3 : decode jdk_42_method_3_code 3 = .ok (.aload_n 1, 1) := by decide +kernel
theorem in1_0_4 : decode jdk_42_method_3_code 4 = .ok (.arraylength, 1) := by decide +kernel
theorem in1_0_5 : decode jdk_42_method_3_code 5 = .ok (.aconst_null, 1) := by decide +kernel
theorem in1_0_6 : decode jdk_42_method_3_code 6 = .ok (.invokespecial 27, 3) := by decide +kernel
theorem in1_0_9 : decode jdk_42_method_3_code 9 = .ok (.return_, 1) := by decide +kernel
theorem pn_in1_0 : plainFor (⟨"java/lang/String", "<init>", "([C)V"⟩ : MethodName) = true := by first | exact plainFor_of_name (by first | (simp [plainName, overriddenIn]; done) | decide +kernel) | decide +kernel
theorem ef_in1_0 (m : MethodId) (qa : Addr) (qc : Addr) : entryFrame m #[(.ref qa), (.ref qc)] 2 = mkF m 0 #[.val (.ref qa), .val (.ref qc)] [] := by first | (simp [entryFrame, mkF, argsToLocals, Value.category, maxLocals]; done) | rfl
theorem pd_in1_0 : parseMethodDescriptor "([C)V" = some ⟨[.array (.char)], none⟩ := by decide +kernel
set_option maxRecDepth 65536 in
set_option maxHeartbeats 40000000 in
theorem rm_in1_0 (l : Launch) (Z : State) (a0 : Array Value) (hw : ∀ d ∈ tables_1, d.before a0 Z = true)  (qa : Addr) (qc : Addr) (h0 : Heap) (n0 : Nat) (XO : Old Z n0 h0) (hh0 : Jvm.Lit.constHeld Z "java/lang/String" 7) (hcw : Jvm.Lit.compactW.before a0 Z = true) (ga : n0 ≤ qa) (hne : qc ≠ qa) (A1 : Arl Z h0 qc .char [])(E1 : Exa Z h0 qa "java/lang/String")(F1 : Fld Z h0 qa "java/lang/String" "value" "[B" .null)(F2 : Fld Z h0 qa "java/lang/String" "coder" "B" (.int (0 : Int32))) :
    MetFree l (⟨"java/lang/String", "<init>", "([C)V"⟩ : MethodName) (head1 [Jvm.Cond.code (⟨"java/lang/String", "<init>", "([C)V"⟩ : MethodName) jdk_42_method_3_code 2 none] ({ frames := 2, cells := 2, slots := 4, locals := 29 } : Room)) (fun a U => a = #[(.ref qa), (.ref qc)] ∧ Z.Warmed39 U.vm ∧ U.heap = h0 ∧ (fun vm => EV Z vm h0) U.vm) (fun _ _ _ _ _ => True) (fun _ U o U' => ∃ v L, o = .returned v ∧ SQ0 Z qa h0 n0 v U'.vm U'.heap L ∧ ReturnedEndW U o U' L ({ frames := 2, cells := 2, slots := 4, locals := 29 } : Room).cells ({ frames := 2, cells := 2, slots := 4, locals := 29 } : Room).slots) := by
  refine MetFree.of_bodySF pn_in1_0 hisR ?_
  intro p e s m args below meth c s₁ Bd hml0 hP hK
  obtain ⟨rfl, hZ, hh, hI⟩ := hP
  have hx := Bd.exec
  have hby := Bd.bytes
  have hml : c.maxLocals = 2 := hml0
  have hown : s.vm.findClass "java/lang/String" = some m.cls := findClass_of_methodNamed Bd.named
  have hnm := (name_of_methodNamed Bd.named Bd.method).1
  have hlk : meth.locks = false := BodyLoose.notSynchronized Bd
  have X0 : Stand p l e ({ frames := 2, cells := 2, slots := 4, locals := 29 } : Room) (s.setVm s.vm) m #[(.ref qa), (.ref qc)] below meth c s₁ [] 0 0 := Stand.of_body Bd
  have e0 : s₁.heap = h0 := by rw [← hh, Bd.state]; rfl
  have hS : s.Since s.vm h0.size := (State.WarmedH.refl s).since _
  have hk0 : h0.size ≤ h0.size := Nat.le_refl _
  show Go p e below (EndW below s (SQ0 Z qa h0 n0) ({ frames := 2, cells := 2, slots := 4, locals := 29 } : Room).cells ({ frames := 2, cells := 2, slots := 4, locals := 29 } : Room).slots) (s₁.setTop (entryFrame m #[(.ref qa), (.ref qc)] 2))
  rw [ef_in1_0]
  refine g_aload_n X0 hx 1 (.ref qa) (hb hby in1_0_0) rfl rfl rfl ?_
  refine g_aload_n X0 hx 2 (.ref qc) (hb hby in1_0_1) rfl rfl rfl ?_
  refine g_iconst X0 hx 3 (0 : Int32) (hb hby in1_0_2) rfl rfl ?_
  refine g_aload_n X0 hx 4 (.ref qc) (hb hby in1_0_3) rfl rfl rfl ?_
  refine g_alen X0 hx hZ e0 A1 (0 : Int32) rfl 5 (hb hby in1_0_4) rfl ?_
  refine g_aconst_null X0 hx 6 (hb hby in1_0_5) rfl ?_
  obtain ⟨_, T_6, L_6, X_6, hS, hZ, hown, hW_6, ⟨b_6, rfl, M_6, K_6, Q_6, hI⟩, st_6⟩ := g_callIW X0 hx hZ hS hk0  (own := "java/lang/String") (index := 27) (y := (⟨"java/lang/String", "<init>", "([CIILjava/lang/Void;)V"⟩ : MethodName)) (a := qa) (as' := [(.ref qc), (.int (0 : Int32)), (.int (0 : Int32)), .null]) rfl hown (hw _ (List.mem_of_getElem? (i := 12) rfl)) (hw _ (List.mem_of_getElem? (i := 13) rfl)) (hw _ (List.mem_of_getElem? (i := 7) rfl)) (hw _ (List.mem_of_getElem? (i := 15) rfl)) (by decide) e0 (fun vm₁ hw₁ => ev_warm hI hw₁) (rm_in2_0 l Z a0 hw qa qc h0 n0 XO hh0 hcw ga hne A1 E1 F1 F2) pd_in2_0 rfl 0 (by decide) (by decide) (by decide) (by decide) (pc := 6) (Ls := #[.val (.ref qa), .val (.ref qc)]) (rest := []) (st := [.null, (.int (0 : Int32)), (.int (0 : Int32)), (.ref qc), (.ref qa)]) (by rw [hml]; rfl) rfl (Nat.le_of_eq rfl) (hb hby in1_0_6)
  refine st_6 ?_
  show Go p e below _ (T_6.setTop (mkF m 9 #[.val (.ref qa), .val (.ref qc)] []))
  exact GoW.retV X_6 hS (Nat.le_refl _) hx hlk Bd.returns (hb hby in1_0_9) (by decide) (by decide) ⟨_, rfl, (Fr.app (Fr.nil _) M_6), K_6, Q_6, hI⟩
def MQ (Z : State) (cs : List Int32) (h0 : Heap) (n0 : Nat) (v : Option Value) (vm : Vm) (h : Heap) (L : List Loc) : Prop := ∃ qa qb : Addr, v = some (.ref qa) ∧ h0.size ≤ qa ∧ Fr n0 L ∧ Keep h0 h [] ∧ Stl Z h qa qb (coOf cs) ((bsOf cs).map Value.int) ∧ EV Z vm h
theorem mak_0 : decode method_2_code 0 = .ok (.iload_n 0, 1) := by decide +kernel
theorem mak_1 : decode method_2_code 1 = .ok (.ifCond .ne 14, 3) := by decide +kernel
theorem mak_4 : decode method_2_code 4 = .ok (.new 7, 3) := by decide +kernel
theorem mak_7 : decode method_2_code 7 = .ok (.dup, 1) := by decide +kernel
theorem mak_8 : decode method_2_code 8 = .ok (.iconst 0, 1) := by decide +kernel
theorem mak_9 : decode method_2_code 9 = .ok (.newarray .char, 2) := by decide +kernel
theorem mak_11 : decode method_2_code 11 = .ok (.invokespecial 9, 3) := by decide +kernel
theorem mak_14 : decode method_2_code 14 = .ok (.areturn, 1) := by decide +kernel
theorem mak_15 : decode method_2_code 15 = .ok (.iload_n 0, 1) := by decide +kernel
theorem mak_16 : decode method_2_code 16 = .ok (.iconst 1, 1) := by decide +kernel
theorem mak_17 : decode method_2_code 17 = .ok (.if_icmp .ne 8, 3) := by decide +kernel
theorem mak_20 : decode method_2_code 20 = .ok (.iload_n 1, 1) := by decide +kernel
theorem mak_21 : decode method_2_code 21 = .ok (.invokestatic 12, 3) := by decide +kernel
theorem mak_24 : decode method_2_code 24 = .ok (.areturn, 1) := by decide +kernel
theorem mak_25 : decode method_2_code 25 = .ok (.new 7, 3) := by decide +kernel
theorem mak_28 : decode method_2_code 28 = .ok (.dup, 1) := by decide +kernel
theorem mak_29 : decode method_2_code 29 = .ok (.iconst 2, 1) := by decide +kernel
theorem mak_30 : decode method_2_code 30 = .ok (.newarray .char, 2) := by decide +kernel
theorem mak_32 : decode method_2_code 32 = .ok (.dup, 1) := by decide +kernel
theorem mak_33 : decode method_2_code 33 = .ok (.iconst 0, 1) := by decide +kernel
theorem mak_34 : decode method_2_code 34 = .ok (.iload_n 1, 1) := by decide +kernel
theorem mak_35 : decode method_2_code 35 = .ok (.castore, 1) := by decide +kernel
theorem mak_36 : decode method_2_code 36 = .ok (.dup, 1) := by decide +kernel
theorem mak_37 : decode method_2_code 37 = .ok (.iconst 1, 1) := by decide +kernel
theorem mak_38 : decode method_2_code 38 = .ok (.iload_n 2, 1) := by decide +kernel
theorem mak_39 : decode method_2_code 39 = .ok (.castore, 1) := by decide +kernel
theorem mak_40 : decode method_2_code 40 = .ok (.invokespecial 9, 3) := by decide +kernel
theorem mak_43 : decode method_2_code 43 = .ok (.areturn, 1) := by decide +kernel
theorem pn_mak : plainFor (⟨"com/example/assayer/assayer/core/JsonStringEqualsPinLaw", "make", "(ICC)Ljava/lang/String;"⟩ : MethodName) = true := by first | exact plainFor_of_name (by first | (simp [plainName, overriddenIn]; done) | decide +kernel) | decide +kernel
theorem ef_mak (m : MethodId) (q1 : Int32) (q2 : Int32) (q3 : Int32) : entryFrame m #[(.int q1), (.int q2), (.int q3)] 3 = mkF m 0 #[.val (.int q1), .val (.int q2), .val (.int q3)] [] := by first | (simp [entryFrame, mkF, argsToLocals, Value.category, maxLocals]; done) | rfl
theorem pd_mak : parseMethodDescriptor "(ICC)Ljava/lang/String;" = some ⟨[.int, .char, .char], some (.object "java/lang/String")⟩ := by decide +kernel
set_option maxRecDepth 65536 in
set_option maxHeartbeats 40000000 in
theorem rm_mak (l : Launch) (Z : State) (a0 : Array Value) (hw : ∀ d ∈ tables_1, d.before a0 Z = true)  (q1 : Int32) (q2 : Int32) (q3 : Int32) (h0 : Heap) (n0 : Nat) (XO : Old Z n0 h0) (cs : Int32) (hcs : ¬ cs = (0 : Int32)) (SC : Sta Z Z.heap "java/lang/String" "COMPACT_STRINGS" "Z" (.int cs)) (SA : Sta Z Z.heap "java/lang/StringUTF16" "$assertionsDisabled" "Z" (.int (1 : Int32))) (SH : Sta Z Z.heap "java/lang/StringUTF16" "HI_BYTE_SHIFT" "I" (.int (0 : Int32))) (SL : Sta Z Z.heap "java/lang/StringUTF16" "LO_BYTE_SHIFT" "I" (.int (8 : Int32))) (hh0 : Jvm.Lit.constHeld Z "java/lang/String" 7) (hcw : Jvm.Lit.compactW.before a0 Z = true) (h2c : Ch q2) (h3c : Ch q3) :
    MetFree l (⟨"com/example/assayer/assayer/core/JsonStringEqualsPinLaw", "make", "(ICC)Ljava/lang/String;"⟩ : MethodName) (head1 [Jvm.Cond.code (⟨"com/example/assayer/assayer/core/JsonStringEqualsPinLaw", "make", "(ICC)Ljava/lang/String;"⟩ : MethodName) method_2_code 3 (some (Jvm.ClassFile.FieldType.object "java/lang/String"))] ({ frames := 6, cells := 4, slots := 12, locals := 88 } : Room)) (fun a U => a = #[(.int q1), (.int q2), (.int q3)] ∧ Z.Warmed39 U.vm ∧ U.heap = h0 ∧ (fun vm => EV Z vm h0) U.vm) (fun _ _ _ _ _ => True) (fun _ U o U' => ∃ v L, o = .returned v ∧ MQ Z (mkl q1 q2 q3) h0 n0 v U'.vm U'.heap L ∧ ReturnedEndW U o U' L ({ frames := 6, cells := 4, slots := 12, locals := 88 } : Room).cells ({ frames := 6, cells := 4, slots := 12, locals := 88 } : Room).slots) := by
  refine MetFree.of_bodySF pn_mak hisR ?_
  intro p e s m args below meth c s₁ Bd hml0 hP hK
  obtain ⟨rfl, hZ, hh, hI⟩ := hP
  have hx := Bd.exec
  have hby := Bd.bytes
  have hml : c.maxLocals = 3 := hml0
  have hown : s.vm.findClass "com/example/assayer/assayer/core/JsonStringEqualsPinLaw" = some m.cls := findClass_of_methodNamed Bd.named
  have hnm := (name_of_methodNamed Bd.named Bd.method).1
  have hlk : meth.locks = false := BodyLoose.notSynchronized Bd
  have X0 : Stand p l e ({ frames := 6, cells := 4, slots := 12, locals := 88 } : Room) (s.setVm s.vm) m #[(.int q1), (.int q2), (.int q3)] below meth c s₁ [] 0 0 := Stand.of_body Bd
  have e0 : s₁.heap = h0 := by rw [← hh, Bd.state]; rfl
  have hS : s.Since s.vm h0.size := (State.WarmedH.refl s).since _
  have hk0 : h0.size ≤ h0.size := Nat.le_refl _
  show Go p e below (EndW below s (MQ Z (mkl q1 q2 q3) h0 n0) ({ frames := 6, cells := 4, slots := 12, locals := 88 } : Room).cells ({ frames := 6, cells := 4, slots := 12, locals := 88 } : Room).slots) (s₁.setTop (entryFrame m #[(.int q1), (.int q2), (.int q3)] 3))
  rw [ef_mak]
  refine g_iload_n X0 hx 1 q1 (hb hby mak_0) rfl rfl ?_
  by_cases c1 : q1 = (0 : Int32)
  ·
    refine g_ifN X0 hx 4 (hb hby mak_1) (XT.i0_ne_f c1) rfl ?_
    obtain ⟨T_4, h_4, a_4, X_4, e_4, ga_4, E_4, A_4, D_4, st_4⟩ := g_newO X0 hx hZ hown (hw _ (List.mem_of_getElem? (i := 5) rfl)) (hw _ (List.mem_of_getElem? (i := 6) rfl)) (hw _ (List.mem_of_getElem? (i := 7) rfl)) e0 7 (hb hby mak_4) rfl (by decide) (by decide)
    refine st_4 ?_
    have g_4 : n0 ≤ a_4 := by rw [ga_4]; exact Nat.le_trans (XO.1 ▸ XO.2.1) (Nat.le_refl _)
    have gh_4 : h0.size ≤ a_4 := by rw [ga_4]; exact (Nat.le_refl _)
    have Z_4 : h0.size ≤ h_4.size := Nat.le_trans (Nat.le_refl _) E_4.1
    have O_4 := Old.ext XO E_4
    have hk_4 := Nat.le_trans hk0 E_4.1
    have G_4_value : Fld Z h_4 a_4 "java/lang/String" "value" "[B" .null := D_4 (Or.inr (hw _ (List.mem_of_getElem? (i := 21) rfl))) (ty := .array (.byte)) (by decide)
    have G_4_coder : Fld Z h_4 a_4 "java/lang/String" "coder" "B" (.int (0 : Int32)) := D_4 (Or.inr (hw _ (List.mem_of_getElem? (i := 22) rfl))) (ty := .byte) (by decide)
    refine g_dup X_4 hx 8 (hb hby mak_7) rfl rfl ?_
    refine g_iconst X_4 hx 9 (0 : Int32) (hb hby mak_8) rfl rfl ?_
    obtain ⟨T_9, h_9, a_9, k_9, X_9, e_9, ga_9, E_9, A_9, st_9⟩ := g_newP X_4 hx hZ (aty := .char) (n := (0 : Int32)) (hw _ (List.mem_of_getElem? (i := 8) rfl)) e_4 0 (by decide) (by decide) (by decide) (by decide) (by decide) 11 (hb hby mak_9) rfl
    refine st_9 ?_
    have g_9 : n0 ≤ a_9 := by rw [ga_9]; exact Nat.le_trans (XO.1 ▸ XO.2.1) Z_4
    have gh_9 : h0.size ≤ a_9 := by rw [ga_9]; exact Z_4
    have n_9_a_4 : a_4 ≠ a_9 := by rw [ga_9]; exact Nat.ne_of_lt A_4.lt
    have F_9_0 : Exa Z h_9 a_4 "java/lang/String" := A_4.ext E_9
    have F_9_1 : Fld Z h_9 a_4 "java/lang/String" "value" "[B" .null := G_4_value.ext E_9
    have F_9_2 : Fld Z h_9 a_4 "java/lang/String" "coder" "B" (.int (0 : Int32)) := G_4_coder.ext E_9
    have Z_9 : h0.size ≤ h_9.size := Nat.le_trans Z_4 E_9.1
    have O_9 := Old.ext O_4 E_9
    have hk_9 := Nat.le_trans hk_4 E_9.1
    have G_9 : Arl Z h_9 a_9 .char [] := Arl.new A_9 rfl
    have hI := ev_keep hI (h' := h_9) (((Keep.refl _ _).ext E_4).ext E_9)
    obtain ⟨_, T_11, L_11, X_11, hS, hZ, hown, hW_11, ⟨b_11, rfl, M_11, K_11, Q_11, hI⟩, st_11⟩ := g_callIW X_9 hx hZ hS hk_9  (own := "com/example/assayer/assayer/core/JsonStringEqualsPinLaw") (index := 9) (y := (⟨"java/lang/String", "<init>", "([C)V"⟩ : MethodName)) (a := a_4) (as' := [(.ref a_9)]) rfl hown (hw _ (List.mem_of_getElem? (i := 9) rfl)) (hw _ (List.mem_of_getElem? (i := 10) rfl)) (hw _ (List.mem_of_getElem? (i := 7) rfl)) (hw _ (List.mem_of_getElem? (i := 11) rfl)) (by decide) e_9 (fun vm₁ hw₁ => ev_warm hI hw₁) (rm_in1_0 l Z a0 hw a_4 a_9 h_9 n0 O_9 hh0 hcw g_4 (Ne.symm n_9_a_4) G_9 F_9_0 F_9_1 F_9_2) pd_in1_0 rfl 1 (by decide) (by decide) (by decide) (by decide) (pc := 11) (Ls := #[.val (.int q1), .val (.int q2), .val (.int q3)]) (rest := [(.ref a_4)]) (st := [(.ref a_9), (.ref a_4), (.ref a_4)]) (by rw [hml]; rfl) rfl (Nat.le_of_eq rfl) (hb hby mak_11)
    refine st_11 ?_
    have F_11_0 : Exa Z T_11.heap a_4 "java/lang/String" := F_9_0.keep K_11
    have F_11_1 : Arl Z T_11.heap a_9 .char [] := G_9.keep K_11 (ninS (Ne.symm n_9_a_4) nin0)
    have N_11 := Fr.app (Fr.nil _) M_11
    have Z_11 : h0.size ≤ T_11.heap.size := Nat.le_trans Z_9 K_11.1
    have O_11 := Old.keep O_9 K_11 (allS g_4 all0)
    show Go p e below _ (T_11.setTop (mkF m 14 #[.val (.int q1), .val (.int q2), .val (.int q3)] [(.ref a_4)]))
    have hm : mkl q1 q2 q3 = [] := by unfold mkl; rw [if_pos c1]
    have hT' : Stl Z T_11.heap a_4 b_11 (coOf (mkl q1 q2 q3)) ((bsOf (mkl q1 q2 q3)).map Value.int) := by rw [hm]; exact Q_11
    exact GoW.retA X_11 hS (Nat.le_refl _) hx hlk Bd.returns rfl rfl (hb hby mak_14) (by decide) (by decide) ⟨a_4, b_11, rfl, gh_4, N_11, ((((Keep.refl _ _).ext E_4).ext E_9).trans K_11 (allS (Or.inr gh_4) all0)), hT', hI⟩
  ·
    refine g_ifY X0 hx 15 (hb hby mak_1) (XT.i0_ne_t c1) (by decide) (by decide) ?_
    refine g_iload_n X0 hx 16 q1 (hb hby mak_15) rfl rfl ?_
    refine g_iconst X0 hx 17 (1 : Int32) (hb hby mak_16) rfl rfl ?_
    by_cases c17 : q1 = (1 : Int32)
    ·
      refine g_icmpN X0 hx 20 (hb hby mak_17) (XT.ii_ne_f c17) rfl ?_
      refine g_iload_n X0 hx 21 q2 (hb hby mak_20) rfl rfl ?_
      obtain ⟨_, T_21, L_21, X_21, ⟨a_21, b_21, rfl, g_21, M_21, K_21, Q_21⟩, st_21⟩ := g_callS X0 hx hZ  (own := "com/example/assayer/assayer/core/JsonStringEqualsPinLaw") (index := 12) (y := (⟨"java/lang/String", "valueOf", "(C)Ljava/lang/String;"⟩ : MethodName)) (as' := [(.int q2)]) hown (hw _ (List.mem_of_getElem? (i := 77) rfl)) (hw _ (List.mem_of_getElem? (i := 78) rfl)) (hw _ (List.mem_of_getElem? (i := 7) rfl)) (hw _ (List.mem_of_getElem? (i := 79) rfl)) (by decide) e0 (rm_val l Z a0 hw q2 h0 n0 XO cs hcs SC SA SH SL) pd_val rfl 0 (by decide) (by decide) (by decide) (by decide) (pc := 21) (Ls := #[.val (.int q1), .val (.int q2), .val (.int q3)]) (rest := []) (st := [(.int q2)]) (by rw [hml]; rfl) rfl (Nat.le_of_eq rfl) (hb hby mak_21)
      refine Go.of ?_ st_21
      have N_21 := Fr.app (Fr.nil _) M_21
      have Z_21 : h0.size ≤ T_21.heap.size := Nat.le_trans (Nat.le_refl _) K_21.1
      have O_21 := Old.keep XO K_21 all0
      have hk_21 := Nat.le_trans hk0 K_21.1
      show Go p e below _ (T_21.setTop (mkF m 24 #[.val (.int q1), .val (.int q2), .val (.int q3)] [(.ref a_21)]))
      have hm : mkl q1 q2 q3 = [q2] := by unfold mkl; rw [if_neg c1, if_pos c17]
      have hT' : Stl Z T_21.heap a_21 b_21 (coOf (mkl q1 q2 q3)) ((bsOf (mkl q1 q2 q3)).map Value.int) := by rw [hm]; exact Q_21
      exact GoW.retA X_21 hS hk_21 hx hlk Bd.returns rfl rfl (hb hby mak_24) (by decide) (by decide) ⟨a_21, b_21, rfl, g_21, N_21, ((Keep.refl _ _).trans K_21 all0), hT', (ev_warm (ev_keep hI ((Keep.refl _ _).trans K_21 all0)) X_21.warmed)⟩
    ·
      refine g_icmpY X0 hx 25 (hb hby mak_17) (XT.ii_ne_t c17) (by decide) (by decide) ?_
      obtain ⟨T_25, h_25, a_25, X_25, e_25, ga_25, E_25, A_25, D_25, st_25⟩ := g_newO X0 hx hZ hown (hw _ (List.mem_of_getElem? (i := 5) rfl)) (hw _ (List.mem_of_getElem? (i := 6) rfl)) (hw _ (List.mem_of_getElem? (i := 7) rfl)) e0 28 (hb hby mak_25) rfl (by decide) (by decide)
      refine st_25 ?_
      have g_25 : n0 ≤ a_25 := by rw [ga_25]; exact Nat.le_trans (XO.1 ▸ XO.2.1) (Nat.le_refl _)
      have gh_25 : h0.size ≤ a_25 := by rw [ga_25]; exact (Nat.le_refl _)
      have Z_25 : h0.size ≤ h_25.size := Nat.le_trans (Nat.le_refl _) E_25.1
      have O_25 := Old.ext XO E_25
      have hk_25 := Nat.le_trans hk0 E_25.1
      have G_25_value : Fld Z h_25 a_25 "java/lang/String" "value" "[B" .null := D_25 (Or.inr (hw _ (List.mem_of_getElem? (i := 21) rfl))) (ty := .array (.byte)) (by decide)
      have G_25_coder : Fld Z h_25 a_25 "java/lang/String" "coder" "B" (.int (0 : Int32)) := D_25 (Or.inr (hw _ (List.mem_of_getElem? (i := 22) rfl))) (ty := .byte) (by decide)
      refine g_dup X_25 hx 29 (hb hby mak_28) rfl rfl ?_
      refine g_iconst X_25 hx 30 (2 : Int32) (hb hby mak_29) rfl rfl ?_
      obtain ⟨T_30, h_30, a_30, k_30, X_30, e_30, ga_30, E_30, A_30, st_30⟩ := g_newP X_25 hx hZ (aty := .char) (n := (2 : Int32)) (hw _ (List.mem_of_getElem? (i := 8) rfl)) e_25 2 (by decide) (by decide) (by decide) (by decide) (by decide) 32 (hb hby mak_30) rfl
      refine st_30 ?_
      have g_30 : n0 ≤ a_30 := by rw [ga_30]; exact Nat.le_trans (XO.1 ▸ XO.2.1) Z_25
      have gh_30 : h0.size ≤ a_30 := by rw [ga_30]; exact Z_25
      have n_30_a_25 : a_25 ≠ a_30 := by rw [ga_30]; exact Nat.ne_of_lt A_25.lt
      have F_30_0 : Exa Z h_30 a_25 "java/lang/String" := A_25.ext E_30
      have F_30_1 : Fld Z h_30 a_25 "java/lang/String" "value" "[B" .null := G_25_value.ext E_30
      have F_30_2 : Fld Z h_30 a_25 "java/lang/String" "coder" "B" (.int (0 : Int32)) := G_25_coder.ext E_30
      have Z_30 : h0.size ≤ h_30.size := Nat.le_trans Z_25 E_30.1
      have O_30 := Old.ext O_25 E_30
      have hk_30 := Nat.le_trans hk_25 E_30.1
      have G_30 : Arl Z h_30 a_30 .char [(.int (0 : Int32)), (.int (0 : Int32))] := Arl.new A_30 rfl
      refine g_dup X_30 hx 33 (hb hby mak_32) rfl rfl ?_
      refine g_iconst X_30 hx 34 (0 : Int32) (hb hby mak_33) rfl rfl ?_
      refine g_iload_n X_30 hx 35 q2 (hb hby mak_34) rfl rfl ?_
      obtain ⟨T_35, h_35, X_35, e_35, W_35, B_35, st_35⟩ := g_castore X_30 hx hZ e_30 G_30 (j := (0 : Int32)) q2 (k := 0) rfl (Nat.le_of_ble_eq_true rfl) 36 (hb hby mak_35) rfl
      refine st_35 ?_
      have C_35 : Arl Z h_35 a_30 .char [(.int q2), (.int (0 : Int32))] := by have z := B_35; rw [show (nar .char q2) = q2 from ch_nar h2c] at z; exact z
      have F_35_0 : Arl Z h_35 a_30 .char [(.int q2), (.int (0 : Int32))] := C_35
      have F_35_1 : Exa Z h_35 a_25 "java/lang/String" := F_30_0.wr W_35
      have F_35_2 : Fld Z h_35 a_25 "java/lang/String" "value" "[B" .null := F_30_1.other W_35 (Or.inl n_30_a_25)
      have F_35_3 : Fld Z h_35 a_25 "java/lang/String" "coder" "B" (.int (0 : Int32)) := F_30_2.other W_35 (Or.inl n_30_a_25)
      have N_35 := Fr.snoc X_35 (Fr.nil _) g_30
      have Z_35 : h0.size ≤ h_35.size := by rw [W_35.size]; exact Z_30
      have O_35 := Old.wr O_30 W_35 g_30
      have hk_35 := Nat.le_trans hk_30 (Nat.le_of_eq W_35.size.symm)
      refine g_dup X_35 hx 37 (hb hby mak_36) rfl rfl ?_
      refine g_iconst X_35 hx 38 (1 : Int32) (hb hby mak_37) rfl rfl ?_
      refine g_iload_n X_35 hx 39 q3 (hb hby mak_38) rfl rfl ?_
      obtain ⟨T_39, h_39, X_39, e_39, W_39, B_39, st_39⟩ := g_castore X_35 hx hZ e_35 F_35_0 (j := (1 : Int32)) q3 (k := 1) rfl (Nat.le_of_ble_eq_true rfl) 40 (hb hby mak_39) rfl
      refine st_39 ?_
      have C_39 : Arl Z h_39 a_30 .char [(.int q2), (.int q3)] := by have z := B_39; rw [show (nar .char q3) = q3 from ch_nar h3c] at z; exact z
      have F_39_0 : Arl Z h_39 a_30 .char [(.int q2), (.int q3)] := C_39
      have F_39_1 : Exa Z h_39 a_25 "java/lang/String" := F_35_1.wr W_39
      have F_39_2 : Fld Z h_39 a_25 "java/lang/String" "value" "[B" .null := F_35_2.other W_39 (Or.inl n_30_a_25)
      have F_39_3 : Fld Z h_39 a_25 "java/lang/String" "coder" "B" (.int (0 : Int32)) := F_35_3.other W_39 (Or.inl n_30_a_25)
      have N_39 := Fr.snoc X_39 N_35 g_30
      have Z_39 : h0.size ≤ h_39.size := by rw [W_39.size]; exact Z_35
      have O_39 := Old.wr O_35 W_39 g_30
      have hk_39 := Nat.le_trans hk_35 (Nat.le_of_eq W_39.size.symm)
      obtain ⟨_, T_40, L_40, X_40, ⟨b_40, rfl, g_40, M_40, K_40, Q_40⟩, st_40⟩ := g_callI X_39 hx hZ  (own := "com/example/assayer/assayer/core/JsonStringEqualsPinLaw") (index := 9) (y := (⟨"java/lang/String", "<init>", "([C)V"⟩ : MethodName)) (a := a_25) (as' := [(.ref a_30)]) rfl hown (hw _ (List.mem_of_getElem? (i := 9) rfl)) (hw _ (List.mem_of_getElem? (i := 10) rfl)) (hw _ (List.mem_of_getElem? (i := 7) rfl)) (hw _ (List.mem_of_getElem? (i := 11) rfl)) (by decide) e_39 (rm_in1_2 l Z a0 hw a_25 a_30 h_39 n0 O_39 cs hcs SC SA SH SL g_25 (Ne.symm n_30_a_25) q2 q3 h2c h3c F_39_0 F_39_1 F_39_2 F_39_3) pd_in1_2 rfl 1 (by decide) (by decide) (by decide) (by decide) (pc := 40) (Ls := #[.val (.int q1), .val (.int q2), .val (.int q3)]) (rest := [(.ref a_25)]) (st := [(.ref a_30), (.ref a_25), (.ref a_25)]) (by rw [hml]; rfl) rfl (Nat.le_of_eq rfl) (hb hby mak_40)
      refine st_40 ?_
      have F_40_0 : Arl Z T_40.heap a_30 .char [(.int q2), (.int q3)] := F_39_0.keep K_40 (ninS (Ne.symm n_30_a_25) nin0)
      have F_40_1 : Exa Z T_40.heap a_25 "java/lang/String" := F_39_1.keep K_40
      have N_40 := Fr.app N_39 M_40
      have Z_40 : h0.size ≤ T_40.heap.size := Nat.le_trans Z_39 K_40.1
      have O_40 := Old.keep O_39 K_40 (allS g_25 all0)
      have hk_40 := Nat.le_trans hk_39 K_40.1
      show Go p e below _ (T_40.setTop (mkF m 43 #[.val (.int q1), .val (.int q2), .val (.int q3)] [(.ref a_25)]))
      have hm : mkl q1 q2 q3 = [q2, q3] := by unfold mkl; rw [if_neg c1, if_neg c17]
      have hT' : Stl Z T_40.heap a_25 b_40 (coOf (mkl q1 q2 q3)) ((bsOf (mkl q1 q2 q3)).map Value.int) := by rw [hm]; exact Q_40
      exact GoW.retA X_40 hS hk_40 hx hlk Bd.returns rfl rfl (hb hby mak_43) (by decide) (by decide) ⟨a_25, b_40, rfl, gh_25, N_40, ((((((Keep.refl _ _).ext E_25).ext E_30).wr W_35 (Or.inr gh_30)).wr W_39 (Or.inr gh_30)).trans K_40 (allS (Or.inr gh_25) all0)), hT', (ev_warm (ev_keep hI ((((((Keep.refl _ _).ext E_25).ext E_30).wr W_35 (Or.inr gh_30)).wr W_39 (Or.inr gh_30)).trans K_40 (allS (Or.inr gh_25) all0))) X_40.warmed)⟩
theorem jv_0 : decode prog_18_method_1_code 0 = .ok (.aload_n 0, 1) := by decide +kernel
theorem jv_1 : decode prog_18_method_1_code 1 = .ok (.invokespecial 1, 3) := by decide +kernel
theorem jv_4 : decode prog_18_method_1_code 4 = .ok (.return_, 1) := by decide +kernel
theorem pn_jv : plainFor (⟨"com/example/assayer/assayer/core/JsonValue", "<init>", "()V"⟩ : MethodName) = true := by first | exact plainFor_of_name (by first | (simp [plainName, overriddenIn]; done) | decide +kernel) | decide +kernel
theorem ef_jv (m : MethodId) (qa : Addr)  : entryFrame m #[(.ref qa)] 1 = mkF m 0 #[.val (.ref qa)] [] := by first | (simp [entryFrame, mkF, argsToLocals, Value.category, maxLocals]; done) | rfl
theorem pd_jv : parseMethodDescriptor "()V" = some ⟨[], none⟩ := by decide +kernel
set_option maxRecDepth 65536 in
set_option maxHeartbeats 40000000 in
theorem rm_jv (l : Launch) (Z : State) (a0 : Array Value) (hw : ∀ d ∈ tables_1, d.before a0 Z = true)  (qa : Addr) (h0 : Heap)  :
    MetFree l (⟨"com/example/assayer/assayer/core/JsonValue", "<init>", "()V"⟩ : MethodName) (head1 [Jvm.Cond.code (⟨"com/example/assayer/assayer/core/JsonValue", "<init>", "()V"⟩ : MethodName) prog_18_method_1_code 1 none] ({ frames := 1, cells := 0, slots := 0, locals := 12 } : Room)) (fun a U => a = #[(.ref qa)] ∧ Z.Warmed39 U.vm ∧ U.heap = h0) (fun _ _ _ _ _ => True) (fun _ U o U' => ∃ v L, o = .returned v ∧ Pur none h0 v U'.heap L ∧ FrameEnd U o U' L ({ frames := 1, cells := 0, slots := 0, locals := 12 } : Room).cells ({ frames := 1, cells := 0, slots := 0, locals := 12 } : Room).slots) := by
  refine MetFree.of_bodySF pn_jv hisR ?_
  intro p e s m args below meth c s₁ Bd hml0 hP hK
  obtain ⟨rfl, hZ, hh⟩ := hP
  have hx := Bd.exec
  have hby := Bd.bytes
  have hml : c.maxLocals = 1 := hml0
  have hown : s.vm.findClass "com/example/assayer/assayer/core/JsonValue" = some m.cls := findClass_of_methodNamed Bd.named
  have hnm := (name_of_methodNamed Bd.named Bd.method).1
  have hlk : meth.locks = false := BodyLoose.notSynchronized Bd
  have X0 : Stand p l e ({ frames := 1, cells := 0, slots := 0, locals := 12 } : Room) s m #[(.ref qa)] below meth c s₁ [] 0 0 := Stand.of_body Bd
  have e0 : s₁.heap = h0 := by rw [← hh, Bd.state]; rfl
  show Go p e below (EndN below s (Pur none h0) ({ frames := 1, cells := 0, slots := 0, locals := 12 } : Room).cells ({ frames := 1, cells := 0, slots := 0, locals := 12 } : Room).slots) (s₁.setTop (entryFrame m #[(.ref qa)] 1))
  rw [ef_jv]
  refine g_aload_n X0 hx 1 (.ref qa) (hb hby jv_0) rfl rfl rfl ?_
  obtain ⟨T_1, X_1, e_1, st_1⟩ := g_initO X0 hx hZ hown (hw _ (List.mem_of_getElem? (i := 38) rfl)) (hw _ (List.mem_of_getElem? (i := 17) rfl)) (hw _ (List.mem_of_getElem? (i := 18) rfl)) e0 0 (by decide) (by decide) 4 (a := qa) (Ls := #[.val (.ref qa)]) (st := []) (by rw [hml]; rfl) (Nat.le_of_eq rfl) (hb hby jv_1) rfl
  refine st_1 ?_
  exact Go.retV X_1 hx hlk Bd.returns (hb hby jv_4) (by decide) (by decide) ⟨rfl, rfl, e_1⟩
theorem rnn_0 : decode jdk_31_method_11_code 0 = .ok (.aload_n 0, 1) := by decide +kernel
theorem rnn_1 : decode jdk_31_method_11_code 1 = .ok (.ifnonnull 12, 3) := by decide +kernel
theorem rnn_4 : decode jdk_31_method_11_code 4 = .ok (.new 84, 3) := by decide +kernel
theorem rnn_7 : decode jdk_31_method_11_code 7 = .ok (.dup, 1) := by decide +kernel
theorem rnn_8 : decode jdk_31_method_11_code 8 = .ok (.aload_n 1, 1) := by decide +kernel
theorem rnn_9 : decode jdk_31_method_11_code 9 = .ok (.invokespecial 87, 3) := by decide +kernel
theorem rnn_12 : decode jdk_31_method_11_code 12 = .ok (.athrow, 1) := by decide +kernel
theorem rnn_13 : decode jdk_31_method_11_code 13 = .ok (.aload_n 0, 1) := by decide +kernel
theorem rnn_14 : decode jdk_31_method_11_code 14 = .ok (.areturn, 1) := by decide +kernel
theorem pn_rnn : plainFor (⟨"java/util/Objects", "requireNonNull", "(Ljava/lang/Object;Ljava/lang/String;)Ljava/lang/Object;"⟩ : MethodName) = true := by first | exact plainFor_of_name (by first | (simp [plainName, overriddenIn]; done) | decide +kernel) | decide +kernel
theorem ef_rnn (m : MethodId) (qa : Addr) (qb : Addr)  : entryFrame m #[(.ref qa), (.ref qb)] 2 = mkF m 0 #[.val (.ref qa), .val (.ref qb)] [] := by first | (simp [entryFrame, mkF, argsToLocals, Value.category, maxLocals]; done) | rfl
theorem pd_rnn : parseMethodDescriptor "(Ljava/lang/Object;Ljava/lang/String;)Ljava/lang/Object;" = some ⟨[.object "java/lang/Object", .object "java/lang/String"], some (.object "java/lang/Object")⟩ := by decide +kernel
set_option maxRecDepth 65536 in
set_option maxHeartbeats 40000000 in
theorem rm_rnn (l : Launch) (Z : State) (a0 : Array Value) (hw : ∀ d ∈ tables_1, d.before a0 Z = true)  (qa : Addr) (qb : Addr) (h0 : Heap)  :
    MetFree l (⟨"java/util/Objects", "requireNonNull", "(Ljava/lang/Object;Ljava/lang/String;)Ljava/lang/Object;"⟩ : MethodName) (head1 [Jvm.Cond.code (⟨"java/util/Objects", "requireNonNull", "(Ljava/lang/Object;Ljava/lang/String;)Ljava/lang/Object;"⟩ : MethodName) jdk_31_method_11_code 2 (some (Jvm.ClassFile.FieldType.object "java/lang/Object"))] ({ frames := 0, cells := 0, slots := 0, locals := 0 } : Room)) (fun a U => a = #[(.ref qa), (.ref qb)] ∧ Z.Warmed39 U.vm ∧ U.heap = h0) (fun _ _ _ _ _ => True) (fun _ U o U' => ∃ v L, o = .returned v ∧ Pur (some (.ref qa)) h0 v U'.heap L ∧ FrameEnd U o U' L ({ frames := 0, cells := 0, slots := 0, locals := 0 } : Room).cells ({ frames := 0, cells := 0, slots := 0, locals := 0 } : Room).slots) := by
  refine MetFree.of_bodySF pn_rnn hisR ?_
  intro p e s m args below meth c s₁ Bd hml0 hP hK
  obtain ⟨rfl, hZ, hh⟩ := hP
  have hx := Bd.exec
  have hby := Bd.bytes
  have hml : c.maxLocals = 2 := hml0
  have hown : s.vm.findClass "java/util/Objects" = some m.cls := findClass_of_methodNamed Bd.named
  have hnm := (name_of_methodNamed Bd.named Bd.method).1
  have hlk : meth.locks = false := BodyLoose.notSynchronized Bd
  have X0 : Stand p l e ({ frames := 0, cells := 0, slots := 0, locals := 0 } : Room) s m #[(.ref qa), (.ref qb)] below meth c s₁ [] 0 0 := Stand.of_body Bd
  have e0 : s₁.heap = h0 := by rw [← hh, Bd.state]; rfl
  show Go p e below (EndN below s (Pur (some (.ref qa)) h0) ({ frames := 0, cells := 0, slots := 0, locals := 0 } : Room).cells ({ frames := 0, cells := 0, slots := 0, locals := 0 } : Room).slots) (s₁.setTop (entryFrame m #[(.ref qa), (.ref qb)] 2))
  rw [ef_rnn]
  refine g_aload_n X0 hx 1 (.ref qa) (hb hby rnn_0) rfl rfl rfl ?_
  refine g_ifnonnullY X0 hx 13 (hb hby rnn_1) (by decide) (by decide) ?_
  refine g_aload_n X0 hx 14 (.ref qa) (hb hby rnn_13) rfl rfl rfl ?_
  exact Go.retA X0 hx hlk Bd.returns rfl rfl (hb hby rnn_14) (by decide) (by decide) ⟨rfl, rfl, e0⟩
def JQ (Z : State) (qa qs : Addr) (h0 : Heap) (n0 : Nat) (v : Option Value) (vm : Vm) (h : Heap) (L : List Loc) : Prop := v = none ∧ Fr n0 L ∧ Keep h0 h [qa] ∧ Fld Z h qa "com/example/assayer/assayer/core/JsonString" "value" "Ljava/lang/String;" (.ref qs) ∧ LV Z vm
theorem jin_0 : decode prog_15_method_1_code 0 = .ok (.aload_n 0, 1) := by decide +kernel
theorem jin_1 : decode prog_15_method_1_code 1 = .ok (.invokespecial 1, 3) := by decide +kernel
theorem jin_4 : decode prog_15_method_1_code 4 = .ok (.aload_n 0, 1) := by decide +kernel
theorem jin_5 : decode prog_15_method_1_code 5 = .ok (.aload_n 1, 1) := by decide +kernel
theorem jin_6 : decode prog_15_method_1_code 6 = .ok (.ldc 7, 2) := by decide +kernel
theorem jin_8 : decode prog_15_method_1_code 8 = .ok (.invokestatic 9, 3) := by decide +kernel
theorem jin_11 : decode prog_15_method_1_code 11 = .ok (.checkcast 15, 3) := by decide +kernel
theorem jin_14 : decode prog_15_method_1_code 14 = .ok (.putfield 17, 3) := by decide +kernel
theorem jin_17 : decode prog_15_method_1_code 17 = .ok (.return_, 1) := by decide +kernel
theorem pn_jin : plainFor (⟨"com/example/assayer/assayer/core/JsonString", "<init>", "(Ljava/lang/String;)V"⟩ : MethodName) = true := by first | exact plainFor_of_name (by first | (simp [plainName, overriddenIn]; done) | decide +kernel) | decide +kernel
theorem ef_jin (m : MethodId) (qa : Addr) (qs : Addr) : entryFrame m #[(.ref qa), (.ref qs)] 2 = mkF m 0 #[.val (.ref qa), .val (.ref qs)] [] := by first | (simp [entryFrame, mkF, argsToLocals, Value.category, maxLocals]; done) | rfl
theorem pd_jin : parseMethodDescriptor "(Ljava/lang/String;)V" = some ⟨[.object "java/lang/String"], none⟩ := by decide +kernel
set_option maxRecDepth 65536 in
set_option maxHeartbeats 40000000 in
theorem rm_jin (l : Launch) (Z : State) (a0 : Array Value) (hw : ∀ d ∈ tables_1, d.before a0 Z = true)  (qa : Addr) (qs : Addr) (h0 : Heap) (n0 : Nat) (XO : Old Z n0 h0) (hh1 : Jvm.Lit.constHeld Z "com/example/assayer/assayer/core/JsonString" 7) (hcw : Jvm.Lit.compactW.before a0 Z = true) (ga : n0 ≤ qa) (E1 : Exa Z h0 qa "com/example/assayer/assayer/core/JsonString")(F1 : Fld Z h0 qa "com/example/assayer/assayer/core/JsonString" "value" "Ljava/lang/String;" .null)(E2 : Exa Z h0 qs "java/lang/String") :
    MetFree l (⟨"com/example/assayer/assayer/core/JsonString", "<init>", "(Ljava/lang/String;)V"⟩ : MethodName) (head1 [Jvm.Cond.code (⟨"com/example/assayer/assayer/core/JsonString", "<init>", "(Ljava/lang/String;)V"⟩ : MethodName) prog_15_method_1_code 2 none] ({ frames := 2, cells := 2, slots := 24, locals := 26 } : Room)) (fun a U => a = #[(.ref qa), (.ref qs)] ∧ Z.Warmed39 U.vm ∧ U.heap = h0 ∧ (fun vm => LV Z vm) U.vm) (fun _ _ _ _ _ => True) (fun _ U o U' => ∃ v L, o = .returned v ∧ JQ Z qa qs h0 n0 v U'.vm U'.heap L ∧ ReturnedEndW U o U' L ({ frames := 2, cells := 2, slots := 24, locals := 26 } : Room).cells ({ frames := 2, cells := 2, slots := 24, locals := 26 } : Room).slots) := by
  refine MetFree.of_bodySF pn_jin hisR ?_
  intro p e s m args below meth c s₁ Bd hml0 hP hK
  obtain ⟨rfl, hZ, hh, hI⟩ := hP
  have hx := Bd.exec
  have hby := Bd.bytes
  have hml : c.maxLocals = 2 := hml0
  have hown : s.vm.findClass "com/example/assayer/assayer/core/JsonString" = some m.cls := findClass_of_methodNamed Bd.named
  have hnm := (name_of_methodNamed Bd.named Bd.method).1
  have hlk : meth.locks = false := BodyLoose.notSynchronized Bd
  have X0 : Stand p l e ({ frames := 2, cells := 2, slots := 24, locals := 26 } : Room) (s.setVm s.vm) m #[(.ref qa), (.ref qs)] below meth c s₁ [] 0 0 := Stand.of_body Bd
  have e0 : s₁.heap = h0 := by rw [← hh, Bd.state]; rfl
  have hS : s.Since s.vm h0.size := (State.WarmedH.refl s).since _
  have hk0 : h0.size ≤ h0.size := Nat.le_refl _
  show Go p e below (EndW below s (JQ Z qa qs h0 n0) ({ frames := 2, cells := 2, slots := 24, locals := 26 } : Room).cells ({ frames := 2, cells := 2, slots := 24, locals := 26 } : Room).slots) (s₁.setTop (entryFrame m #[(.ref qa), (.ref qs)] 2))
  rw [ef_jin]
  refine g_aload_n X0 hx 1 (.ref qa) (hb hby jin_0) rfl rfl rfl ?_
  obtain ⟨_, T_1, L_1, X_1, ⟨rfl, rfl, e_1⟩, st_1⟩ := g_callI X0 hx hZ  (own := "com/example/assayer/assayer/core/JsonString") (index := 1) (y := (⟨"com/example/assayer/assayer/core/JsonValue", "<init>", "()V"⟩ : MethodName)) (a := qa) (as' := []) rfl hown (hw _ (List.mem_of_getElem? (i := 33) rfl)) (hw _ (List.mem_of_getElem? (i := 34) rfl)) (hw _ (List.mem_of_getElem? (i := 36) rfl)) (hw _ (List.mem_of_getElem? (i := 37) rfl)) (by decide) e0 (rm_jv l Z a0 hw qa h0) pd_jv rfl 0 (by decide) (by decide) (by decide) (by decide) (pc := 1) (Ls := #[.val (.ref qa), .val (.ref qs)]) (rest := []) (st := [(.ref qa)]) (by rw [hml]; rfl) rfl (Nat.le_of_eq rfl) (hb hby jin_1)
  refine st_1 ?_
  rw [List.append_nil] at X_1
  show Go p e below _ (T_1.setTop (mkF m 4 #[.val (.ref qa), .val (.ref qs)] []))
  refine g_aload_n X_1 hx 5 (.ref qa) (hb hby jin_4) rfl rfl rfl ?_
  refine g_aload_n X_1 hx 6 (.ref qs) (hb hby jin_5) rfl rfl rfl ?_
  rcases hI with ⟨Ts, hI, hvT⟩ | ⟨la, hLit⟩
  ·
    obtain ⟨la_6, T_6, h_6, k_6, lb_6, X_6, e_6, E_6, hS, hk_6', hZ, hown, hLs_6, hI, hLit_6, st_6⟩ := g_ldcC X_1 hx hZ hown (hw _ (List.mem_of_getElem? (i := 39) rfl)) (fun d hd => hw d (own_wS d hd)) e_1 hS hk0 (Fr.nil _) (fun b cl q => by rw [hh]; exact XO.2.2 b cl q) hI hvT hh1 hcw [.int (118 : Int32), .int (97 : Int32), .int (108 : Int32), .int (117 : Int32), .int (101 : Int32)] (5 : Int32) ⟨by decide +kernel, by decide +kernel⟩ (by decide) rfl 20 (by decide) (by decide) (by decide) (by decide) 8 (hb hby jin_6) rfl
    refine st_6 ?_
    have F_6_0 : Exa Z h_6 qa "com/example/assayer/assayer/core/JsonString" := E1.ext E_6
    have F_6_1 : Fld Z h_6 qa "com/example/assayer/assayer/core/JsonString" "value" "Ljava/lang/String;" .null := F1.ext E_6
    have F_6_2 : Exa Z h_6 qs "java/lang/String" := E2.ext E_6
    have Z_6 : h0.size ≤ h_6.size := Nat.le_trans (Nat.le_refl _) E_6.1
    have O_6 := Old.ext XO E_6
    obtain ⟨_, T_8, L_8, X_8, ⟨rfl, rfl, e_8⟩, st_8⟩ := g_callS X_6 hx hZ  (own := "com/example/assayer/assayer/core/JsonString") (index := 9) (y := (⟨"java/util/Objects", "requireNonNull", "(Ljava/lang/Object;Ljava/lang/String;)Ljava/lang/Object;"⟩ : MethodName)) (as' := [(.ref qs), (.ref la_6)]) hown (hw _ (List.mem_of_getElem? (i := 40) rfl)) (hw _ (List.mem_of_getElem? (i := 41) rfl)) (hw _ (List.mem_of_getElem? (i := 42) rfl)) (hw _ (List.mem_of_getElem? (i := 43) rfl)) (by decide) e_6 (rm_rnn l Z a0 hw qs la_6 h_6) pd_rnn rfl 1 (by decide) (by decide) (by decide) (by decide) (pc := 8) (Ls := #[.val (.ref qa), .val (.ref qs)]) (rest := [(.ref qa)]) (st := [(.ref la_6), (.ref qs), (.ref qa)]) (by rw [hml]; rfl) rfl (Nat.le_of_eq rfl) (hb hby jin_8)
    refine Go.of ?_ st_8
    rw [List.append_nil] at X_8
    show Go p e below _ (T_8.setTop (mkF m 11 #[.val (.ref qa), .val (.ref qs)] [(.ref qs), (.ref qa)]))
    obtain ⟨T_11, X_11, e_11, st_11⟩ := g_cast X_8 hx hZ hown (hw _ (List.mem_of_getElem? (i := 44) rfl)) e_8 (Ins.self F_6_2) 14 (hb hby jin_11) rfl
    refine st_11 ?_
    obtain ⟨T_14, h_14, X_14, e_14, W_14, st_14⟩ := g_putF X_11 hx hZ hown (hw _ (List.mem_of_getElem? (i := 45) rfl)) Via.refl e_11 F_6_1 F_6_0 (Or.inr ⟨hw _ (List.mem_of_getElem? (i := 46) rfl), rfl, hnm⟩) (hw _ (List.mem_of_getElem? (i := 28) rfl)) (ty := .object "java/lang/String") (v := (.ref qs)) (by decide) rfl rfl 17 (hb hby jin_14) rfl
    refine st_14 ?_
    have F_14_0 : Fld Z h_14 qa "com/example/assayer/assayer/core/JsonString" "value" "Ljava/lang/String;" (.ref qs) := F_6_1.same W_14
    have F_14_1 : Exa Z h_14 qa "com/example/assayer/assayer/core/JsonString" := F_6_0.wr W_14
    have F_14_2 : Exa Z h_14 qs "java/lang/String" := F_6_2.wr W_14
    have N_14 := Fr.snoc X_14 (Fr.nil _) ga
    have Z_14 : h0.size ≤ h_14.size := by rw [W_14.size]; exact Z_6
    have O_14 := Old.wr O_6 W_14 ga
    have hk_14 := Nat.le_trans hk_6' (Nat.le_of_eq W_14.size.symm)
    exact GoW.retV X_14 hS (by rw [e_14]; exact hk_14) hx hlk Bd.returns (hb hby jin_17) (by decide) (by decide) ⟨rfl, N_14, e_14.symm ▸ (((Keep.refl _ _).ext E_6).wr W_14 (Or.inl (by simp))), e_14.symm ▸ F_14_0, (Or.inr ⟨_, lit_warm hLit_6 X_14.warmed.wide⟩)⟩
  ·
    refine g_ldcA X_1 hx hZ hown (hw _ (List.mem_of_getElem? (i := 39) rfl)) hLit 8 (hb hby jin_6) rfl ?_
    obtain ⟨_, T_8x1, L_8x1, X_8x1, ⟨rfl, rfl, e_8x1⟩, st_8x1⟩ := g_callS X_1 hx hZ  (own := "com/example/assayer/assayer/core/JsonString") (index := 9) (y := (⟨"java/util/Objects", "requireNonNull", "(Ljava/lang/Object;Ljava/lang/String;)Ljava/lang/Object;"⟩ : MethodName)) (as' := [(.ref qs), (.ref la)]) hown (hw _ (List.mem_of_getElem? (i := 40) rfl)) (hw _ (List.mem_of_getElem? (i := 41) rfl)) (hw _ (List.mem_of_getElem? (i := 42) rfl)) (hw _ (List.mem_of_getElem? (i := 43) rfl)) (by decide) e_1 (rm_rnn l Z a0 hw qs la h0) pd_rnn rfl 1 (by decide) (by decide) (by decide) (by decide) (pc := 8) (Ls := #[.val (.ref qa), .val (.ref qs)]) (rest := [(.ref qa)]) (st := [(.ref la), (.ref qs), (.ref qa)]) (by rw [hml]; rfl) rfl (Nat.le_of_eq rfl) (hb hby jin_8)
    refine Go.of ?_ st_8x1
    rw [List.append_nil] at X_8x1
    show Go p e below _ (T_8x1.setTop (mkF m 11 #[.val (.ref qa), .val (.ref qs)] [(.ref qs), (.ref qa)]))
    obtain ⟨T_11x1, X_11x1, e_11x1, st_11x1⟩ := g_cast X_8x1 hx hZ hown (hw _ (List.mem_of_getElem? (i := 44) rfl)) e_8x1 (Ins.self E2) 14 (hb hby jin_11) rfl
    refine st_11x1 ?_
    obtain ⟨T_14x1, h_14x1, X_14x1, e_14x1, W_14x1, st_14x1⟩ := g_putF X_11x1 hx hZ hown (hw _ (List.mem_of_getElem? (i := 45) rfl)) Via.refl e_11x1 F1 E1 (Or.inr ⟨hw _ (List.mem_of_getElem? (i := 46) rfl), rfl, hnm⟩) (hw _ (List.mem_of_getElem? (i := 28) rfl)) (ty := .object "java/lang/String") (v := (.ref qs)) (by decide) rfl rfl 17 (hb hby jin_14) rfl
    refine st_14x1 ?_
    have F_14x1_0 : Fld Z h_14x1 qa "com/example/assayer/assayer/core/JsonString" "value" "Ljava/lang/String;" (.ref qs) := F1.same W_14x1
    have F_14x1_1 : Exa Z h_14x1 qa "com/example/assayer/assayer/core/JsonString" := E1.wr W_14x1
    have F_14x1_2 : Exa Z h_14x1 qs "java/lang/String" := E2.wr W_14x1
    have N_14x1 := Fr.snoc X_14x1 (Fr.nil _) ga
    have Z_14x1 : h0.size ≤ h_14x1.size := by rw [W_14x1.size]; exact (Nat.le_refl _)
    have O_14x1 := Old.wr XO W_14x1 ga
    have hk_14x1 := Nat.le_trans hk0 (Nat.le_of_eq W_14x1.size.symm)
    exact GoW.retV X_14x1 hS (by rw [e_14x1]; exact hk_14x1) hx hlk Bd.returns (hb hby jin_17) (by decide) (by decide) ⟨rfl, N_14x1, e_14x1.symm ▸ ((Keep.refl _ _).wr W_14x1 (Or.inl (by simp))), e_14x1.symm ▸ F_14x1_0, (Or.inr ⟨_, lit_warm hLit X_14x1.warmed.wide⟩)⟩
theorem own_len4 {xs : List Int32} (h : xs.length ≤ 4) : ∃ z : Int32, (xs.map Value.int).length.toInt32 = z ∧ z.toInt = (xs.length : Int) := by
  refine ⟨_, rfl, ?_⟩
  rw [List.length_map]
  exact len_toInt (by omega)
theorem own_at {xs : List Int32} {i : Nat} {x : Int32} (h : xs[i]? = some x) : (xs.map Value.int)[i]? = some (.int x) := by rw [List.getElem?_map, h]; rfl
theorem leq_0 : decode jdk_43_method_13_code 0 = .ok (.aload_n 0, 1) := by decide +kernel
theorem leq_1 : decode jdk_43_method_13_code 1 = .ok (.arraylength, 1) := by decide +kernel
theorem leq_2 : decode jdk_43_method_13_code 2 = .ok (.aload_n 1, 1) := by decide +kernel
theorem leq_3 : decode jdk_43_method_13_code 3 = .ok (.arraylength, 1) := by decide +kernel
theorem leq_4 : decode jdk_43_method_13_code 4 = .ok (.if_icmp .ne 30, 3) := by decide +kernel
theorem leq_7 : decode jdk_43_method_13_code 7 = .ok (.iconst 0, 1) := by decide +kernel
theorem leq_8 : decode jdk_43_method_13_code 8 = .ok (.istore_n 2, 1) := by decide +kernel
theorem leq_9 : decode jdk_43_method_13_code 9 = .ok (.iload_n 2, 1) := by decide +kernel
theorem leq_10 : decode jdk_43_method_13_code 10 = .ok (.aload_n 0, 1) := by decide +kernel
theorem leq_11 : decode jdk_43_method_13_code 11 = .ok (.arraylength, 1) := by decide +kernel
theorem leq_12 : decode jdk_43_method_13_code 12 = .ok (.if_icmp .ge 20, 3) := by decide +kernel
theorem leq_15 : decode jdk_43_method_13_code 15 = .ok (.aload_n 0, 1) := by decide +kernel
theorem leq_16 : decode jdk_43_method_13_code 16 = .ok (.iload_n 2, 1) := by decide +kernel
theorem leq_17 : decode jdk_43_method_13_code 17 = .ok (.baload, 1) := by decide +kernel
theorem leq_18 : decode jdk_43_method_13_code 18 = .ok (.aload_n 1, 1) := by decide +kernel
theorem leq_19 : decode jdk_43_method_13_code 19 = .ok (.iload_n 2, 1) := by decide +kernel
theorem leq_20 : decode jdk_43_method_13_code 20 = .ok (.baload, 1) := by decide +kernel
theorem leq_21 : decode jdk_43_method_13_code 21 = .ok (.if_icmp .eq 5, 3) := by decide +kernel
theorem leq_24 : decode jdk_43_method_13_code 24 = .ok (.iconst 0, 1) := by decide +kernel
theorem leq_25 : decode jdk_43_method_13_code 25 = .ok (.ireturn, 1) := by decide +kernel
theorem leq_26 : decode jdk_43_method_13_code 26 = .ok (.iinc 2 1, 3) := by decide +kernel
theorem leq_29 : decode jdk_43_method_13_code 29 = .ok (.goto (-20), 3) := by decide +kernel
theorem leq_32 : decode jdk_43_method_13_code 32 = .ok (.iconst 1, 1) := by decide +kernel
theorem leq_33 : decode jdk_43_method_13_code 33 = .ok (.ireturn, 1) := by decide +kernel
theorem leq_34 : decode jdk_43_method_13_code 34 = .ok (.iconst 0, 1) := by decide +kernel
theorem leq_35 : decode jdk_43_method_13_code 35 = .ok (.ireturn, 1) := by decide +kernel
theorem pn_leq : plainFor (⟨"java/lang/StringLatin1", "equals", "([B[B)Z"⟩ : MethodName) = true := by first | exact plainFor_of_name (by first | (simp [plainName, overriddenIn]; done) | decide +kernel) | decide +kernel
theorem ef_leq (m : MethodId) (qa : Addr) (qb : Addr)  : entryFrame m #[(.ref qa), (.ref qb)] 3 = mkF m 0 #[.val (.ref qa), .val (.ref qb), .unset] [] := by first | (simp [entryFrame, mkF, argsToLocals, Value.category, maxLocals]; done) | rfl
theorem pd_leq : parseMethodDescriptor "([B[B)Z" = some ⟨[.array (.byte), .array (.byte)], some (.boolean)⟩ := by decide +kernel
set_option maxRecDepth 65536 in
set_option maxHeartbeats 40000000 in
theorem rm_leq (l : Launch) (Z : State) (a0 : Array Value) (hw : ∀ d ∈ tables_1, d.before a0 Z = true)  (qa : Addr) (qb : Addr) (h0 : Heap) (xs ys : List Int32) (hx4 : xs.length ≤ 4) (hy4 : ys.length ≤ 4) (A1 : Arl Z h0 qa .byte (xs.map Value.int)) (A2 : Arl Z h0 qb .byte (ys.map Value.int)) :
    MetFree l (⟨"java/lang/StringLatin1", "equals", "([B[B)Z"⟩ : MethodName) (head1 [Jvm.Cond.code (⟨"java/lang/StringLatin1", "equals", "([B[B)Z"⟩ : MethodName) jdk_43_method_13_code 3 (some Jvm.ClassFile.FieldType.boolean)] ({ frames := 0, cells := 0, slots := 0, locals := 0 } : Room)) (fun a U => a = #[(.ref qa), (.ref qb)] ∧ Z.Warmed39 U.vm ∧ U.heap = h0) (fun _ _ _ _ _ => True) (fun _ U o U' => ∃ v L, o = .returned v ∧ Pur (some (.int (b2i (xs = ys)))) h0 v U'.heap L ∧ FrameEnd U o U' L ({ frames := 0, cells := 0, slots := 0, locals := 0 } : Room).cells ({ frames := 0, cells := 0, slots := 0, locals := 0 } : Room).slots) := by
  refine MetFree.of_bodySF pn_leq hisR ?_
  intro p e s m args below meth c s₁ Bd hml0 hP hK
  obtain ⟨rfl, hZ, hh⟩ := hP
  have hx := Bd.exec
  have hby := Bd.bytes
  have hml : c.maxLocals = 3 := hml0
  have hown : s.vm.findClass "java/lang/StringLatin1" = some m.cls := findClass_of_methodNamed Bd.named
  have hnm := (name_of_methodNamed Bd.named Bd.method).1
  have hlk : meth.locks = false := BodyLoose.notSynchronized Bd
  have X0 : Stand p l e ({ frames := 0, cells := 0, slots := 0, locals := 0 } : Room) s m #[(.ref qa), (.ref qb)] below meth c s₁ [] 0 0 := Stand.of_body Bd
  have e0 : s₁.heap = h0 := by rw [← hh, Bd.state]; rfl
  show Go p e below (EndN below s (Pur (some (.int (b2i (xs = ys)))) h0) ({ frames := 0, cells := 0, slots := 0, locals := 0 } : Room).cells ({ frames := 0, cells := 0, slots := 0, locals := 0 } : Room).slots) (s₁.setTop (entryFrame m #[(.ref qa), (.ref qb)] 3))
  rw [ef_leq]
  obtain ⟨z1, hz1, hi1⟩ := own_len4 hx4
  obtain ⟨z2, hz2, hi2⟩ := own_len4 hy4
  have loop : ∀ (r i : Nat) (vi : Int32), xs.length = ys.length → i + r = xs.length → vi.toInt = (i : Int) → (∀ j, j < i → xs[j]? = ys[j]?) → Go p e below (EndN below s (Pur (some (.int (b2i (xs = ys)))) h0) ({ frames := 0, cells := 0, slots := 0, locals := 0 } : Room).cells ({ frames := 0, cells := 0, slots := 0, locals := 0 } : Room).slots) (s₁.setTop (mkF m 9 #[.val (.ref qa), .val (.ref qb), .val (.int vi)] [])) := by
    intro r
    induction r with
    | zero =>
      intro i vi hl hr hv hj
      have c12 : ¬ vi < z1 := by rw [Int32.lt_iff_toInt_lt, hv, hi1]; omega
      have hxy : xs = ys := List.ext_getElem? fun j => by
        by_cases q : j < i
        · exact hj j q
        · rw [List.getElem?_eq_none (by omega), List.getElem?_eq_none (by omega)]
      refine g_iload_n X0 hx 10 vi (hb hby leq_9) rfl rfl ?_
      refine g_aload_n X0 hx 11 (.ref qa) (hb hby leq_10) rfl rfl rfl ?_
      refine g_alen X0 hx hZ e0 A1 z1 hz1 12 (hb hby leq_11) rfl ?_
      refine g_icmpY X0 hx 32 (hb hby leq_12) (XT.ii_ge_t c12) (by decide) (by decide) ?_
      refine g_iconst X0 hx 33 (1 : Int32) (hb hby leq_32) rfl rfl ?_
      exact Go.retZ X0 hx hlk Bd.returns (by simp) (hb hby leq_33) (by decide) (by decide) ⟨by rw [b2i_t hxy]; rfl, rfl, e0⟩
    | succ r ih =>
      intro i vi hl hr hv hj
      have c12 : vi < z1 := by rw [Int32.lt_iff_toInt_lt, hv, hi1]; omega
      obtain ⟨x, hx'⟩ : ∃ x, xs[i]? = some x := ⟨_, List.getElem?_eq_getElem (by omega)⟩
      obtain ⟨y, hy'⟩ : ∃ y, ys[i]? = some y := ⟨_, List.getElem?_eq_getElem (by omega)⟩
      refine g_iload_n X0 hx 10 vi (hb hby leq_9) rfl rfl ?_
      refine g_aload_n X0 hx 11 (.ref qa) (hb hby leq_10) rfl rfl rfl ?_
      refine g_alen X0 hx hZ e0 A1 z1 hz1 12 (hb hby leq_11) rfl ?_
      refine g_icmpN X0 hx 15 (hb hby leq_12) (XT.ii_ge_f c12) rfl ?_
      refine g_aload_n X0 hx 16 (.ref qa) (hb hby leq_15) rfl rfl rfl ?_
      refine g_iload_n X0 hx 17 vi (hb hby leq_16) rfl rfl ?_
      refine g_baload X0 hx hZ e0 A1 (k := i) hv (.int x) (own_at hx') 18 (hb hby leq_17) rfl ?_
      refine g_aload_n X0 hx 19 (.ref qb) (hb hby leq_18) rfl rfl rfl ?_
      refine g_iload_n X0 hx 20 vi (hb hby leq_19) rfl rfl ?_
      refine g_baload X0 hx hZ e0 A2 (k := i) hv (.int y) (own_at hy') 21 (hb hby leq_20) rfl ?_
      by_cases c21 : x = y
      ·
        refine g_icmpY X0 hx 26 (hb hby leq_21) (XT.ii_eq_t c21) (by decide) (by decide) ?_
        refine g_iinc X0 hx 29 (1 : Int32) #[.val (.ref qa), .val (.ref qb), .val (.int (vi + (1 : Int32)))] (hb hby leq_26) rfl rfl rfl rfl ?_
        refine g_goto X0 hx 9 (hb hby leq_29) (by decide) (by decide) ?_
        refine ih (i + 1) _ hl (by omega) (by rw [Jvm.Kit.i32_add] <;> rw [hv] <;> (have em : (1 : Int32).toInt = 1 := rfl) <;> rw [em] <;> omega) (fun j hj' => ?_)
        by_cases q : j = i
        · rw [q, hx', hy', c21]
        · exact hj j (by omega)
      ·
        refine g_icmpN X0 hx 24 (hb hby leq_21) (XT.ii_eq_f c21) rfl ?_
        refine g_iconst X0 hx 25 (0 : Int32) (hb hby leq_24) rfl rfl ?_
        exact Go.retZ X0 hx hlk Bd.returns (by simp) (hb hby leq_25) (by decide) (by decide) ⟨by rw [b2i_f (fun z => c21 (Option.some.inj (by rw [← hx', ← hy', z])))]; rfl, rfl, e0⟩
  refine g_aload_n X0 hx 1 (.ref qa) (hb hby leq_0) rfl rfl rfl ?_
  refine g_alen X0 hx hZ e0 A1 z1 hz1 2 (hb hby leq_1) rfl ?_
  refine g_aload_n X0 hx 3 (.ref qb) (hb hby leq_2) rfl rfl rfl ?_
  refine g_alen X0 hx hZ e0 A2 z2 hz2 4 (hb hby leq_3) rfl ?_
  by_cases c4 : z1 = z2
  ·
    refine g_icmpN X0 hx 7 (hb hby leq_4) (XT.ii_ne_f c4) rfl ?_
    refine g_iconst X0 hx 8 (0 : Int32) (hb hby leq_7) rfl rfl ?_
    refine g_istore_n X0 hx 9 #[.val (.ref qa), .val (.ref qb), .val (.int (0 : Int32))] (hb hby leq_8) rfl rfl ?_
    exact loop xs.length 0 _ (by have q := congrArg Int32.toInt c4; rw [hi1, hi2] at q; omega) (by omega) rfl (fun j hj => absurd hj (by omega))
  ·
    refine g_icmpY X0 hx 34 (hb hby leq_4) (XT.ii_ne_t c4) (by decide) (by decide) ?_
    refine g_iconst X0 hx 35 (0 : Int32) (hb hby leq_34) rfl rfl ?_
    exact Go.retZ X0 hx hlk Bd.returns (by simp) (hb hby leq_35) (by decide) (by decide) ⟨by rw [b2i_f (fun z => c4 (Int32.toInt_inj.mp (by rw [hi1, hi2, z])))]; rfl, rfl, e0⟩
theorem seq_0 : decode jdk_42_method_66_code 0 = .ok (.aload_n 0, 1) := by decide +kernel
theorem seq_1 : decode jdk_42_method_66_code 1 = .ok (.aload_n 1, 1) := by decide +kernel
theorem seq_2 : decode jdk_42_method_66_code 2 = .ok (.if_acmp .ne 5, 3) := by decide +kernel
theorem seq_5 : decode jdk_42_method_66_code 5 = .ok (.iconst 1, 1) := by decide +kernel
theorem seq_6 : decode jdk_42_method_66_code 6 = .ok (.ireturn, 1) := by decide +kernel
theorem seq_7 : decode jdk_42_method_66_code 7 = .ok (.aload_n 1, 1) := by decide +kernel
theorem seq_8 : decode jdk_42_method_66_code 8 = .ok (.instanceof 10, 3) := by decide +kernel
theorem seq_11 : decode jdk_42_method_66_code 11 = .ok (.ifCond .eq 43, 3) := by decide +kernel
theorem seq_14 : decode jdk_42_method_66_code 14 = .ok (.aload_n 1, 1) := by decide +kernel
theorem seq_15 : decode jdk_42_method_66_code 15 = .ok (.checkcast 10, 3) := by decide +kernel
theorem seq_18 : decode jdk_42_method_66_code 18 = .ok (.astore_n 2, 1) := by decide +kernel
theorem seq_19 : decode jdk_42_method_66_code 19 = .ok (.getstatic 38, 3) := by decide +kernel
theorem seq_22 : decode jdk_42_method_66_code 22 = .ok (.ifCond .eq 14, 3) := by decide +kernel
theorem seq_25 : decode jdk_42_method_66_code 25 = .ok (.aload_n 0, 1) := by decide +kernel
theorem seq_26 : decode jdk_42_method_66_code 26 = .ok (.getfield 15, 3) := by decide +kernel
theorem seq_29 : decode jdk_42_method_66_code 29 = .ok (.aload_n 2, 1) := by decide +kernel
theorem seq_30 : decode jdk_42_method_66_code 30 = .ok (.getfield 15, 3) := by decide +kernel
theorem seq_33 : decode jdk_42_method_66_code 33 = .ok (.if_icmp .ne 21, 3) := by decide +kernel
theorem seq_36 : decode jdk_42_method_66_code 36 = .ok (.aload_n 0, 1) := by decide +kernel
theorem seq_37 : decode jdk_42_method_66_code 37 = .ok (.getfield 9, 3) := by decide +kernel
theorem seq_40 : decode jdk_42_method_66_code 40 = .ok (.aload_n 2, 1) := by decide +kernel
theorem seq_41 : decode jdk_42_method_66_code 41 = .ok (.getfield 9, 3) := by decide +kernel
theorem seq_44 : decode jdk_42_method_66_code 44 = .ok (.invokestatic 541, 3) := by decide +kernel
theorem seq_47 : decode jdk_42_method_66_code 47 = .ok (.ifCond .eq 7, 3) := by decide +kernel
theorem seq_50 : decode jdk_42_method_66_code 50 = .ok (.iconst 1, 1) := by decide +kernel
theorem seq_51 : decode jdk_42_method_66_code 51 = .ok (.goto 4, 3) := by decide +kernel
theorem seq_54 : decode jdk_42_method_66_code 54 = .ok (.iconst 0, 1) := by decide +kernel
theorem seq_55 : decode jdk_42_method_66_code 55 = .ok (.ireturn, 1) := by decide +kernel
theorem pn_seq : plainFor (⟨"java/lang/String", "equals", "(Ljava/lang/Object;)Z"⟩ : MethodName) = true := by first | exact plainFor_of_name (by first | (simp [plainName, overriddenIn]; done) | decide +kernel) | decide +kernel
theorem ef_seq (m : MethodId) (qa : Addr) (qb : Addr)  : entryFrame m #[(.ref qa), (.ref qb)] 3 = mkF m 0 #[.val (.ref qa), .val (.ref qb), .unset] [] := by first | (simp [entryFrame, mkF, argsToLocals, Value.category, maxLocals]; done) | rfl
theorem pd_seq : parseMethodDescriptor "(Ljava/lang/Object;)Z" = some ⟨[.object "java/lang/Object"], some (.boolean)⟩ := by decide +kernel
set_option maxRecDepth 65536 in
set_option maxHeartbeats 40000000 in
theorem rm_seq (l : Launch) (Z : State) (a0 : Array Value) (hw : ∀ d ∈ tables_1, d.before a0 Z = true)  (qa : Addr) (qb : Addr) (h0 : Heap) (n0 : Nat) (XO : Old Z n0 h0) (cs : Int32) (hcs : ¬ cs = (0 : Int32)) (SC : Sta Z Z.heap "java/lang/String" "COMPACT_STRINGS" "Z" (.int cs)) (hne : ¬ Value.ref qa = Value.ref qb) (co1 co2 : Int32) (va vb : Addr) (xs ys : List Int32) (hx4 : xs.length ≤ 4) (hy4 : ys.length ≤ 4) (T1 : Stl Z h0 qa va co1 (xs.map Value.int)) (T2 : Stl Z h0 qb vb co2 (ys.map Value.int)) :
    MetFree l (⟨"java/lang/String", "equals", "(Ljava/lang/Object;)Z"⟩ : MethodName) (head1 [Jvm.Cond.code (⟨"java/lang/String", "equals", "(Ljava/lang/Object;)Z"⟩ : MethodName) jdk_42_method_66_code 3 (some Jvm.ClassFile.FieldType.boolean)] ({ frames := 1, cells := 0, slots := 0, locals := 14 } : Room)) (fun a U => a = #[(.ref qa), (.ref qb)] ∧ Z.Warmed39 U.vm ∧ U.heap = h0) (fun _ _ _ _ _ => True) (fun _ U o U' => ∃ v L, o = .returned v ∧ Pur (some (.int (b2i (co1 = co2 ∧ xs = ys)))) h0 v U'.heap L ∧ FrameEnd U o U' L ({ frames := 1, cells := 0, slots := 0, locals := 14 } : Room).cells ({ frames := 1, cells := 0, slots := 0, locals := 14 } : Room).slots) := by
  refine MetFree.of_bodySF pn_seq hisR ?_
  intro p e s m args below meth c s₁ Bd hml0 hP hK
  obtain ⟨rfl, hZ, hh⟩ := hP
  have hx := Bd.exec
  have hby := Bd.bytes
  have hml : c.maxLocals = 3 := hml0
  have hown : s.vm.findClass "java/lang/String" = some m.cls := findClass_of_methodNamed Bd.named
  have hnm := (name_of_methodNamed Bd.named Bd.method).1
  have hlk : meth.locks = false := BodyLoose.notSynchronized Bd
  have X0 : Stand p l e ({ frames := 1, cells := 0, slots := 0, locals := 14 } : Room) s m #[(.ref qa), (.ref qb)] below meth c s₁ [] 0 0 := Stand.of_body Bd
  have e0 : s₁.heap = h0 := by rw [← hh, Bd.state]; rfl
  show Go p e below (EndN below s (Pur (some (.int (b2i (co1 = co2 ∧ xs = ys)))) h0) ({ frames := 1, cells := 0, slots := 0, locals := 14 } : Room).cells ({ frames := 1, cells := 0, slots := 0, locals := 14 } : Room).slots) (s₁.setTop (entryFrame m #[(.ref qa), (.ref qb)] 3))
  rw [ef_seq]
  refine g_aload_n X0 hx 1 (.ref qa) (hb hby seq_0) rfl rfl rfl ?_
  refine g_aload_n X0 hx 2 (.ref qb) (hb hby seq_1) rfl rfl rfl ?_
  refine g_acmpY X0 hx 7 (hb hby seq_2) rfl rfl (XT.aa_ne_t hne) (by decide) (by decide) ?_
  refine g_aload_n X0 hx 8 (.ref qb) (hb hby seq_7) rfl rfl rfl ?_
  obtain ⟨T_8, X_8, e_8, st_8⟩ := g_instY X0 hx hZ hown (hw _ (List.mem_of_getElem? (i := 59) rfl)) e0 (Ins.self T2.1) 11 (hb hby seq_8) rfl
  refine st_8 ?_
  refine g_ifN X_8 hx 14 (hb hby seq_11) (XT.i0_eq_f (by decide)) rfl ?_
  refine g_aload_n X_8 hx 15 (.ref qb) (hb hby seq_14) rfl rfl rfl ?_
  obtain ⟨T_15, X_15, e_15, st_15⟩ := g_cast X_8 hx hZ hown (hw _ (List.mem_of_getElem? (i := 59) rfl)) e_8 (Ins.self T2.1) 18 (hb hby seq_15) rfl
  refine st_15 ?_
  refine g_astore_n X_15 hx 19 #[.val (.ref qa), .val (.ref qb), .val (.ref qb)] (hb hby seq_18) rfl rfl rfl ?_
  obtain ⟨T_19, X_19, e_19, st_19⟩ := g_getS X_15 hx hZ hown (hw _ (List.mem_of_getElem? (i := 60) rfl)) e_15 (SC.ext XO.2) 22 (hb hby seq_19) rfl
  refine st_19 ?_
  refine g_ifN X_19 hx 25 (hb hby seq_22) (XT.i0_eq_f hcs) rfl ?_
  refine g_aload_n X_19 hx 26 (.ref qa) (hb hby seq_25) rfl rfl rfl ?_
  obtain ⟨T_26, X_26, e_26, st_26⟩ := g_getF X_19 hx hZ hown (hw _ (List.mem_of_getElem? (i := 26) rfl)) Via.refl e_19 T1.2.1 29 (hb hby seq_26) rfl
  refine st_26 ?_
  refine g_aload_n X_26 hx 30 (.ref qb) (hb hby seq_29) rfl rfl rfl ?_
  obtain ⟨T_30, X_30, e_30, st_30⟩ := g_getF X_26 hx hZ hown (hw _ (List.mem_of_getElem? (i := 26) rfl)) Via.refl e_26 T2.2.1 33 (hb hby seq_30) rfl
  refine st_30 ?_
  by_cases c33 : co1 = co2
  ·
    refine g_icmpN X_30 hx 36 (hb hby seq_33) (XT.ii_ne_f c33) rfl ?_
    refine g_aload_n X_30 hx 37 (.ref qa) (hb hby seq_36) rfl rfl rfl ?_
    obtain ⟨T_37, X_37, e_37, st_37⟩ := g_getF X_30 hx hZ hown (hw _ (List.mem_of_getElem? (i := 25) rfl)) Via.refl e_30 T1.2.2.1 40 (hb hby seq_37) rfl
    refine st_37 ?_
    refine g_aload_n X_37 hx 41 (.ref qb) (hb hby seq_40) rfl rfl rfl ?_
    obtain ⟨T_41, X_41, e_41, st_41⟩ := g_getF X_37 hx hZ hown (hw _ (List.mem_of_getElem? (i := 25) rfl)) Via.refl e_37 T2.2.2.1 44 (hb hby seq_41) rfl
    refine st_41 ?_
    by_cases hxy : xs = ys
    ·
      obtain ⟨_, T_44, L_44, X_44, ⟨rfl, rfl, e_44⟩, st_44⟩ := g_callS X_41 hx hZ  (own := "java/lang/String") (index := 541) (y := (⟨"java/lang/StringLatin1", "equals", "([B[B)Z"⟩ : MethodName)) (as' := [(.ref va), (.ref vb)]) hown (hw _ (List.mem_of_getElem? (i := 61) rfl)) (hw _ (List.mem_of_getElem? (i := 62) rfl)) (hw _ (List.mem_of_getElem? (i := 63) rfl)) (hw _ (List.mem_of_getElem? (i := 64) rfl)) (by decide) e_41 (rm_leq l Z a0 hw va vb h0 xs ys hx4 hy4 T1.2.2.2 T2.2.2.2) pd_leq rfl 0 (by decide) (by decide) (by decide) (by decide) (pc := 44) (Ls := #[.val (.ref qa), .val (.ref qb), .val (.ref qb)]) (rest := []) (st := [(.ref vb), (.ref va)]) (by rw [hml]; rfl) rfl (Nat.le_of_eq rfl) (hb hby seq_44)
      refine Go.of ?_ st_44
      rw [List.append_nil] at X_44
      show Go p e below _ (T_44.setTop (mkF m 47 #[.val (.ref qa), .val (.ref qb), .val (.ref qb)] [(.int (b2i (xs = ys)))]))
      rw [b2i_t hxy]
      refine g_ifN X_44 hx 50 (hb hby seq_47) (XT.i0_eq_f (by decide)) rfl ?_
      refine g_iconst X_44 hx 51 (1 : Int32) (hb hby seq_50) rfl rfl ?_
      refine g_goto X_44 hx 55 (hb hby seq_51) (by decide) (by decide) ?_
      exact Go.retZ X_44 hx hlk Bd.returns (by simp) (hb hby seq_55) (by decide) (by decide) ⟨by rw [b2i_t ⟨c33, hxy⟩]; rfl, rfl, e_44⟩
    ·
      obtain ⟨_, T_44x1, L_44x1, X_44x1, ⟨rfl, rfl, e_44x1⟩, st_44x1⟩ := g_callS X_41 hx hZ  (own := "java/lang/String") (index := 541) (y := (⟨"java/lang/StringLatin1", "equals", "([B[B)Z"⟩ : MethodName)) (as' := [(.ref va), (.ref vb)]) hown (hw _ (List.mem_of_getElem? (i := 61) rfl)) (hw _ (List.mem_of_getElem? (i := 62) rfl)) (hw _ (List.mem_of_getElem? (i := 63) rfl)) (hw _ (List.mem_of_getElem? (i := 64) rfl)) (by decide) e_41 (rm_leq l Z a0 hw va vb h0 xs ys hx4 hy4 T1.2.2.2 T2.2.2.2) pd_leq rfl 0 (by decide) (by decide) (by decide) (by decide) (pc := 44) (Ls := #[.val (.ref qa), .val (.ref qb), .val (.ref qb)]) (rest := []) (st := [(.ref vb), (.ref va)]) (by rw [hml]; rfl) rfl (Nat.le_of_eq rfl) (hb hby seq_44)
      refine Go.of ?_ st_44x1
      rw [List.append_nil] at X_44x1
      show Go p e below _ (T_44x1.setTop (mkF m 47 #[.val (.ref qa), .val (.ref qb), .val (.ref qb)] [(.int (b2i (xs = ys)))]))
      rw [b2i_f hxy]
      refine g_ifY X_44x1 hx 54 (hb hby seq_47) (XT.i0_eq_t (by decide)) (by decide) (by decide) ?_
      refine g_iconst X_44x1 hx 55 (0 : Int32) (hb hby seq_54) rfl rfl ?_
      exact Go.retZ X_44x1 hx hlk Bd.returns (by simp) (hb hby seq_55) (by decide) (by decide) ⟨by rw [b2i_f (fun z => hxy z.2)]; rfl, rfl, e_44x1⟩
  ·
    refine g_icmpY X_30 hx 54 (hb hby seq_33) (XT.ii_ne_t c33) (by decide) (by decide) ?_
    refine g_iconst X_30 hx 55 (0 : Int32) (hb hby seq_54) rfl rfl ?_
    exact Go.retZ X_30 hx hlk Bd.returns (by simp) (hb hby seq_55) (by decide) (by decide) ⟨by rw [b2i_f (fun z => c33 z.1)]; rfl, rfl, e_30⟩
theorem ses_0 : decode jdk_42_method_66_code 0 = .ok (.aload_n 0, 1) := by decide +kernel
theorem ses_1 : decode jdk_42_method_66_code 1 = .ok (.aload_n 1, 1) := by decide +kernel
theorem ses_2 : decode jdk_42_method_66_code 2 = .ok (.if_acmp .ne 5, 3) := by decide +kernel
theorem ses_5 : decode jdk_42_method_66_code 5 = .ok (.iconst 1, 1) := by decide +kernel
theorem ses_6 : decode jdk_42_method_66_code 6 = .ok (.ireturn, 1) := by decide +kernel
theorem ses_7 : decode jdk_42_method_66_code 7 = .ok (.aload_n 1, 1) := by decide +kernel
theorem ses_8 : decode jdk_42_method_66_code 8 = .ok (.instanceof 10, 3) := by decide +kernel
theorem ses_11 : decode jdk_42_method_66_code 11 = .ok (.ifCond .eq 43, 3) := by decide +kernel
theorem ses_14 : decode jdk_42_method_66_code 14 = .ok (.aload_n 1, 1) := by decide +kernel
theorem ses_15 : decode jdk_42_method_66_code 15 = .ok (.checkcast 10, 3) := by decide +kernel
theorem ses_18 : decode jdk_42_method_66_code 18 = .ok (.astore_n 2, 1) := by decide +kernel
theorem ses_19 : decode jdk_42_method_66_code 19 = .ok (.getstatic 38, 3) := by decide +kernel
theorem ses_22 : decode jdk_42_method_66_code 22 = .ok (.ifCond .eq 14, 3) := by decide +kernel
theorem ses_25 : decode jdk_42_method_66_code 25 = .ok (.aload_n 0, 1) := by decide +kernel
theorem ses_26 : decode jdk_42_method_66_code 26 = .ok (.getfield 15, 3) := by decide +kernel
theorem ses_29 : decode jdk_42_method_66_code 29 = .ok (.aload_n 2, 1) := by decide +kernel
theorem ses_30 : decode jdk_42_method_66_code 30 = .ok (.getfield 15, 3) := by decide +kernel
theorem ses_33 : decode jdk_42_method_66_code 33 = .ok (.if_icmp .ne 21, 3) := by decide +kernel
theorem ses_36 : decode jdk_42_method_66_code 36 = .ok (.aload_n 0, 1) := by decide +kernel
theorem ses_37 : decode jdk_42_method_66_code 37 = .ok (.getfield 9, 3) := by decide +kernel
theorem ses_40 : decode jdk_42_method_66_code 40 = .ok (.aload_n 2, 1) := by decide +kernel
theorem ses_41 : decode jdk_42_method_66_code 41 = .ok (.getfield 9, 3) := by decide +kernel
theorem ses_44 : decode jdk_42_method_66_code 44 = .ok (.invokestatic 541, 3) := by decide +kernel
theorem ses_47 : decode jdk_42_method_66_code 47 = .ok (.ifCond .eq 7, 3) := by decide +kernel
theorem ses_50 : decode jdk_42_method_66_code 50 = .ok (.iconst 1, 1) := by decide +kernel
theorem ses_51 : decode jdk_42_method_66_code 51 = .ok (.goto 4, 3) := by decide +kernel
theorem ses_54 : decode jdk_42_method_66_code 54 = .ok (.iconst 0, 1) := by decide +kernel
theorem ses_55 : decode jdk_42_method_66_code 55 = .ok (.ireturn, 1) := by decide +kernel
theorem pn_ses : plainFor (⟨"java/lang/String", "equals", "(Ljava/lang/Object;)Z"⟩ : MethodName) = true := by first | exact plainFor_of_name (by first | (simp [plainName, overriddenIn]; done) | decide +kernel) | decide +kernel
theorem ef_ses (m : MethodId) (qa : Addr)  : entryFrame m #[(.ref qa), (.ref qa)] 3 = mkF m 0 #[.val (.ref qa), .val (.ref qa), .unset] [] := by first | (simp [entryFrame, mkF, argsToLocals, Value.category, maxLocals]; done) | rfl
theorem pd_ses : parseMethodDescriptor "(Ljava/lang/Object;)Z" = some ⟨[.object "java/lang/Object"], some (.boolean)⟩ := by decide +kernel
set_option maxRecDepth 65536 in
set_option maxHeartbeats 40000000 in
theorem rm_ses (l : Launch) (Z : State) (a0 : Array Value) (hw : ∀ d ∈ tables_1, d.before a0 Z = true)  (qa : Addr) (h0 : Heap)  :
    MetFree l (⟨"java/lang/String", "equals", "(Ljava/lang/Object;)Z"⟩ : MethodName) (head1 [Jvm.Cond.code (⟨"java/lang/String", "equals", "(Ljava/lang/Object;)Z"⟩ : MethodName) jdk_42_method_66_code 3 (some Jvm.ClassFile.FieldType.boolean)] ({ frames := 0, cells := 0, slots := 0, locals := 0 } : Room)) (fun a U => a = #[(.ref qa), (.ref qa)] ∧ Z.Warmed39 U.vm ∧ U.heap = h0) (fun _ _ _ _ _ => True) (fun _ U o U' => ∃ v L, o = .returned v ∧ Pur (some (.int (1 : Int32))) h0 v U'.heap L ∧ FrameEnd U o U' L ({ frames := 0, cells := 0, slots := 0, locals := 0 } : Room).cells ({ frames := 0, cells := 0, slots := 0, locals := 0 } : Room).slots) := by
  refine MetFree.of_bodySF pn_ses hisR ?_
  intro p e s m args below meth c s₁ Bd hml0 hP hK
  obtain ⟨rfl, hZ, hh⟩ := hP
  have hx := Bd.exec
  have hby := Bd.bytes
  have hml : c.maxLocals = 3 := hml0
  have hown : s.vm.findClass "java/lang/String" = some m.cls := findClass_of_methodNamed Bd.named
  have hnm := (name_of_methodNamed Bd.named Bd.method).1
  have hlk : meth.locks = false := BodyLoose.notSynchronized Bd
  have X0 : Stand p l e ({ frames := 0, cells := 0, slots := 0, locals := 0 } : Room) s m #[(.ref qa), (.ref qa)] below meth c s₁ [] 0 0 := Stand.of_body Bd
  have e0 : s₁.heap = h0 := by rw [← hh, Bd.state]; rfl
  show Go p e below (EndN below s (Pur (some (.int (1 : Int32))) h0) ({ frames := 0, cells := 0, slots := 0, locals := 0 } : Room).cells ({ frames := 0, cells := 0, slots := 0, locals := 0 } : Room).slots) (s₁.setTop (entryFrame m #[(.ref qa), (.ref qa)] 3))
  rw [ef_ses]
  refine g_aload_n X0 hx 1 (.ref qa) (hb hby ses_0) rfl rfl rfl ?_
  refine g_aload_n X0 hx 2 (.ref qa) (hb hby ses_1) rfl rfl rfl ?_
  refine g_acmpN X0 hx 5 (hb hby ses_2) rfl rfl (XT.aa_ne_f rfl) rfl ?_
  refine g_iconst X0 hx 6 (1 : Int32) (hb hby ses_5) rfl rfl ?_
  exact Go.retZ X0 hx hlk Bd.returns (by simp) (hb hby ses_6) (by decide) (by decide) ⟨rfl, rfl, e0⟩
theorem jeq_0 : decode prog_15_method_6_code 0 = .ok (.aload_n 1, 1) := by decide +kernel
theorem jeq_1 : decode prog_15_method_6_code 1 = .ok (.instanceof 18, 3) := by decide +kernel
theorem jeq_4 : decode prog_15_method_6_code 4 = .ok (.ifCond .eq 26, 3) := by decide +kernel
theorem jeq_7 : decode prog_15_method_6_code 7 = .ok (.aload_n 1, 1) := by decide +kernel
theorem jeq_8 : decode prog_15_method_6_code 8 = .ok (.checkcast 18, 3) := by decide +kernel
theorem jeq_11 : decode prog_15_method_6_code 11 = .ok (.astore_n 2, 1) := by decide +kernel
theorem jeq_12 : decode prog_15_method_6_code 12 = .ok (.aload_n 0, 1) := by decide +kernel
theorem jeq_13 : decode prog_15_method_6_code 13 = .ok (.getfield 17, 3) := by decide +kernel
theorem jeq_16 : decode prog_15_method_6_code 16 = .ok (.aload_n 2, 1) := by decide +kernel
theorem jeq_17 : decode prog_15_method_6_code 17 = .ok (.getfield 17, 3) := by decide +kernel
theorem jeq_20 : decode prog_15_method_6_code 20 = .ok (.invokevirtual 75, 3) := by decide +kernel
theorem jeq_23 : decode prog_15_method_6_code 23 = .ok (.ifCond .eq 7, 3) := by decide +kernel
theorem jeq_26 : decode prog_15_method_6_code 26 = .ok (.iconst 1, 1) := by decide +kernel
theorem jeq_27 : decode prog_15_method_6_code 27 = .ok (.goto 4, 3) := by decide +kernel
theorem jeq_30 : decode prog_15_method_6_code 30 = .ok (.iconst 0, 1) := by decide +kernel
theorem jeq_31 : decode prog_15_method_6_code 31 = .ok (.ireturn, 1) := by decide +kernel
theorem pn_jeq : plainFor (⟨"com/example/assayer/assayer/core/JsonString", "equals", "(Ljava/lang/Object;)Z"⟩ : MethodName) = true := by first | exact plainFor_of_name (by first | (simp [plainName, overriddenIn]; done) | decide +kernel) | decide +kernel
theorem ef_jeq (m : MethodId) (qa : Addr) (qb : Addr)  : entryFrame m #[(.ref qa), (.ref qb)] 3 = mkF m 0 #[.val (.ref qa), .val (.ref qb), .unset] [] := by first | (simp [entryFrame, mkF, argsToLocals, Value.category, maxLocals]; done) | rfl
theorem pd_jeq : parseMethodDescriptor "(Ljava/lang/Object;)Z" = some ⟨[.object "java/lang/Object"], some (.boolean)⟩ := by decide +kernel
set_option maxRecDepth 65536 in
set_option maxHeartbeats 40000000 in
theorem rm_jeq (l : Launch) (Z : State) (a0 : Array Value) (hw : ∀ d ∈ tables_1, d.before a0 Z = true)  (qa : Addr) (qb : Addr) (h0 : Heap) (n0 : Nat) (XO : Old Z n0 h0) (cs : Int32) (hcs : ¬ cs = (0 : Int32)) (SC : Sta Z Z.heap "java/lang/String" "COMPACT_STRINGS" "Z" (.int cs)) (E2 : Exa Z h0 qb "com/example/assayer/assayer/core/JsonString")(sa sb : Addr) (F1 : Fld Z h0 qa "com/example/assayer/assayer/core/JsonString" "value" "Ljava/lang/String;" (.ref sa))(F2 : Fld Z h0 qb "com/example/assayer/assayer/core/JsonString" "value" "Ljava/lang/String;" (.ref sb))(hne : ¬ Value.ref sa = Value.ref sb) (co1 co2 : Int32) (va vb : Addr) (xs ys : List Int32) (hx4 : xs.length ≤ 4) (hy4 : ys.length ≤ 4) (T1 : Stl Z h0 sa va co1 (xs.map Value.int)) (T2 : Stl Z h0 sb vb co2 (ys.map Value.int)) :
    MetFree l (⟨"com/example/assayer/assayer/core/JsonString", "equals", "(Ljava/lang/Object;)Z"⟩ : MethodName) (head1 [Jvm.Cond.code (⟨"com/example/assayer/assayer/core/JsonString", "equals", "(Ljava/lang/Object;)Z"⟩ : MethodName) prog_15_method_6_code 3 (some Jvm.ClassFile.FieldType.boolean)] ({ frames := 2, cells := 0, slots := 0, locals := 28 } : Room)) (fun a U => a = #[(.ref qa), (.ref qb)] ∧ Z.Warmed39 U.vm ∧ U.heap = h0) (fun _ _ _ _ _ => True) (fun _ U o U' => ∃ v L, o = .returned v ∧ Pur (some (.int (b2i (co1 = co2 ∧ xs = ys)))) h0 v U'.heap L ∧ FrameEnd U o U' L ({ frames := 2, cells := 0, slots := 0, locals := 28 } : Room).cells ({ frames := 2, cells := 0, slots := 0, locals := 28 } : Room).slots) := by
  refine MetFree.of_bodySF pn_jeq hisR ?_
  intro p e s m args below meth c s₁ Bd hml0 hP hK
  obtain ⟨rfl, hZ, hh⟩ := hP
  have hx := Bd.exec
  have hby := Bd.bytes
  have hml : c.maxLocals = 3 := hml0
  have hown : s.vm.findClass "com/example/assayer/assayer/core/JsonString" = some m.cls := findClass_of_methodNamed Bd.named
  have hnm := (name_of_methodNamed Bd.named Bd.method).1
  have hlk : meth.locks = false := BodyLoose.notSynchronized Bd
  have X0 : Stand p l e ({ frames := 2, cells := 0, slots := 0, locals := 28 } : Room) s m #[(.ref qa), (.ref qb)] below meth c s₁ [] 0 0 := Stand.of_body Bd
  have e0 : s₁.heap = h0 := by rw [← hh, Bd.state]; rfl
  show Go p e below (EndN below s (Pur (some (.int (b2i (co1 = co2 ∧ xs = ys)))) h0) ({ frames := 2, cells := 0, slots := 0, locals := 28 } : Room).cells ({ frames := 2, cells := 0, slots := 0, locals := 28 } : Room).slots) (s₁.setTop (entryFrame m #[(.ref qa), (.ref qb)] 3))
  rw [ef_jeq]
  refine g_aload_n X0 hx 1 (.ref qb) (hb hby jeq_0) rfl rfl rfl ?_
  obtain ⟨T_1, X_1, e_1, st_1⟩ := g_instY X0 hx hZ hown (hw _ (List.mem_of_getElem? (i := 52) rfl)) e0 (Ins.self E2) 4 (hb hby jeq_1) rfl
  refine st_1 ?_
  refine g_ifN X_1 hx 7 (hb hby jeq_4) (XT.i0_eq_f (by decide)) rfl ?_
  refine g_aload_n X_1 hx 8 (.ref qb) (hb hby jeq_7) rfl rfl rfl ?_
  obtain ⟨T_8, X_8, e_8, st_8⟩ := g_cast X_1 hx hZ hown (hw _ (List.mem_of_getElem? (i := 52) rfl)) e_1 (Ins.self E2) 11 (hb hby jeq_8) rfl
  refine st_8 ?_
  refine g_astore_n X_8 hx 12 #[.val (.ref qa), .val (.ref qb), .val (.ref qb)] (hb hby jeq_11) rfl rfl rfl ?_
  refine g_aload_n X_8 hx 13 (.ref qa) (hb hby jeq_12) rfl rfl rfl ?_
  obtain ⟨T_13, X_13, e_13, st_13⟩ := g_getF X_8 hx hZ hown (hw _ (List.mem_of_getElem? (i := 45) rfl)) Via.refl e_8 F1 16 (hb hby jeq_13) rfl
  refine st_13 ?_
  refine g_aload_n X_13 hx 17 (.ref qb) (hb hby jeq_16) rfl rfl rfl ?_
  obtain ⟨T_17, X_17, e_17, st_17⟩ := g_getF X_13 hx hZ hown (hw _ (List.mem_of_getElem? (i := 45) rfl)) Via.refl e_13 F2 20 (hb hby jeq_17) rfl
  refine st_17 ?_
  by_cases hxy : co1 = co2 ∧ xs = ys
  ·
    obtain ⟨_, T_20, L_20, X_20, ⟨rfl, rfl, e_20⟩, st_20⟩ := g_callV X_17 hx hZ  (C := "java/lang/String") (own := "com/example/assayer/assayer/core/JsonString") (index := 75) (y := (⟨"java/lang/String", "equals", "(Ljava/lang/Object;)Z"⟩ : MethodName)) (z := (⟨"java/lang/String", "equals", "(Ljava/lang/Object;)Z"⟩ : MethodName)) (a := sa) (as' := [(.ref sb)]) hown (hw _ (List.mem_of_getElem? (i := 54) rfl)) (hw _ (List.mem_of_getElem? (i := 55) rfl)) (hw _ (List.mem_of_getElem? (i := 57) rfl)) (hw _ (List.mem_of_getElem? (i := 57) rfl)) (hw _ (List.mem_of_getElem? (i := 56) rfl)) (hw _ (List.mem_of_getElem? (i := 7) rfl)) (hw _ (List.mem_of_getElem? (i := 58) rfl)) (by decide) e_17 T1.1 (rm_seq l Z a0 hw sa sb h0 n0 XO cs hcs SC hne co1 co2 va vb xs ys hx4 hy4 T1 T2) pd_seq rfl 0 (by decide) (by decide) (by decide) (by decide) (pc := 20) (Ls := #[.val (.ref qa), .val (.ref qb), .val (.ref qb)]) (rest := []) (st := [(.ref sb), (.ref sa)]) (by rw [hml]; rfl) rfl (Nat.le_of_eq rfl) (hb hby jeq_20)
    refine st_20 ?_
    rw [List.append_nil] at X_20
    show Go p e below _ (T_20.setTop (mkF m 23 #[.val (.ref qa), .val (.ref qb), .val (.ref qb)] [(.int (b2i (co1 = co2 ∧ xs = ys)))]))
    rw [b2i_t hxy]
    refine g_ifN X_20 hx 26 (hb hby jeq_23) (XT.i0_eq_f (by decide)) rfl ?_
    refine g_iconst X_20 hx 27 (1 : Int32) (hb hby jeq_26) rfl rfl ?_
    refine g_goto X_20 hx 31 (hb hby jeq_27) (by decide) (by decide) ?_
    exact Go.retZ X_20 hx hlk Bd.returns (by simp) (hb hby jeq_31) (by decide) (by decide) ⟨rfl, rfl, e_20⟩
  ·
    obtain ⟨_, T_20x1, L_20x1, X_20x1, ⟨rfl, rfl, e_20x1⟩, st_20x1⟩ := g_callV X_17 hx hZ  (C := "java/lang/String") (own := "com/example/assayer/assayer/core/JsonString") (index := 75) (y := (⟨"java/lang/String", "equals", "(Ljava/lang/Object;)Z"⟩ : MethodName)) (z := (⟨"java/lang/String", "equals", "(Ljava/lang/Object;)Z"⟩ : MethodName)) (a := sa) (as' := [(.ref sb)]) hown (hw _ (List.mem_of_getElem? (i := 54) rfl)) (hw _ (List.mem_of_getElem? (i := 55) rfl)) (hw _ (List.mem_of_getElem? (i := 57) rfl)) (hw _ (List.mem_of_getElem? (i := 57) rfl)) (hw _ (List.mem_of_getElem? (i := 56) rfl)) (hw _ (List.mem_of_getElem? (i := 7) rfl)) (hw _ (List.mem_of_getElem? (i := 58) rfl)) (by decide) e_17 T1.1 (rm_seq l Z a0 hw sa sb h0 n0 XO cs hcs SC hne co1 co2 va vb xs ys hx4 hy4 T1 T2) pd_seq rfl 0 (by decide) (by decide) (by decide) (by decide) (pc := 20) (Ls := #[.val (.ref qa), .val (.ref qb), .val (.ref qb)]) (rest := []) (st := [(.ref sb), (.ref sa)]) (by rw [hml]; rfl) rfl (Nat.le_of_eq rfl) (hb hby jeq_20)
    refine st_20x1 ?_
    rw [List.append_nil] at X_20x1
    show Go p e below _ (T_20x1.setTop (mkF m 23 #[.val (.ref qa), .val (.ref qb), .val (.ref qb)] [(.int (b2i (co1 = co2 ∧ xs = ys)))]))
    rw [b2i_f hxy]
    refine g_ifY X_20x1 hx 30 (hb hby jeq_23) (XT.i0_eq_t (by decide)) (by decide) (by decide) ?_
    refine g_iconst X_20x1 hx 31 (0 : Int32) (hb hby jeq_30) rfl rfl ?_
    exact Go.retZ X_20x1 hx hlk Bd.returns (by simp) (hb hby jeq_31) (by decide) (by decide) ⟨rfl, rfl, e_20x1⟩
theorem jen_0 : decode prog_15_method_6_code 0 = .ok (.aload_n 1, 1) := by decide +kernel
theorem jen_1 : decode prog_15_method_6_code 1 = .ok (.instanceof 18, 3) := by decide +kernel
theorem jen_4 : decode prog_15_method_6_code 4 = .ok (.ifCond .eq 26, 3) := by decide +kernel
theorem jen_7 : decode prog_15_method_6_code 7 = .ok (.aload_n 1, 1) := by decide +kernel
theorem jen_8 : decode prog_15_method_6_code 8 = .ok (.checkcast 18, 3) := by decide +kernel
theorem jen_11 : decode prog_15_method_6_code 11 = .ok (.astore_n 2, 1) := by decide +kernel
theorem jen_12 : decode prog_15_method_6_code 12 = .ok (.aload_n 0, 1) := by decide +kernel
theorem jen_13 : decode prog_15_method_6_code 13 = .ok (.getfield 17, 3) := by decide +kernel
theorem jen_16 : decode prog_15_method_6_code 16 = .ok (.aload_n 2, 1) := by decide +kernel
theorem jen_17 : decode prog_15_method_6_code 17 = .ok (.getfield 17, 3) := by decide +kernel
theorem jen_20 : decode prog_15_method_6_code 20 = .ok (.invokevirtual 75, 3) := by decide +kernel
theorem jen_23 : decode prog_15_method_6_code 23 = .ok (.ifCond .eq 7, 3) := by decide +kernel
theorem jen_26 : decode prog_15_method_6_code 26 = .ok (.iconst 1, 1) := by decide +kernel
theorem jen_27 : decode prog_15_method_6_code 27 = .ok (.goto 4, 3) := by decide +kernel
theorem jen_30 : decode prog_15_method_6_code 30 = .ok (.iconst 0, 1) := by decide +kernel
theorem jen_31 : decode prog_15_method_6_code 31 = .ok (.ireturn, 1) := by decide +kernel
theorem pn_jen : plainFor (⟨"com/example/assayer/assayer/core/JsonString", "equals", "(Ljava/lang/Object;)Z"⟩ : MethodName) = true := by first | exact plainFor_of_name (by first | (simp [plainName, overriddenIn]; done) | decide +kernel) | decide +kernel
theorem ef_jen (m : MethodId) (qa : Addr)  : entryFrame m #[(.ref qa), .null] 3 = mkF m 0 #[.val (.ref qa), .val .null, .unset] [] := by first | (simp [entryFrame, mkF, argsToLocals, Value.category, maxLocals]; done) | rfl
theorem pd_jen : parseMethodDescriptor "(Ljava/lang/Object;)Z" = some ⟨[.object "java/lang/Object"], some (.boolean)⟩ := by decide +kernel
set_option maxRecDepth 65536 in
set_option maxHeartbeats 40000000 in
theorem rm_jen (l : Launch) (Z : State) (a0 : Array Value) (hw : ∀ d ∈ tables_1, d.before a0 Z = true)  (qa : Addr) (h0 : Heap)  :
    MetFree l (⟨"com/example/assayer/assayer/core/JsonString", "equals", "(Ljava/lang/Object;)Z"⟩ : MethodName) (head1 [Jvm.Cond.code (⟨"com/example/assayer/assayer/core/JsonString", "equals", "(Ljava/lang/Object;)Z"⟩ : MethodName) prog_15_method_6_code 3 (some Jvm.ClassFile.FieldType.boolean)] ({ frames := 0, cells := 0, slots := 0, locals := 0 } : Room)) (fun a U => a = #[(.ref qa), .null] ∧ Z.Warmed39 U.vm ∧ U.heap = h0) (fun _ _ _ _ _ => True) (fun _ U o U' => ∃ v L, o = .returned v ∧ Pur (some (.int (0 : Int32))) h0 v U'.heap L ∧ FrameEnd U o U' L ({ frames := 0, cells := 0, slots := 0, locals := 0 } : Room).cells ({ frames := 0, cells := 0, slots := 0, locals := 0 } : Room).slots) := by
  refine MetFree.of_bodySF pn_jen hisR ?_
  intro p e s m args below meth c s₁ Bd hml0 hP hK
  obtain ⟨rfl, hZ, hh⟩ := hP
  have hx := Bd.exec
  have hby := Bd.bytes
  have hml : c.maxLocals = 3 := hml0
  have hown : s.vm.findClass "com/example/assayer/assayer/core/JsonString" = some m.cls := findClass_of_methodNamed Bd.named
  have hnm := (name_of_methodNamed Bd.named Bd.method).1
  have hlk : meth.locks = false := BodyLoose.notSynchronized Bd
  have X0 : Stand p l e ({ frames := 0, cells := 0, slots := 0, locals := 0 } : Room) s m #[(.ref qa), .null] below meth c s₁ [] 0 0 := Stand.of_body Bd
  have e0 : s₁.heap = h0 := by rw [← hh, Bd.state]; rfl
  show Go p e below (EndN below s (Pur (some (.int (0 : Int32))) h0) ({ frames := 0, cells := 0, slots := 0, locals := 0 } : Room).cells ({ frames := 0, cells := 0, slots := 0, locals := 0 } : Room).slots) (s₁.setTop (entryFrame m #[(.ref qa), .null] 3))
  rw [ef_jen]
  refine g_aload_n X0 hx 1 .null (hb hby jen_0) rfl rfl rfl ?_
  refine g_instNull X0 hx 4 (hb hby jen_1) rfl ?_
  refine g_ifY X0 hx 30 (hb hby jen_4) (XT.i0_eq_t (by decide)) (by decide) (by decide) ?_
  refine g_iconst X0 hx 31 (0 : Int32) (hb hby jen_30) rfl rfl ?_
  exact Go.retZ X0 hx hlk Bd.returns (by simp) (hb hby jen_31) (by decide) (by decide) ⟨rfl, rfl, e0⟩
theorem jes_0 : decode prog_15_method_6_code 0 = .ok (.aload_n 1, 1) := by decide +kernel
theorem jes_1 : decode prog_15_method_6_code 1 = .ok (.instanceof 18, 3) := by decide +kernel
theorem jes_4 : decode prog_15_method_6_code 4 = .ok (.ifCond .eq 26, 3) := by decide +kernel
theorem jes_7 : decode prog_15_method_6_code 7 = .ok (.aload_n 1, 1) := by decide +kernel
theorem jes_8 : decode prog_15_method_6_code 8 = .ok (.checkcast 18, 3) := by decide +kernel
theorem jes_11 : decode prog_15_method_6_code 11 = .ok (.astore_n 2, 1) := by decide +kernel
theorem jes_12 : decode prog_15_method_6_code 12 = .ok (.aload_n 0, 1) := by decide +kernel
theorem jes_13 : decode prog_15_method_6_code 13 = .ok (.getfield 17, 3) := by decide +kernel
theorem jes_16 : decode prog_15_method_6_code 16 = .ok (.aload_n 2, 1) := by decide +kernel
theorem jes_17 : decode prog_15_method_6_code 17 = .ok (.getfield 17, 3) := by decide +kernel
theorem jes_20 : decode prog_15_method_6_code 20 = .ok (.invokevirtual 75, 3) := by decide +kernel
theorem jes_23 : decode prog_15_method_6_code 23 = .ok (.ifCond .eq 7, 3) := by decide +kernel
theorem jes_26 : decode prog_15_method_6_code 26 = .ok (.iconst 1, 1) := by decide +kernel
theorem jes_27 : decode prog_15_method_6_code 27 = .ok (.goto 4, 3) := by decide +kernel
theorem jes_30 : decode prog_15_method_6_code 30 = .ok (.iconst 0, 1) := by decide +kernel
theorem jes_31 : decode prog_15_method_6_code 31 = .ok (.ireturn, 1) := by decide +kernel
theorem pn_jes : plainFor (⟨"com/example/assayer/assayer/core/JsonString", "equals", "(Ljava/lang/Object;)Z"⟩ : MethodName) = true := by first | exact plainFor_of_name (by first | (simp [plainName, overriddenIn]; done) | decide +kernel) | decide +kernel
theorem ef_jes (m : MethodId) (qa : Addr)  : entryFrame m #[(.ref qa), (.ref qa)] 3 = mkF m 0 #[.val (.ref qa), .val (.ref qa), .unset] [] := by first | (simp [entryFrame, mkF, argsToLocals, Value.category, maxLocals]; done) | rfl
theorem pd_jes : parseMethodDescriptor "(Ljava/lang/Object;)Z" = some ⟨[.object "java/lang/Object"], some (.boolean)⟩ := by decide +kernel
set_option maxRecDepth 65536 in
set_option maxHeartbeats 40000000 in
theorem rm_jes (l : Launch) (Z : State) (a0 : Array Value) (hw : ∀ d ∈ tables_1, d.before a0 Z = true)  (qa : Addr) (h0 : Heap) (E1 : Exa Z h0 qa "com/example/assayer/assayer/core/JsonString")(sa : Addr) (F1 : Fld Z h0 qa "com/example/assayer/assayer/core/JsonString" "value" "Ljava/lang/String;" (.ref sa))(E2 : Exa Z h0 sa "java/lang/String") :
    MetFree l (⟨"com/example/assayer/assayer/core/JsonString", "equals", "(Ljava/lang/Object;)Z"⟩ : MethodName) (head1 [Jvm.Cond.code (⟨"com/example/assayer/assayer/core/JsonString", "equals", "(Ljava/lang/Object;)Z"⟩ : MethodName) prog_15_method_6_code 3 (some Jvm.ClassFile.FieldType.boolean)] ({ frames := 1, cells := 0, slots := 0, locals := 14 } : Room)) (fun a U => a = #[(.ref qa), (.ref qa)] ∧ Z.Warmed39 U.vm ∧ U.heap = h0) (fun _ _ _ _ _ => True) (fun _ U o U' => ∃ v L, o = .returned v ∧ Pur (some (.int (1 : Int32))) h0 v U'.heap L ∧ FrameEnd U o U' L ({ frames := 1, cells := 0, slots := 0, locals := 14 } : Room).cells ({ frames := 1, cells := 0, slots := 0, locals := 14 } : Room).slots) := by
  refine MetFree.of_bodySF pn_jes hisR ?_
  intro p e s m args below meth c s₁ Bd hml0 hP hK
  obtain ⟨rfl, hZ, hh⟩ := hP
  have hx := Bd.exec
  have hby := Bd.bytes
  have hml : c.maxLocals = 3 := hml0
  have hown : s.vm.findClass "com/example/assayer/assayer/core/JsonString" = some m.cls := findClass_of_methodNamed Bd.named
  have hnm := (name_of_methodNamed Bd.named Bd.method).1
  have hlk : meth.locks = false := BodyLoose.notSynchronized Bd
  have X0 : Stand p l e ({ frames := 1, cells := 0, slots := 0, locals := 14 } : Room) s m #[(.ref qa), (.ref qa)] below meth c s₁ [] 0 0 := Stand.of_body Bd
  have e0 : s₁.heap = h0 := by rw [← hh, Bd.state]; rfl
  show Go p e below (EndN below s (Pur (some (.int (1 : Int32))) h0) ({ frames := 1, cells := 0, slots := 0, locals := 14 } : Room).cells ({ frames := 1, cells := 0, slots := 0, locals := 14 } : Room).slots) (s₁.setTop (entryFrame m #[(.ref qa), (.ref qa)] 3))
  rw [ef_jes]
  refine g_aload_n X0 hx 1 (.ref qa) (hb hby jes_0) rfl rfl rfl ?_
  obtain ⟨T_1, X_1, e_1, st_1⟩ := g_instY X0 hx hZ hown (hw _ (List.mem_of_getElem? (i := 52) rfl)) e0 (Ins.self E1) 4 (hb hby jes_1) rfl
  refine st_1 ?_
  refine g_ifN X_1 hx 7 (hb hby jes_4) (XT.i0_eq_f (by decide)) rfl ?_
  refine g_aload_n X_1 hx 8 (.ref qa) (hb hby jes_7) rfl rfl rfl ?_
  obtain ⟨T_8, X_8, e_8, st_8⟩ := g_cast X_1 hx hZ hown (hw _ (List.mem_of_getElem? (i := 52) rfl)) e_1 (Ins.self E1) 11 (hb hby jes_8) rfl
  refine st_8 ?_
  refine g_astore_n X_8 hx 12 #[.val (.ref qa), .val (.ref qa), .val (.ref qa)] (hb hby jes_11) rfl rfl rfl ?_
  refine g_aload_n X_8 hx 13 (.ref qa) (hb hby jes_12) rfl rfl rfl ?_
  obtain ⟨T_13, X_13, e_13, st_13⟩ := g_getF X_8 hx hZ hown (hw _ (List.mem_of_getElem? (i := 45) rfl)) Via.refl e_8 F1 16 (hb hby jes_13) rfl
  refine st_13 ?_
  refine g_aload_n X_13 hx 17 (.ref qa) (hb hby jes_16) rfl rfl rfl ?_
  obtain ⟨T_17, X_17, e_17, st_17⟩ := g_getF X_13 hx hZ hown (hw _ (List.mem_of_getElem? (i := 45) rfl)) Via.refl e_13 F1 20 (hb hby jes_17) rfl
  refine st_17 ?_
  obtain ⟨_, T_20, L_20, X_20, ⟨rfl, rfl, e_20⟩, st_20⟩ := g_callV X_17 hx hZ  (C := "java/lang/String") (own := "com/example/assayer/assayer/core/JsonString") (index := 75) (y := (⟨"java/lang/String", "equals", "(Ljava/lang/Object;)Z"⟩ : MethodName)) (z := (⟨"java/lang/String", "equals", "(Ljava/lang/Object;)Z"⟩ : MethodName)) (a := sa) (as' := [(.ref sa)]) hown (hw _ (List.mem_of_getElem? (i := 54) rfl)) (hw _ (List.mem_of_getElem? (i := 55) rfl)) (hw _ (List.mem_of_getElem? (i := 57) rfl)) (hw _ (List.mem_of_getElem? (i := 57) rfl)) (hw _ (List.mem_of_getElem? (i := 56) rfl)) (hw _ (List.mem_of_getElem? (i := 7) rfl)) (hw _ (List.mem_of_getElem? (i := 58) rfl)) (by decide) e_17 E2 (rm_ses l Z a0 hw sa h0) pd_ses rfl 0 (by decide) (by decide) (by decide) (by decide) (pc := 20) (Ls := #[.val (.ref qa), .val (.ref qa), .val (.ref qa)]) (rest := []) (st := [(.ref sa), (.ref sa)]) (by rw [hml]; rfl) rfl (Nat.le_of_eq rfl) (hb hby jes_20)
  refine st_20 ?_
  rw [List.append_nil] at X_20
  show Go p e below _ (T_20.setTop (mkF m 23 #[.val (.ref qa), .val (.ref qa), .val (.ref qa)] [(.int (1 : Int32))]))
  refine g_ifN X_20 hx 26 (hb hby jes_23) (XT.i0_eq_f (by decide)) rfl ?_
  refine g_iconst X_20 hx 27 (1 : Int32) (hb hby jes_26) rfl rfl ?_
  refine g_goto X_20 hx 31 (hb hby jes_27) (by decide) (by decide) ?_
  exact Go.retZ X_20 hx hlk Bd.returns (by simp) (hb hby jes_31) (by decide) (by decide) ⟨rfl, rfl, e_20⟩
theorem jep_0 : decode prog_15_method_6_code 0 = .ok (.aload_n 1, 1) := by decide +kernel
theorem jep_1 : decode prog_15_method_6_code 1 = .ok (.instanceof 18, 3) := by decide +kernel
theorem jep_4 : decode prog_15_method_6_code 4 = .ok (.ifCond .eq 26, 3) := by decide +kernel
theorem jep_7 : decode prog_15_method_6_code 7 = .ok (.aload_n 1, 1) := by decide +kernel
theorem jep_8 : decode prog_15_method_6_code 8 = .ok (.checkcast 18, 3) := by decide +kernel
theorem jep_11 : decode prog_15_method_6_code 11 = .ok (.astore_n 2, 1) := by decide +kernel
theorem jep_12 : decode prog_15_method_6_code 12 = .ok (.aload_n 0, 1) := by decide +kernel
theorem jep_13 : decode prog_15_method_6_code 13 = .ok (.getfield 17, 3) := by decide +kernel
theorem jep_16 : decode prog_15_method_6_code 16 = .ok (.aload_n 2, 1) := by decide +kernel
theorem jep_17 : decode prog_15_method_6_code 17 = .ok (.getfield 17, 3) := by decide +kernel
theorem jep_20 : decode prog_15_method_6_code 20 = .ok (.invokevirtual 75, 3) := by decide +kernel
theorem jep_23 : decode prog_15_method_6_code 23 = .ok (.ifCond .eq 7, 3) := by decide +kernel
theorem jep_26 : decode prog_15_method_6_code 26 = .ok (.iconst 1, 1) := by decide +kernel
theorem jep_27 : decode prog_15_method_6_code 27 = .ok (.goto 4, 3) := by decide +kernel
theorem jep_30 : decode prog_15_method_6_code 30 = .ok (.iconst 0, 1) := by decide +kernel
theorem jep_31 : decode prog_15_method_6_code 31 = .ok (.ireturn, 1) := by decide +kernel
theorem pn_jep : plainFor (⟨"com/example/assayer/assayer/core/JsonString", "equals", "(Ljava/lang/Object;)Z"⟩ : MethodName) = true := by first | exact plainFor_of_name (by first | (simp [plainName, overriddenIn]; done) | decide +kernel) | decide +kernel
theorem ef_jep (m : MethodId) (qa : Addr) (qs : Addr)  : entryFrame m #[(.ref qa), (.ref qs)] 3 = mkF m 0 #[.val (.ref qa), .val (.ref qs), .unset] [] := by first | (simp [entryFrame, mkF, argsToLocals, Value.category, maxLocals]; done) | rfl
theorem pd_jep : parseMethodDescriptor "(Ljava/lang/Object;)Z" = some ⟨[.object "java/lang/Object"], some (.boolean)⟩ := by decide +kernel
set_option maxRecDepth 65536 in
set_option maxHeartbeats 40000000 in
theorem rm_jep (l : Launch) (Z : State) (a0 : Array Value) (hw : ∀ d ∈ tables_1, d.before a0 Z = true)  (qa : Addr) (qs : Addr) (h0 : Heap) (E1 : Exa Z h0 qs "java/lang/String") :
    MetFree l (⟨"com/example/assayer/assayer/core/JsonString", "equals", "(Ljava/lang/Object;)Z"⟩ : MethodName) (head1 [Jvm.Cond.code (⟨"com/example/assayer/assayer/core/JsonString", "equals", "(Ljava/lang/Object;)Z"⟩ : MethodName) prog_15_method_6_code 3 (some Jvm.ClassFile.FieldType.boolean)] ({ frames := 0, cells := 0, slots := 0, locals := 0 } : Room)) (fun a U => a = #[(.ref qa), (.ref qs)] ∧ Z.Warmed39 U.vm ∧ U.heap = h0) (fun _ _ _ _ _ => True) (fun _ U o U' => ∃ v L, o = .returned v ∧ Pur (some (.int (0 : Int32))) h0 v U'.heap L ∧ FrameEnd U o U' L ({ frames := 0, cells := 0, slots := 0, locals := 0 } : Room).cells ({ frames := 0, cells := 0, slots := 0, locals := 0 } : Room).slots) := by
  refine MetFree.of_bodySF pn_jep hisR ?_
  intro p e s m args below meth c s₁ Bd hml0 hP hK
  obtain ⟨rfl, hZ, hh⟩ := hP
  have hx := Bd.exec
  have hby := Bd.bytes
  have hml : c.maxLocals = 3 := hml0
  have hown : s.vm.findClass "com/example/assayer/assayer/core/JsonString" = some m.cls := findClass_of_methodNamed Bd.named
  have hnm := (name_of_methodNamed Bd.named Bd.method).1
  have hlk : meth.locks = false := BodyLoose.notSynchronized Bd
  have X0 : Stand p l e ({ frames := 0, cells := 0, slots := 0, locals := 0 } : Room) s m #[(.ref qa), (.ref qs)] below meth c s₁ [] 0 0 := Stand.of_body Bd
  have e0 : s₁.heap = h0 := by rw [← hh, Bd.state]; rfl
  show Go p e below (EndN below s (Pur (some (.int (0 : Int32))) h0) ({ frames := 0, cells := 0, slots := 0, locals := 0 } : Room).cells ({ frames := 0, cells := 0, slots := 0, locals := 0 } : Room).slots) (s₁.setTop (entryFrame m #[(.ref qa), (.ref qs)] 3))
  rw [ef_jep]
  refine g_aload_n X0 hx 1 (.ref qs) (hb hby jep_0) rfl rfl rfl ?_
  obtain ⟨T_1, X_1, e_1, st_1⟩ := g_instN X0 hx hZ hown (hw _ (List.mem_of_getElem? (i := 52) rfl)) e0 E1 (own_notinst (hw _ (List.mem_of_getElem? (i := 65) rfl)) (hw _ (List.mem_of_getElem? (i := 66) rfl)) (hw _ (List.mem_of_getElem? (i := 28) rfl)) (by decide) (by decide)) 4 (hb hby jep_1) rfl
  refine st_1 ?_
  refine g_ifY X_1 hx 30 (hb hby jep_4) (XT.i0_eq_t (by decide)) (by decide) (by decide) ?_
  refine g_iconst X_1 hx 31 (0 : Int32) (hb hby jep_30) rfl rfl ?_
  exact Go.retZ X_1 hx hlk Bd.returns (by simp) (hb hby jep_31) (by decide) (by decide) ⟨rfl, rfl, e_1⟩
theorem own_exp {k j x0 x1 y0 y1 : Int32} (hk : k = 0 ∨ k = 1 ∨ k = 2) (hj : j = 0 ∨ j = 1 ∨ j = 2) : mkl k x0 x1 = mkl j y0 y1 ↔ (k = j ∧ (¬ k < (1 : Int32) → x0 = y0) ∧ (¬ k < (2 : Int32) → x1 = y1)) := by
  rcases hk with rfl | rfl | rfl <;> rcases hj with rfl | rfl | rfl <;> simp [mkl]
theorem own_3 {a n : Int32} (h : (a &&& (2147483647 : Int32)) % (3 : Int32) = n) : n = 0 ∨ n = 1 ∨ n = 2 := by
  have e1 : (a &&& (2147483647 : Int32)).toInt = a.toInt % 2 ^ 31 := Jvm.Kit.i32_mask a _ (k := 31) (by decide) (by decide)
  have e : n.toInt = (a.toInt % 2 ^ 31) % 3 := by rw [← h, Int32.toInt_mod, e1, Int.tmod_eq_emod_of_nonneg (by omega)]; rfl
  have c : n.toInt = 0 ∨ n.toInt = 1 ∨ n.toInt = 2 := by omega
  rcases c with c | c | c
  · exact Or.inl (Int32.toInt_inj.mp c)
  · exact Or.inr (Or.inl (Int32.toInt_inj.mp c))
  · exact Or.inr (Or.inr (Int32.toInt_inj.mp c))
theorem own_3u (a : Int32) : (XT.ushr a (8 : Int32)) % (3 : Int32) = 0 ∨ (XT.ushr a (8 : Int32)) % (3 : Int32) = 1 ∨ (XT.ushr a (8 : Int32)) % (3 : Int32) = 2 := by
  have e0 : (XT.ushr a (8 : Int32)).toInt = (a.toInt % 4294967296) / 256 := c_iushr a 8 8 (by decide) (by decide)
  generalize XT.ushr a (8 : Int32) = u at *
  have e : (u % (3 : Int32)).toInt = u.toInt % 3 := by rw [Int32.toInt_mod, Int.tmod_eq_emod_of_nonneg (by omega)]; rfl
  have c : (u % (3 : Int32)).toInt = 0 ∨ (u % (3 : Int32)).toInt = 1 ∨ (u % (3 : Int32)).toInt = 2 := by omega
  rcases c with c | c | c
  · exact Or.inl (Int32.toInt_inj.mp c)
  · exact Or.inr (Or.inl (Int32.toInt_inj.mp c))
  · exact Or.inr (Or.inr (Int32.toInt_inj.mp c))
theorem pn_law : plainFor x = true := by first | exact plainFor_of_name (by first | (simp [plainName, overriddenIn]; done) | decide +kernel) | decide +kernel
theorem ef_law (m : MethodId) (q1 : Int32) (q2 : Int32) (q3 : Int32) (q4 : Int32) (q5 : Int32) : entryFrame m #[(.int q1), (.int q2), (.int q3), (.int q4), (.int q5)] maxLocals = mkF m 0 #[.val (.int q1), .val (.int q2), .val (.int q3), .val (.int q4), .val (.int q5), .unset, .unset, .unset, .unset, .unset, .unset, .unset, .unset, .unset, .unset, .unset, .unset, .unset, .unset] [] := by first | (simp [entryFrame, mkF, argsToLocals, Value.category, maxLocals]; done) | rfl
theorem pd_law : parseMethodDescriptor "(IIIII)Z" = some ⟨[.int, .int, .int, .int, .int], some (.boolean)⟩ := by decide +kernel
set_option maxRecDepth 65536 in
set_option maxHeartbeats 40000000 in
theorem rm_law (l : Launch) (Z : State) (a0 : Array Value) (hw : ∀ d ∈ tables_1, d.before a0 Z = true) (ws : List Jvm.Cond) (q1 : Int32) (q2 : Int32) (q3 : Int32) (q4 : Int32) (q5 : Int32) (h0 : Heap) (XO : Old Z h0.size h0) (cs : Int32) (hcs : ¬ cs = (0 : Int32)) (SC : Sta Z Z.heap "java/lang/String" "COMPACT_STRINGS" "Z" (.int cs)) (SA : Sta Z Z.heap "java/lang/StringUTF16" "$assertionsDisabled" "Z" (.int (1 : Int32))) (SH : Sta Z Z.heap "java/lang/StringUTF16" "HI_BYTE_SHIFT" "I" (.int (0 : Int32))) (SL : Sta Z Z.heap "java/lang/StringUTF16" "LO_BYTE_SHIFT" "I" (.int (8 : Int32))) (hh1 : Jvm.Lit.constHeld Z "com/example/assayer/assayer/core/JsonString" 7) (hh0 : Jvm.Lit.constHeld Z "java/lang/String" 7) (hcw : Jvm.Lit.compactW.before a0 Z = true) :
    MetFree l x (head1 (Jvm.Cond.code x code maxLocals ret :: ws) room_1) (fun a U => a = #[(.int q1), (.int q2), (.int q3), (.int q4), (.int q5)] ∧ Z.Warmed39 U.vm ∧ U.heap = h0 ∧ (fun vm => IB Z vm []) U.vm) (fun _ _ _ _ _ => True) (fun _ U o U' => ∃ v L, o = .returned v ∧ LQ h0 v U'.vm U'.heap L ∧ ReturnedEndW U o U' L 32 2176) := by
  refine MetFree.of_bodySF pn_law hisR ?_
  intro p e s m args below meth c s₁ Bd hml0 hP hK
  obtain ⟨rfl, hZ, hh, hI⟩ := hP
  have hx := Bd.exec
  have hby := Bd.bytes
  have hml : c.maxLocals = 19 := hml0
  have hown : s.vm.findClass "com/example/assayer/assayer/core/JsonStringEqualsPinLaw" = some m.cls := findClass_of_methodNamed Bd.named
  have hnm := (name_of_methodNamed Bd.named Bd.method).1
  have hlk : meth.locks = false := BodyLoose.notSynchronized Bd
  have X0 : Stand p l e room_1 (s.setVm s.vm) m #[(.int q1), (.int q2), (.int q3), (.int q4), (.int q5)] below meth c s₁ [] 0 0 := Stand.of_body Bd
  have e0 : s₁.heap = h0 := by rw [← hh, Bd.state]; rfl
  have hS : s.Since s.vm h0.size := (State.WarmedH.refl s).since _
  have hk0 : h0.size ≤ h0.size := Nat.le_refl _
  show Go p e below (EndW below s (LQ h0) 32 2176) (s₁.setTop (entryFrame m #[(.int q1), (.int q2), (.int q3), (.int q4), (.int q5)] maxLocals))
  rw [ef_law]
  have J71 : ∀ (kk jj x0 x1 y0 y1 : Int32), (kk = 0 ∨ kk = 1 ∨ kk = 2) → (jj = 0 ∨ jj = 1 ∨ jj = 2) → Ch x0 → Ch x1 → Ch y0 → Ch y1 → Go p e below (EndW below s (LQ h0) 32 2176) (s₁.setTop (mkF m 71 #[.val (.int q1), .val (.int q2), .val (.int q3), .val (.int q4), .val (.int q5), .val (.int kk), .val (.int jj), .val (.int x0), .val (.int x1), .val (.int y0), .val (.int y1), .unset, .unset, .unset, .unset, .unset, .unset, .unset, .unset] [])) := by
    intro kk jj x0 x1 y0 y1 hkk hjj hx0 hx1 hy0 hy1
    have hI : EV Z s.vm h0 := ⟨[], hI, by simp, fun q => absurd q (by simp)⟩
    refine g_iload X0 hx 73 kk (hb hby at_71) rfl rfl ?_
    refine g_iload X0 hx 75 x0 (hb hby at_73) rfl rfl ?_
    refine g_iload X0 hx 77 x1 (hb hby at_75) rfl rfl ?_
    obtain ⟨_, T_77, L_77, X_77, hS, hZ, hown, hW_77, ⟨s0, v0, rfl, g_77, M_77', K_77, Q_77, hI⟩, st_77⟩ := g_callSW X0 hx hZ hS hk0  (own := "com/example/assayer/assayer/core/JsonStringEqualsPinLaw") (index := 17) (y := (⟨"com/example/assayer/assayer/core/JsonStringEqualsPinLaw", "make", "(ICC)Ljava/lang/String;"⟩ : MethodName)) (as' := [(.int kk), (.int x0), (.int x1)]) hown (hw _ (List.mem_of_getElem? (i := 1) rfl)) (hw _ (List.mem_of_getElem? (i := 2) rfl)) (hw _ (List.mem_of_getElem? (i := 3) rfl)) (hw _ (List.mem_of_getElem? (i := 4) rfl)) (by decide) e0 (fun vm₁ hw₁ => ev_warm hI hw₁) (rm_mak l Z a0 hw kk x0 x1 h0 h0.size XO cs hcs SC SA SH SL hh0 hcw hx0 hx1) pd_mak rfl 0 (by decide) (by decide) (by decide) (by decide) (pc := 77) (Ls := #[.val (.int q1), .val (.int q2), .val (.int q3), .val (.int q4), .val (.int q5), .val (.int kk), .val (.int jj), .val (.int x0), .val (.int x1), .val (.int y0), .val (.int y1), .unset, .unset, .unset, .unset, .unset, .unset, .unset, .unset]) (rest := []) (st := [(.int x1), (.int x0), (.int kk)]) (by rw [hml]; rfl) rfl (Nat.le_of_eq rfl) (hb hby at_77)
    refine st_77 ?_
    have N_77 := Fr.app (Fr.nil _) M_77'
    have Z_77 : h0.size ≤ T_77.heap.size := Nat.le_trans (Nat.le_refl _) K_77.1
    have O_77 := Old.keep XO K_77 all0
    show Go p e below _ (T_77.setTop (mkF m 80 #[.val (.int q1), .val (.int q2), .val (.int q3), .val (.int q4), .val (.int q5), .val (.int kk), .val (.int jj), .val (.int x0), .val (.int x1), .val (.int y0), .val (.int y1), .unset, .unset, .unset, .unset, .unset, .unset, .unset, .unset] [(.ref s0)]))
    refine g_astore X_77 hx 82 #[.val (.int q1), .val (.int q2), .val (.int q3), .val (.int q4), .val (.int q5), .val (.int kk), .val (.int jj), .val (.int x0), .val (.int x1), .val (.int y0), .val (.int y1), .val (.ref s0), .unset, .unset, .unset, .unset, .unset, .unset, .unset] (hb hby at_80) rfl rfl rfl ?_
    refine g_iload X_77 hx 84 jj (hb hby at_82) rfl rfl ?_
    refine g_iload X_77 hx 86 y0 (hb hby at_84) rfl rfl ?_
    refine g_iload X_77 hx 88 y1 (hb hby at_86) rfl rfl ?_
    obtain ⟨_, T_88, L_88, X_88, hS, hZ, hown, hW_88, ⟨s1, v1, rfl, g_88, M_88', K_88, Q_88, hI⟩, st_88⟩ := g_callSW X_77 hx hZ hS (Nat.le_refl _)  (own := "com/example/assayer/assayer/core/JsonStringEqualsPinLaw") (index := 17) (y := (⟨"com/example/assayer/assayer/core/JsonStringEqualsPinLaw", "make", "(ICC)Ljava/lang/String;"⟩ : MethodName)) (as' := [(.int jj), (.int y0), (.int y1)]) hown (hw _ (List.mem_of_getElem? (i := 1) rfl)) (hw _ (List.mem_of_getElem? (i := 2) rfl)) (hw _ (List.mem_of_getElem? (i := 3) rfl)) (hw _ (List.mem_of_getElem? (i := 4) rfl)) (by decide) rfl (fun vm₁ hw₁ => ev_warm hI hw₁) (rm_mak l Z a0 hw jj y0 y1 T_77.heap h0.size O_77 cs hcs SC SA SH SL hh0 hcw hy0 hy1) pd_mak rfl 0 (by decide) (by decide) (by decide) (by decide) (pc := 88) (Ls := #[.val (.int q1), .val (.int q2), .val (.int q3), .val (.int q4), .val (.int q5), .val (.int kk), .val (.int jj), .val (.int x0), .val (.int x1), .val (.int y0), .val (.int y1), .val (.ref s0), .unset, .unset, .unset, .unset, .unset, .unset, .unset]) (rest := []) (st := [(.int y1), (.int y0), (.int jj)]) (by rw [hml]; rfl) rfl (Nat.le_of_eq rfl) (hb hby at_88)
    refine st_88 ?_
    have F_88_0 : Exa Z T_88.heap s0 "java/lang/String" := Q_77.1.keep K_88
    have F_88_1 : Fld Z T_88.heap s0 "java/lang/String" "coder" "B" (.int (coOf (mkl kk x0 x1))) := Q_77.2.1.keep K_88 nin0
    have F_88_2 : Fld Z T_88.heap s0 "java/lang/String" "value" "[B" (.ref v0) := Q_77.2.2.1.keep K_88 nin0
    have F_88_3 : Arl Z T_88.heap v0 .byte ((bsOf (mkl kk x0 x1)).map Value.int) := Q_77.2.2.2.keep K_88 nin0
    have N_88 := Fr.app N_77 M_88'
    have Z_88 : h0.size ≤ T_88.heap.size := Nat.le_trans Z_77 K_88.1
    have O_88 := Old.keep O_77 K_88 all0
    have nb_88_s0 : s0 ≠ s1 := Nat.ne_of_lt (Nat.lt_of_lt_of_le Q_77.1.lt g_88)
    show Go p e below _ (T_88.setTop (mkF m 91 #[.val (.int q1), .val (.int q2), .val (.int q3), .val (.int q4), .val (.int q5), .val (.int kk), .val (.int jj), .val (.int x0), .val (.int x1), .val (.int y0), .val (.int y1), .val (.ref s0), .unset, .unset, .unset, .unset, .unset, .unset, .unset] [(.ref s1)]))
    refine g_astore X_88 hx 93 #[.val (.int q1), .val (.int q2), .val (.int q3), .val (.int q4), .val (.int q5), .val (.int kk), .val (.int jj), .val (.int x0), .val (.int x1), .val (.int y0), .val (.int y1), .val (.ref s0), .val (.ref s1), .unset, .unset, .unset, .unset, .unset, .unset] (hb hby at_91) rfl rfl rfl ?_
    obtain ⟨T_93, h_93, a_93, X_93, e_93, ga_93, E_93, A_93, D_93, st_93⟩ := g_newO X_88 hx hZ hown (hw _ (List.mem_of_getElem? (i := 27) rfl)) (hw _ (List.mem_of_getElem? (i := 28) rfl)) (hw _ (List.mem_of_getElem? (i := 29) rfl)) rfl 96 (hb hby at_93) rfl (by decide) (by decide)
    refine st_93 ?_
    have g_93 : h0.size ≤ a_93 := by rw [ga_93]; exact Z_88
    have gh_93 : h0.size ≤ a_93 := by rw [ga_93]; exact Z_88
    have n_93_s0 : s0 ≠ a_93 := by rw [ga_93]; exact Nat.ne_of_lt F_88_0.lt
    have n_93_s1 : s1 ≠ a_93 := by rw [ga_93]; exact Nat.ne_of_lt Q_88.1.lt
    have n_93_v0 : v0 ≠ a_93 := by rw [ga_93]; exact Nat.ne_of_lt F_88_3.lt
    have n_93_v1 : v1 ≠ a_93 := by rw [ga_93]; exact Nat.ne_of_lt Q_88.2.2.2.lt
    have F_93_0 : Exa Z h_93 s0 "java/lang/String" := F_88_0.ext E_93
    have F_93_1 : Fld Z h_93 s0 "java/lang/String" "coder" "B" (.int (coOf (mkl kk x0 x1))) := F_88_1.ext E_93
    have F_93_2 : Fld Z h_93 s0 "java/lang/String" "value" "[B" (.ref v0) := F_88_2.ext E_93
    have F_93_3 : Arl Z h_93 v0 .byte ((bsOf (mkl kk x0 x1)).map Value.int) := F_88_3.ext E_93
    have F_93_4 : Exa Z h_93 s1 "java/lang/String" := Q_88.1.ext E_93
    have F_93_5 : Fld Z h_93 s1 "java/lang/String" "coder" "B" (.int (coOf (mkl jj y0 y1))) := Q_88.2.1.ext E_93
    have F_93_6 : Fld Z h_93 s1 "java/lang/String" "value" "[B" (.ref v1) := Q_88.2.2.1.ext E_93
    have F_93_7 : Arl Z h_93 v1 .byte ((bsOf (mkl jj y0 y1)).map Value.int) := Q_88.2.2.2.ext E_93
    have Z_93 : h0.size ≤ h_93.size := Nat.le_trans Z_88 E_93.1
    have O_93 := Old.ext O_88 E_93
    have hk_93 := Nat.le_trans (Nat.le_refl _) E_93.1
    have G_93_value : Fld Z h_93 a_93 "com/example/assayer/assayer/core/JsonString" "value" "Ljava/lang/String;" .null := D_93 (Or.inr (hw _ (List.mem_of_getElem? (i := 46) rfl))) (ty := .object "java/lang/String") (by decide)
    refine g_dup X_93 hx 97 (hb hby at_96) rfl rfl ?_
    refine g_aload X_93 hx 99 (.ref s0) (hb hby at_97) rfl rfl rfl ?_
    have hI : LV Z T_88.vm := Or.inl (by obtain ⟨Ts, i1, i2, -⟩ := hI; exact ⟨Ts, i1, i2⟩)
    obtain ⟨_, T_99, L_99, X_99, hS, hZ, hown, hW_99, ⟨rfl, M_99, K_99, V_99, hI⟩, st_99⟩ := g_callIW X_93 hx hZ hS hk_93  (own := "com/example/assayer/assayer/core/JsonStringEqualsPinLaw") (index := 25) (y := (⟨"com/example/assayer/assayer/core/JsonString", "<init>", "(Ljava/lang/String;)V"⟩ : MethodName)) (a := a_93) (as' := [(.ref s0)]) rfl hown (hw _ (List.mem_of_getElem? (i := 30) rfl)) (hw _ (List.mem_of_getElem? (i := 31) rfl)) (hw _ (List.mem_of_getElem? (i := 29) rfl)) (hw _ (List.mem_of_getElem? (i := 32) rfl)) (by decide) e_93 (fun vm₁ hw₁ => lv_warm hI hw₁) (rm_jin l Z a0 hw a_93 s0 h_93 h0.size O_93 hh1 hcw g_93 A_93 G_93_value F_93_0) pd_jin rfl 1 (by decide) (by decide) (by decide) (by decide) (pc := 99) (Ls := #[.val (.int q1), .val (.int q2), .val (.int q3), .val (.int q4), .val (.int q5), .val (.int kk), .val (.int jj), .val (.int x0), .val (.int x1), .val (.int y0), .val (.int y1), .val (.ref s0), .val (.ref s1), .unset, .unset, .unset, .unset, .unset, .unset]) (rest := [(.ref a_93)]) (st := [(.ref s0), (.ref a_93), (.ref a_93)]) (by rw [hml]; rfl) rfl (Nat.le_of_eq rfl) (hb hby at_99)
    refine st_99 ?_
    have F_99_0 : Fld Z T_99.heap a_93 "com/example/assayer/assayer/core/JsonString" "value" "Ljava/lang/String;" (.ref s0) := V_99
    have F_99_1 : Exa Z T_99.heap s0 "java/lang/String" := F_93_0.keep K_99
    have F_99_2 : Fld Z T_99.heap s0 "java/lang/String" "coder" "B" (.int (coOf (mkl kk x0 x1))) := F_93_1.keep K_99 (ninS n_93_s0 nin0)
    have F_99_3 : Fld Z T_99.heap s0 "java/lang/String" "value" "[B" (.ref v0) := F_93_2.keep K_99 (ninS n_93_s0 nin0)
    have F_99_4 : Arl Z T_99.heap v0 .byte ((bsOf (mkl kk x0 x1)).map Value.int) := F_93_3.keep K_99 (ninS n_93_v0 nin0)
    have F_99_5 : Exa Z T_99.heap s1 "java/lang/String" := F_93_4.keep K_99
    have F_99_6 : Fld Z T_99.heap s1 "java/lang/String" "coder" "B" (.int (coOf (mkl jj y0 y1))) := F_93_5.keep K_99 (ninS n_93_s1 nin0)
    have F_99_7 : Fld Z T_99.heap s1 "java/lang/String" "value" "[B" (.ref v1) := F_93_6.keep K_99 (ninS n_93_s1 nin0)
    have F_99_8 : Arl Z T_99.heap v1 .byte ((bsOf (mkl jj y0 y1)).map Value.int) := F_93_7.keep K_99 (ninS n_93_v1 nin0)
    have F_99_9 : Exa Z T_99.heap a_93 "com/example/assayer/assayer/core/JsonString" := A_93.keep K_99
    have N_99 := Fr.app N_88 M_99
    have Z_99 : h0.size ≤ T_99.heap.size := Nat.le_trans Z_93 K_99.1
    have O_99 := Old.keep O_93 K_99 (allS g_93 all0)
    show Go p e below _ (T_99.setTop (mkF m 102 #[.val (.int q1), .val (.int q2), .val (.int q3), .val (.int q4), .val (.int q5), .val (.int kk), .val (.int jj), .val (.int x0), .val (.int x1), .val (.int y0), .val (.int y1), .val (.ref s0), .val (.ref s1), .unset, .unset, .unset, .unset, .unset, .unset] [(.ref a_93)]))
    refine g_astore X_99 hx 104 #[.val (.int q1), .val (.int q2), .val (.int q3), .val (.int q4), .val (.int q5), .val (.int kk), .val (.int jj), .val (.int x0), .val (.int x1), .val (.int y0), .val (.int y1), .val (.ref s0), .val (.ref s1), .val (.ref a_93), .unset, .unset, .unset, .unset, .unset] (hb hby at_102) rfl rfl rfl ?_
    obtain ⟨T_104, h_104, a_104, X_104, e_104, ga_104, E_104, A_104, D_104, st_104⟩ := g_newO X_99 hx hZ hown (hw _ (List.mem_of_getElem? (i := 27) rfl)) (hw _ (List.mem_of_getElem? (i := 28) rfl)) (hw _ (List.mem_of_getElem? (i := 29) rfl)) rfl 107 (hb hby at_104) rfl (by decide) (by decide)
    refine st_104 ?_
    have g_104 : h0.size ≤ a_104 := by rw [ga_104]; exact Z_99
    have gh_104 : h0.size ≤ a_104 := by rw [ga_104]; exact Z_99
    have n_104_a_93 : a_93 ≠ a_104 := by rw [ga_104]; exact Nat.ne_of_lt F_99_0.lt
    have n_104_s0 : s0 ≠ a_104 := by rw [ga_104]; exact Nat.ne_of_lt F_99_1.lt
    have n_104_s1 : s1 ≠ a_104 := by rw [ga_104]; exact Nat.ne_of_lt F_99_5.lt
    have n_104_v0 : v0 ≠ a_104 := by rw [ga_104]; exact Nat.ne_of_lt F_99_4.lt
    have n_104_v1 : v1 ≠ a_104 := by rw [ga_104]; exact Nat.ne_of_lt F_99_8.lt
    have F_104_0 : Fld Z h_104 a_93 "com/example/assayer/assayer/core/JsonString" "value" "Ljava/lang/String;" (.ref s0) := F_99_0.ext E_104
    have F_104_1 : Exa Z h_104 s0 "java/lang/String" := F_99_1.ext E_104
    have F_104_2 : Fld Z h_104 s0 "java/lang/String" "coder" "B" (.int (coOf (mkl kk x0 x1))) := F_99_2.ext E_104
    have F_104_3 : Fld Z h_104 s0 "java/lang/String" "value" "[B" (.ref v0) := F_99_3.ext E_104
    have F_104_4 : Arl Z h_104 v0 .byte ((bsOf (mkl kk x0 x1)).map Value.int) := F_99_4.ext E_104
    have F_104_5 : Exa Z h_104 s1 "java/lang/String" := F_99_5.ext E_104
    have F_104_6 : Fld Z h_104 s1 "java/lang/String" "coder" "B" (.int (coOf (mkl jj y0 y1))) := F_99_6.ext E_104
    have F_104_7 : Fld Z h_104 s1 "java/lang/String" "value" "[B" (.ref v1) := F_99_7.ext E_104
    have F_104_8 : Arl Z h_104 v1 .byte ((bsOf (mkl jj y0 y1)).map Value.int) := F_99_8.ext E_104
    have F_104_9 : Exa Z h_104 a_93 "com/example/assayer/assayer/core/JsonString" := F_99_9.ext E_104
    have Z_104 : h0.size ≤ h_104.size := Nat.le_trans Z_99 E_104.1
    have O_104 := Old.ext O_99 E_104
    have hk_104 := Nat.le_trans (Nat.le_refl _) E_104.1
    have G_104_value : Fld Z h_104 a_104 "com/example/assayer/assayer/core/JsonString" "value" "Ljava/lang/String;" .null := D_104 (Or.inr (hw _ (List.mem_of_getElem? (i := 46) rfl))) (ty := .object "java/lang/String") (by decide)
    refine g_dup X_104 hx 108 (hb hby at_107) rfl rfl ?_
    refine g_aload X_104 hx 110 (.ref s1) (hb hby at_108) rfl rfl rfl ?_
    obtain ⟨_, T_110, L_110, X_110, hS, hZ, hown, hW_110, ⟨rfl, M_110, K_110, V_110, hI⟩, st_110⟩ := g_callIW X_104 hx hZ hS hk_104  (own := "com/example/assayer/assayer/core/JsonStringEqualsPinLaw") (index := 25) (y := (⟨"com/example/assayer/assayer/core/JsonString", "<init>", "(Ljava/lang/String;)V"⟩ : MethodName)) (a := a_104) (as' := [(.ref s1)]) rfl hown (hw _ (List.mem_of_getElem? (i := 30) rfl)) (hw _ (List.mem_of_getElem? (i := 31) rfl)) (hw _ (List.mem_of_getElem? (i := 29) rfl)) (hw _ (List.mem_of_getElem? (i := 32) rfl)) (by decide) e_104 (fun vm₁ hw₁ => lv_warm hI hw₁) (rm_jin l Z a0 hw a_104 s1 h_104 h0.size O_104 hh1 hcw g_104 A_104 G_104_value F_104_5) pd_jin rfl 1 (by decide) (by decide) (by decide) (by decide) (pc := 110) (Ls := #[.val (.int q1), .val (.int q2), .val (.int q3), .val (.int q4), .val (.int q5), .val (.int kk), .val (.int jj), .val (.int x0), .val (.int x1), .val (.int y0), .val (.int y1), .val (.ref s0), .val (.ref s1), .val (.ref a_93), .unset, .unset, .unset, .unset, .unset]) (rest := [(.ref a_104)]) (st := [(.ref s1), (.ref a_104), (.ref a_104)]) (by rw [hml]; rfl) rfl (Nat.le_of_eq rfl) (hb hby at_110)
    refine st_110 ?_
    have F_110_0 : Fld Z T_110.heap a_104 "com/example/assayer/assayer/core/JsonString" "value" "Ljava/lang/String;" (.ref s1) := V_110
    have F_110_1 : Fld Z T_110.heap a_93 "com/example/assayer/assayer/core/JsonString" "value" "Ljava/lang/String;" (.ref s0) := F_104_0.keep K_110 (ninS n_104_a_93 nin0)
    have F_110_2 : Exa Z T_110.heap s0 "java/lang/String" := F_104_1.keep K_110
    have F_110_3 : Fld Z T_110.heap s0 "java/lang/String" "coder" "B" (.int (coOf (mkl kk x0 x1))) := F_104_2.keep K_110 (ninS n_104_s0 nin0)
    have F_110_4 : Fld Z T_110.heap s0 "java/lang/String" "value" "[B" (.ref v0) := F_104_3.keep K_110 (ninS n_104_s0 nin0)
    have F_110_5 : Arl Z T_110.heap v0 .byte ((bsOf (mkl kk x0 x1)).map Value.int) := F_104_4.keep K_110 (ninS n_104_v0 nin0)
    have F_110_6 : Exa Z T_110.heap s1 "java/lang/String" := F_104_5.keep K_110
    have F_110_7 : Fld Z T_110.heap s1 "java/lang/String" "coder" "B" (.int (coOf (mkl jj y0 y1))) := F_104_6.keep K_110 (ninS n_104_s1 nin0)
    have F_110_8 : Fld Z T_110.heap s1 "java/lang/String" "value" "[B" (.ref v1) := F_104_7.keep K_110 (ninS n_104_s1 nin0)
    have F_110_9 : Arl Z T_110.heap v1 .byte ((bsOf (mkl jj y0 y1)).map Value.int) := F_104_8.keep K_110 (ninS n_104_v1 nin0)
    have F_110_10 : Exa Z T_110.heap a_93 "com/example/assayer/assayer/core/JsonString" := F_104_9.keep K_110
    have F_110_11 : Exa Z T_110.heap a_104 "com/example/assayer/assayer/core/JsonString" := A_104.keep K_110
    have N_110 := Fr.app N_99 M_110
    have Z_110 : h0.size ≤ T_110.heap.size := Nat.le_trans Z_104 K_110.1
    have O_110 := Old.keep O_104 K_110 (allS g_104 all0)
    show Go p e below _ (T_110.setTop (mkF m 113 #[.val (.int q1), .val (.int q2), .val (.int q3), .val (.int q4), .val (.int q5), .val (.int kk), .val (.int jj), .val (.int x0), .val (.int x1), .val (.int y0), .val (.int y1), .val (.ref s0), .val (.ref s1), .val (.ref a_93), .unset, .unset, .unset, .unset, .unset] [(.ref a_104)]))
    refine g_astore X_110 hx 115 #[.val (.int q1), .val (.int q2), .val (.int q3), .val (.int q4), .val (.int q5), .val (.int kk), .val (.int jj), .val (.int x0), .val (.int x1), .val (.int y0), .val (.int y1), .val (.ref s0), .val (.ref s1), .val (.ref a_93), .val (.ref a_104), .unset, .unset, .unset, .unset] (hb hby at_113) rfl rfl rfl ?_
    refine g_iload X_110 hx 117 kk (hb hby at_115) rfl rfl ?_
    refine g_iload X_110 hx 119 jj (hb hby at_117) rfl rfl ?_
    by_cases c119 : kk = jj
    ·
      refine g_icmpN X_110 hx 122 (hb hby at_119) (XT.ii_ne_f c119) rfl ?_
      refine g_iload X_110 hx 124 kk (hb hby at_122) rfl rfl ?_
      refine g_iconst X_110 hx 125 (1 : Int32) (hb hby at_124) rfl rfl ?_
      by_cases c125 : kk < (1 : Int32)
      ·
        refine g_icmpY X_110 hx 135 (hb hby at_125) (XT.ii_lt_t c125) (by decide) (by decide) ?_
        refine g_iload X_110 hx 137 kk (hb hby at_135) rfl rfl ?_
        refine g_iconst X_110 hx 138 (2 : Int32) (hb hby at_137) rfl rfl ?_
        by_cases c138 : kk < (2 : Int32)
        ·
          refine g_icmpY X_110 hx 148 (hb hby at_138) (XT.ii_lt_t c138) (by decide) (by decide) ?_
          refine g_iconst X_110 hx 149 (1 : Int32) (hb hby at_148) rfl rfl ?_
          refine g_goto X_110 hx 153 (hb hby at_149) (by decide) (by decide) ?_
          have heq : mkl kk x0 x1 = mkl jj y0 y1 := (own_exp hkk hjj).mpr ⟨c119, fun z => absurd c125 z, fun z => absurd c138 z⟩
          refine g_istore X_110 hx 155 #[.val (.int q1), .val (.int q2), .val (.int q3), .val (.int q4), .val (.int q5), .val (.int kk), .val (.int jj), .val (.int x0), .val (.int x1), .val (.int y0), .val (.int y1), .val (.ref s0), .val (.ref s1), .val (.ref a_93), .val (.ref a_104), .val (.int (1 : Int32)), .unset, .unset, .unset] (hb hby at_153) rfl rfl ?_
          refine g_aload X_110 hx 157 (.ref a_93) (hb hby at_155) rfl rfl rfl ?_
          refine g_aload X_110 hx 159 (.ref a_104) (hb hby at_157) rfl rfl rfl ?_
          obtain ⟨_, T_159, L_159, X_159, ⟨rfl, rfl, e_159⟩, st_159⟩ := g_callV X_110 hx hZ  (C := "com/example/assayer/assayer/core/JsonString") (own := "com/example/assayer/assayer/core/JsonStringEqualsPinLaw") (index := 28) (y := (⟨"com/example/assayer/assayer/core/JsonString", "equals", "(Ljava/lang/Object;)Z"⟩ : MethodName)) (z := (⟨"com/example/assayer/assayer/core/JsonString", "equals", "(Ljava/lang/Object;)Z"⟩ : MethodName)) (a := a_93) (as' := [(.ref a_104)]) hown (hw _ (List.mem_of_getElem? (i := 47) rfl)) (hw _ (List.mem_of_getElem? (i := 48) rfl)) (hw _ (List.mem_of_getElem? (i := 50) rfl)) (hw _ (List.mem_of_getElem? (i := 50) rfl)) (hw _ (List.mem_of_getElem? (i := 49) rfl)) (hw _ (List.mem_of_getElem? (i := 29) rfl)) (hw _ (List.mem_of_getElem? (i := 51) rfl)) (by decide) rfl F_110_10 (rm_jeq l Z a0 hw a_93 a_104 T_110.heap h0.size O_110 cs hcs SC F_110_11 s0 s1 F_110_1 F_110_0 (fun z => nb_88_s0 (by injection z)) _ _ _ _ (bsOf (mkl kk x0 x1)) (bsOf (mkl jj y0 y1)) (bs_len (mkl_len _ _ _)) (bs_len (mkl_len _ _ _)) ⟨F_110_2, F_110_3, F_110_4, F_110_5⟩ ⟨F_110_6, F_110_7, F_110_8, F_110_9⟩) pd_jeq rfl 0 (by decide) (by decide) (by decide) (by decide) (pc := 159) (Ls := #[.val (.int q1), .val (.int q2), .val (.int q3), .val (.int q4), .val (.int q5), .val (.int kk), .val (.int jj), .val (.int x0), .val (.int x1), .val (.int y0), .val (.int y1), .val (.ref s0), .val (.ref s1), .val (.ref a_93), .val (.ref a_104), .val (.int (1 : Int32)), .unset, .unset, .unset]) (rest := []) (st := [(.ref a_104), (.ref a_93)]) (by rw [hml]; rfl) rfl (Nat.le_of_eq rfl) (hb hby at_159)
          refine st_159 ?_
          rw [List.append_nil] at X_159
          show Go p e below _ (T_159.setTop (mkF m 162 #[.val (.int q1), .val (.int q2), .val (.int q3), .val (.int q4), .val (.int q5), .val (.int kk), .val (.int jj), .val (.int x0), .val (.int x1), .val (.int y0), .val (.int y1), .val (.ref s0), .val (.ref s1), .val (.ref a_93), .val (.ref a_104), .val (.int (1 : Int32)), .unset, .unset, .unset] [(.int (b2i (coOf (mkl kk x0 x1) = coOf (mkl jj y0 y1) ∧ bsOf (mkl kk x0 x1) = bsOf (mkl jj y0 y1))))]))
          rw [b2i_t ((same_str (mkl_ch hx0 hx1) (mkl_ch hy0 hy1)).mpr heq)]
          refine g_iload X_159 hx 164 (1 : Int32) (hb hby at_162) rfl rfl ?_
          refine g_icmpN X_159 hx 167 (hb hby at_164) (XT.ii_ne_f (by decide)) rfl ?_
          refine g_aload X_159 hx 169 (.ref a_104) (hb hby at_167) rfl rfl rfl ?_
          refine g_aload X_159 hx 171 (.ref a_93) (hb hby at_169) rfl rfl rfl ?_
          obtain ⟨_, T_171, L_171, X_171, ⟨rfl, rfl, e_171⟩, st_171⟩ := g_callV X_159 hx hZ  (C := "com/example/assayer/assayer/core/JsonString") (own := "com/example/assayer/assayer/core/JsonStringEqualsPinLaw") (index := 28) (y := (⟨"com/example/assayer/assayer/core/JsonString", "equals", "(Ljava/lang/Object;)Z"⟩ : MethodName)) (z := (⟨"com/example/assayer/assayer/core/JsonString", "equals", "(Ljava/lang/Object;)Z"⟩ : MethodName)) (a := a_104) (as' := [(.ref a_93)]) hown (hw _ (List.mem_of_getElem? (i := 47) rfl)) (hw _ (List.mem_of_getElem? (i := 48) rfl)) (hw _ (List.mem_of_getElem? (i := 50) rfl)) (hw _ (List.mem_of_getElem? (i := 50) rfl)) (hw _ (List.mem_of_getElem? (i := 49) rfl)) (hw _ (List.mem_of_getElem? (i := 29) rfl)) (hw _ (List.mem_of_getElem? (i := 51) rfl)) (by decide) e_159 F_110_11 (rm_jeq l Z a0 hw a_104 a_93 T_110.heap h0.size O_110 cs hcs SC F_110_10 s1 s0 F_110_0 F_110_1 (fun z => (Ne.symm nb_88_s0) (by injection z)) _ _ _ _ (bsOf (mkl jj y0 y1)) (bsOf (mkl kk x0 x1)) (bs_len (mkl_len _ _ _)) (bs_len (mkl_len _ _ _)) ⟨F_110_6, F_110_7, F_110_8, F_110_9⟩ ⟨F_110_2, F_110_3, F_110_4, F_110_5⟩) pd_jeq rfl 0 (by decide) (by decide) (by decide) (by decide) (pc := 171) (Ls := #[.val (.int q1), .val (.int q2), .val (.int q3), .val (.int q4), .val (.int q5), .val (.int kk), .val (.int jj), .val (.int x0), .val (.int x1), .val (.int y0), .val (.int y1), .val (.ref s0), .val (.ref s1), .val (.ref a_93), .val (.ref a_104), .val (.int (1 : Int32)), .unset, .unset, .unset]) (rest := []) (st := [(.ref a_93), (.ref a_104)]) (by rw [hml]; rfl) rfl (Nat.le_of_eq rfl) (hb hby at_171)
          refine st_171 ?_
          rw [List.append_nil] at X_171
          show Go p e below _ (T_171.setTop (mkF m 174 #[.val (.int q1), .val (.int q2), .val (.int q3), .val (.int q4), .val (.int q5), .val (.int kk), .val (.int jj), .val (.int x0), .val (.int x1), .val (.int y0), .val (.int y1), .val (.ref s0), .val (.ref s1), .val (.ref a_93), .val (.ref a_104), .val (.int (1 : Int32)), .unset, .unset, .unset] [(.int (b2i (coOf (mkl jj y0 y1) = coOf (mkl kk x0 x1) ∧ bsOf (mkl jj y0 y1) = bsOf (mkl kk x0 x1))))]))
          rw [b2i_t ((same_str (mkl_ch hy0 hy1) (mkl_ch hx0 hx1)).mpr heq.symm)]
          refine g_iload X_171 hx 176 (1 : Int32) (hb hby at_174) rfl rfl ?_
          refine g_icmpN X_171 hx 179 (hb hby at_176) (XT.ii_ne_f (by decide)) rfl ?_
          refine g_iconst X_171 hx 180 (1 : Int32) (hb hby at_179) rfl rfl ?_
          refine g_goto X_171 hx 184 (hb hby at_180) (by decide) (by decide) ?_
          refine g_istore X_171 hx 186 #[.val (.int q1), .val (.int q2), .val (.int q3), .val (.int q4), .val (.int q5), .val (.int kk), .val (.int jj), .val (.int x0), .val (.int x1), .val (.int y0), .val (.int y1), .val (.ref s0), .val (.ref s1), .val (.ref a_93), .val (.ref a_104), .val (.int (1 : Int32)), .val (.int (1 : Int32)), .unset, .unset] (hb hby at_184) rfl rfl ?_
          refine g_iload X_171 hx 188 q5 (hb hby at_186) rfl rfl ?_
          refine g_iconst X_171 hx 189 (3 : Int32) (hb hby at_188) rfl rfl ?_
          refine g_iand X_171 hx 190 (hb hby at_189) rfl ?_
          refine g_istore X_171 hx 192 #[.val (.int q1), .val (.int q2), .val (.int q3), .val (.int q4), .val (.int q5), .val (.int kk), .val (.int jj), .val (.int x0), .val (.int x1), .val (.int y0), .val (.int y1), .val (.ref s0), .val (.ref s1), .val (.ref a_93), .val (.ref a_104), .val (.int (1 : Int32)), .val (.int (1 : Int32)), .val (.int (q5 &&& (3 : Int32))), .unset] (hb hby at_190) rfl rfl ?_
          refine g_iload X_171 hx 194 (q5 &&& (3 : Int32)) (hb hby at_192) rfl rfl ?_
          refine g_iconst X_171 hx 195 (1 : Int32) (hb hby at_194) rfl rfl ?_
          by_cases c195 : (q5 &&& (3 : Int32)) = (1 : Int32)
          ·
            refine g_icmpN X_171 hx 198 (hb hby at_195) (XT.ii_ne_f c195) rfl ?_
            refine g_iload X_171 hx 200 (1 : Int32) (hb hby at_198) rfl rfl ?_
            refine g_ifN X_171 hx 203 (hb hby at_200) (XT.i0_eq_f (by decide)) rfl ?_
            refine g_aload X_171 hx 205 (.ref a_93) (hb hby at_203) rfl rfl rfl ?_
            refine g_aconst_null X_171 hx 206 (hb hby at_205) rfl ?_
            obtain ⟨_, T_206, L_206, X_206, ⟨rfl, rfl, e_206⟩, st_206⟩ := g_callV X_171 hx hZ  (C := "com/example/assayer/assayer/core/JsonString") (own := "com/example/assayer/assayer/core/JsonStringEqualsPinLaw") (index := 28) (y := (⟨"com/example/assayer/assayer/core/JsonString", "equals", "(Ljava/lang/Object;)Z"⟩ : MethodName)) (z := (⟨"com/example/assayer/assayer/core/JsonString", "equals", "(Ljava/lang/Object;)Z"⟩ : MethodName)) (a := a_93) (as' := [.null]) hown (hw _ (List.mem_of_getElem? (i := 47) rfl)) (hw _ (List.mem_of_getElem? (i := 48) rfl)) (hw _ (List.mem_of_getElem? (i := 50) rfl)) (hw _ (List.mem_of_getElem? (i := 50) rfl)) (hw _ (List.mem_of_getElem? (i := 49) rfl)) (hw _ (List.mem_of_getElem? (i := 29) rfl)) (hw _ (List.mem_of_getElem? (i := 51) rfl)) (by decide) e_171 F_110_10 (rm_jen l Z a0 hw a_93 T_110.heap) pd_jen rfl 0 (by decide) (by decide) (by decide) (by decide) (pc := 206) (Ls := #[.val (.int q1), .val (.int q2), .val (.int q3), .val (.int q4), .val (.int q5), .val (.int kk), .val (.int jj), .val (.int x0), .val (.int x1), .val (.int y0), .val (.int y1), .val (.ref s0), .val (.ref s1), .val (.ref a_93), .val (.ref a_104), .val (.int (1 : Int32)), .val (.int (1 : Int32)), .val (.int (q5 &&& (3 : Int32))), .unset]) (rest := []) (st := [.null, (.ref a_93)]) (by rw [hml]; rfl) rfl (Nat.le_of_eq rfl) (hb hby at_206)
            refine st_206 ?_
            rw [List.append_nil] at X_206
            show Go p e below _ (T_206.setTop (mkF m 209 #[.val (.int q1), .val (.int q2), .val (.int q3), .val (.int q4), .val (.int q5), .val (.int kk), .val (.int jj), .val (.int x0), .val (.int x1), .val (.int y0), .val (.int y1), .val (.ref s0), .val (.ref s1), .val (.ref a_93), .val (.ref a_104), .val (.int (1 : Int32)), .val (.int (1 : Int32)), .val (.int (q5 &&& (3 : Int32))), .unset] [(.int (0 : Int32))]))
            refine g_ifN X_206 hx 212 (hb hby at_209) (XT.i0_ne_f (by decide)) rfl ?_
            refine g_iconst X_206 hx 213 (1 : Int32) (hb hby at_212) rfl rfl ?_
            refine g_goto X_206 hx 217 (hb hby at_213) (by decide) (by decide) ?_
            exact GoW.ret X_206 hS (by rw [e_206]; exact (Nat.le_refl _)) hx hlk Bd.returns (hb hby at_217) rfl (Or.inl ⟨rfl, by decide, _, rfl⟩) (by decide) (by decide) ⟨rfl, N_110⟩
          ·
            refine g_icmpY X_171 hx 218 (hb hby at_195) (XT.ii_ne_t c195) (by decide) (by decide) ?_
            refine g_iload X_171 hx 220 (q5 &&& (3 : Int32)) (hb hby at_218) rfl rfl ?_
            refine g_iconst X_171 hx 221 (2 : Int32) (hb hby at_220) rfl rfl ?_
            by_cases c221 : (q5 &&& (3 : Int32)) = (2 : Int32)
            ·
              refine g_icmpN X_171 hx 224 (hb hby at_221) (XT.ii_ne_f c221) rfl ?_
              refine g_iload X_171 hx 226 (1 : Int32) (hb hby at_224) rfl rfl ?_
              refine g_ifN X_171 hx 229 (hb hby at_226) (XT.i0_eq_f (by decide)) rfl ?_
              refine g_aload X_171 hx 231 (.ref a_93) (hb hby at_229) rfl rfl rfl ?_
              refine g_aload X_171 hx 233 (.ref a_93) (hb hby at_231) rfl rfl rfl ?_
              obtain ⟨_, T_233, L_233, X_233, ⟨rfl, rfl, e_233⟩, st_233⟩ := g_callV X_171 hx hZ  (C := "com/example/assayer/assayer/core/JsonString") (own := "com/example/assayer/assayer/core/JsonStringEqualsPinLaw") (index := 28) (y := (⟨"com/example/assayer/assayer/core/JsonString", "equals", "(Ljava/lang/Object;)Z"⟩ : MethodName)) (z := (⟨"com/example/assayer/assayer/core/JsonString", "equals", "(Ljava/lang/Object;)Z"⟩ : MethodName)) (a := a_93) (as' := [(.ref a_93)]) hown (hw _ (List.mem_of_getElem? (i := 47) rfl)) (hw _ (List.mem_of_getElem? (i := 48) rfl)) (hw _ (List.mem_of_getElem? (i := 50) rfl)) (hw _ (List.mem_of_getElem? (i := 50) rfl)) (hw _ (List.mem_of_getElem? (i := 49) rfl)) (hw _ (List.mem_of_getElem? (i := 29) rfl)) (hw _ (List.mem_of_getElem? (i := 51) rfl)) (by decide) e_171 F_110_10 (rm_jes l Z a0 hw a_93 T_110.heap F_110_10 s0 F_110_1 F_110_2) pd_jes rfl 0 (by decide) (by decide) (by decide) (by decide) (pc := 233) (Ls := #[.val (.int q1), .val (.int q2), .val (.int q3), .val (.int q4), .val (.int q5), .val (.int kk), .val (.int jj), .val (.int x0), .val (.int x1), .val (.int y0), .val (.int y1), .val (.ref s0), .val (.ref s1), .val (.ref a_93), .val (.ref a_104), .val (.int (1 : Int32)), .val (.int (1 : Int32)), .val (.int (q5 &&& (3 : Int32))), .unset]) (rest := []) (st := [(.ref a_93), (.ref a_93)]) (by rw [hml]; rfl) rfl (Nat.le_of_eq rfl) (hb hby at_233)
              refine st_233 ?_
              rw [List.append_nil] at X_233
              show Go p e below _ (T_233.setTop (mkF m 236 #[.val (.int q1), .val (.int q2), .val (.int q3), .val (.int q4), .val (.int q5), .val (.int kk), .val (.int jj), .val (.int x0), .val (.int x1), .val (.int y0), .val (.int y1), .val (.ref s0), .val (.ref s1), .val (.ref a_93), .val (.ref a_104), .val (.int (1 : Int32)), .val (.int (1 : Int32)), .val (.int (q5 &&& (3 : Int32))), .unset] [(.int (1 : Int32))]))
              refine g_ifN X_233 hx 239 (hb hby at_236) (XT.i0_eq_f (by decide)) rfl ?_
              refine g_iconst X_233 hx 240 (1 : Int32) (hb hby at_239) rfl rfl ?_
              refine g_goto X_233 hx 244 (hb hby at_240) (by decide) (by decide) ?_
              exact GoW.ret X_233 hS (by rw [e_233]; exact (Nat.le_refl _)) hx hlk Bd.returns (hb hby at_244) rfl (Or.inl ⟨rfl, by decide, _, rfl⟩) (by decide) (by decide) ⟨rfl, N_110⟩
            ·
              refine g_icmpY X_171 hx 245 (hb hby at_221) (XT.ii_ne_t c221) (by decide) (by decide) ?_
              refine g_iload X_171 hx 247 (q5 &&& (3 : Int32)) (hb hby at_245) rfl rfl ?_
              refine g_iconst X_171 hx 248 (3 : Int32) (hb hby at_247) rfl rfl ?_
              by_cases c248 : (q5 &&& (3 : Int32)) = (3 : Int32)
              ·
                refine g_icmpN X_171 hx 251 (hb hby at_248) (XT.ii_ne_f c248) rfl ?_
                refine g_aload X_171 hx 253 (.ref s0) (hb hby at_251) rfl rfl rfl ?_
                refine g_astore X_171 hx 255 #[.val (.int q1), .val (.int q2), .val (.int q3), .val (.int q4), .val (.int q5), .val (.int kk), .val (.int jj), .val (.int x0), .val (.int x1), .val (.int y0), .val (.int y1), .val (.ref s0), .val (.ref s1), .val (.ref a_93), .val (.ref a_104), .val (.int (1 : Int32)), .val (.int (1 : Int32)), .val (.int (q5 &&& (3 : Int32))), .val (.ref s0)] (hb hby at_253) rfl rfl rfl ?_
                refine g_iload X_171 hx 257 (1 : Int32) (hb hby at_255) rfl rfl ?_
                refine g_ifN X_171 hx 260 (hb hby at_257) (XT.i0_eq_f (by decide)) rfl ?_
                refine g_aload X_171 hx 262 (.ref a_93) (hb hby at_260) rfl rfl rfl ?_
                refine g_aload X_171 hx 264 (.ref s0) (hb hby at_262) rfl rfl rfl ?_
                obtain ⟨_, T_264, L_264, X_264, ⟨rfl, rfl, e_264⟩, st_264⟩ := g_callV X_171 hx hZ  (C := "com/example/assayer/assayer/core/JsonString") (own := "com/example/assayer/assayer/core/JsonStringEqualsPinLaw") (index := 28) (y := (⟨"com/example/assayer/assayer/core/JsonString", "equals", "(Ljava/lang/Object;)Z"⟩ : MethodName)) (z := (⟨"com/example/assayer/assayer/core/JsonString", "equals", "(Ljava/lang/Object;)Z"⟩ : MethodName)) (a := a_93) (as' := [(.ref s0)]) hown (hw _ (List.mem_of_getElem? (i := 47) rfl)) (hw _ (List.mem_of_getElem? (i := 48) rfl)) (hw _ (List.mem_of_getElem? (i := 50) rfl)) (hw _ (List.mem_of_getElem? (i := 50) rfl)) (hw _ (List.mem_of_getElem? (i := 49) rfl)) (hw _ (List.mem_of_getElem? (i := 29) rfl)) (hw _ (List.mem_of_getElem? (i := 51) rfl)) (by decide) e_171 F_110_10 (rm_jep l Z a0 hw a_93 s0 T_110.heap F_110_2) pd_jep rfl 0 (by decide) (by decide) (by decide) (by decide) (pc := 264) (Ls := #[.val (.int q1), .val (.int q2), .val (.int q3), .val (.int q4), .val (.int q5), .val (.int kk), .val (.int jj), .val (.int x0), .val (.int x1), .val (.int y0), .val (.int y1), .val (.ref s0), .val (.ref s1), .val (.ref a_93), .val (.ref a_104), .val (.int (1 : Int32)), .val (.int (1 : Int32)), .val (.int (q5 &&& (3 : Int32))), .val (.ref s0)]) (rest := []) (st := [(.ref s0), (.ref a_93)]) (by rw [hml]; rfl) rfl (Nat.le_of_eq rfl) (hb hby at_264)
                refine st_264 ?_
                rw [List.append_nil] at X_264
                show Go p e below _ (T_264.setTop (mkF m 267 #[.val (.int q1), .val (.int q2), .val (.int q3), .val (.int q4), .val (.int q5), .val (.int kk), .val (.int jj), .val (.int x0), .val (.int x1), .val (.int y0), .val (.int y1), .val (.ref s0), .val (.ref s1), .val (.ref a_93), .val (.ref a_104), .val (.int (1 : Int32)), .val (.int (1 : Int32)), .val (.int (q5 &&& (3 : Int32))), .val (.ref s0)] [(.int (0 : Int32))]))
                refine g_ifN X_264 hx 270 (hb hby at_267) (XT.i0_ne_f (by decide)) rfl ?_
                refine g_iconst X_264 hx 271 (1 : Int32) (hb hby at_270) rfl rfl ?_
                refine g_goto X_264 hx 275 (hb hby at_271) (by decide) (by decide) ?_
                exact GoW.ret X_264 hS (by rw [e_264]; exact (Nat.le_refl _)) hx hlk Bd.returns (hb hby at_275) rfl (Or.inl ⟨rfl, by decide, _, rfl⟩) (by decide) (by decide) ⟨rfl, N_110⟩
              ·
                refine g_icmpY X_171 hx 276 (hb hby at_248) (XT.ii_ne_t c248) (by decide) (by decide) ?_
                refine g_iload X_171 hx 278 (1 : Int32) (hb hby at_276) rfl rfl ?_
                exact GoW.ret X_171 hS (by rw [e_171]; exact (Nat.le_refl _)) hx hlk Bd.returns (hb hby at_278) rfl (Or.inl ⟨rfl, by decide, _, rfl⟩) (by decide) (by decide) ⟨rfl, N_110⟩
        ·
          refine g_icmpN X_110 hx 141 (hb hby at_138) (XT.ii_lt_f c138) rfl ?_
          refine g_iload X_110 hx 143 x1 (hb hby at_141) rfl rfl ?_
          refine g_iload X_110 hx 145 y1 (hb hby at_143) rfl rfl ?_
          by_cases c145 : x1 = y1
          ·
            refine g_icmpN X_110 hx 148 (hb hby at_145) (XT.ii_ne_f c145) rfl ?_
            refine g_iconst X_110 hx 149 (1 : Int32) (hb hby at_148) rfl rfl ?_
            refine g_goto X_110 hx 153 (hb hby at_149) (by decide) (by decide) ?_
            have heq : mkl kk x0 x1 = mkl jj y0 y1 := (own_exp hkk hjj).mpr ⟨c119, fun z => absurd c125 z, fun _ => c145⟩
            refine g_istore X_110 hx 155 #[.val (.int q1), .val (.int q2), .val (.int q3), .val (.int q4), .val (.int q5), .val (.int kk), .val (.int jj), .val (.int x0), .val (.int x1), .val (.int y0), .val (.int y1), .val (.ref s0), .val (.ref s1), .val (.ref a_93), .val (.ref a_104), .val (.int (1 : Int32)), .unset, .unset, .unset] (hb hby at_153) rfl rfl ?_
            refine g_aload X_110 hx 157 (.ref a_93) (hb hby at_155) rfl rfl rfl ?_
            refine g_aload X_110 hx 159 (.ref a_104) (hb hby at_157) rfl rfl rfl ?_
            obtain ⟨_, T_159x1, L_159x1, X_159x1, ⟨rfl, rfl, e_159x1⟩, st_159x1⟩ := g_callV X_110 hx hZ  (C := "com/example/assayer/assayer/core/JsonString") (own := "com/example/assayer/assayer/core/JsonStringEqualsPinLaw") (index := 28) (y := (⟨"com/example/assayer/assayer/core/JsonString", "equals", "(Ljava/lang/Object;)Z"⟩ : MethodName)) (z := (⟨"com/example/assayer/assayer/core/JsonString", "equals", "(Ljava/lang/Object;)Z"⟩ : MethodName)) (a := a_93) (as' := [(.ref a_104)]) hown (hw _ (List.mem_of_getElem? (i := 47) rfl)) (hw _ (List.mem_of_getElem? (i := 48) rfl)) (hw _ (List.mem_of_getElem? (i := 50) rfl)) (hw _ (List.mem_of_getElem? (i := 50) rfl)) (hw _ (List.mem_of_getElem? (i := 49) rfl)) (hw _ (List.mem_of_getElem? (i := 29) rfl)) (hw _ (List.mem_of_getElem? (i := 51) rfl)) (by decide) rfl F_110_10 (rm_jeq l Z a0 hw a_93 a_104 T_110.heap h0.size O_110 cs hcs SC F_110_11 s0 s1 F_110_1 F_110_0 (fun z => nb_88_s0 (by injection z)) _ _ _ _ (bsOf (mkl kk x0 x1)) (bsOf (mkl jj y0 y1)) (bs_len (mkl_len _ _ _)) (bs_len (mkl_len _ _ _)) ⟨F_110_2, F_110_3, F_110_4, F_110_5⟩ ⟨F_110_6, F_110_7, F_110_8, F_110_9⟩) pd_jeq rfl 0 (by decide) (by decide) (by decide) (by decide) (pc := 159) (Ls := #[.val (.int q1), .val (.int q2), .val (.int q3), .val (.int q4), .val (.int q5), .val (.int kk), .val (.int jj), .val (.int x0), .val (.int x1), .val (.int y0), .val (.int y1), .val (.ref s0), .val (.ref s1), .val (.ref a_93), .val (.ref a_104), .val (.int (1 : Int32)), .unset, .unset, .unset]) (rest := []) (st := [(.ref a_104), (.ref a_93)]) (by rw [hml]; rfl) rfl (Nat.le_of_eq rfl) (hb hby at_159)
            refine st_159x1 ?_
            rw [List.append_nil] at X_159x1
            show Go p e below _ (T_159x1.setTop (mkF m 162 #[.val (.int q1), .val (.int q2), .val (.int q3), .val (.int q4), .val (.int q5), .val (.int kk), .val (.int jj), .val (.int x0), .val (.int x1), .val (.int y0), .val (.int y1), .val (.ref s0), .val (.ref s1), .val (.ref a_93), .val (.ref a_104), .val (.int (1 : Int32)), .unset, .unset, .unset] [(.int (b2i (coOf (mkl kk x0 x1) = coOf (mkl jj y0 y1) ∧ bsOf (mkl kk x0 x1) = bsOf (mkl jj y0 y1))))]))
            rw [b2i_t ((same_str (mkl_ch hx0 hx1) (mkl_ch hy0 hy1)).mpr heq)]
            refine g_iload X_159x1 hx 164 (1 : Int32) (hb hby at_162) rfl rfl ?_
            refine g_icmpN X_159x1 hx 167 (hb hby at_164) (XT.ii_ne_f (by decide)) rfl ?_
            refine g_aload X_159x1 hx 169 (.ref a_104) (hb hby at_167) rfl rfl rfl ?_
            refine g_aload X_159x1 hx 171 (.ref a_93) (hb hby at_169) rfl rfl rfl ?_
            obtain ⟨_, T_171x1, L_171x1, X_171x1, ⟨rfl, rfl, e_171x1⟩, st_171x1⟩ := g_callV X_159x1 hx hZ  (C := "com/example/assayer/assayer/core/JsonString") (own := "com/example/assayer/assayer/core/JsonStringEqualsPinLaw") (index := 28) (y := (⟨"com/example/assayer/assayer/core/JsonString", "equals", "(Ljava/lang/Object;)Z"⟩ : MethodName)) (z := (⟨"com/example/assayer/assayer/core/JsonString", "equals", "(Ljava/lang/Object;)Z"⟩ : MethodName)) (a := a_104) (as' := [(.ref a_93)]) hown (hw _ (List.mem_of_getElem? (i := 47) rfl)) (hw _ (List.mem_of_getElem? (i := 48) rfl)) (hw _ (List.mem_of_getElem? (i := 50) rfl)) (hw _ (List.mem_of_getElem? (i := 50) rfl)) (hw _ (List.mem_of_getElem? (i := 49) rfl)) (hw _ (List.mem_of_getElem? (i := 29) rfl)) (hw _ (List.mem_of_getElem? (i := 51) rfl)) (by decide) e_159x1 F_110_11 (rm_jeq l Z a0 hw a_104 a_93 T_110.heap h0.size O_110 cs hcs SC F_110_10 s1 s0 F_110_0 F_110_1 (fun z => (Ne.symm nb_88_s0) (by injection z)) _ _ _ _ (bsOf (mkl jj y0 y1)) (bsOf (mkl kk x0 x1)) (bs_len (mkl_len _ _ _)) (bs_len (mkl_len _ _ _)) ⟨F_110_6, F_110_7, F_110_8, F_110_9⟩ ⟨F_110_2, F_110_3, F_110_4, F_110_5⟩) pd_jeq rfl 0 (by decide) (by decide) (by decide) (by decide) (pc := 171) (Ls := #[.val (.int q1), .val (.int q2), .val (.int q3), .val (.int q4), .val (.int q5), .val (.int kk), .val (.int jj), .val (.int x0), .val (.int x1), .val (.int y0), .val (.int y1), .val (.ref s0), .val (.ref s1), .val (.ref a_93), .val (.ref a_104), .val (.int (1 : Int32)), .unset, .unset, .unset]) (rest := []) (st := [(.ref a_93), (.ref a_104)]) (by rw [hml]; rfl) rfl (Nat.le_of_eq rfl) (hb hby at_171)
            refine st_171x1 ?_
            rw [List.append_nil] at X_171x1
            show Go p e below _ (T_171x1.setTop (mkF m 174 #[.val (.int q1), .val (.int q2), .val (.int q3), .val (.int q4), .val (.int q5), .val (.int kk), .val (.int jj), .val (.int x0), .val (.int x1), .val (.int y0), .val (.int y1), .val (.ref s0), .val (.ref s1), .val (.ref a_93), .val (.ref a_104), .val (.int (1 : Int32)), .unset, .unset, .unset] [(.int (b2i (coOf (mkl jj y0 y1) = coOf (mkl kk x0 x1) ∧ bsOf (mkl jj y0 y1) = bsOf (mkl kk x0 x1))))]))
            rw [b2i_t ((same_str (mkl_ch hy0 hy1) (mkl_ch hx0 hx1)).mpr heq.symm)]
            refine g_iload X_171x1 hx 176 (1 : Int32) (hb hby at_174) rfl rfl ?_
            refine g_icmpN X_171x1 hx 179 (hb hby at_176) (XT.ii_ne_f (by decide)) rfl ?_
            refine g_iconst X_171x1 hx 180 (1 : Int32) (hb hby at_179) rfl rfl ?_
            refine g_goto X_171x1 hx 184 (hb hby at_180) (by decide) (by decide) ?_
            refine g_istore X_171x1 hx 186 #[.val (.int q1), .val (.int q2), .val (.int q3), .val (.int q4), .val (.int q5), .val (.int kk), .val (.int jj), .val (.int x0), .val (.int x1), .val (.int y0), .val (.int y1), .val (.ref s0), .val (.ref s1), .val (.ref a_93), .val (.ref a_104), .val (.int (1 : Int32)), .val (.int (1 : Int32)), .unset, .unset] (hb hby at_184) rfl rfl ?_
            refine g_iload X_171x1 hx 188 q5 (hb hby at_186) rfl rfl ?_
            refine g_iconst X_171x1 hx 189 (3 : Int32) (hb hby at_188) rfl rfl ?_
            refine g_iand X_171x1 hx 190 (hb hby at_189) rfl ?_
            refine g_istore X_171x1 hx 192 #[.val (.int q1), .val (.int q2), .val (.int q3), .val (.int q4), .val (.int q5), .val (.int kk), .val (.int jj), .val (.int x0), .val (.int x1), .val (.int y0), .val (.int y1), .val (.ref s0), .val (.ref s1), .val (.ref a_93), .val (.ref a_104), .val (.int (1 : Int32)), .val (.int (1 : Int32)), .val (.int (q5 &&& (3 : Int32))), .unset] (hb hby at_190) rfl rfl ?_
            refine g_iload X_171x1 hx 194 (q5 &&& (3 : Int32)) (hb hby at_192) rfl rfl ?_
            refine g_iconst X_171x1 hx 195 (1 : Int32) (hb hby at_194) rfl rfl ?_
            by_cases c195 : (q5 &&& (3 : Int32)) = (1 : Int32)
            ·
              refine g_icmpN X_171x1 hx 198 (hb hby at_195) (XT.ii_ne_f c195) rfl ?_
              refine g_iload X_171x1 hx 200 (1 : Int32) (hb hby at_198) rfl rfl ?_
              refine g_ifN X_171x1 hx 203 (hb hby at_200) (XT.i0_eq_f (by decide)) rfl ?_
              refine g_aload X_171x1 hx 205 (.ref a_93) (hb hby at_203) rfl rfl rfl ?_
              refine g_aconst_null X_171x1 hx 206 (hb hby at_205) rfl ?_
              obtain ⟨_, T_206x1, L_206x1, X_206x1, ⟨rfl, rfl, e_206x1⟩, st_206x1⟩ := g_callV X_171x1 hx hZ  (C := "com/example/assayer/assayer/core/JsonString") (own := "com/example/assayer/assayer/core/JsonStringEqualsPinLaw") (index := 28) (y := (⟨"com/example/assayer/assayer/core/JsonString", "equals", "(Ljava/lang/Object;)Z"⟩ : MethodName)) (z := (⟨"com/example/assayer/assayer/core/JsonString", "equals", "(Ljava/lang/Object;)Z"⟩ : MethodName)) (a := a_93) (as' := [.null]) hown (hw _ (List.mem_of_getElem? (i := 47) rfl)) (hw _ (List.mem_of_getElem? (i := 48) rfl)) (hw _ (List.mem_of_getElem? (i := 50) rfl)) (hw _ (List.mem_of_getElem? (i := 50) rfl)) (hw _ (List.mem_of_getElem? (i := 49) rfl)) (hw _ (List.mem_of_getElem? (i := 29) rfl)) (hw _ (List.mem_of_getElem? (i := 51) rfl)) (by decide) e_171x1 F_110_10 (rm_jen l Z a0 hw a_93 T_110.heap) pd_jen rfl 0 (by decide) (by decide) (by decide) (by decide) (pc := 206) (Ls := #[.val (.int q1), .val (.int q2), .val (.int q3), .val (.int q4), .val (.int q5), .val (.int kk), .val (.int jj), .val (.int x0), .val (.int x1), .val (.int y0), .val (.int y1), .val (.ref s0), .val (.ref s1), .val (.ref a_93), .val (.ref a_104), .val (.int (1 : Int32)), .val (.int (1 : Int32)), .val (.int (q5 &&& (3 : Int32))), .unset]) (rest := []) (st := [.null, (.ref a_93)]) (by rw [hml]; rfl) rfl (Nat.le_of_eq rfl) (hb hby at_206)
              refine st_206x1 ?_
              rw [List.append_nil] at X_206x1
              show Go p e below _ (T_206x1.setTop (mkF m 209 #[.val (.int q1), .val (.int q2), .val (.int q3), .val (.int q4), .val (.int q5), .val (.int kk), .val (.int jj), .val (.int x0), .val (.int x1), .val (.int y0), .val (.int y1), .val (.ref s0), .val (.ref s1), .val (.ref a_93), .val (.ref a_104), .val (.int (1 : Int32)), .val (.int (1 : Int32)), .val (.int (q5 &&& (3 : Int32))), .unset] [(.int (0 : Int32))]))
              refine g_ifN X_206x1 hx 212 (hb hby at_209) (XT.i0_ne_f (by decide)) rfl ?_
              refine g_iconst X_206x1 hx 213 (1 : Int32) (hb hby at_212) rfl rfl ?_
              refine g_goto X_206x1 hx 217 (hb hby at_213) (by decide) (by decide) ?_
              exact GoW.ret X_206x1 hS (by rw [e_206x1]; exact (Nat.le_refl _)) hx hlk Bd.returns (hb hby at_217) rfl (Or.inl ⟨rfl, by decide, _, rfl⟩) (by decide) (by decide) ⟨rfl, N_110⟩
            ·
              refine g_icmpY X_171x1 hx 218 (hb hby at_195) (XT.ii_ne_t c195) (by decide) (by decide) ?_
              refine g_iload X_171x1 hx 220 (q5 &&& (3 : Int32)) (hb hby at_218) rfl rfl ?_
              refine g_iconst X_171x1 hx 221 (2 : Int32) (hb hby at_220) rfl rfl ?_
              by_cases c221 : (q5 &&& (3 : Int32)) = (2 : Int32)
              ·
                refine g_icmpN X_171x1 hx 224 (hb hby at_221) (XT.ii_ne_f c221) rfl ?_
                refine g_iload X_171x1 hx 226 (1 : Int32) (hb hby at_224) rfl rfl ?_
                refine g_ifN X_171x1 hx 229 (hb hby at_226) (XT.i0_eq_f (by decide)) rfl ?_
                refine g_aload X_171x1 hx 231 (.ref a_93) (hb hby at_229) rfl rfl rfl ?_
                refine g_aload X_171x1 hx 233 (.ref a_93) (hb hby at_231) rfl rfl rfl ?_
                obtain ⟨_, T_233x1, L_233x1, X_233x1, ⟨rfl, rfl, e_233x1⟩, st_233x1⟩ := g_callV X_171x1 hx hZ  (C := "com/example/assayer/assayer/core/JsonString") (own := "com/example/assayer/assayer/core/JsonStringEqualsPinLaw") (index := 28) (y := (⟨"com/example/assayer/assayer/core/JsonString", "equals", "(Ljava/lang/Object;)Z"⟩ : MethodName)) (z := (⟨"com/example/assayer/assayer/core/JsonString", "equals", "(Ljava/lang/Object;)Z"⟩ : MethodName)) (a := a_93) (as' := [(.ref a_93)]) hown (hw _ (List.mem_of_getElem? (i := 47) rfl)) (hw _ (List.mem_of_getElem? (i := 48) rfl)) (hw _ (List.mem_of_getElem? (i := 50) rfl)) (hw _ (List.mem_of_getElem? (i := 50) rfl)) (hw _ (List.mem_of_getElem? (i := 49) rfl)) (hw _ (List.mem_of_getElem? (i := 29) rfl)) (hw _ (List.mem_of_getElem? (i := 51) rfl)) (by decide) e_171x1 F_110_10 (rm_jes l Z a0 hw a_93 T_110.heap F_110_10 s0 F_110_1 F_110_2) pd_jes rfl 0 (by decide) (by decide) (by decide) (by decide) (pc := 233) (Ls := #[.val (.int q1), .val (.int q2), .val (.int q3), .val (.int q4), .val (.int q5), .val (.int kk), .val (.int jj), .val (.int x0), .val (.int x1), .val (.int y0), .val (.int y1), .val (.ref s0), .val (.ref s1), .val (.ref a_93), .val (.ref a_104), .val (.int (1 : Int32)), .val (.int (1 : Int32)), .val (.int (q5 &&& (3 : Int32))), .unset]) (rest := []) (st := [(.ref a_93), (.ref a_93)]) (by rw [hml]; rfl) rfl (Nat.le_of_eq rfl) (hb hby at_233)
                refine st_233x1 ?_
                rw [List.append_nil] at X_233x1
                show Go p e below _ (T_233x1.setTop (mkF m 236 #[.val (.int q1), .val (.int q2), .val (.int q3), .val (.int q4), .val (.int q5), .val (.int kk), .val (.int jj), .val (.int x0), .val (.int x1), .val (.int y0), .val (.int y1), .val (.ref s0), .val (.ref s1), .val (.ref a_93), .val (.ref a_104), .val (.int (1 : Int32)), .val (.int (1 : Int32)), .val (.int (q5 &&& (3 : Int32))), .unset] [(.int (1 : Int32))]))
                refine g_ifN X_233x1 hx 239 (hb hby at_236) (XT.i0_eq_f (by decide)) rfl ?_
                refine g_iconst X_233x1 hx 240 (1 : Int32) (hb hby at_239) rfl rfl ?_
                refine g_goto X_233x1 hx 244 (hb hby at_240) (by decide) (by decide) ?_
                exact GoW.ret X_233x1 hS (by rw [e_233x1]; exact (Nat.le_refl _)) hx hlk Bd.returns (hb hby at_244) rfl (Or.inl ⟨rfl, by decide, _, rfl⟩) (by decide) (by decide) ⟨rfl, N_110⟩
              ·
                refine g_icmpY X_171x1 hx 245 (hb hby at_221) (XT.ii_ne_t c221) (by decide) (by decide) ?_
                refine g_iload X_171x1 hx 247 (q5 &&& (3 : Int32)) (hb hby at_245) rfl rfl ?_
                refine g_iconst X_171x1 hx 248 (3 : Int32) (hb hby at_247) rfl rfl ?_
                by_cases c248 : (q5 &&& (3 : Int32)) = (3 : Int32)
                ·
                  refine g_icmpN X_171x1 hx 251 (hb hby at_248) (XT.ii_ne_f c248) rfl ?_
                  refine g_aload X_171x1 hx 253 (.ref s0) (hb hby at_251) rfl rfl rfl ?_
                  refine g_astore X_171x1 hx 255 #[.val (.int q1), .val (.int q2), .val (.int q3), .val (.int q4), .val (.int q5), .val (.int kk), .val (.int jj), .val (.int x0), .val (.int x1), .val (.int y0), .val (.int y1), .val (.ref s0), .val (.ref s1), .val (.ref a_93), .val (.ref a_104), .val (.int (1 : Int32)), .val (.int (1 : Int32)), .val (.int (q5 &&& (3 : Int32))), .val (.ref s0)] (hb hby at_253) rfl rfl rfl ?_
                  refine g_iload X_171x1 hx 257 (1 : Int32) (hb hby at_255) rfl rfl ?_
                  refine g_ifN X_171x1 hx 260 (hb hby at_257) (XT.i0_eq_f (by decide)) rfl ?_
                  refine g_aload X_171x1 hx 262 (.ref a_93) (hb hby at_260) rfl rfl rfl ?_
                  refine g_aload X_171x1 hx 264 (.ref s0) (hb hby at_262) rfl rfl rfl ?_
                  obtain ⟨_, T_264x1, L_264x1, X_264x1, ⟨rfl, rfl, e_264x1⟩, st_264x1⟩ := g_callV X_171x1 hx hZ  (C := "com/example/assayer/assayer/core/JsonString") (own := "com/example/assayer/assayer/core/JsonStringEqualsPinLaw") (index := 28) (y := (⟨"com/example/assayer/assayer/core/JsonString", "equals", "(Ljava/lang/Object;)Z"⟩ : MethodName)) (z := (⟨"com/example/assayer/assayer/core/JsonString", "equals", "(Ljava/lang/Object;)Z"⟩ : MethodName)) (a := a_93) (as' := [(.ref s0)]) hown (hw _ (List.mem_of_getElem? (i := 47) rfl)) (hw _ (List.mem_of_getElem? (i := 48) rfl)) (hw _ (List.mem_of_getElem? (i := 50) rfl)) (hw _ (List.mem_of_getElem? (i := 50) rfl)) (hw _ (List.mem_of_getElem? (i := 49) rfl)) (hw _ (List.mem_of_getElem? (i := 29) rfl)) (hw _ (List.mem_of_getElem? (i := 51) rfl)) (by decide) e_171x1 F_110_10 (rm_jep l Z a0 hw a_93 s0 T_110.heap F_110_2) pd_jep rfl 0 (by decide) (by decide) (by decide) (by decide) (pc := 264) (Ls := #[.val (.int q1), .val (.int q2), .val (.int q3), .val (.int q4), .val (.int q5), .val (.int kk), .val (.int jj), .val (.int x0), .val (.int x1), .val (.int y0), .val (.int y1), .val (.ref s0), .val (.ref s1), .val (.ref a_93), .val (.ref a_104), .val (.int (1 : Int32)), .val (.int (1 : Int32)), .val (.int (q5 &&& (3 : Int32))), .val (.ref s0)]) (rest := []) (st := [(.ref s0), (.ref a_93)]) (by rw [hml]; rfl) rfl (Nat.le_of_eq rfl) (hb hby at_264)
                  refine st_264x1 ?_
                  rw [List.append_nil] at X_264x1
                  show Go p e below _ (T_264x1.setTop (mkF m 267 #[.val (.int q1), .val (.int q2), .val (.int q3), .val (.int q4), .val (.int q5), .val (.int kk), .val (.int jj), .val (.int x0), .val (.int x1), .val (.int y0), .val (.int y1), .val (.ref s0), .val (.ref s1), .val (.ref a_93), .val (.ref a_104), .val (.int (1 : Int32)), .val (.int (1 : Int32)), .val (.int (q5 &&& (3 : Int32))), .val (.ref s0)] [(.int (0 : Int32))]))
                  refine g_ifN X_264x1 hx 270 (hb hby at_267) (XT.i0_ne_f (by decide)) rfl ?_
                  refine g_iconst X_264x1 hx 271 (1 : Int32) (hb hby at_270) rfl rfl ?_
                  refine g_goto X_264x1 hx 275 (hb hby at_271) (by decide) (by decide) ?_
                  exact GoW.ret X_264x1 hS (by rw [e_264x1]; exact (Nat.le_refl _)) hx hlk Bd.returns (hb hby at_275) rfl (Or.inl ⟨rfl, by decide, _, rfl⟩) (by decide) (by decide) ⟨rfl, N_110⟩
                ·
                  refine g_icmpY X_171x1 hx 276 (hb hby at_248) (XT.ii_ne_t c248) (by decide) (by decide) ?_
                  refine g_iload X_171x1 hx 278 (1 : Int32) (hb hby at_276) rfl rfl ?_
                  exact GoW.ret X_171x1 hS (by rw [e_171x1]; exact (Nat.le_refl _)) hx hlk Bd.returns (hb hby at_278) rfl (Or.inl ⟨rfl, by decide, _, rfl⟩) (by decide) (by decide) ⟨rfl, N_110⟩
          ·
            refine g_icmpY X_110 hx 152 (hb hby at_145) (XT.ii_ne_t c145) (by decide) (by decide) ?_
            refine g_iconst X_110 hx 153 (0 : Int32) (hb hby at_152) rfl rfl ?_
            have heq : ¬ mkl kk x0 x1 = mkl jj y0 y1 := fun q => by
              have z := (own_exp hkk hjj).mp q
              exact c145 (z.2.2 c138)
            refine g_istore X_110 hx 155 #[.val (.int q1), .val (.int q2), .val (.int q3), .val (.int q4), .val (.int q5), .val (.int kk), .val (.int jj), .val (.int x0), .val (.int x1), .val (.int y0), .val (.int y1), .val (.ref s0), .val (.ref s1), .val (.ref a_93), .val (.ref a_104), .val (.int (0 : Int32)), .unset, .unset, .unset] (hb hby at_153) rfl rfl ?_
            refine g_aload X_110 hx 157 (.ref a_93) (hb hby at_155) rfl rfl rfl ?_
            refine g_aload X_110 hx 159 (.ref a_104) (hb hby at_157) rfl rfl rfl ?_
            obtain ⟨_, T_159x2, L_159x2, X_159x2, ⟨rfl, rfl, e_159x2⟩, st_159x2⟩ := g_callV X_110 hx hZ  (C := "com/example/assayer/assayer/core/JsonString") (own := "com/example/assayer/assayer/core/JsonStringEqualsPinLaw") (index := 28) (y := (⟨"com/example/assayer/assayer/core/JsonString", "equals", "(Ljava/lang/Object;)Z"⟩ : MethodName)) (z := (⟨"com/example/assayer/assayer/core/JsonString", "equals", "(Ljava/lang/Object;)Z"⟩ : MethodName)) (a := a_93) (as' := [(.ref a_104)]) hown (hw _ (List.mem_of_getElem? (i := 47) rfl)) (hw _ (List.mem_of_getElem? (i := 48) rfl)) (hw _ (List.mem_of_getElem? (i := 50) rfl)) (hw _ (List.mem_of_getElem? (i := 50) rfl)) (hw _ (List.mem_of_getElem? (i := 49) rfl)) (hw _ (List.mem_of_getElem? (i := 29) rfl)) (hw _ (List.mem_of_getElem? (i := 51) rfl)) (by decide) rfl F_110_10 (rm_jeq l Z a0 hw a_93 a_104 T_110.heap h0.size O_110 cs hcs SC F_110_11 s0 s1 F_110_1 F_110_0 (fun z => nb_88_s0 (by injection z)) _ _ _ _ (bsOf (mkl kk x0 x1)) (bsOf (mkl jj y0 y1)) (bs_len (mkl_len _ _ _)) (bs_len (mkl_len _ _ _)) ⟨F_110_2, F_110_3, F_110_4, F_110_5⟩ ⟨F_110_6, F_110_7, F_110_8, F_110_9⟩) pd_jeq rfl 0 (by decide) (by decide) (by decide) (by decide) (pc := 159) (Ls := #[.val (.int q1), .val (.int q2), .val (.int q3), .val (.int q4), .val (.int q5), .val (.int kk), .val (.int jj), .val (.int x0), .val (.int x1), .val (.int y0), .val (.int y1), .val (.ref s0), .val (.ref s1), .val (.ref a_93), .val (.ref a_104), .val (.int (0 : Int32)), .unset, .unset, .unset]) (rest := []) (st := [(.ref a_104), (.ref a_93)]) (by rw [hml]; rfl) rfl (Nat.le_of_eq rfl) (hb hby at_159)
            refine st_159x2 ?_
            rw [List.append_nil] at X_159x2
            show Go p e below _ (T_159x2.setTop (mkF m 162 #[.val (.int q1), .val (.int q2), .val (.int q3), .val (.int q4), .val (.int q5), .val (.int kk), .val (.int jj), .val (.int x0), .val (.int x1), .val (.int y0), .val (.int y1), .val (.ref s0), .val (.ref s1), .val (.ref a_93), .val (.ref a_104), .val (.int (0 : Int32)), .unset, .unset, .unset] [(.int (b2i (coOf (mkl kk x0 x1) = coOf (mkl jj y0 y1) ∧ bsOf (mkl kk x0 x1) = bsOf (mkl jj y0 y1))))]))
            rw [b2i_f (fun z => heq ((same_str (mkl_ch hx0 hx1) (mkl_ch hy0 hy1)).mp z))]
            refine g_iload X_159x2 hx 164 (0 : Int32) (hb hby at_162) rfl rfl ?_
            refine g_icmpN X_159x2 hx 167 (hb hby at_164) (XT.ii_ne_f (by decide)) rfl ?_
            refine g_aload X_159x2 hx 169 (.ref a_104) (hb hby at_167) rfl rfl rfl ?_
            refine g_aload X_159x2 hx 171 (.ref a_93) (hb hby at_169) rfl rfl rfl ?_
            obtain ⟨_, T_171x2, L_171x2, X_171x2, ⟨rfl, rfl, e_171x2⟩, st_171x2⟩ := g_callV X_159x2 hx hZ  (C := "com/example/assayer/assayer/core/JsonString") (own := "com/example/assayer/assayer/core/JsonStringEqualsPinLaw") (index := 28) (y := (⟨"com/example/assayer/assayer/core/JsonString", "equals", "(Ljava/lang/Object;)Z"⟩ : MethodName)) (z := (⟨"com/example/assayer/assayer/core/JsonString", "equals", "(Ljava/lang/Object;)Z"⟩ : MethodName)) (a := a_104) (as' := [(.ref a_93)]) hown (hw _ (List.mem_of_getElem? (i := 47) rfl)) (hw _ (List.mem_of_getElem? (i := 48) rfl)) (hw _ (List.mem_of_getElem? (i := 50) rfl)) (hw _ (List.mem_of_getElem? (i := 50) rfl)) (hw _ (List.mem_of_getElem? (i := 49) rfl)) (hw _ (List.mem_of_getElem? (i := 29) rfl)) (hw _ (List.mem_of_getElem? (i := 51) rfl)) (by decide) e_159x2 F_110_11 (rm_jeq l Z a0 hw a_104 a_93 T_110.heap h0.size O_110 cs hcs SC F_110_10 s1 s0 F_110_0 F_110_1 (fun z => (Ne.symm nb_88_s0) (by injection z)) _ _ _ _ (bsOf (mkl jj y0 y1)) (bsOf (mkl kk x0 x1)) (bs_len (mkl_len _ _ _)) (bs_len (mkl_len _ _ _)) ⟨F_110_6, F_110_7, F_110_8, F_110_9⟩ ⟨F_110_2, F_110_3, F_110_4, F_110_5⟩) pd_jeq rfl 0 (by decide) (by decide) (by decide) (by decide) (pc := 171) (Ls := #[.val (.int q1), .val (.int q2), .val (.int q3), .val (.int q4), .val (.int q5), .val (.int kk), .val (.int jj), .val (.int x0), .val (.int x1), .val (.int y0), .val (.int y1), .val (.ref s0), .val (.ref s1), .val (.ref a_93), .val (.ref a_104), .val (.int (0 : Int32)), .unset, .unset, .unset]) (rest := []) (st := [(.ref a_93), (.ref a_104)]) (by rw [hml]; rfl) rfl (Nat.le_of_eq rfl) (hb hby at_171)
            refine st_171x2 ?_
            rw [List.append_nil] at X_171x2
            show Go p e below _ (T_171x2.setTop (mkF m 174 #[.val (.int q1), .val (.int q2), .val (.int q3), .val (.int q4), .val (.int q5), .val (.int kk), .val (.int jj), .val (.int x0), .val (.int x1), .val (.int y0), .val (.int y1), .val (.ref s0), .val (.ref s1), .val (.ref a_93), .val (.ref a_104), .val (.int (0 : Int32)), .unset, .unset, .unset] [(.int (b2i (coOf (mkl jj y0 y1) = coOf (mkl kk x0 x1) ∧ bsOf (mkl jj y0 y1) = bsOf (mkl kk x0 x1))))]))
            rw [b2i_f (fun z => heq (((same_str (mkl_ch hy0 hy1) (mkl_ch hx0 hx1)).mp z).symm))]
            refine g_iload X_171x2 hx 176 (0 : Int32) (hb hby at_174) rfl rfl ?_
            refine g_icmpN X_171x2 hx 179 (hb hby at_176) (XT.ii_ne_f (by decide)) rfl ?_
            refine g_iconst X_171x2 hx 180 (1 : Int32) (hb hby at_179) rfl rfl ?_
            refine g_goto X_171x2 hx 184 (hb hby at_180) (by decide) (by decide) ?_
            refine g_istore X_171x2 hx 186 #[.val (.int q1), .val (.int q2), .val (.int q3), .val (.int q4), .val (.int q5), .val (.int kk), .val (.int jj), .val (.int x0), .val (.int x1), .val (.int y0), .val (.int y1), .val (.ref s0), .val (.ref s1), .val (.ref a_93), .val (.ref a_104), .val (.int (0 : Int32)), .val (.int (1 : Int32)), .unset, .unset] (hb hby at_184) rfl rfl ?_
            refine g_iload X_171x2 hx 188 q5 (hb hby at_186) rfl rfl ?_
            refine g_iconst X_171x2 hx 189 (3 : Int32) (hb hby at_188) rfl rfl ?_
            refine g_iand X_171x2 hx 190 (hb hby at_189) rfl ?_
            refine g_istore X_171x2 hx 192 #[.val (.int q1), .val (.int q2), .val (.int q3), .val (.int q4), .val (.int q5), .val (.int kk), .val (.int jj), .val (.int x0), .val (.int x1), .val (.int y0), .val (.int y1), .val (.ref s0), .val (.ref s1), .val (.ref a_93), .val (.ref a_104), .val (.int (0 : Int32)), .val (.int (1 : Int32)), .val (.int (q5 &&& (3 : Int32))), .unset] (hb hby at_190) rfl rfl ?_
            refine g_iload X_171x2 hx 194 (q5 &&& (3 : Int32)) (hb hby at_192) rfl rfl ?_
            refine g_iconst X_171x2 hx 195 (1 : Int32) (hb hby at_194) rfl rfl ?_
            by_cases c195 : (q5 &&& (3 : Int32)) = (1 : Int32)
            ·
              refine g_icmpN X_171x2 hx 198 (hb hby at_195) (XT.ii_ne_f c195) rfl ?_
              refine g_iload X_171x2 hx 200 (1 : Int32) (hb hby at_198) rfl rfl ?_
              refine g_ifN X_171x2 hx 203 (hb hby at_200) (XT.i0_eq_f (by decide)) rfl ?_
              refine g_aload X_171x2 hx 205 (.ref a_93) (hb hby at_203) rfl rfl rfl ?_
              refine g_aconst_null X_171x2 hx 206 (hb hby at_205) rfl ?_
              obtain ⟨_, T_206x2, L_206x2, X_206x2, ⟨rfl, rfl, e_206x2⟩, st_206x2⟩ := g_callV X_171x2 hx hZ  (C := "com/example/assayer/assayer/core/JsonString") (own := "com/example/assayer/assayer/core/JsonStringEqualsPinLaw") (index := 28) (y := (⟨"com/example/assayer/assayer/core/JsonString", "equals", "(Ljava/lang/Object;)Z"⟩ : MethodName)) (z := (⟨"com/example/assayer/assayer/core/JsonString", "equals", "(Ljava/lang/Object;)Z"⟩ : MethodName)) (a := a_93) (as' := [.null]) hown (hw _ (List.mem_of_getElem? (i := 47) rfl)) (hw _ (List.mem_of_getElem? (i := 48) rfl)) (hw _ (List.mem_of_getElem? (i := 50) rfl)) (hw _ (List.mem_of_getElem? (i := 50) rfl)) (hw _ (List.mem_of_getElem? (i := 49) rfl)) (hw _ (List.mem_of_getElem? (i := 29) rfl)) (hw _ (List.mem_of_getElem? (i := 51) rfl)) (by decide) e_171x2 F_110_10 (rm_jen l Z a0 hw a_93 T_110.heap) pd_jen rfl 0 (by decide) (by decide) (by decide) (by decide) (pc := 206) (Ls := #[.val (.int q1), .val (.int q2), .val (.int q3), .val (.int q4), .val (.int q5), .val (.int kk), .val (.int jj), .val (.int x0), .val (.int x1), .val (.int y0), .val (.int y1), .val (.ref s0), .val (.ref s1), .val (.ref a_93), .val (.ref a_104), .val (.int (0 : Int32)), .val (.int (1 : Int32)), .val (.int (q5 &&& (3 : Int32))), .unset]) (rest := []) (st := [.null, (.ref a_93)]) (by rw [hml]; rfl) rfl (Nat.le_of_eq rfl) (hb hby at_206)
              refine st_206x2 ?_
              rw [List.append_nil] at X_206x2
              show Go p e below _ (T_206x2.setTop (mkF m 209 #[.val (.int q1), .val (.int q2), .val (.int q3), .val (.int q4), .val (.int q5), .val (.int kk), .val (.int jj), .val (.int x0), .val (.int x1), .val (.int y0), .val (.int y1), .val (.ref s0), .val (.ref s1), .val (.ref a_93), .val (.ref a_104), .val (.int (0 : Int32)), .val (.int (1 : Int32)), .val (.int (q5 &&& (3 : Int32))), .unset] [(.int (0 : Int32))]))
              refine g_ifN X_206x2 hx 212 (hb hby at_209) (XT.i0_ne_f (by decide)) rfl ?_
              refine g_iconst X_206x2 hx 213 (1 : Int32) (hb hby at_212) rfl rfl ?_
              refine g_goto X_206x2 hx 217 (hb hby at_213) (by decide) (by decide) ?_
              exact GoW.ret X_206x2 hS (by rw [e_206x2]; exact (Nat.le_refl _)) hx hlk Bd.returns (hb hby at_217) rfl (Or.inl ⟨rfl, by decide, _, rfl⟩) (by decide) (by decide) ⟨rfl, N_110⟩
            ·
              refine g_icmpY X_171x2 hx 218 (hb hby at_195) (XT.ii_ne_t c195) (by decide) (by decide) ?_
              refine g_iload X_171x2 hx 220 (q5 &&& (3 : Int32)) (hb hby at_218) rfl rfl ?_
              refine g_iconst X_171x2 hx 221 (2 : Int32) (hb hby at_220) rfl rfl ?_
              by_cases c221 : (q5 &&& (3 : Int32)) = (2 : Int32)
              ·
                refine g_icmpN X_171x2 hx 224 (hb hby at_221) (XT.ii_ne_f c221) rfl ?_
                refine g_iload X_171x2 hx 226 (1 : Int32) (hb hby at_224) rfl rfl ?_
                refine g_ifN X_171x2 hx 229 (hb hby at_226) (XT.i0_eq_f (by decide)) rfl ?_
                refine g_aload X_171x2 hx 231 (.ref a_93) (hb hby at_229) rfl rfl rfl ?_
                refine g_aload X_171x2 hx 233 (.ref a_93) (hb hby at_231) rfl rfl rfl ?_
                obtain ⟨_, T_233x2, L_233x2, X_233x2, ⟨rfl, rfl, e_233x2⟩, st_233x2⟩ := g_callV X_171x2 hx hZ  (C := "com/example/assayer/assayer/core/JsonString") (own := "com/example/assayer/assayer/core/JsonStringEqualsPinLaw") (index := 28) (y := (⟨"com/example/assayer/assayer/core/JsonString", "equals", "(Ljava/lang/Object;)Z"⟩ : MethodName)) (z := (⟨"com/example/assayer/assayer/core/JsonString", "equals", "(Ljava/lang/Object;)Z"⟩ : MethodName)) (a := a_93) (as' := [(.ref a_93)]) hown (hw _ (List.mem_of_getElem? (i := 47) rfl)) (hw _ (List.mem_of_getElem? (i := 48) rfl)) (hw _ (List.mem_of_getElem? (i := 50) rfl)) (hw _ (List.mem_of_getElem? (i := 50) rfl)) (hw _ (List.mem_of_getElem? (i := 49) rfl)) (hw _ (List.mem_of_getElem? (i := 29) rfl)) (hw _ (List.mem_of_getElem? (i := 51) rfl)) (by decide) e_171x2 F_110_10 (rm_jes l Z a0 hw a_93 T_110.heap F_110_10 s0 F_110_1 F_110_2) pd_jes rfl 0 (by decide) (by decide) (by decide) (by decide) (pc := 233) (Ls := #[.val (.int q1), .val (.int q2), .val (.int q3), .val (.int q4), .val (.int q5), .val (.int kk), .val (.int jj), .val (.int x0), .val (.int x1), .val (.int y0), .val (.int y1), .val (.ref s0), .val (.ref s1), .val (.ref a_93), .val (.ref a_104), .val (.int (0 : Int32)), .val (.int (1 : Int32)), .val (.int (q5 &&& (3 : Int32))), .unset]) (rest := []) (st := [(.ref a_93), (.ref a_93)]) (by rw [hml]; rfl) rfl (Nat.le_of_eq rfl) (hb hby at_233)
                refine st_233x2 ?_
                rw [List.append_nil] at X_233x2
                show Go p e below _ (T_233x2.setTop (mkF m 236 #[.val (.int q1), .val (.int q2), .val (.int q3), .val (.int q4), .val (.int q5), .val (.int kk), .val (.int jj), .val (.int x0), .val (.int x1), .val (.int y0), .val (.int y1), .val (.ref s0), .val (.ref s1), .val (.ref a_93), .val (.ref a_104), .val (.int (0 : Int32)), .val (.int (1 : Int32)), .val (.int (q5 &&& (3 : Int32))), .unset] [(.int (1 : Int32))]))
                refine g_ifN X_233x2 hx 239 (hb hby at_236) (XT.i0_eq_f (by decide)) rfl ?_
                refine g_iconst X_233x2 hx 240 (1 : Int32) (hb hby at_239) rfl rfl ?_
                refine g_goto X_233x2 hx 244 (hb hby at_240) (by decide) (by decide) ?_
                exact GoW.ret X_233x2 hS (by rw [e_233x2]; exact (Nat.le_refl _)) hx hlk Bd.returns (hb hby at_244) rfl (Or.inl ⟨rfl, by decide, _, rfl⟩) (by decide) (by decide) ⟨rfl, N_110⟩
              ·
                refine g_icmpY X_171x2 hx 245 (hb hby at_221) (XT.ii_ne_t c221) (by decide) (by decide) ?_
                refine g_iload X_171x2 hx 247 (q5 &&& (3 : Int32)) (hb hby at_245) rfl rfl ?_
                refine g_iconst X_171x2 hx 248 (3 : Int32) (hb hby at_247) rfl rfl ?_
                by_cases c248 : (q5 &&& (3 : Int32)) = (3 : Int32)
                ·
                  refine g_icmpN X_171x2 hx 251 (hb hby at_248) (XT.ii_ne_f c248) rfl ?_
                  refine g_aload X_171x2 hx 253 (.ref s0) (hb hby at_251) rfl rfl rfl ?_
                  refine g_astore X_171x2 hx 255 #[.val (.int q1), .val (.int q2), .val (.int q3), .val (.int q4), .val (.int q5), .val (.int kk), .val (.int jj), .val (.int x0), .val (.int x1), .val (.int y0), .val (.int y1), .val (.ref s0), .val (.ref s1), .val (.ref a_93), .val (.ref a_104), .val (.int (0 : Int32)), .val (.int (1 : Int32)), .val (.int (q5 &&& (3 : Int32))), .val (.ref s0)] (hb hby at_253) rfl rfl rfl ?_
                  refine g_iload X_171x2 hx 257 (1 : Int32) (hb hby at_255) rfl rfl ?_
                  refine g_ifN X_171x2 hx 260 (hb hby at_257) (XT.i0_eq_f (by decide)) rfl ?_
                  refine g_aload X_171x2 hx 262 (.ref a_93) (hb hby at_260) rfl rfl rfl ?_
                  refine g_aload X_171x2 hx 264 (.ref s0) (hb hby at_262) rfl rfl rfl ?_
                  obtain ⟨_, T_264x2, L_264x2, X_264x2, ⟨rfl, rfl, e_264x2⟩, st_264x2⟩ := g_callV X_171x2 hx hZ  (C := "com/example/assayer/assayer/core/JsonString") (own := "com/example/assayer/assayer/core/JsonStringEqualsPinLaw") (index := 28) (y := (⟨"com/example/assayer/assayer/core/JsonString", "equals", "(Ljava/lang/Object;)Z"⟩ : MethodName)) (z := (⟨"com/example/assayer/assayer/core/JsonString", "equals", "(Ljava/lang/Object;)Z"⟩ : MethodName)) (a := a_93) (as' := [(.ref s0)]) hown (hw _ (List.mem_of_getElem? (i := 47) rfl)) (hw _ (List.mem_of_getElem? (i := 48) rfl)) (hw _ (List.mem_of_getElem? (i := 50) rfl)) (hw _ (List.mem_of_getElem? (i := 50) rfl)) (hw _ (List.mem_of_getElem? (i := 49) rfl)) (hw _ (List.mem_of_getElem? (i := 29) rfl)) (hw _ (List.mem_of_getElem? (i := 51) rfl)) (by decide) e_171x2 F_110_10 (rm_jep l Z a0 hw a_93 s0 T_110.heap F_110_2) pd_jep rfl 0 (by decide) (by decide) (by decide) (by decide) (pc := 264) (Ls := #[.val (.int q1), .val (.int q2), .val (.int q3), .val (.int q4), .val (.int q5), .val (.int kk), .val (.int jj), .val (.int x0), .val (.int x1), .val (.int y0), .val (.int y1), .val (.ref s0), .val (.ref s1), .val (.ref a_93), .val (.ref a_104), .val (.int (0 : Int32)), .val (.int (1 : Int32)), .val (.int (q5 &&& (3 : Int32))), .val (.ref s0)]) (rest := []) (st := [(.ref s0), (.ref a_93)]) (by rw [hml]; rfl) rfl (Nat.le_of_eq rfl) (hb hby at_264)
                  refine st_264x2 ?_
                  rw [List.append_nil] at X_264x2
                  show Go p e below _ (T_264x2.setTop (mkF m 267 #[.val (.int q1), .val (.int q2), .val (.int q3), .val (.int q4), .val (.int q5), .val (.int kk), .val (.int jj), .val (.int x0), .val (.int x1), .val (.int y0), .val (.int y1), .val (.ref s0), .val (.ref s1), .val (.ref a_93), .val (.ref a_104), .val (.int (0 : Int32)), .val (.int (1 : Int32)), .val (.int (q5 &&& (3 : Int32))), .val (.ref s0)] [(.int (0 : Int32))]))
                  refine g_ifN X_264x2 hx 270 (hb hby at_267) (XT.i0_ne_f (by decide)) rfl ?_
                  refine g_iconst X_264x2 hx 271 (1 : Int32) (hb hby at_270) rfl rfl ?_
                  refine g_goto X_264x2 hx 275 (hb hby at_271) (by decide) (by decide) ?_
                  exact GoW.ret X_264x2 hS (by rw [e_264x2]; exact (Nat.le_refl _)) hx hlk Bd.returns (hb hby at_275) rfl (Or.inl ⟨rfl, by decide, _, rfl⟩) (by decide) (by decide) ⟨rfl, N_110⟩
                ·
                  refine g_icmpY X_171x2 hx 276 (hb hby at_248) (XT.ii_ne_t c248) (by decide) (by decide) ?_
                  refine g_iload X_171x2 hx 278 (1 : Int32) (hb hby at_276) rfl rfl ?_
                  exact GoW.ret X_171x2 hS (by rw [e_171x2]; exact (Nat.le_refl _)) hx hlk Bd.returns (hb hby at_278) rfl (Or.inl ⟨rfl, by decide, _, rfl⟩) (by decide) (by decide) ⟨rfl, N_110⟩
      ·
        refine g_icmpN X_110 hx 128 (hb hby at_125) (XT.ii_lt_f c125) rfl ?_
        refine g_iload X_110 hx 130 x0 (hb hby at_128) rfl rfl ?_
        refine g_iload X_110 hx 132 y0 (hb hby at_130) rfl rfl ?_
        by_cases c132 : x0 = y0
        ·
          refine g_icmpN X_110 hx 135 (hb hby at_132) (XT.ii_ne_f c132) rfl ?_
          refine g_iload X_110 hx 137 kk (hb hby at_135) rfl rfl ?_
          refine g_iconst X_110 hx 138 (2 : Int32) (hb hby at_137) rfl rfl ?_
          by_cases c138 : kk < (2 : Int32)
          ·
            refine g_icmpY X_110 hx 148 (hb hby at_138) (XT.ii_lt_t c138) (by decide) (by decide) ?_
            refine g_iconst X_110 hx 149 (1 : Int32) (hb hby at_148) rfl rfl ?_
            refine g_goto X_110 hx 153 (hb hby at_149) (by decide) (by decide) ?_
            have heq : mkl kk x0 x1 = mkl jj y0 y1 := (own_exp hkk hjj).mpr ⟨c119, fun _ => c132, fun z => absurd c138 z⟩
            refine g_istore X_110 hx 155 #[.val (.int q1), .val (.int q2), .val (.int q3), .val (.int q4), .val (.int q5), .val (.int kk), .val (.int jj), .val (.int x0), .val (.int x1), .val (.int y0), .val (.int y1), .val (.ref s0), .val (.ref s1), .val (.ref a_93), .val (.ref a_104), .val (.int (1 : Int32)), .unset, .unset, .unset] (hb hby at_153) rfl rfl ?_
            refine g_aload X_110 hx 157 (.ref a_93) (hb hby at_155) rfl rfl rfl ?_
            refine g_aload X_110 hx 159 (.ref a_104) (hb hby at_157) rfl rfl rfl ?_
            obtain ⟨_, T_159x3, L_159x3, X_159x3, ⟨rfl, rfl, e_159x3⟩, st_159x3⟩ := g_callV X_110 hx hZ  (C := "com/example/assayer/assayer/core/JsonString") (own := "com/example/assayer/assayer/core/JsonStringEqualsPinLaw") (index := 28) (y := (⟨"com/example/assayer/assayer/core/JsonString", "equals", "(Ljava/lang/Object;)Z"⟩ : MethodName)) (z := (⟨"com/example/assayer/assayer/core/JsonString", "equals", "(Ljava/lang/Object;)Z"⟩ : MethodName)) (a := a_93) (as' := [(.ref a_104)]) hown (hw _ (List.mem_of_getElem? (i := 47) rfl)) (hw _ (List.mem_of_getElem? (i := 48) rfl)) (hw _ (List.mem_of_getElem? (i := 50) rfl)) (hw _ (List.mem_of_getElem? (i := 50) rfl)) (hw _ (List.mem_of_getElem? (i := 49) rfl)) (hw _ (List.mem_of_getElem? (i := 29) rfl)) (hw _ (List.mem_of_getElem? (i := 51) rfl)) (by decide) rfl F_110_10 (rm_jeq l Z a0 hw a_93 a_104 T_110.heap h0.size O_110 cs hcs SC F_110_11 s0 s1 F_110_1 F_110_0 (fun z => nb_88_s0 (by injection z)) _ _ _ _ (bsOf (mkl kk x0 x1)) (bsOf (mkl jj y0 y1)) (bs_len (mkl_len _ _ _)) (bs_len (mkl_len _ _ _)) ⟨F_110_2, F_110_3, F_110_4, F_110_5⟩ ⟨F_110_6, F_110_7, F_110_8, F_110_9⟩) pd_jeq rfl 0 (by decide) (by decide) (by decide) (by decide) (pc := 159) (Ls := #[.val (.int q1), .val (.int q2), .val (.int q3), .val (.int q4), .val (.int q5), .val (.int kk), .val (.int jj), .val (.int x0), .val (.int x1), .val (.int y0), .val (.int y1), .val (.ref s0), .val (.ref s1), .val (.ref a_93), .val (.ref a_104), .val (.int (1 : Int32)), .unset, .unset, .unset]) (rest := []) (st := [(.ref a_104), (.ref a_93)]) (by rw [hml]; rfl) rfl (Nat.le_of_eq rfl) (hb hby at_159)
            refine st_159x3 ?_
            rw [List.append_nil] at X_159x3
            show Go p e below _ (T_159x3.setTop (mkF m 162 #[.val (.int q1), .val (.int q2), .val (.int q3), .val (.int q4), .val (.int q5), .val (.int kk), .val (.int jj), .val (.int x0), .val (.int x1), .val (.int y0), .val (.int y1), .val (.ref s0), .val (.ref s1), .val (.ref a_93), .val (.ref a_104), .val (.int (1 : Int32)), .unset, .unset, .unset] [(.int (b2i (coOf (mkl kk x0 x1) = coOf (mkl jj y0 y1) ∧ bsOf (mkl kk x0 x1) = bsOf (mkl jj y0 y1))))]))
            rw [b2i_t ((same_str (mkl_ch hx0 hx1) (mkl_ch hy0 hy1)).mpr heq)]
            refine g_iload X_159x3 hx 164 (1 : Int32) (hb hby at_162) rfl rfl ?_
            refine g_icmpN X_159x3 hx 167 (hb hby at_164) (XT.ii_ne_f (by decide)) rfl ?_
            refine g_aload X_159x3 hx 169 (.ref a_104) (hb hby at_167) rfl rfl rfl ?_
            refine g_aload X_159x3 hx 171 (.ref a_93) (hb hby at_169) rfl rfl rfl ?_
            obtain ⟨_, T_171x3, L_171x3, X_171x3, ⟨rfl, rfl, e_171x3⟩, st_171x3⟩ := g_callV X_159x3 hx hZ  (C := "com/example/assayer/assayer/core/JsonString") (own := "com/example/assayer/assayer/core/JsonStringEqualsPinLaw") (index := 28) (y := (⟨"com/example/assayer/assayer/core/JsonString", "equals", "(Ljava/lang/Object;)Z"⟩ : MethodName)) (z := (⟨"com/example/assayer/assayer/core/JsonString", "equals", "(Ljava/lang/Object;)Z"⟩ : MethodName)) (a := a_104) (as' := [(.ref a_93)]) hown (hw _ (List.mem_of_getElem? (i := 47) rfl)) (hw _ (List.mem_of_getElem? (i := 48) rfl)) (hw _ (List.mem_of_getElem? (i := 50) rfl)) (hw _ (List.mem_of_getElem? (i := 50) rfl)) (hw _ (List.mem_of_getElem? (i := 49) rfl)) (hw _ (List.mem_of_getElem? (i := 29) rfl)) (hw _ (List.mem_of_getElem? (i := 51) rfl)) (by decide) e_159x3 F_110_11 (rm_jeq l Z a0 hw a_104 a_93 T_110.heap h0.size O_110 cs hcs SC F_110_10 s1 s0 F_110_0 F_110_1 (fun z => (Ne.symm nb_88_s0) (by injection z)) _ _ _ _ (bsOf (mkl jj y0 y1)) (bsOf (mkl kk x0 x1)) (bs_len (mkl_len _ _ _)) (bs_len (mkl_len _ _ _)) ⟨F_110_6, F_110_7, F_110_8, F_110_9⟩ ⟨F_110_2, F_110_3, F_110_4, F_110_5⟩) pd_jeq rfl 0 (by decide) (by decide) (by decide) (by decide) (pc := 171) (Ls := #[.val (.int q1), .val (.int q2), .val (.int q3), .val (.int q4), .val (.int q5), .val (.int kk), .val (.int jj), .val (.int x0), .val (.int x1), .val (.int y0), .val (.int y1), .val (.ref s0), .val (.ref s1), .val (.ref a_93), .val (.ref a_104), .val (.int (1 : Int32)), .unset, .unset, .unset]) (rest := []) (st := [(.ref a_93), (.ref a_104)]) (by rw [hml]; rfl) rfl (Nat.le_of_eq rfl) (hb hby at_171)
            refine st_171x3 ?_
            rw [List.append_nil] at X_171x3
            show Go p e below _ (T_171x3.setTop (mkF m 174 #[.val (.int q1), .val (.int q2), .val (.int q3), .val (.int q4), .val (.int q5), .val (.int kk), .val (.int jj), .val (.int x0), .val (.int x1), .val (.int y0), .val (.int y1), .val (.ref s0), .val (.ref s1), .val (.ref a_93), .val (.ref a_104), .val (.int (1 : Int32)), .unset, .unset, .unset] [(.int (b2i (coOf (mkl jj y0 y1) = coOf (mkl kk x0 x1) ∧ bsOf (mkl jj y0 y1) = bsOf (mkl kk x0 x1))))]))
            rw [b2i_t ((same_str (mkl_ch hy0 hy1) (mkl_ch hx0 hx1)).mpr heq.symm)]
            refine g_iload X_171x3 hx 176 (1 : Int32) (hb hby at_174) rfl rfl ?_
            refine g_icmpN X_171x3 hx 179 (hb hby at_176) (XT.ii_ne_f (by decide)) rfl ?_
            refine g_iconst X_171x3 hx 180 (1 : Int32) (hb hby at_179) rfl rfl ?_
            refine g_goto X_171x3 hx 184 (hb hby at_180) (by decide) (by decide) ?_
            refine g_istore X_171x3 hx 186 #[.val (.int q1), .val (.int q2), .val (.int q3), .val (.int q4), .val (.int q5), .val (.int kk), .val (.int jj), .val (.int x0), .val (.int x1), .val (.int y0), .val (.int y1), .val (.ref s0), .val (.ref s1), .val (.ref a_93), .val (.ref a_104), .val (.int (1 : Int32)), .val (.int (1 : Int32)), .unset, .unset] (hb hby at_184) rfl rfl ?_
            refine g_iload X_171x3 hx 188 q5 (hb hby at_186) rfl rfl ?_
            refine g_iconst X_171x3 hx 189 (3 : Int32) (hb hby at_188) rfl rfl ?_
            refine g_iand X_171x3 hx 190 (hb hby at_189) rfl ?_
            refine g_istore X_171x3 hx 192 #[.val (.int q1), .val (.int q2), .val (.int q3), .val (.int q4), .val (.int q5), .val (.int kk), .val (.int jj), .val (.int x0), .val (.int x1), .val (.int y0), .val (.int y1), .val (.ref s0), .val (.ref s1), .val (.ref a_93), .val (.ref a_104), .val (.int (1 : Int32)), .val (.int (1 : Int32)), .val (.int (q5 &&& (3 : Int32))), .unset] (hb hby at_190) rfl rfl ?_
            refine g_iload X_171x3 hx 194 (q5 &&& (3 : Int32)) (hb hby at_192) rfl rfl ?_
            refine g_iconst X_171x3 hx 195 (1 : Int32) (hb hby at_194) rfl rfl ?_
            by_cases c195 : (q5 &&& (3 : Int32)) = (1 : Int32)
            ·
              refine g_icmpN X_171x3 hx 198 (hb hby at_195) (XT.ii_ne_f c195) rfl ?_
              refine g_iload X_171x3 hx 200 (1 : Int32) (hb hby at_198) rfl rfl ?_
              refine g_ifN X_171x3 hx 203 (hb hby at_200) (XT.i0_eq_f (by decide)) rfl ?_
              refine g_aload X_171x3 hx 205 (.ref a_93) (hb hby at_203) rfl rfl rfl ?_
              refine g_aconst_null X_171x3 hx 206 (hb hby at_205) rfl ?_
              obtain ⟨_, T_206x3, L_206x3, X_206x3, ⟨rfl, rfl, e_206x3⟩, st_206x3⟩ := g_callV X_171x3 hx hZ  (C := "com/example/assayer/assayer/core/JsonString") (own := "com/example/assayer/assayer/core/JsonStringEqualsPinLaw") (index := 28) (y := (⟨"com/example/assayer/assayer/core/JsonString", "equals", "(Ljava/lang/Object;)Z"⟩ : MethodName)) (z := (⟨"com/example/assayer/assayer/core/JsonString", "equals", "(Ljava/lang/Object;)Z"⟩ : MethodName)) (a := a_93) (as' := [.null]) hown (hw _ (List.mem_of_getElem? (i := 47) rfl)) (hw _ (List.mem_of_getElem? (i := 48) rfl)) (hw _ (List.mem_of_getElem? (i := 50) rfl)) (hw _ (List.mem_of_getElem? (i := 50) rfl)) (hw _ (List.mem_of_getElem? (i := 49) rfl)) (hw _ (List.mem_of_getElem? (i := 29) rfl)) (hw _ (List.mem_of_getElem? (i := 51) rfl)) (by decide) e_171x3 F_110_10 (rm_jen l Z a0 hw a_93 T_110.heap) pd_jen rfl 0 (by decide) (by decide) (by decide) (by decide) (pc := 206) (Ls := #[.val (.int q1), .val (.int q2), .val (.int q3), .val (.int q4), .val (.int q5), .val (.int kk), .val (.int jj), .val (.int x0), .val (.int x1), .val (.int y0), .val (.int y1), .val (.ref s0), .val (.ref s1), .val (.ref a_93), .val (.ref a_104), .val (.int (1 : Int32)), .val (.int (1 : Int32)), .val (.int (q5 &&& (3 : Int32))), .unset]) (rest := []) (st := [.null, (.ref a_93)]) (by rw [hml]; rfl) rfl (Nat.le_of_eq rfl) (hb hby at_206)
              refine st_206x3 ?_
              rw [List.append_nil] at X_206x3
              show Go p e below _ (T_206x3.setTop (mkF m 209 #[.val (.int q1), .val (.int q2), .val (.int q3), .val (.int q4), .val (.int q5), .val (.int kk), .val (.int jj), .val (.int x0), .val (.int x1), .val (.int y0), .val (.int y1), .val (.ref s0), .val (.ref s1), .val (.ref a_93), .val (.ref a_104), .val (.int (1 : Int32)), .val (.int (1 : Int32)), .val (.int (q5 &&& (3 : Int32))), .unset] [(.int (0 : Int32))]))
              refine g_ifN X_206x3 hx 212 (hb hby at_209) (XT.i0_ne_f (by decide)) rfl ?_
              refine g_iconst X_206x3 hx 213 (1 : Int32) (hb hby at_212) rfl rfl ?_
              refine g_goto X_206x3 hx 217 (hb hby at_213) (by decide) (by decide) ?_
              exact GoW.ret X_206x3 hS (by rw [e_206x3]; exact (Nat.le_refl _)) hx hlk Bd.returns (hb hby at_217) rfl (Or.inl ⟨rfl, by decide, _, rfl⟩) (by decide) (by decide) ⟨rfl, N_110⟩
            ·
              refine g_icmpY X_171x3 hx 218 (hb hby at_195) (XT.ii_ne_t c195) (by decide) (by decide) ?_
              refine g_iload X_171x3 hx 220 (q5 &&& (3 : Int32)) (hb hby at_218) rfl rfl ?_
              refine g_iconst X_171x3 hx 221 (2 : Int32) (hb hby at_220) rfl rfl ?_
              by_cases c221 : (q5 &&& (3 : Int32)) = (2 : Int32)
              ·
                refine g_icmpN X_171x3 hx 224 (hb hby at_221) (XT.ii_ne_f c221) rfl ?_
                refine g_iload X_171x3 hx 226 (1 : Int32) (hb hby at_224) rfl rfl ?_
                refine g_ifN X_171x3 hx 229 (hb hby at_226) (XT.i0_eq_f (by decide)) rfl ?_
                refine g_aload X_171x3 hx 231 (.ref a_93) (hb hby at_229) rfl rfl rfl ?_
                refine g_aload X_171x3 hx 233 (.ref a_93) (hb hby at_231) rfl rfl rfl ?_
                obtain ⟨_, T_233x3, L_233x3, X_233x3, ⟨rfl, rfl, e_233x3⟩, st_233x3⟩ := g_callV X_171x3 hx hZ  (C := "com/example/assayer/assayer/core/JsonString") (own := "com/example/assayer/assayer/core/JsonStringEqualsPinLaw") (index := 28) (y := (⟨"com/example/assayer/assayer/core/JsonString", "equals", "(Ljava/lang/Object;)Z"⟩ : MethodName)) (z := (⟨"com/example/assayer/assayer/core/JsonString", "equals", "(Ljava/lang/Object;)Z"⟩ : MethodName)) (a := a_93) (as' := [(.ref a_93)]) hown (hw _ (List.mem_of_getElem? (i := 47) rfl)) (hw _ (List.mem_of_getElem? (i := 48) rfl)) (hw _ (List.mem_of_getElem? (i := 50) rfl)) (hw _ (List.mem_of_getElem? (i := 50) rfl)) (hw _ (List.mem_of_getElem? (i := 49) rfl)) (hw _ (List.mem_of_getElem? (i := 29) rfl)) (hw _ (List.mem_of_getElem? (i := 51) rfl)) (by decide) e_171x3 F_110_10 (rm_jes l Z a0 hw a_93 T_110.heap F_110_10 s0 F_110_1 F_110_2) pd_jes rfl 0 (by decide) (by decide) (by decide) (by decide) (pc := 233) (Ls := #[.val (.int q1), .val (.int q2), .val (.int q3), .val (.int q4), .val (.int q5), .val (.int kk), .val (.int jj), .val (.int x0), .val (.int x1), .val (.int y0), .val (.int y1), .val (.ref s0), .val (.ref s1), .val (.ref a_93), .val (.ref a_104), .val (.int (1 : Int32)), .val (.int (1 : Int32)), .val (.int (q5 &&& (3 : Int32))), .unset]) (rest := []) (st := [(.ref a_93), (.ref a_93)]) (by rw [hml]; rfl) rfl (Nat.le_of_eq rfl) (hb hby at_233)
                refine st_233x3 ?_
                rw [List.append_nil] at X_233x3
                show Go p e below _ (T_233x3.setTop (mkF m 236 #[.val (.int q1), .val (.int q2), .val (.int q3), .val (.int q4), .val (.int q5), .val (.int kk), .val (.int jj), .val (.int x0), .val (.int x1), .val (.int y0), .val (.int y1), .val (.ref s0), .val (.ref s1), .val (.ref a_93), .val (.ref a_104), .val (.int (1 : Int32)), .val (.int (1 : Int32)), .val (.int (q5 &&& (3 : Int32))), .unset] [(.int (1 : Int32))]))
                refine g_ifN X_233x3 hx 239 (hb hby at_236) (XT.i0_eq_f (by decide)) rfl ?_
                refine g_iconst X_233x3 hx 240 (1 : Int32) (hb hby at_239) rfl rfl ?_
                refine g_goto X_233x3 hx 244 (hb hby at_240) (by decide) (by decide) ?_
                exact GoW.ret X_233x3 hS (by rw [e_233x3]; exact (Nat.le_refl _)) hx hlk Bd.returns (hb hby at_244) rfl (Or.inl ⟨rfl, by decide, _, rfl⟩) (by decide) (by decide) ⟨rfl, N_110⟩
              ·
                refine g_icmpY X_171x3 hx 245 (hb hby at_221) (XT.ii_ne_t c221) (by decide) (by decide) ?_
                refine g_iload X_171x3 hx 247 (q5 &&& (3 : Int32)) (hb hby at_245) rfl rfl ?_
                refine g_iconst X_171x3 hx 248 (3 : Int32) (hb hby at_247) rfl rfl ?_
                by_cases c248 : (q5 &&& (3 : Int32)) = (3 : Int32)
                ·
                  refine g_icmpN X_171x3 hx 251 (hb hby at_248) (XT.ii_ne_f c248) rfl ?_
                  refine g_aload X_171x3 hx 253 (.ref s0) (hb hby at_251) rfl rfl rfl ?_
                  refine g_astore X_171x3 hx 255 #[.val (.int q1), .val (.int q2), .val (.int q3), .val (.int q4), .val (.int q5), .val (.int kk), .val (.int jj), .val (.int x0), .val (.int x1), .val (.int y0), .val (.int y1), .val (.ref s0), .val (.ref s1), .val (.ref a_93), .val (.ref a_104), .val (.int (1 : Int32)), .val (.int (1 : Int32)), .val (.int (q5 &&& (3 : Int32))), .val (.ref s0)] (hb hby at_253) rfl rfl rfl ?_
                  refine g_iload X_171x3 hx 257 (1 : Int32) (hb hby at_255) rfl rfl ?_
                  refine g_ifN X_171x3 hx 260 (hb hby at_257) (XT.i0_eq_f (by decide)) rfl ?_
                  refine g_aload X_171x3 hx 262 (.ref a_93) (hb hby at_260) rfl rfl rfl ?_
                  refine g_aload X_171x3 hx 264 (.ref s0) (hb hby at_262) rfl rfl rfl ?_
                  obtain ⟨_, T_264x3, L_264x3, X_264x3, ⟨rfl, rfl, e_264x3⟩, st_264x3⟩ := g_callV X_171x3 hx hZ  (C := "com/example/assayer/assayer/core/JsonString") (own := "com/example/assayer/assayer/core/JsonStringEqualsPinLaw") (index := 28) (y := (⟨"com/example/assayer/assayer/core/JsonString", "equals", "(Ljava/lang/Object;)Z"⟩ : MethodName)) (z := (⟨"com/example/assayer/assayer/core/JsonString", "equals", "(Ljava/lang/Object;)Z"⟩ : MethodName)) (a := a_93) (as' := [(.ref s0)]) hown (hw _ (List.mem_of_getElem? (i := 47) rfl)) (hw _ (List.mem_of_getElem? (i := 48) rfl)) (hw _ (List.mem_of_getElem? (i := 50) rfl)) (hw _ (List.mem_of_getElem? (i := 50) rfl)) (hw _ (List.mem_of_getElem? (i := 49) rfl)) (hw _ (List.mem_of_getElem? (i := 29) rfl)) (hw _ (List.mem_of_getElem? (i := 51) rfl)) (by decide) e_171x3 F_110_10 (rm_jep l Z a0 hw a_93 s0 T_110.heap F_110_2) pd_jep rfl 0 (by decide) (by decide) (by decide) (by decide) (pc := 264) (Ls := #[.val (.int q1), .val (.int q2), .val (.int q3), .val (.int q4), .val (.int q5), .val (.int kk), .val (.int jj), .val (.int x0), .val (.int x1), .val (.int y0), .val (.int y1), .val (.ref s0), .val (.ref s1), .val (.ref a_93), .val (.ref a_104), .val (.int (1 : Int32)), .val (.int (1 : Int32)), .val (.int (q5 &&& (3 : Int32))), .val (.ref s0)]) (rest := []) (st := [(.ref s0), (.ref a_93)]) (by rw [hml]; rfl) rfl (Nat.le_of_eq rfl) (hb hby at_264)
                  refine st_264x3 ?_
                  rw [List.append_nil] at X_264x3
                  show Go p e below _ (T_264x3.setTop (mkF m 267 #[.val (.int q1), .val (.int q2), .val (.int q3), .val (.int q4), .val (.int q5), .val (.int kk), .val (.int jj), .val (.int x0), .val (.int x1), .val (.int y0), .val (.int y1), .val (.ref s0), .val (.ref s1), .val (.ref a_93), .val (.ref a_104), .val (.int (1 : Int32)), .val (.int (1 : Int32)), .val (.int (q5 &&& (3 : Int32))), .val (.ref s0)] [(.int (0 : Int32))]))
                  refine g_ifN X_264x3 hx 270 (hb hby at_267) (XT.i0_ne_f (by decide)) rfl ?_
                  refine g_iconst X_264x3 hx 271 (1 : Int32) (hb hby at_270) rfl rfl ?_
                  refine g_goto X_264x3 hx 275 (hb hby at_271) (by decide) (by decide) ?_
                  exact GoW.ret X_264x3 hS (by rw [e_264x3]; exact (Nat.le_refl _)) hx hlk Bd.returns (hb hby at_275) rfl (Or.inl ⟨rfl, by decide, _, rfl⟩) (by decide) (by decide) ⟨rfl, N_110⟩
                ·
                  refine g_icmpY X_171x3 hx 276 (hb hby at_248) (XT.ii_ne_t c248) (by decide) (by decide) ?_
                  refine g_iload X_171x3 hx 278 (1 : Int32) (hb hby at_276) rfl rfl ?_
                  exact GoW.ret X_171x3 hS (by rw [e_171x3]; exact (Nat.le_refl _)) hx hlk Bd.returns (hb hby at_278) rfl (Or.inl ⟨rfl, by decide, _, rfl⟩) (by decide) (by decide) ⟨rfl, N_110⟩
          ·
            refine g_icmpN X_110 hx 141 (hb hby at_138) (XT.ii_lt_f c138) rfl ?_
            refine g_iload X_110 hx 143 x1 (hb hby at_141) rfl rfl ?_
            refine g_iload X_110 hx 145 y1 (hb hby at_143) rfl rfl ?_
            by_cases c145 : x1 = y1
            ·
              refine g_icmpN X_110 hx 148 (hb hby at_145) (XT.ii_ne_f c145) rfl ?_
              refine g_iconst X_110 hx 149 (1 : Int32) (hb hby at_148) rfl rfl ?_
              refine g_goto X_110 hx 153 (hb hby at_149) (by decide) (by decide) ?_
              have heq : mkl kk x0 x1 = mkl jj y0 y1 := (own_exp hkk hjj).mpr ⟨c119, fun _ => c132, fun _ => c145⟩
              refine g_istore X_110 hx 155 #[.val (.int q1), .val (.int q2), .val (.int q3), .val (.int q4), .val (.int q5), .val (.int kk), .val (.int jj), .val (.int x0), .val (.int x1), .val (.int y0), .val (.int y1), .val (.ref s0), .val (.ref s1), .val (.ref a_93), .val (.ref a_104), .val (.int (1 : Int32)), .unset, .unset, .unset] (hb hby at_153) rfl rfl ?_
              refine g_aload X_110 hx 157 (.ref a_93) (hb hby at_155) rfl rfl rfl ?_
              refine g_aload X_110 hx 159 (.ref a_104) (hb hby at_157) rfl rfl rfl ?_
              obtain ⟨_, T_159x4, L_159x4, X_159x4, ⟨rfl, rfl, e_159x4⟩, st_159x4⟩ := g_callV X_110 hx hZ  (C := "com/example/assayer/assayer/core/JsonString") (own := "com/example/assayer/assayer/core/JsonStringEqualsPinLaw") (index := 28) (y := (⟨"com/example/assayer/assayer/core/JsonString", "equals", "(Ljava/lang/Object;)Z"⟩ : MethodName)) (z := (⟨"com/example/assayer/assayer/core/JsonString", "equals", "(Ljava/lang/Object;)Z"⟩ : MethodName)) (a := a_93) (as' := [(.ref a_104)]) hown (hw _ (List.mem_of_getElem? (i := 47) rfl)) (hw _ (List.mem_of_getElem? (i := 48) rfl)) (hw _ (List.mem_of_getElem? (i := 50) rfl)) (hw _ (List.mem_of_getElem? (i := 50) rfl)) (hw _ (List.mem_of_getElem? (i := 49) rfl)) (hw _ (List.mem_of_getElem? (i := 29) rfl)) (hw _ (List.mem_of_getElem? (i := 51) rfl)) (by decide) rfl F_110_10 (rm_jeq l Z a0 hw a_93 a_104 T_110.heap h0.size O_110 cs hcs SC F_110_11 s0 s1 F_110_1 F_110_0 (fun z => nb_88_s0 (by injection z)) _ _ _ _ (bsOf (mkl kk x0 x1)) (bsOf (mkl jj y0 y1)) (bs_len (mkl_len _ _ _)) (bs_len (mkl_len _ _ _)) ⟨F_110_2, F_110_3, F_110_4, F_110_5⟩ ⟨F_110_6, F_110_7, F_110_8, F_110_9⟩) pd_jeq rfl 0 (by decide) (by decide) (by decide) (by decide) (pc := 159) (Ls := #[.val (.int q1), .val (.int q2), .val (.int q3), .val (.int q4), .val (.int q5), .val (.int kk), .val (.int jj), .val (.int x0), .val (.int x1), .val (.int y0), .val (.int y1), .val (.ref s0), .val (.ref s1), .val (.ref a_93), .val (.ref a_104), .val (.int (1 : Int32)), .unset, .unset, .unset]) (rest := []) (st := [(.ref a_104), (.ref a_93)]) (by rw [hml]; rfl) rfl (Nat.le_of_eq rfl) (hb hby at_159)
              refine st_159x4 ?_
              rw [List.append_nil] at X_159x4
              show Go p e below _ (T_159x4.setTop (mkF m 162 #[.val (.int q1), .val (.int q2), .val (.int q3), .val (.int q4), .val (.int q5), .val (.int kk), .val (.int jj), .val (.int x0), .val (.int x1), .val (.int y0), .val (.int y1), .val (.ref s0), .val (.ref s1), .val (.ref a_93), .val (.ref a_104), .val (.int (1 : Int32)), .unset, .unset, .unset] [(.int (b2i (coOf (mkl kk x0 x1) = coOf (mkl jj y0 y1) ∧ bsOf (mkl kk x0 x1) = bsOf (mkl jj y0 y1))))]))
              rw [b2i_t ((same_str (mkl_ch hx0 hx1) (mkl_ch hy0 hy1)).mpr heq)]
              refine g_iload X_159x4 hx 164 (1 : Int32) (hb hby at_162) rfl rfl ?_
              refine g_icmpN X_159x4 hx 167 (hb hby at_164) (XT.ii_ne_f (by decide)) rfl ?_
              refine g_aload X_159x4 hx 169 (.ref a_104) (hb hby at_167) rfl rfl rfl ?_
              refine g_aload X_159x4 hx 171 (.ref a_93) (hb hby at_169) rfl rfl rfl ?_
              obtain ⟨_, T_171x4, L_171x4, X_171x4, ⟨rfl, rfl, e_171x4⟩, st_171x4⟩ := g_callV X_159x4 hx hZ  (C := "com/example/assayer/assayer/core/JsonString") (own := "com/example/assayer/assayer/core/JsonStringEqualsPinLaw") (index := 28) (y := (⟨"com/example/assayer/assayer/core/JsonString", "equals", "(Ljava/lang/Object;)Z"⟩ : MethodName)) (z := (⟨"com/example/assayer/assayer/core/JsonString", "equals", "(Ljava/lang/Object;)Z"⟩ : MethodName)) (a := a_104) (as' := [(.ref a_93)]) hown (hw _ (List.mem_of_getElem? (i := 47) rfl)) (hw _ (List.mem_of_getElem? (i := 48) rfl)) (hw _ (List.mem_of_getElem? (i := 50) rfl)) (hw _ (List.mem_of_getElem? (i := 50) rfl)) (hw _ (List.mem_of_getElem? (i := 49) rfl)) (hw _ (List.mem_of_getElem? (i := 29) rfl)) (hw _ (List.mem_of_getElem? (i := 51) rfl)) (by decide) e_159x4 F_110_11 (rm_jeq l Z a0 hw a_104 a_93 T_110.heap h0.size O_110 cs hcs SC F_110_10 s1 s0 F_110_0 F_110_1 (fun z => (Ne.symm nb_88_s0) (by injection z)) _ _ _ _ (bsOf (mkl jj y0 y1)) (bsOf (mkl kk x0 x1)) (bs_len (mkl_len _ _ _)) (bs_len (mkl_len _ _ _)) ⟨F_110_6, F_110_7, F_110_8, F_110_9⟩ ⟨F_110_2, F_110_3, F_110_4, F_110_5⟩) pd_jeq rfl 0 (by decide) (by decide) (by decide) (by decide) (pc := 171) (Ls := #[.val (.int q1), .val (.int q2), .val (.int q3), .val (.int q4), .val (.int q5), .val (.int kk), .val (.int jj), .val (.int x0), .val (.int x1), .val (.int y0), .val (.int y1), .val (.ref s0), .val (.ref s1), .val (.ref a_93), .val (.ref a_104), .val (.int (1 : Int32)), .unset, .unset, .unset]) (rest := []) (st := [(.ref a_93), (.ref a_104)]) (by rw [hml]; rfl) rfl (Nat.le_of_eq rfl) (hb hby at_171)
              refine st_171x4 ?_
              rw [List.append_nil] at X_171x4
              show Go p e below _ (T_171x4.setTop (mkF m 174 #[.val (.int q1), .val (.int q2), .val (.int q3), .val (.int q4), .val (.int q5), .val (.int kk), .val (.int jj), .val (.int x0), .val (.int x1), .val (.int y0), .val (.int y1), .val (.ref s0), .val (.ref s1), .val (.ref a_93), .val (.ref a_104), .val (.int (1 : Int32)), .unset, .unset, .unset] [(.int (b2i (coOf (mkl jj y0 y1) = coOf (mkl kk x0 x1) ∧ bsOf (mkl jj y0 y1) = bsOf (mkl kk x0 x1))))]))
              rw [b2i_t ((same_str (mkl_ch hy0 hy1) (mkl_ch hx0 hx1)).mpr heq.symm)]
              refine g_iload X_171x4 hx 176 (1 : Int32) (hb hby at_174) rfl rfl ?_
              refine g_icmpN X_171x4 hx 179 (hb hby at_176) (XT.ii_ne_f (by decide)) rfl ?_
              refine g_iconst X_171x4 hx 180 (1 : Int32) (hb hby at_179) rfl rfl ?_
              refine g_goto X_171x4 hx 184 (hb hby at_180) (by decide) (by decide) ?_
              refine g_istore X_171x4 hx 186 #[.val (.int q1), .val (.int q2), .val (.int q3), .val (.int q4), .val (.int q5), .val (.int kk), .val (.int jj), .val (.int x0), .val (.int x1), .val (.int y0), .val (.int y1), .val (.ref s0), .val (.ref s1), .val (.ref a_93), .val (.ref a_104), .val (.int (1 : Int32)), .val (.int (1 : Int32)), .unset, .unset] (hb hby at_184) rfl rfl ?_
              refine g_iload X_171x4 hx 188 q5 (hb hby at_186) rfl rfl ?_
              refine g_iconst X_171x4 hx 189 (3 : Int32) (hb hby at_188) rfl rfl ?_
              refine g_iand X_171x4 hx 190 (hb hby at_189) rfl ?_
              refine g_istore X_171x4 hx 192 #[.val (.int q1), .val (.int q2), .val (.int q3), .val (.int q4), .val (.int q5), .val (.int kk), .val (.int jj), .val (.int x0), .val (.int x1), .val (.int y0), .val (.int y1), .val (.ref s0), .val (.ref s1), .val (.ref a_93), .val (.ref a_104), .val (.int (1 : Int32)), .val (.int (1 : Int32)), .val (.int (q5 &&& (3 : Int32))), .unset] (hb hby at_190) rfl rfl ?_
              refine g_iload X_171x4 hx 194 (q5 &&& (3 : Int32)) (hb hby at_192) rfl rfl ?_
              refine g_iconst X_171x4 hx 195 (1 : Int32) (hb hby at_194) rfl rfl ?_
              by_cases c195 : (q5 &&& (3 : Int32)) = (1 : Int32)
              ·
                refine g_icmpN X_171x4 hx 198 (hb hby at_195) (XT.ii_ne_f c195) rfl ?_
                refine g_iload X_171x4 hx 200 (1 : Int32) (hb hby at_198) rfl rfl ?_
                refine g_ifN X_171x4 hx 203 (hb hby at_200) (XT.i0_eq_f (by decide)) rfl ?_
                refine g_aload X_171x4 hx 205 (.ref a_93) (hb hby at_203) rfl rfl rfl ?_
                refine g_aconst_null X_171x4 hx 206 (hb hby at_205) rfl ?_
                obtain ⟨_, T_206x4, L_206x4, X_206x4, ⟨rfl, rfl, e_206x4⟩, st_206x4⟩ := g_callV X_171x4 hx hZ  (C := "com/example/assayer/assayer/core/JsonString") (own := "com/example/assayer/assayer/core/JsonStringEqualsPinLaw") (index := 28) (y := (⟨"com/example/assayer/assayer/core/JsonString", "equals", "(Ljava/lang/Object;)Z"⟩ : MethodName)) (z := (⟨"com/example/assayer/assayer/core/JsonString", "equals", "(Ljava/lang/Object;)Z"⟩ : MethodName)) (a := a_93) (as' := [.null]) hown (hw _ (List.mem_of_getElem? (i := 47) rfl)) (hw _ (List.mem_of_getElem? (i := 48) rfl)) (hw _ (List.mem_of_getElem? (i := 50) rfl)) (hw _ (List.mem_of_getElem? (i := 50) rfl)) (hw _ (List.mem_of_getElem? (i := 49) rfl)) (hw _ (List.mem_of_getElem? (i := 29) rfl)) (hw _ (List.mem_of_getElem? (i := 51) rfl)) (by decide) e_171x4 F_110_10 (rm_jen l Z a0 hw a_93 T_110.heap) pd_jen rfl 0 (by decide) (by decide) (by decide) (by decide) (pc := 206) (Ls := #[.val (.int q1), .val (.int q2), .val (.int q3), .val (.int q4), .val (.int q5), .val (.int kk), .val (.int jj), .val (.int x0), .val (.int x1), .val (.int y0), .val (.int y1), .val (.ref s0), .val (.ref s1), .val (.ref a_93), .val (.ref a_104), .val (.int (1 : Int32)), .val (.int (1 : Int32)), .val (.int (q5 &&& (3 : Int32))), .unset]) (rest := []) (st := [.null, (.ref a_93)]) (by rw [hml]; rfl) rfl (Nat.le_of_eq rfl) (hb hby at_206)
                refine st_206x4 ?_
                rw [List.append_nil] at X_206x4
                show Go p e below _ (T_206x4.setTop (mkF m 209 #[.val (.int q1), .val (.int q2), .val (.int q3), .val (.int q4), .val (.int q5), .val (.int kk), .val (.int jj), .val (.int x0), .val (.int x1), .val (.int y0), .val (.int y1), .val (.ref s0), .val (.ref s1), .val (.ref a_93), .val (.ref a_104), .val (.int (1 : Int32)), .val (.int (1 : Int32)), .val (.int (q5 &&& (3 : Int32))), .unset] [(.int (0 : Int32))]))
                refine g_ifN X_206x4 hx 212 (hb hby at_209) (XT.i0_ne_f (by decide)) rfl ?_
                refine g_iconst X_206x4 hx 213 (1 : Int32) (hb hby at_212) rfl rfl ?_
                refine g_goto X_206x4 hx 217 (hb hby at_213) (by decide) (by decide) ?_
                exact GoW.ret X_206x4 hS (by rw [e_206x4]; exact (Nat.le_refl _)) hx hlk Bd.returns (hb hby at_217) rfl (Or.inl ⟨rfl, by decide, _, rfl⟩) (by decide) (by decide) ⟨rfl, N_110⟩
              ·
                refine g_icmpY X_171x4 hx 218 (hb hby at_195) (XT.ii_ne_t c195) (by decide) (by decide) ?_
                refine g_iload X_171x4 hx 220 (q5 &&& (3 : Int32)) (hb hby at_218) rfl rfl ?_
                refine g_iconst X_171x4 hx 221 (2 : Int32) (hb hby at_220) rfl rfl ?_
                by_cases c221 : (q5 &&& (3 : Int32)) = (2 : Int32)
                ·
                  refine g_icmpN X_171x4 hx 224 (hb hby at_221) (XT.ii_ne_f c221) rfl ?_
                  refine g_iload X_171x4 hx 226 (1 : Int32) (hb hby at_224) rfl rfl ?_
                  refine g_ifN X_171x4 hx 229 (hb hby at_226) (XT.i0_eq_f (by decide)) rfl ?_
                  refine g_aload X_171x4 hx 231 (.ref a_93) (hb hby at_229) rfl rfl rfl ?_
                  refine g_aload X_171x4 hx 233 (.ref a_93) (hb hby at_231) rfl rfl rfl ?_
                  obtain ⟨_, T_233x4, L_233x4, X_233x4, ⟨rfl, rfl, e_233x4⟩, st_233x4⟩ := g_callV X_171x4 hx hZ  (C := "com/example/assayer/assayer/core/JsonString") (own := "com/example/assayer/assayer/core/JsonStringEqualsPinLaw") (index := 28) (y := (⟨"com/example/assayer/assayer/core/JsonString", "equals", "(Ljava/lang/Object;)Z"⟩ : MethodName)) (z := (⟨"com/example/assayer/assayer/core/JsonString", "equals", "(Ljava/lang/Object;)Z"⟩ : MethodName)) (a := a_93) (as' := [(.ref a_93)]) hown (hw _ (List.mem_of_getElem? (i := 47) rfl)) (hw _ (List.mem_of_getElem? (i := 48) rfl)) (hw _ (List.mem_of_getElem? (i := 50) rfl)) (hw _ (List.mem_of_getElem? (i := 50) rfl)) (hw _ (List.mem_of_getElem? (i := 49) rfl)) (hw _ (List.mem_of_getElem? (i := 29) rfl)) (hw _ (List.mem_of_getElem? (i := 51) rfl)) (by decide) e_171x4 F_110_10 (rm_jes l Z a0 hw a_93 T_110.heap F_110_10 s0 F_110_1 F_110_2) pd_jes rfl 0 (by decide) (by decide) (by decide) (by decide) (pc := 233) (Ls := #[.val (.int q1), .val (.int q2), .val (.int q3), .val (.int q4), .val (.int q5), .val (.int kk), .val (.int jj), .val (.int x0), .val (.int x1), .val (.int y0), .val (.int y1), .val (.ref s0), .val (.ref s1), .val (.ref a_93), .val (.ref a_104), .val (.int (1 : Int32)), .val (.int (1 : Int32)), .val (.int (q5 &&& (3 : Int32))), .unset]) (rest := []) (st := [(.ref a_93), (.ref a_93)]) (by rw [hml]; rfl) rfl (Nat.le_of_eq rfl) (hb hby at_233)
                  refine st_233x4 ?_
                  rw [List.append_nil] at X_233x4
                  show Go p e below _ (T_233x4.setTop (mkF m 236 #[.val (.int q1), .val (.int q2), .val (.int q3), .val (.int q4), .val (.int q5), .val (.int kk), .val (.int jj), .val (.int x0), .val (.int x1), .val (.int y0), .val (.int y1), .val (.ref s0), .val (.ref s1), .val (.ref a_93), .val (.ref a_104), .val (.int (1 : Int32)), .val (.int (1 : Int32)), .val (.int (q5 &&& (3 : Int32))), .unset] [(.int (1 : Int32))]))
                  refine g_ifN X_233x4 hx 239 (hb hby at_236) (XT.i0_eq_f (by decide)) rfl ?_
                  refine g_iconst X_233x4 hx 240 (1 : Int32) (hb hby at_239) rfl rfl ?_
                  refine g_goto X_233x4 hx 244 (hb hby at_240) (by decide) (by decide) ?_
                  exact GoW.ret X_233x4 hS (by rw [e_233x4]; exact (Nat.le_refl _)) hx hlk Bd.returns (hb hby at_244) rfl (Or.inl ⟨rfl, by decide, _, rfl⟩) (by decide) (by decide) ⟨rfl, N_110⟩
                ·
                  refine g_icmpY X_171x4 hx 245 (hb hby at_221) (XT.ii_ne_t c221) (by decide) (by decide) ?_
                  refine g_iload X_171x4 hx 247 (q5 &&& (3 : Int32)) (hb hby at_245) rfl rfl ?_
                  refine g_iconst X_171x4 hx 248 (3 : Int32) (hb hby at_247) rfl rfl ?_
                  by_cases c248 : (q5 &&& (3 : Int32)) = (3 : Int32)
                  ·
                    refine g_icmpN X_171x4 hx 251 (hb hby at_248) (XT.ii_ne_f c248) rfl ?_
                    refine g_aload X_171x4 hx 253 (.ref s0) (hb hby at_251) rfl rfl rfl ?_
                    refine g_astore X_171x4 hx 255 #[.val (.int q1), .val (.int q2), .val (.int q3), .val (.int q4), .val (.int q5), .val (.int kk), .val (.int jj), .val (.int x0), .val (.int x1), .val (.int y0), .val (.int y1), .val (.ref s0), .val (.ref s1), .val (.ref a_93), .val (.ref a_104), .val (.int (1 : Int32)), .val (.int (1 : Int32)), .val (.int (q5 &&& (3 : Int32))), .val (.ref s0)] (hb hby at_253) rfl rfl rfl ?_
                    refine g_iload X_171x4 hx 257 (1 : Int32) (hb hby at_255) rfl rfl ?_
                    refine g_ifN X_171x4 hx 260 (hb hby at_257) (XT.i0_eq_f (by decide)) rfl ?_
                    refine g_aload X_171x4 hx 262 (.ref a_93) (hb hby at_260) rfl rfl rfl ?_
                    refine g_aload X_171x4 hx 264 (.ref s0) (hb hby at_262) rfl rfl rfl ?_
                    obtain ⟨_, T_264x4, L_264x4, X_264x4, ⟨rfl, rfl, e_264x4⟩, st_264x4⟩ := g_callV X_171x4 hx hZ  (C := "com/example/assayer/assayer/core/JsonString") (own := "com/example/assayer/assayer/core/JsonStringEqualsPinLaw") (index := 28) (y := (⟨"com/example/assayer/assayer/core/JsonString", "equals", "(Ljava/lang/Object;)Z"⟩ : MethodName)) (z := (⟨"com/example/assayer/assayer/core/JsonString", "equals", "(Ljava/lang/Object;)Z"⟩ : MethodName)) (a := a_93) (as' := [(.ref s0)]) hown (hw _ (List.mem_of_getElem? (i := 47) rfl)) (hw _ (List.mem_of_getElem? (i := 48) rfl)) (hw _ (List.mem_of_getElem? (i := 50) rfl)) (hw _ (List.mem_of_getElem? (i := 50) rfl)) (hw _ (List.mem_of_getElem? (i := 49) rfl)) (hw _ (List.mem_of_getElem? (i := 29) rfl)) (hw _ (List.mem_of_getElem? (i := 51) rfl)) (by decide) e_171x4 F_110_10 (rm_jep l Z a0 hw a_93 s0 T_110.heap F_110_2) pd_jep rfl 0 (by decide) (by decide) (by decide) (by decide) (pc := 264) (Ls := #[.val (.int q1), .val (.int q2), .val (.int q3), .val (.int q4), .val (.int q5), .val (.int kk), .val (.int jj), .val (.int x0), .val (.int x1), .val (.int y0), .val (.int y1), .val (.ref s0), .val (.ref s1), .val (.ref a_93), .val (.ref a_104), .val (.int (1 : Int32)), .val (.int (1 : Int32)), .val (.int (q5 &&& (3 : Int32))), .val (.ref s0)]) (rest := []) (st := [(.ref s0), (.ref a_93)]) (by rw [hml]; rfl) rfl (Nat.le_of_eq rfl) (hb hby at_264)
                    refine st_264x4 ?_
                    rw [List.append_nil] at X_264x4
                    show Go p e below _ (T_264x4.setTop (mkF m 267 #[.val (.int q1), .val (.int q2), .val (.int q3), .val (.int q4), .val (.int q5), .val (.int kk), .val (.int jj), .val (.int x0), .val (.int x1), .val (.int y0), .val (.int y1), .val (.ref s0), .val (.ref s1), .val (.ref a_93), .val (.ref a_104), .val (.int (1 : Int32)), .val (.int (1 : Int32)), .val (.int (q5 &&& (3 : Int32))), .val (.ref s0)] [(.int (0 : Int32))]))
                    refine g_ifN X_264x4 hx 270 (hb hby at_267) (XT.i0_ne_f (by decide)) rfl ?_
                    refine g_iconst X_264x4 hx 271 (1 : Int32) (hb hby at_270) rfl rfl ?_
                    refine g_goto X_264x4 hx 275 (hb hby at_271) (by decide) (by decide) ?_
                    exact GoW.ret X_264x4 hS (by rw [e_264x4]; exact (Nat.le_refl _)) hx hlk Bd.returns (hb hby at_275) rfl (Or.inl ⟨rfl, by decide, _, rfl⟩) (by decide) (by decide) ⟨rfl, N_110⟩
                  ·
                    refine g_icmpY X_171x4 hx 276 (hb hby at_248) (XT.ii_ne_t c248) (by decide) (by decide) ?_
                    refine g_iload X_171x4 hx 278 (1 : Int32) (hb hby at_276) rfl rfl ?_
                    exact GoW.ret X_171x4 hS (by rw [e_171x4]; exact (Nat.le_refl _)) hx hlk Bd.returns (hb hby at_278) rfl (Or.inl ⟨rfl, by decide, _, rfl⟩) (by decide) (by decide) ⟨rfl, N_110⟩
            ·
              refine g_icmpY X_110 hx 152 (hb hby at_145) (XT.ii_ne_t c145) (by decide) (by decide) ?_
              refine g_iconst X_110 hx 153 (0 : Int32) (hb hby at_152) rfl rfl ?_
              have heq : ¬ mkl kk x0 x1 = mkl jj y0 y1 := fun q => by
                have z := (own_exp hkk hjj).mp q
                exact c145 (z.2.2 c138)
              refine g_istore X_110 hx 155 #[.val (.int q1), .val (.int q2), .val (.int q3), .val (.int q4), .val (.int q5), .val (.int kk), .val (.int jj), .val (.int x0), .val (.int x1), .val (.int y0), .val (.int y1), .val (.ref s0), .val (.ref s1), .val (.ref a_93), .val (.ref a_104), .val (.int (0 : Int32)), .unset, .unset, .unset] (hb hby at_153) rfl rfl ?_
              refine g_aload X_110 hx 157 (.ref a_93) (hb hby at_155) rfl rfl rfl ?_
              refine g_aload X_110 hx 159 (.ref a_104) (hb hby at_157) rfl rfl rfl ?_
              obtain ⟨_, T_159x5, L_159x5, X_159x5, ⟨rfl, rfl, e_159x5⟩, st_159x5⟩ := g_callV X_110 hx hZ  (C := "com/example/assayer/assayer/core/JsonString") (own := "com/example/assayer/assayer/core/JsonStringEqualsPinLaw") (index := 28) (y := (⟨"com/example/assayer/assayer/core/JsonString", "equals", "(Ljava/lang/Object;)Z"⟩ : MethodName)) (z := (⟨"com/example/assayer/assayer/core/JsonString", "equals", "(Ljava/lang/Object;)Z"⟩ : MethodName)) (a := a_93) (as' := [(.ref a_104)]) hown (hw _ (List.mem_of_getElem? (i := 47) rfl)) (hw _ (List.mem_of_getElem? (i := 48) rfl)) (hw _ (List.mem_of_getElem? (i := 50) rfl)) (hw _ (List.mem_of_getElem? (i := 50) rfl)) (hw _ (List.mem_of_getElem? (i := 49) rfl)) (hw _ (List.mem_of_getElem? (i := 29) rfl)) (hw _ (List.mem_of_getElem? (i := 51) rfl)) (by decide) rfl F_110_10 (rm_jeq l Z a0 hw a_93 a_104 T_110.heap h0.size O_110 cs hcs SC F_110_11 s0 s1 F_110_1 F_110_0 (fun z => nb_88_s0 (by injection z)) _ _ _ _ (bsOf (mkl kk x0 x1)) (bsOf (mkl jj y0 y1)) (bs_len (mkl_len _ _ _)) (bs_len (mkl_len _ _ _)) ⟨F_110_2, F_110_3, F_110_4, F_110_5⟩ ⟨F_110_6, F_110_7, F_110_8, F_110_9⟩) pd_jeq rfl 0 (by decide) (by decide) (by decide) (by decide) (pc := 159) (Ls := #[.val (.int q1), .val (.int q2), .val (.int q3), .val (.int q4), .val (.int q5), .val (.int kk), .val (.int jj), .val (.int x0), .val (.int x1), .val (.int y0), .val (.int y1), .val (.ref s0), .val (.ref s1), .val (.ref a_93), .val (.ref a_104), .val (.int (0 : Int32)), .unset, .unset, .unset]) (rest := []) (st := [(.ref a_104), (.ref a_93)]) (by rw [hml]; rfl) rfl (Nat.le_of_eq rfl) (hb hby at_159)
              refine st_159x5 ?_
              rw [List.append_nil] at X_159x5
              show Go p e below _ (T_159x5.setTop (mkF m 162 #[.val (.int q1), .val (.int q2), .val (.int q3), .val (.int q4), .val (.int q5), .val (.int kk), .val (.int jj), .val (.int x0), .val (.int x1), .val (.int y0), .val (.int y1), .val (.ref s0), .val (.ref s1), .val (.ref a_93), .val (.ref a_104), .val (.int (0 : Int32)), .unset, .unset, .unset] [(.int (b2i (coOf (mkl kk x0 x1) = coOf (mkl jj y0 y1) ∧ bsOf (mkl kk x0 x1) = bsOf (mkl jj y0 y1))))]))
              rw [b2i_f (fun z => heq ((same_str (mkl_ch hx0 hx1) (mkl_ch hy0 hy1)).mp z))]
              refine g_iload X_159x5 hx 164 (0 : Int32) (hb hby at_162) rfl rfl ?_
              refine g_icmpN X_159x5 hx 167 (hb hby at_164) (XT.ii_ne_f (by decide)) rfl ?_
              refine g_aload X_159x5 hx 169 (.ref a_104) (hb hby at_167) rfl rfl rfl ?_
              refine g_aload X_159x5 hx 171 (.ref a_93) (hb hby at_169) rfl rfl rfl ?_
              obtain ⟨_, T_171x5, L_171x5, X_171x5, ⟨rfl, rfl, e_171x5⟩, st_171x5⟩ := g_callV X_159x5 hx hZ  (C := "com/example/assayer/assayer/core/JsonString") (own := "com/example/assayer/assayer/core/JsonStringEqualsPinLaw") (index := 28) (y := (⟨"com/example/assayer/assayer/core/JsonString", "equals", "(Ljava/lang/Object;)Z"⟩ : MethodName)) (z := (⟨"com/example/assayer/assayer/core/JsonString", "equals", "(Ljava/lang/Object;)Z"⟩ : MethodName)) (a := a_104) (as' := [(.ref a_93)]) hown (hw _ (List.mem_of_getElem? (i := 47) rfl)) (hw _ (List.mem_of_getElem? (i := 48) rfl)) (hw _ (List.mem_of_getElem? (i := 50) rfl)) (hw _ (List.mem_of_getElem? (i := 50) rfl)) (hw _ (List.mem_of_getElem? (i := 49) rfl)) (hw _ (List.mem_of_getElem? (i := 29) rfl)) (hw _ (List.mem_of_getElem? (i := 51) rfl)) (by decide) e_159x5 F_110_11 (rm_jeq l Z a0 hw a_104 a_93 T_110.heap h0.size O_110 cs hcs SC F_110_10 s1 s0 F_110_0 F_110_1 (fun z => (Ne.symm nb_88_s0) (by injection z)) _ _ _ _ (bsOf (mkl jj y0 y1)) (bsOf (mkl kk x0 x1)) (bs_len (mkl_len _ _ _)) (bs_len (mkl_len _ _ _)) ⟨F_110_6, F_110_7, F_110_8, F_110_9⟩ ⟨F_110_2, F_110_3, F_110_4, F_110_5⟩) pd_jeq rfl 0 (by decide) (by decide) (by decide) (by decide) (pc := 171) (Ls := #[.val (.int q1), .val (.int q2), .val (.int q3), .val (.int q4), .val (.int q5), .val (.int kk), .val (.int jj), .val (.int x0), .val (.int x1), .val (.int y0), .val (.int y1), .val (.ref s0), .val (.ref s1), .val (.ref a_93), .val (.ref a_104), .val (.int (0 : Int32)), .unset, .unset, .unset]) (rest := []) (st := [(.ref a_93), (.ref a_104)]) (by rw [hml]; rfl) rfl (Nat.le_of_eq rfl) (hb hby at_171)
              refine st_171x5 ?_
              rw [List.append_nil] at X_171x5
              show Go p e below _ (T_171x5.setTop (mkF m 174 #[.val (.int q1), .val (.int q2), .val (.int q3), .val (.int q4), .val (.int q5), .val (.int kk), .val (.int jj), .val (.int x0), .val (.int x1), .val (.int y0), .val (.int y1), .val (.ref s0), .val (.ref s1), .val (.ref a_93), .val (.ref a_104), .val (.int (0 : Int32)), .unset, .unset, .unset] [(.int (b2i (coOf (mkl jj y0 y1) = coOf (mkl kk x0 x1) ∧ bsOf (mkl jj y0 y1) = bsOf (mkl kk x0 x1))))]))
              rw [b2i_f (fun z => heq (((same_str (mkl_ch hy0 hy1) (mkl_ch hx0 hx1)).mp z).symm))]
              refine g_iload X_171x5 hx 176 (0 : Int32) (hb hby at_174) rfl rfl ?_
              refine g_icmpN X_171x5 hx 179 (hb hby at_176) (XT.ii_ne_f (by decide)) rfl ?_
              refine g_iconst X_171x5 hx 180 (1 : Int32) (hb hby at_179) rfl rfl ?_
              refine g_goto X_171x5 hx 184 (hb hby at_180) (by decide) (by decide) ?_
              refine g_istore X_171x5 hx 186 #[.val (.int q1), .val (.int q2), .val (.int q3), .val (.int q4), .val (.int q5), .val (.int kk), .val (.int jj), .val (.int x0), .val (.int x1), .val (.int y0), .val (.int y1), .val (.ref s0), .val (.ref s1), .val (.ref a_93), .val (.ref a_104), .val (.int (0 : Int32)), .val (.int (1 : Int32)), .unset, .unset] (hb hby at_184) rfl rfl ?_
              refine g_iload X_171x5 hx 188 q5 (hb hby at_186) rfl rfl ?_
              refine g_iconst X_171x5 hx 189 (3 : Int32) (hb hby at_188) rfl rfl ?_
              refine g_iand X_171x5 hx 190 (hb hby at_189) rfl ?_
              refine g_istore X_171x5 hx 192 #[.val (.int q1), .val (.int q2), .val (.int q3), .val (.int q4), .val (.int q5), .val (.int kk), .val (.int jj), .val (.int x0), .val (.int x1), .val (.int y0), .val (.int y1), .val (.ref s0), .val (.ref s1), .val (.ref a_93), .val (.ref a_104), .val (.int (0 : Int32)), .val (.int (1 : Int32)), .val (.int (q5 &&& (3 : Int32))), .unset] (hb hby at_190) rfl rfl ?_
              refine g_iload X_171x5 hx 194 (q5 &&& (3 : Int32)) (hb hby at_192) rfl rfl ?_
              refine g_iconst X_171x5 hx 195 (1 : Int32) (hb hby at_194) rfl rfl ?_
              by_cases c195 : (q5 &&& (3 : Int32)) = (1 : Int32)
              ·
                refine g_icmpN X_171x5 hx 198 (hb hby at_195) (XT.ii_ne_f c195) rfl ?_
                refine g_iload X_171x5 hx 200 (1 : Int32) (hb hby at_198) rfl rfl ?_
                refine g_ifN X_171x5 hx 203 (hb hby at_200) (XT.i0_eq_f (by decide)) rfl ?_
                refine g_aload X_171x5 hx 205 (.ref a_93) (hb hby at_203) rfl rfl rfl ?_
                refine g_aconst_null X_171x5 hx 206 (hb hby at_205) rfl ?_
                obtain ⟨_, T_206x5, L_206x5, X_206x5, ⟨rfl, rfl, e_206x5⟩, st_206x5⟩ := g_callV X_171x5 hx hZ  (C := "com/example/assayer/assayer/core/JsonString") (own := "com/example/assayer/assayer/core/JsonStringEqualsPinLaw") (index := 28) (y := (⟨"com/example/assayer/assayer/core/JsonString", "equals", "(Ljava/lang/Object;)Z"⟩ : MethodName)) (z := (⟨"com/example/assayer/assayer/core/JsonString", "equals", "(Ljava/lang/Object;)Z"⟩ : MethodName)) (a := a_93) (as' := [.null]) hown (hw _ (List.mem_of_getElem? (i := 47) rfl)) (hw _ (List.mem_of_getElem? (i := 48) rfl)) (hw _ (List.mem_of_getElem? (i := 50) rfl)) (hw _ (List.mem_of_getElem? (i := 50) rfl)) (hw _ (List.mem_of_getElem? (i := 49) rfl)) (hw _ (List.mem_of_getElem? (i := 29) rfl)) (hw _ (List.mem_of_getElem? (i := 51) rfl)) (by decide) e_171x5 F_110_10 (rm_jen l Z a0 hw a_93 T_110.heap) pd_jen rfl 0 (by decide) (by decide) (by decide) (by decide) (pc := 206) (Ls := #[.val (.int q1), .val (.int q2), .val (.int q3), .val (.int q4), .val (.int q5), .val (.int kk), .val (.int jj), .val (.int x0), .val (.int x1), .val (.int y0), .val (.int y1), .val (.ref s0), .val (.ref s1), .val (.ref a_93), .val (.ref a_104), .val (.int (0 : Int32)), .val (.int (1 : Int32)), .val (.int (q5 &&& (3 : Int32))), .unset]) (rest := []) (st := [.null, (.ref a_93)]) (by rw [hml]; rfl) rfl (Nat.le_of_eq rfl) (hb hby at_206)
                refine st_206x5 ?_
                rw [List.append_nil] at X_206x5
                show Go p e below _ (T_206x5.setTop (mkF m 209 #[.val (.int q1), .val (.int q2), .val (.int q3), .val (.int q4), .val (.int q5), .val (.int kk), .val (.int jj), .val (.int x0), .val (.int x1), .val (.int y0), .val (.int y1), .val (.ref s0), .val (.ref s1), .val (.ref a_93), .val (.ref a_104), .val (.int (0 : Int32)), .val (.int (1 : Int32)), .val (.int (q5 &&& (3 : Int32))), .unset] [(.int (0 : Int32))]))
                refine g_ifN X_206x5 hx 212 (hb hby at_209) (XT.i0_ne_f (by decide)) rfl ?_
                refine g_iconst X_206x5 hx 213 (1 : Int32) (hb hby at_212) rfl rfl ?_
                refine g_goto X_206x5 hx 217 (hb hby at_213) (by decide) (by decide) ?_
                exact GoW.ret X_206x5 hS (by rw [e_206x5]; exact (Nat.le_refl _)) hx hlk Bd.returns (hb hby at_217) rfl (Or.inl ⟨rfl, by decide, _, rfl⟩) (by decide) (by decide) ⟨rfl, N_110⟩
              ·
                refine g_icmpY X_171x5 hx 218 (hb hby at_195) (XT.ii_ne_t c195) (by decide) (by decide) ?_
                refine g_iload X_171x5 hx 220 (q5 &&& (3 : Int32)) (hb hby at_218) rfl rfl ?_
                refine g_iconst X_171x5 hx 221 (2 : Int32) (hb hby at_220) rfl rfl ?_
                by_cases c221 : (q5 &&& (3 : Int32)) = (2 : Int32)
                ·
                  refine g_icmpN X_171x5 hx 224 (hb hby at_221) (XT.ii_ne_f c221) rfl ?_
                  refine g_iload X_171x5 hx 226 (1 : Int32) (hb hby at_224) rfl rfl ?_
                  refine g_ifN X_171x5 hx 229 (hb hby at_226) (XT.i0_eq_f (by decide)) rfl ?_
                  refine g_aload X_171x5 hx 231 (.ref a_93) (hb hby at_229) rfl rfl rfl ?_
                  refine g_aload X_171x5 hx 233 (.ref a_93) (hb hby at_231) rfl rfl rfl ?_
                  obtain ⟨_, T_233x5, L_233x5, X_233x5, ⟨rfl, rfl, e_233x5⟩, st_233x5⟩ := g_callV X_171x5 hx hZ  (C := "com/example/assayer/assayer/core/JsonString") (own := "com/example/assayer/assayer/core/JsonStringEqualsPinLaw") (index := 28) (y := (⟨"com/example/assayer/assayer/core/JsonString", "equals", "(Ljava/lang/Object;)Z"⟩ : MethodName)) (z := (⟨"com/example/assayer/assayer/core/JsonString", "equals", "(Ljava/lang/Object;)Z"⟩ : MethodName)) (a := a_93) (as' := [(.ref a_93)]) hown (hw _ (List.mem_of_getElem? (i := 47) rfl)) (hw _ (List.mem_of_getElem? (i := 48) rfl)) (hw _ (List.mem_of_getElem? (i := 50) rfl)) (hw _ (List.mem_of_getElem? (i := 50) rfl)) (hw _ (List.mem_of_getElem? (i := 49) rfl)) (hw _ (List.mem_of_getElem? (i := 29) rfl)) (hw _ (List.mem_of_getElem? (i := 51) rfl)) (by decide) e_171x5 F_110_10 (rm_jes l Z a0 hw a_93 T_110.heap F_110_10 s0 F_110_1 F_110_2) pd_jes rfl 0 (by decide) (by decide) (by decide) (by decide) (pc := 233) (Ls := #[.val (.int q1), .val (.int q2), .val (.int q3), .val (.int q4), .val (.int q5), .val (.int kk), .val (.int jj), .val (.int x0), .val (.int x1), .val (.int y0), .val (.int y1), .val (.ref s0), .val (.ref s1), .val (.ref a_93), .val (.ref a_104), .val (.int (0 : Int32)), .val (.int (1 : Int32)), .val (.int (q5 &&& (3 : Int32))), .unset]) (rest := []) (st := [(.ref a_93), (.ref a_93)]) (by rw [hml]; rfl) rfl (Nat.le_of_eq rfl) (hb hby at_233)
                  refine st_233x5 ?_
                  rw [List.append_nil] at X_233x5
                  show Go p e below _ (T_233x5.setTop (mkF m 236 #[.val (.int q1), .val (.int q2), .val (.int q3), .val (.int q4), .val (.int q5), .val (.int kk), .val (.int jj), .val (.int x0), .val (.int x1), .val (.int y0), .val (.int y1), .val (.ref s0), .val (.ref s1), .val (.ref a_93), .val (.ref a_104), .val (.int (0 : Int32)), .val (.int (1 : Int32)), .val (.int (q5 &&& (3 : Int32))), .unset] [(.int (1 : Int32))]))
                  refine g_ifN X_233x5 hx 239 (hb hby at_236) (XT.i0_eq_f (by decide)) rfl ?_
                  refine g_iconst X_233x5 hx 240 (1 : Int32) (hb hby at_239) rfl rfl ?_
                  refine g_goto X_233x5 hx 244 (hb hby at_240) (by decide) (by decide) ?_
                  exact GoW.ret X_233x5 hS (by rw [e_233x5]; exact (Nat.le_refl _)) hx hlk Bd.returns (hb hby at_244) rfl (Or.inl ⟨rfl, by decide, _, rfl⟩) (by decide) (by decide) ⟨rfl, N_110⟩
                ·
                  refine g_icmpY X_171x5 hx 245 (hb hby at_221) (XT.ii_ne_t c221) (by decide) (by decide) ?_
                  refine g_iload X_171x5 hx 247 (q5 &&& (3 : Int32)) (hb hby at_245) rfl rfl ?_
                  refine g_iconst X_171x5 hx 248 (3 : Int32) (hb hby at_247) rfl rfl ?_
                  by_cases c248 : (q5 &&& (3 : Int32)) = (3 : Int32)
                  ·
                    refine g_icmpN X_171x5 hx 251 (hb hby at_248) (XT.ii_ne_f c248) rfl ?_
                    refine g_aload X_171x5 hx 253 (.ref s0) (hb hby at_251) rfl rfl rfl ?_
                    refine g_astore X_171x5 hx 255 #[.val (.int q1), .val (.int q2), .val (.int q3), .val (.int q4), .val (.int q5), .val (.int kk), .val (.int jj), .val (.int x0), .val (.int x1), .val (.int y0), .val (.int y1), .val (.ref s0), .val (.ref s1), .val (.ref a_93), .val (.ref a_104), .val (.int (0 : Int32)), .val (.int (1 : Int32)), .val (.int (q5 &&& (3 : Int32))), .val (.ref s0)] (hb hby at_253) rfl rfl rfl ?_
                    refine g_iload X_171x5 hx 257 (1 : Int32) (hb hby at_255) rfl rfl ?_
                    refine g_ifN X_171x5 hx 260 (hb hby at_257) (XT.i0_eq_f (by decide)) rfl ?_
                    refine g_aload X_171x5 hx 262 (.ref a_93) (hb hby at_260) rfl rfl rfl ?_
                    refine g_aload X_171x5 hx 264 (.ref s0) (hb hby at_262) rfl rfl rfl ?_
                    obtain ⟨_, T_264x5, L_264x5, X_264x5, ⟨rfl, rfl, e_264x5⟩, st_264x5⟩ := g_callV X_171x5 hx hZ  (C := "com/example/assayer/assayer/core/JsonString") (own := "com/example/assayer/assayer/core/JsonStringEqualsPinLaw") (index := 28) (y := (⟨"com/example/assayer/assayer/core/JsonString", "equals", "(Ljava/lang/Object;)Z"⟩ : MethodName)) (z := (⟨"com/example/assayer/assayer/core/JsonString", "equals", "(Ljava/lang/Object;)Z"⟩ : MethodName)) (a := a_93) (as' := [(.ref s0)]) hown (hw _ (List.mem_of_getElem? (i := 47) rfl)) (hw _ (List.mem_of_getElem? (i := 48) rfl)) (hw _ (List.mem_of_getElem? (i := 50) rfl)) (hw _ (List.mem_of_getElem? (i := 50) rfl)) (hw _ (List.mem_of_getElem? (i := 49) rfl)) (hw _ (List.mem_of_getElem? (i := 29) rfl)) (hw _ (List.mem_of_getElem? (i := 51) rfl)) (by decide) e_171x5 F_110_10 (rm_jep l Z a0 hw a_93 s0 T_110.heap F_110_2) pd_jep rfl 0 (by decide) (by decide) (by decide) (by decide) (pc := 264) (Ls := #[.val (.int q1), .val (.int q2), .val (.int q3), .val (.int q4), .val (.int q5), .val (.int kk), .val (.int jj), .val (.int x0), .val (.int x1), .val (.int y0), .val (.int y1), .val (.ref s0), .val (.ref s1), .val (.ref a_93), .val (.ref a_104), .val (.int (0 : Int32)), .val (.int (1 : Int32)), .val (.int (q5 &&& (3 : Int32))), .val (.ref s0)]) (rest := []) (st := [(.ref s0), (.ref a_93)]) (by rw [hml]; rfl) rfl (Nat.le_of_eq rfl) (hb hby at_264)
                    refine st_264x5 ?_
                    rw [List.append_nil] at X_264x5
                    show Go p e below _ (T_264x5.setTop (mkF m 267 #[.val (.int q1), .val (.int q2), .val (.int q3), .val (.int q4), .val (.int q5), .val (.int kk), .val (.int jj), .val (.int x0), .val (.int x1), .val (.int y0), .val (.int y1), .val (.ref s0), .val (.ref s1), .val (.ref a_93), .val (.ref a_104), .val (.int (0 : Int32)), .val (.int (1 : Int32)), .val (.int (q5 &&& (3 : Int32))), .val (.ref s0)] [(.int (0 : Int32))]))
                    refine g_ifN X_264x5 hx 270 (hb hby at_267) (XT.i0_ne_f (by decide)) rfl ?_
                    refine g_iconst X_264x5 hx 271 (1 : Int32) (hb hby at_270) rfl rfl ?_
                    refine g_goto X_264x5 hx 275 (hb hby at_271) (by decide) (by decide) ?_
                    exact GoW.ret X_264x5 hS (by rw [e_264x5]; exact (Nat.le_refl _)) hx hlk Bd.returns (hb hby at_275) rfl (Or.inl ⟨rfl, by decide, _, rfl⟩) (by decide) (by decide) ⟨rfl, N_110⟩
                  ·
                    refine g_icmpY X_171x5 hx 276 (hb hby at_248) (XT.ii_ne_t c248) (by decide) (by decide) ?_
                    refine g_iload X_171x5 hx 278 (1 : Int32) (hb hby at_276) rfl rfl ?_
                    exact GoW.ret X_171x5 hS (by rw [e_171x5]; exact (Nat.le_refl _)) hx hlk Bd.returns (hb hby at_278) rfl (Or.inl ⟨rfl, by decide, _, rfl⟩) (by decide) (by decide) ⟨rfl, N_110⟩
        ·
          refine g_icmpY X_110 hx 152 (hb hby at_132) (XT.ii_ne_t c132) (by decide) (by decide) ?_
          refine g_iconst X_110 hx 153 (0 : Int32) (hb hby at_152) rfl rfl ?_
          have heq : ¬ mkl kk x0 x1 = mkl jj y0 y1 := fun q => by
            have z := (own_exp hkk hjj).mp q
            exact c132 (z.2.1 c125)
          refine g_istore X_110 hx 155 #[.val (.int q1), .val (.int q2), .val (.int q3), .val (.int q4), .val (.int q5), .val (.int kk), .val (.int jj), .val (.int x0), .val (.int x1), .val (.int y0), .val (.int y1), .val (.ref s0), .val (.ref s1), .val (.ref a_93), .val (.ref a_104), .val (.int (0 : Int32)), .unset, .unset, .unset] (hb hby at_153) rfl rfl ?_
          refine g_aload X_110 hx 157 (.ref a_93) (hb hby at_155) rfl rfl rfl ?_
          refine g_aload X_110 hx 159 (.ref a_104) (hb hby at_157) rfl rfl rfl ?_
          obtain ⟨_, T_159x6, L_159x6, X_159x6, ⟨rfl, rfl, e_159x6⟩, st_159x6⟩ := g_callV X_110 hx hZ  (C := "com/example/assayer/assayer/core/JsonString") (own := "com/example/assayer/assayer/core/JsonStringEqualsPinLaw") (index := 28) (y := (⟨"com/example/assayer/assayer/core/JsonString", "equals", "(Ljava/lang/Object;)Z"⟩ : MethodName)) (z := (⟨"com/example/assayer/assayer/core/JsonString", "equals", "(Ljava/lang/Object;)Z"⟩ : MethodName)) (a := a_93) (as' := [(.ref a_104)]) hown (hw _ (List.mem_of_getElem? (i := 47) rfl)) (hw _ (List.mem_of_getElem? (i := 48) rfl)) (hw _ (List.mem_of_getElem? (i := 50) rfl)) (hw _ (List.mem_of_getElem? (i := 50) rfl)) (hw _ (List.mem_of_getElem? (i := 49) rfl)) (hw _ (List.mem_of_getElem? (i := 29) rfl)) (hw _ (List.mem_of_getElem? (i := 51) rfl)) (by decide) rfl F_110_10 (rm_jeq l Z a0 hw a_93 a_104 T_110.heap h0.size O_110 cs hcs SC F_110_11 s0 s1 F_110_1 F_110_0 (fun z => nb_88_s0 (by injection z)) _ _ _ _ (bsOf (mkl kk x0 x1)) (bsOf (mkl jj y0 y1)) (bs_len (mkl_len _ _ _)) (bs_len (mkl_len _ _ _)) ⟨F_110_2, F_110_3, F_110_4, F_110_5⟩ ⟨F_110_6, F_110_7, F_110_8, F_110_9⟩) pd_jeq rfl 0 (by decide) (by decide) (by decide) (by decide) (pc := 159) (Ls := #[.val (.int q1), .val (.int q2), .val (.int q3), .val (.int q4), .val (.int q5), .val (.int kk), .val (.int jj), .val (.int x0), .val (.int x1), .val (.int y0), .val (.int y1), .val (.ref s0), .val (.ref s1), .val (.ref a_93), .val (.ref a_104), .val (.int (0 : Int32)), .unset, .unset, .unset]) (rest := []) (st := [(.ref a_104), (.ref a_93)]) (by rw [hml]; rfl) rfl (Nat.le_of_eq rfl) (hb hby at_159)
          refine st_159x6 ?_
          rw [List.append_nil] at X_159x6
          show Go p e below _ (T_159x6.setTop (mkF m 162 #[.val (.int q1), .val (.int q2), .val (.int q3), .val (.int q4), .val (.int q5), .val (.int kk), .val (.int jj), .val (.int x0), .val (.int x1), .val (.int y0), .val (.int y1), .val (.ref s0), .val (.ref s1), .val (.ref a_93), .val (.ref a_104), .val (.int (0 : Int32)), .unset, .unset, .unset] [(.int (b2i (coOf (mkl kk x0 x1) = coOf (mkl jj y0 y1) ∧ bsOf (mkl kk x0 x1) = bsOf (mkl jj y0 y1))))]))
          rw [b2i_f (fun z => heq ((same_str (mkl_ch hx0 hx1) (mkl_ch hy0 hy1)).mp z))]
          refine g_iload X_159x6 hx 164 (0 : Int32) (hb hby at_162) rfl rfl ?_
          refine g_icmpN X_159x6 hx 167 (hb hby at_164) (XT.ii_ne_f (by decide)) rfl ?_
          refine g_aload X_159x6 hx 169 (.ref a_104) (hb hby at_167) rfl rfl rfl ?_
          refine g_aload X_159x6 hx 171 (.ref a_93) (hb hby at_169) rfl rfl rfl ?_
          obtain ⟨_, T_171x6, L_171x6, X_171x6, ⟨rfl, rfl, e_171x6⟩, st_171x6⟩ := g_callV X_159x6 hx hZ  (C := "com/example/assayer/assayer/core/JsonString") (own := "com/example/assayer/assayer/core/JsonStringEqualsPinLaw") (index := 28) (y := (⟨"com/example/assayer/assayer/core/JsonString", "equals", "(Ljava/lang/Object;)Z"⟩ : MethodName)) (z := (⟨"com/example/assayer/assayer/core/JsonString", "equals", "(Ljava/lang/Object;)Z"⟩ : MethodName)) (a := a_104) (as' := [(.ref a_93)]) hown (hw _ (List.mem_of_getElem? (i := 47) rfl)) (hw _ (List.mem_of_getElem? (i := 48) rfl)) (hw _ (List.mem_of_getElem? (i := 50) rfl)) (hw _ (List.mem_of_getElem? (i := 50) rfl)) (hw _ (List.mem_of_getElem? (i := 49) rfl)) (hw _ (List.mem_of_getElem? (i := 29) rfl)) (hw _ (List.mem_of_getElem? (i := 51) rfl)) (by decide) e_159x6 F_110_11 (rm_jeq l Z a0 hw a_104 a_93 T_110.heap h0.size O_110 cs hcs SC F_110_10 s1 s0 F_110_0 F_110_1 (fun z => (Ne.symm nb_88_s0) (by injection z)) _ _ _ _ (bsOf (mkl jj y0 y1)) (bsOf (mkl kk x0 x1)) (bs_len (mkl_len _ _ _)) (bs_len (mkl_len _ _ _)) ⟨F_110_6, F_110_7, F_110_8, F_110_9⟩ ⟨F_110_2, F_110_3, F_110_4, F_110_5⟩) pd_jeq rfl 0 (by decide) (by decide) (by decide) (by decide) (pc := 171) (Ls := #[.val (.int q1), .val (.int q2), .val (.int q3), .val (.int q4), .val (.int q5), .val (.int kk), .val (.int jj), .val (.int x0), .val (.int x1), .val (.int y0), .val (.int y1), .val (.ref s0), .val (.ref s1), .val (.ref a_93), .val (.ref a_104), .val (.int (0 : Int32)), .unset, .unset, .unset]) (rest := []) (st := [(.ref a_93), (.ref a_104)]) (by rw [hml]; rfl) rfl (Nat.le_of_eq rfl) (hb hby at_171)
          refine st_171x6 ?_
          rw [List.append_nil] at X_171x6
          show Go p e below _ (T_171x6.setTop (mkF m 174 #[.val (.int q1), .val (.int q2), .val (.int q3), .val (.int q4), .val (.int q5), .val (.int kk), .val (.int jj), .val (.int x0), .val (.int x1), .val (.int y0), .val (.int y1), .val (.ref s0), .val (.ref s1), .val (.ref a_93), .val (.ref a_104), .val (.int (0 : Int32)), .unset, .unset, .unset] [(.int (b2i (coOf (mkl jj y0 y1) = coOf (mkl kk x0 x1) ∧ bsOf (mkl jj y0 y1) = bsOf (mkl kk x0 x1))))]))
          rw [b2i_f (fun z => heq (((same_str (mkl_ch hy0 hy1) (mkl_ch hx0 hx1)).mp z).symm))]
          refine g_iload X_171x6 hx 176 (0 : Int32) (hb hby at_174) rfl rfl ?_
          refine g_icmpN X_171x6 hx 179 (hb hby at_176) (XT.ii_ne_f (by decide)) rfl ?_
          refine g_iconst X_171x6 hx 180 (1 : Int32) (hb hby at_179) rfl rfl ?_
          refine g_goto X_171x6 hx 184 (hb hby at_180) (by decide) (by decide) ?_
          refine g_istore X_171x6 hx 186 #[.val (.int q1), .val (.int q2), .val (.int q3), .val (.int q4), .val (.int q5), .val (.int kk), .val (.int jj), .val (.int x0), .val (.int x1), .val (.int y0), .val (.int y1), .val (.ref s0), .val (.ref s1), .val (.ref a_93), .val (.ref a_104), .val (.int (0 : Int32)), .val (.int (1 : Int32)), .unset, .unset] (hb hby at_184) rfl rfl ?_
          refine g_iload X_171x6 hx 188 q5 (hb hby at_186) rfl rfl ?_
          refine g_iconst X_171x6 hx 189 (3 : Int32) (hb hby at_188) rfl rfl ?_
          refine g_iand X_171x6 hx 190 (hb hby at_189) rfl ?_
          refine g_istore X_171x6 hx 192 #[.val (.int q1), .val (.int q2), .val (.int q3), .val (.int q4), .val (.int q5), .val (.int kk), .val (.int jj), .val (.int x0), .val (.int x1), .val (.int y0), .val (.int y1), .val (.ref s0), .val (.ref s1), .val (.ref a_93), .val (.ref a_104), .val (.int (0 : Int32)), .val (.int (1 : Int32)), .val (.int (q5 &&& (3 : Int32))), .unset] (hb hby at_190) rfl rfl ?_
          refine g_iload X_171x6 hx 194 (q5 &&& (3 : Int32)) (hb hby at_192) rfl rfl ?_
          refine g_iconst X_171x6 hx 195 (1 : Int32) (hb hby at_194) rfl rfl ?_
          by_cases c195 : (q5 &&& (3 : Int32)) = (1 : Int32)
          ·
            refine g_icmpN X_171x6 hx 198 (hb hby at_195) (XT.ii_ne_f c195) rfl ?_
            refine g_iload X_171x6 hx 200 (1 : Int32) (hb hby at_198) rfl rfl ?_
            refine g_ifN X_171x6 hx 203 (hb hby at_200) (XT.i0_eq_f (by decide)) rfl ?_
            refine g_aload X_171x6 hx 205 (.ref a_93) (hb hby at_203) rfl rfl rfl ?_
            refine g_aconst_null X_171x6 hx 206 (hb hby at_205) rfl ?_
            obtain ⟨_, T_206x6, L_206x6, X_206x6, ⟨rfl, rfl, e_206x6⟩, st_206x6⟩ := g_callV X_171x6 hx hZ  (C := "com/example/assayer/assayer/core/JsonString") (own := "com/example/assayer/assayer/core/JsonStringEqualsPinLaw") (index := 28) (y := (⟨"com/example/assayer/assayer/core/JsonString", "equals", "(Ljava/lang/Object;)Z"⟩ : MethodName)) (z := (⟨"com/example/assayer/assayer/core/JsonString", "equals", "(Ljava/lang/Object;)Z"⟩ : MethodName)) (a := a_93) (as' := [.null]) hown (hw _ (List.mem_of_getElem? (i := 47) rfl)) (hw _ (List.mem_of_getElem? (i := 48) rfl)) (hw _ (List.mem_of_getElem? (i := 50) rfl)) (hw _ (List.mem_of_getElem? (i := 50) rfl)) (hw _ (List.mem_of_getElem? (i := 49) rfl)) (hw _ (List.mem_of_getElem? (i := 29) rfl)) (hw _ (List.mem_of_getElem? (i := 51) rfl)) (by decide) e_171x6 F_110_10 (rm_jen l Z a0 hw a_93 T_110.heap) pd_jen rfl 0 (by decide) (by decide) (by decide) (by decide) (pc := 206) (Ls := #[.val (.int q1), .val (.int q2), .val (.int q3), .val (.int q4), .val (.int q5), .val (.int kk), .val (.int jj), .val (.int x0), .val (.int x1), .val (.int y0), .val (.int y1), .val (.ref s0), .val (.ref s1), .val (.ref a_93), .val (.ref a_104), .val (.int (0 : Int32)), .val (.int (1 : Int32)), .val (.int (q5 &&& (3 : Int32))), .unset]) (rest := []) (st := [.null, (.ref a_93)]) (by rw [hml]; rfl) rfl (Nat.le_of_eq rfl) (hb hby at_206)
            refine st_206x6 ?_
            rw [List.append_nil] at X_206x6
            show Go p e below _ (T_206x6.setTop (mkF m 209 #[.val (.int q1), .val (.int q2), .val (.int q3), .val (.int q4), .val (.int q5), .val (.int kk), .val (.int jj), .val (.int x0), .val (.int x1), .val (.int y0), .val (.int y1), .val (.ref s0), .val (.ref s1), .val (.ref a_93), .val (.ref a_104), .val (.int (0 : Int32)), .val (.int (1 : Int32)), .val (.int (q5 &&& (3 : Int32))), .unset] [(.int (0 : Int32))]))
            refine g_ifN X_206x6 hx 212 (hb hby at_209) (XT.i0_ne_f (by decide)) rfl ?_
            refine g_iconst X_206x6 hx 213 (1 : Int32) (hb hby at_212) rfl rfl ?_
            refine g_goto X_206x6 hx 217 (hb hby at_213) (by decide) (by decide) ?_
            exact GoW.ret X_206x6 hS (by rw [e_206x6]; exact (Nat.le_refl _)) hx hlk Bd.returns (hb hby at_217) rfl (Or.inl ⟨rfl, by decide, _, rfl⟩) (by decide) (by decide) ⟨rfl, N_110⟩
          ·
            refine g_icmpY X_171x6 hx 218 (hb hby at_195) (XT.ii_ne_t c195) (by decide) (by decide) ?_
            refine g_iload X_171x6 hx 220 (q5 &&& (3 : Int32)) (hb hby at_218) rfl rfl ?_
            refine g_iconst X_171x6 hx 221 (2 : Int32) (hb hby at_220) rfl rfl ?_
            by_cases c221 : (q5 &&& (3 : Int32)) = (2 : Int32)
            ·
              refine g_icmpN X_171x6 hx 224 (hb hby at_221) (XT.ii_ne_f c221) rfl ?_
              refine g_iload X_171x6 hx 226 (1 : Int32) (hb hby at_224) rfl rfl ?_
              refine g_ifN X_171x6 hx 229 (hb hby at_226) (XT.i0_eq_f (by decide)) rfl ?_
              refine g_aload X_171x6 hx 231 (.ref a_93) (hb hby at_229) rfl rfl rfl ?_
              refine g_aload X_171x6 hx 233 (.ref a_93) (hb hby at_231) rfl rfl rfl ?_
              obtain ⟨_, T_233x6, L_233x6, X_233x6, ⟨rfl, rfl, e_233x6⟩, st_233x6⟩ := g_callV X_171x6 hx hZ  (C := "com/example/assayer/assayer/core/JsonString") (own := "com/example/assayer/assayer/core/JsonStringEqualsPinLaw") (index := 28) (y := (⟨"com/example/assayer/assayer/core/JsonString", "equals", "(Ljava/lang/Object;)Z"⟩ : MethodName)) (z := (⟨"com/example/assayer/assayer/core/JsonString", "equals", "(Ljava/lang/Object;)Z"⟩ : MethodName)) (a := a_93) (as' := [(.ref a_93)]) hown (hw _ (List.mem_of_getElem? (i := 47) rfl)) (hw _ (List.mem_of_getElem? (i := 48) rfl)) (hw _ (List.mem_of_getElem? (i := 50) rfl)) (hw _ (List.mem_of_getElem? (i := 50) rfl)) (hw _ (List.mem_of_getElem? (i := 49) rfl)) (hw _ (List.mem_of_getElem? (i := 29) rfl)) (hw _ (List.mem_of_getElem? (i := 51) rfl)) (by decide) e_171x6 F_110_10 (rm_jes l Z a0 hw a_93 T_110.heap F_110_10 s0 F_110_1 F_110_2) pd_jes rfl 0 (by decide) (by decide) (by decide) (by decide) (pc := 233) (Ls := #[.val (.int q1), .val (.int q2), .val (.int q3), .val (.int q4), .val (.int q5), .val (.int kk), .val (.int jj), .val (.int x0), .val (.int x1), .val (.int y0), .val (.int y1), .val (.ref s0), .val (.ref s1), .val (.ref a_93), .val (.ref a_104), .val (.int (0 : Int32)), .val (.int (1 : Int32)), .val (.int (q5 &&& (3 : Int32))), .unset]) (rest := []) (st := [(.ref a_93), (.ref a_93)]) (by rw [hml]; rfl) rfl (Nat.le_of_eq rfl) (hb hby at_233)
              refine st_233x6 ?_
              rw [List.append_nil] at X_233x6
              show Go p e below _ (T_233x6.setTop (mkF m 236 #[.val (.int q1), .val (.int q2), .val (.int q3), .val (.int q4), .val (.int q5), .val (.int kk), .val (.int jj), .val (.int x0), .val (.int x1), .val (.int y0), .val (.int y1), .val (.ref s0), .val (.ref s1), .val (.ref a_93), .val (.ref a_104), .val (.int (0 : Int32)), .val (.int (1 : Int32)), .val (.int (q5 &&& (3 : Int32))), .unset] [(.int (1 : Int32))]))
              refine g_ifN X_233x6 hx 239 (hb hby at_236) (XT.i0_eq_f (by decide)) rfl ?_
              refine g_iconst X_233x6 hx 240 (1 : Int32) (hb hby at_239) rfl rfl ?_
              refine g_goto X_233x6 hx 244 (hb hby at_240) (by decide) (by decide) ?_
              exact GoW.ret X_233x6 hS (by rw [e_233x6]; exact (Nat.le_refl _)) hx hlk Bd.returns (hb hby at_244) rfl (Or.inl ⟨rfl, by decide, _, rfl⟩) (by decide) (by decide) ⟨rfl, N_110⟩
            ·
              refine g_icmpY X_171x6 hx 245 (hb hby at_221) (XT.ii_ne_t c221) (by decide) (by decide) ?_
              refine g_iload X_171x6 hx 247 (q5 &&& (3 : Int32)) (hb hby at_245) rfl rfl ?_
              refine g_iconst X_171x6 hx 248 (3 : Int32) (hb hby at_247) rfl rfl ?_
              by_cases c248 : (q5 &&& (3 : Int32)) = (3 : Int32)
              ·
                refine g_icmpN X_171x6 hx 251 (hb hby at_248) (XT.ii_ne_f c248) rfl ?_
                refine g_aload X_171x6 hx 253 (.ref s0) (hb hby at_251) rfl rfl rfl ?_
                refine g_astore X_171x6 hx 255 #[.val (.int q1), .val (.int q2), .val (.int q3), .val (.int q4), .val (.int q5), .val (.int kk), .val (.int jj), .val (.int x0), .val (.int x1), .val (.int y0), .val (.int y1), .val (.ref s0), .val (.ref s1), .val (.ref a_93), .val (.ref a_104), .val (.int (0 : Int32)), .val (.int (1 : Int32)), .val (.int (q5 &&& (3 : Int32))), .val (.ref s0)] (hb hby at_253) rfl rfl rfl ?_
                refine g_iload X_171x6 hx 257 (1 : Int32) (hb hby at_255) rfl rfl ?_
                refine g_ifN X_171x6 hx 260 (hb hby at_257) (XT.i0_eq_f (by decide)) rfl ?_
                refine g_aload X_171x6 hx 262 (.ref a_93) (hb hby at_260) rfl rfl rfl ?_
                refine g_aload X_171x6 hx 264 (.ref s0) (hb hby at_262) rfl rfl rfl ?_
                obtain ⟨_, T_264x6, L_264x6, X_264x6, ⟨rfl, rfl, e_264x6⟩, st_264x6⟩ := g_callV X_171x6 hx hZ  (C := "com/example/assayer/assayer/core/JsonString") (own := "com/example/assayer/assayer/core/JsonStringEqualsPinLaw") (index := 28) (y := (⟨"com/example/assayer/assayer/core/JsonString", "equals", "(Ljava/lang/Object;)Z"⟩ : MethodName)) (z := (⟨"com/example/assayer/assayer/core/JsonString", "equals", "(Ljava/lang/Object;)Z"⟩ : MethodName)) (a := a_93) (as' := [(.ref s0)]) hown (hw _ (List.mem_of_getElem? (i := 47) rfl)) (hw _ (List.mem_of_getElem? (i := 48) rfl)) (hw _ (List.mem_of_getElem? (i := 50) rfl)) (hw _ (List.mem_of_getElem? (i := 50) rfl)) (hw _ (List.mem_of_getElem? (i := 49) rfl)) (hw _ (List.mem_of_getElem? (i := 29) rfl)) (hw _ (List.mem_of_getElem? (i := 51) rfl)) (by decide) e_171x6 F_110_10 (rm_jep l Z a0 hw a_93 s0 T_110.heap F_110_2) pd_jep rfl 0 (by decide) (by decide) (by decide) (by decide) (pc := 264) (Ls := #[.val (.int q1), .val (.int q2), .val (.int q3), .val (.int q4), .val (.int q5), .val (.int kk), .val (.int jj), .val (.int x0), .val (.int x1), .val (.int y0), .val (.int y1), .val (.ref s0), .val (.ref s1), .val (.ref a_93), .val (.ref a_104), .val (.int (0 : Int32)), .val (.int (1 : Int32)), .val (.int (q5 &&& (3 : Int32))), .val (.ref s0)]) (rest := []) (st := [(.ref s0), (.ref a_93)]) (by rw [hml]; rfl) rfl (Nat.le_of_eq rfl) (hb hby at_264)
                refine st_264x6 ?_
                rw [List.append_nil] at X_264x6
                show Go p e below _ (T_264x6.setTop (mkF m 267 #[.val (.int q1), .val (.int q2), .val (.int q3), .val (.int q4), .val (.int q5), .val (.int kk), .val (.int jj), .val (.int x0), .val (.int x1), .val (.int y0), .val (.int y1), .val (.ref s0), .val (.ref s1), .val (.ref a_93), .val (.ref a_104), .val (.int (0 : Int32)), .val (.int (1 : Int32)), .val (.int (q5 &&& (3 : Int32))), .val (.ref s0)] [(.int (0 : Int32))]))
                refine g_ifN X_264x6 hx 270 (hb hby at_267) (XT.i0_ne_f (by decide)) rfl ?_
                refine g_iconst X_264x6 hx 271 (1 : Int32) (hb hby at_270) rfl rfl ?_
                refine g_goto X_264x6 hx 275 (hb hby at_271) (by decide) (by decide) ?_
                exact GoW.ret X_264x6 hS (by rw [e_264x6]; exact (Nat.le_refl _)) hx hlk Bd.returns (hb hby at_275) rfl (Or.inl ⟨rfl, by decide, _, rfl⟩) (by decide) (by decide) ⟨rfl, N_110⟩
              ·
                refine g_icmpY X_171x6 hx 276 (hb hby at_248) (XT.ii_ne_t c248) (by decide) (by decide) ?_
                refine g_iload X_171x6 hx 278 (1 : Int32) (hb hby at_276) rfl rfl ?_
                exact GoW.ret X_171x6 hS (by rw [e_171x6]; exact (Nat.le_refl _)) hx hlk Bd.returns (hb hby at_278) rfl (Or.inl ⟨rfl, by decide, _, rfl⟩) (by decide) (by decide) ⟨rfl, N_110⟩
    ·
      refine g_icmpY X_110 hx 152 (hb hby at_119) (XT.ii_ne_t c119) (by decide) (by decide) ?_
      refine g_iconst X_110 hx 153 (0 : Int32) (hb hby at_152) rfl rfl ?_
      have heq : ¬ mkl kk x0 x1 = mkl jj y0 y1 := fun q => by
        have z := (own_exp hkk hjj).mp q
        exact c119 z.1
      refine g_istore X_110 hx 155 #[.val (.int q1), .val (.int q2), .val (.int q3), .val (.int q4), .val (.int q5), .val (.int kk), .val (.int jj), .val (.int x0), .val (.int x1), .val (.int y0), .val (.int y1), .val (.ref s0), .val (.ref s1), .val (.ref a_93), .val (.ref a_104), .val (.int (0 : Int32)), .unset, .unset, .unset] (hb hby at_153) rfl rfl ?_
      refine g_aload X_110 hx 157 (.ref a_93) (hb hby at_155) rfl rfl rfl ?_
      refine g_aload X_110 hx 159 (.ref a_104) (hb hby at_157) rfl rfl rfl ?_
      obtain ⟨_, T_159x7, L_159x7, X_159x7, ⟨rfl, rfl, e_159x7⟩, st_159x7⟩ := g_callV X_110 hx hZ  (C := "com/example/assayer/assayer/core/JsonString") (own := "com/example/assayer/assayer/core/JsonStringEqualsPinLaw") (index := 28) (y := (⟨"com/example/assayer/assayer/core/JsonString", "equals", "(Ljava/lang/Object;)Z"⟩ : MethodName)) (z := (⟨"com/example/assayer/assayer/core/JsonString", "equals", "(Ljava/lang/Object;)Z"⟩ : MethodName)) (a := a_93) (as' := [(.ref a_104)]) hown (hw _ (List.mem_of_getElem? (i := 47) rfl)) (hw _ (List.mem_of_getElem? (i := 48) rfl)) (hw _ (List.mem_of_getElem? (i := 50) rfl)) (hw _ (List.mem_of_getElem? (i := 50) rfl)) (hw _ (List.mem_of_getElem? (i := 49) rfl)) (hw _ (List.mem_of_getElem? (i := 29) rfl)) (hw _ (List.mem_of_getElem? (i := 51) rfl)) (by decide) rfl F_110_10 (rm_jeq l Z a0 hw a_93 a_104 T_110.heap h0.size O_110 cs hcs SC F_110_11 s0 s1 F_110_1 F_110_0 (fun z => nb_88_s0 (by injection z)) _ _ _ _ (bsOf (mkl kk x0 x1)) (bsOf (mkl jj y0 y1)) (bs_len (mkl_len _ _ _)) (bs_len (mkl_len _ _ _)) ⟨F_110_2, F_110_3, F_110_4, F_110_5⟩ ⟨F_110_6, F_110_7, F_110_8, F_110_9⟩) pd_jeq rfl 0 (by decide) (by decide) (by decide) (by decide) (pc := 159) (Ls := #[.val (.int q1), .val (.int q2), .val (.int q3), .val (.int q4), .val (.int q5), .val (.int kk), .val (.int jj), .val (.int x0), .val (.int x1), .val (.int y0), .val (.int y1), .val (.ref s0), .val (.ref s1), .val (.ref a_93), .val (.ref a_104), .val (.int (0 : Int32)), .unset, .unset, .unset]) (rest := []) (st := [(.ref a_104), (.ref a_93)]) (by rw [hml]; rfl) rfl (Nat.le_of_eq rfl) (hb hby at_159)
      refine st_159x7 ?_
      rw [List.append_nil] at X_159x7
      show Go p e below _ (T_159x7.setTop (mkF m 162 #[.val (.int q1), .val (.int q2), .val (.int q3), .val (.int q4), .val (.int q5), .val (.int kk), .val (.int jj), .val (.int x0), .val (.int x1), .val (.int y0), .val (.int y1), .val (.ref s0), .val (.ref s1), .val (.ref a_93), .val (.ref a_104), .val (.int (0 : Int32)), .unset, .unset, .unset] [(.int (b2i (coOf (mkl kk x0 x1) = coOf (mkl jj y0 y1) ∧ bsOf (mkl kk x0 x1) = bsOf (mkl jj y0 y1))))]))
      rw [b2i_f (fun z => heq ((same_str (mkl_ch hx0 hx1) (mkl_ch hy0 hy1)).mp z))]
      refine g_iload X_159x7 hx 164 (0 : Int32) (hb hby at_162) rfl rfl ?_
      refine g_icmpN X_159x7 hx 167 (hb hby at_164) (XT.ii_ne_f (by decide)) rfl ?_
      refine g_aload X_159x7 hx 169 (.ref a_104) (hb hby at_167) rfl rfl rfl ?_
      refine g_aload X_159x7 hx 171 (.ref a_93) (hb hby at_169) rfl rfl rfl ?_
      obtain ⟨_, T_171x7, L_171x7, X_171x7, ⟨rfl, rfl, e_171x7⟩, st_171x7⟩ := g_callV X_159x7 hx hZ  (C := "com/example/assayer/assayer/core/JsonString") (own := "com/example/assayer/assayer/core/JsonStringEqualsPinLaw") (index := 28) (y := (⟨"com/example/assayer/assayer/core/JsonString", "equals", "(Ljava/lang/Object;)Z"⟩ : MethodName)) (z := (⟨"com/example/assayer/assayer/core/JsonString", "equals", "(Ljava/lang/Object;)Z"⟩ : MethodName)) (a := a_104) (as' := [(.ref a_93)]) hown (hw _ (List.mem_of_getElem? (i := 47) rfl)) (hw _ (List.mem_of_getElem? (i := 48) rfl)) (hw _ (List.mem_of_getElem? (i := 50) rfl)) (hw _ (List.mem_of_getElem? (i := 50) rfl)) (hw _ (List.mem_of_getElem? (i := 49) rfl)) (hw _ (List.mem_of_getElem? (i := 29) rfl)) (hw _ (List.mem_of_getElem? (i := 51) rfl)) (by decide) e_159x7 F_110_11 (rm_jeq l Z a0 hw a_104 a_93 T_110.heap h0.size O_110 cs hcs SC F_110_10 s1 s0 F_110_0 F_110_1 (fun z => (Ne.symm nb_88_s0) (by injection z)) _ _ _ _ (bsOf (mkl jj y0 y1)) (bsOf (mkl kk x0 x1)) (bs_len (mkl_len _ _ _)) (bs_len (mkl_len _ _ _)) ⟨F_110_6, F_110_7, F_110_8, F_110_9⟩ ⟨F_110_2, F_110_3, F_110_4, F_110_5⟩) pd_jeq rfl 0 (by decide) (by decide) (by decide) (by decide) (pc := 171) (Ls := #[.val (.int q1), .val (.int q2), .val (.int q3), .val (.int q4), .val (.int q5), .val (.int kk), .val (.int jj), .val (.int x0), .val (.int x1), .val (.int y0), .val (.int y1), .val (.ref s0), .val (.ref s1), .val (.ref a_93), .val (.ref a_104), .val (.int (0 : Int32)), .unset, .unset, .unset]) (rest := []) (st := [(.ref a_93), (.ref a_104)]) (by rw [hml]; rfl) rfl (Nat.le_of_eq rfl) (hb hby at_171)
      refine st_171x7 ?_
      rw [List.append_nil] at X_171x7
      show Go p e below _ (T_171x7.setTop (mkF m 174 #[.val (.int q1), .val (.int q2), .val (.int q3), .val (.int q4), .val (.int q5), .val (.int kk), .val (.int jj), .val (.int x0), .val (.int x1), .val (.int y0), .val (.int y1), .val (.ref s0), .val (.ref s1), .val (.ref a_93), .val (.ref a_104), .val (.int (0 : Int32)), .unset, .unset, .unset] [(.int (b2i (coOf (mkl jj y0 y1) = coOf (mkl kk x0 x1) ∧ bsOf (mkl jj y0 y1) = bsOf (mkl kk x0 x1))))]))
      rw [b2i_f (fun z => heq (((same_str (mkl_ch hy0 hy1) (mkl_ch hx0 hx1)).mp z).symm))]
      refine g_iload X_171x7 hx 176 (0 : Int32) (hb hby at_174) rfl rfl ?_
      refine g_icmpN X_171x7 hx 179 (hb hby at_176) (XT.ii_ne_f (by decide)) rfl ?_
      refine g_iconst X_171x7 hx 180 (1 : Int32) (hb hby at_179) rfl rfl ?_
      refine g_goto X_171x7 hx 184 (hb hby at_180) (by decide) (by decide) ?_
      refine g_istore X_171x7 hx 186 #[.val (.int q1), .val (.int q2), .val (.int q3), .val (.int q4), .val (.int q5), .val (.int kk), .val (.int jj), .val (.int x0), .val (.int x1), .val (.int y0), .val (.int y1), .val (.ref s0), .val (.ref s1), .val (.ref a_93), .val (.ref a_104), .val (.int (0 : Int32)), .val (.int (1 : Int32)), .unset, .unset] (hb hby at_184) rfl rfl ?_
      refine g_iload X_171x7 hx 188 q5 (hb hby at_186) rfl rfl ?_
      refine g_iconst X_171x7 hx 189 (3 : Int32) (hb hby at_188) rfl rfl ?_
      refine g_iand X_171x7 hx 190 (hb hby at_189) rfl ?_
      refine g_istore X_171x7 hx 192 #[.val (.int q1), .val (.int q2), .val (.int q3), .val (.int q4), .val (.int q5), .val (.int kk), .val (.int jj), .val (.int x0), .val (.int x1), .val (.int y0), .val (.int y1), .val (.ref s0), .val (.ref s1), .val (.ref a_93), .val (.ref a_104), .val (.int (0 : Int32)), .val (.int (1 : Int32)), .val (.int (q5 &&& (3 : Int32))), .unset] (hb hby at_190) rfl rfl ?_
      refine g_iload X_171x7 hx 194 (q5 &&& (3 : Int32)) (hb hby at_192) rfl rfl ?_
      refine g_iconst X_171x7 hx 195 (1 : Int32) (hb hby at_194) rfl rfl ?_
      by_cases c195 : (q5 &&& (3 : Int32)) = (1 : Int32)
      ·
        refine g_icmpN X_171x7 hx 198 (hb hby at_195) (XT.ii_ne_f c195) rfl ?_
        refine g_iload X_171x7 hx 200 (1 : Int32) (hb hby at_198) rfl rfl ?_
        refine g_ifN X_171x7 hx 203 (hb hby at_200) (XT.i0_eq_f (by decide)) rfl ?_
        refine g_aload X_171x7 hx 205 (.ref a_93) (hb hby at_203) rfl rfl rfl ?_
        refine g_aconst_null X_171x7 hx 206 (hb hby at_205) rfl ?_
        obtain ⟨_, T_206x7, L_206x7, X_206x7, ⟨rfl, rfl, e_206x7⟩, st_206x7⟩ := g_callV X_171x7 hx hZ  (C := "com/example/assayer/assayer/core/JsonString") (own := "com/example/assayer/assayer/core/JsonStringEqualsPinLaw") (index := 28) (y := (⟨"com/example/assayer/assayer/core/JsonString", "equals", "(Ljava/lang/Object;)Z"⟩ : MethodName)) (z := (⟨"com/example/assayer/assayer/core/JsonString", "equals", "(Ljava/lang/Object;)Z"⟩ : MethodName)) (a := a_93) (as' := [.null]) hown (hw _ (List.mem_of_getElem? (i := 47) rfl)) (hw _ (List.mem_of_getElem? (i := 48) rfl)) (hw _ (List.mem_of_getElem? (i := 50) rfl)) (hw _ (List.mem_of_getElem? (i := 50) rfl)) (hw _ (List.mem_of_getElem? (i := 49) rfl)) (hw _ (List.mem_of_getElem? (i := 29) rfl)) (hw _ (List.mem_of_getElem? (i := 51) rfl)) (by decide) e_171x7 F_110_10 (rm_jen l Z a0 hw a_93 T_110.heap) pd_jen rfl 0 (by decide) (by decide) (by decide) (by decide) (pc := 206) (Ls := #[.val (.int q1), .val (.int q2), .val (.int q3), .val (.int q4), .val (.int q5), .val (.int kk), .val (.int jj), .val (.int x0), .val (.int x1), .val (.int y0), .val (.int y1), .val (.ref s0), .val (.ref s1), .val (.ref a_93), .val (.ref a_104), .val (.int (0 : Int32)), .val (.int (1 : Int32)), .val (.int (q5 &&& (3 : Int32))), .unset]) (rest := []) (st := [.null, (.ref a_93)]) (by rw [hml]; rfl) rfl (Nat.le_of_eq rfl) (hb hby at_206)
        refine st_206x7 ?_
        rw [List.append_nil] at X_206x7
        show Go p e below _ (T_206x7.setTop (mkF m 209 #[.val (.int q1), .val (.int q2), .val (.int q3), .val (.int q4), .val (.int q5), .val (.int kk), .val (.int jj), .val (.int x0), .val (.int x1), .val (.int y0), .val (.int y1), .val (.ref s0), .val (.ref s1), .val (.ref a_93), .val (.ref a_104), .val (.int (0 : Int32)), .val (.int (1 : Int32)), .val (.int (q5 &&& (3 : Int32))), .unset] [(.int (0 : Int32))]))
        refine g_ifN X_206x7 hx 212 (hb hby at_209) (XT.i0_ne_f (by decide)) rfl ?_
        refine g_iconst X_206x7 hx 213 (1 : Int32) (hb hby at_212) rfl rfl ?_
        refine g_goto X_206x7 hx 217 (hb hby at_213) (by decide) (by decide) ?_
        exact GoW.ret X_206x7 hS (by rw [e_206x7]; exact (Nat.le_refl _)) hx hlk Bd.returns (hb hby at_217) rfl (Or.inl ⟨rfl, by decide, _, rfl⟩) (by decide) (by decide) ⟨rfl, N_110⟩
      ·
        refine g_icmpY X_171x7 hx 218 (hb hby at_195) (XT.ii_ne_t c195) (by decide) (by decide) ?_
        refine g_iload X_171x7 hx 220 (q5 &&& (3 : Int32)) (hb hby at_218) rfl rfl ?_
        refine g_iconst X_171x7 hx 221 (2 : Int32) (hb hby at_220) rfl rfl ?_
        by_cases c221 : (q5 &&& (3 : Int32)) = (2 : Int32)
        ·
          refine g_icmpN X_171x7 hx 224 (hb hby at_221) (XT.ii_ne_f c221) rfl ?_
          refine g_iload X_171x7 hx 226 (1 : Int32) (hb hby at_224) rfl rfl ?_
          refine g_ifN X_171x7 hx 229 (hb hby at_226) (XT.i0_eq_f (by decide)) rfl ?_
          refine g_aload X_171x7 hx 231 (.ref a_93) (hb hby at_229) rfl rfl rfl ?_
          refine g_aload X_171x7 hx 233 (.ref a_93) (hb hby at_231) rfl rfl rfl ?_
          obtain ⟨_, T_233x7, L_233x7, X_233x7, ⟨rfl, rfl, e_233x7⟩, st_233x7⟩ := g_callV X_171x7 hx hZ  (C := "com/example/assayer/assayer/core/JsonString") (own := "com/example/assayer/assayer/core/JsonStringEqualsPinLaw") (index := 28) (y := (⟨"com/example/assayer/assayer/core/JsonString", "equals", "(Ljava/lang/Object;)Z"⟩ : MethodName)) (z := (⟨"com/example/assayer/assayer/core/JsonString", "equals", "(Ljava/lang/Object;)Z"⟩ : MethodName)) (a := a_93) (as' := [(.ref a_93)]) hown (hw _ (List.mem_of_getElem? (i := 47) rfl)) (hw _ (List.mem_of_getElem? (i := 48) rfl)) (hw _ (List.mem_of_getElem? (i := 50) rfl)) (hw _ (List.mem_of_getElem? (i := 50) rfl)) (hw _ (List.mem_of_getElem? (i := 49) rfl)) (hw _ (List.mem_of_getElem? (i := 29) rfl)) (hw _ (List.mem_of_getElem? (i := 51) rfl)) (by decide) e_171x7 F_110_10 (rm_jes l Z a0 hw a_93 T_110.heap F_110_10 s0 F_110_1 F_110_2) pd_jes rfl 0 (by decide) (by decide) (by decide) (by decide) (pc := 233) (Ls := #[.val (.int q1), .val (.int q2), .val (.int q3), .val (.int q4), .val (.int q5), .val (.int kk), .val (.int jj), .val (.int x0), .val (.int x1), .val (.int y0), .val (.int y1), .val (.ref s0), .val (.ref s1), .val (.ref a_93), .val (.ref a_104), .val (.int (0 : Int32)), .val (.int (1 : Int32)), .val (.int (q5 &&& (3 : Int32))), .unset]) (rest := []) (st := [(.ref a_93), (.ref a_93)]) (by rw [hml]; rfl) rfl (Nat.le_of_eq rfl) (hb hby at_233)
          refine st_233x7 ?_
          rw [List.append_nil] at X_233x7
          show Go p e below _ (T_233x7.setTop (mkF m 236 #[.val (.int q1), .val (.int q2), .val (.int q3), .val (.int q4), .val (.int q5), .val (.int kk), .val (.int jj), .val (.int x0), .val (.int x1), .val (.int y0), .val (.int y1), .val (.ref s0), .val (.ref s1), .val (.ref a_93), .val (.ref a_104), .val (.int (0 : Int32)), .val (.int (1 : Int32)), .val (.int (q5 &&& (3 : Int32))), .unset] [(.int (1 : Int32))]))
          refine g_ifN X_233x7 hx 239 (hb hby at_236) (XT.i0_eq_f (by decide)) rfl ?_
          refine g_iconst X_233x7 hx 240 (1 : Int32) (hb hby at_239) rfl rfl ?_
          refine g_goto X_233x7 hx 244 (hb hby at_240) (by decide) (by decide) ?_
          exact GoW.ret X_233x7 hS (by rw [e_233x7]; exact (Nat.le_refl _)) hx hlk Bd.returns (hb hby at_244) rfl (Or.inl ⟨rfl, by decide, _, rfl⟩) (by decide) (by decide) ⟨rfl, N_110⟩
        ·
          refine g_icmpY X_171x7 hx 245 (hb hby at_221) (XT.ii_ne_t c221) (by decide) (by decide) ?_
          refine g_iload X_171x7 hx 247 (q5 &&& (3 : Int32)) (hb hby at_245) rfl rfl ?_
          refine g_iconst X_171x7 hx 248 (3 : Int32) (hb hby at_247) rfl rfl ?_
          by_cases c248 : (q5 &&& (3 : Int32)) = (3 : Int32)
          ·
            refine g_icmpN X_171x7 hx 251 (hb hby at_248) (XT.ii_ne_f c248) rfl ?_
            refine g_aload X_171x7 hx 253 (.ref s0) (hb hby at_251) rfl rfl rfl ?_
            refine g_astore X_171x7 hx 255 #[.val (.int q1), .val (.int q2), .val (.int q3), .val (.int q4), .val (.int q5), .val (.int kk), .val (.int jj), .val (.int x0), .val (.int x1), .val (.int y0), .val (.int y1), .val (.ref s0), .val (.ref s1), .val (.ref a_93), .val (.ref a_104), .val (.int (0 : Int32)), .val (.int (1 : Int32)), .val (.int (q5 &&& (3 : Int32))), .val (.ref s0)] (hb hby at_253) rfl rfl rfl ?_
            refine g_iload X_171x7 hx 257 (1 : Int32) (hb hby at_255) rfl rfl ?_
            refine g_ifN X_171x7 hx 260 (hb hby at_257) (XT.i0_eq_f (by decide)) rfl ?_
            refine g_aload X_171x7 hx 262 (.ref a_93) (hb hby at_260) rfl rfl rfl ?_
            refine g_aload X_171x7 hx 264 (.ref s0) (hb hby at_262) rfl rfl rfl ?_
            obtain ⟨_, T_264x7, L_264x7, X_264x7, ⟨rfl, rfl, e_264x7⟩, st_264x7⟩ := g_callV X_171x7 hx hZ  (C := "com/example/assayer/assayer/core/JsonString") (own := "com/example/assayer/assayer/core/JsonStringEqualsPinLaw") (index := 28) (y := (⟨"com/example/assayer/assayer/core/JsonString", "equals", "(Ljava/lang/Object;)Z"⟩ : MethodName)) (z := (⟨"com/example/assayer/assayer/core/JsonString", "equals", "(Ljava/lang/Object;)Z"⟩ : MethodName)) (a := a_93) (as' := [(.ref s0)]) hown (hw _ (List.mem_of_getElem? (i := 47) rfl)) (hw _ (List.mem_of_getElem? (i := 48) rfl)) (hw _ (List.mem_of_getElem? (i := 50) rfl)) (hw _ (List.mem_of_getElem? (i := 50) rfl)) (hw _ (List.mem_of_getElem? (i := 49) rfl)) (hw _ (List.mem_of_getElem? (i := 29) rfl)) (hw _ (List.mem_of_getElem? (i := 51) rfl)) (by decide) e_171x7 F_110_10 (rm_jep l Z a0 hw a_93 s0 T_110.heap F_110_2) pd_jep rfl 0 (by decide) (by decide) (by decide) (by decide) (pc := 264) (Ls := #[.val (.int q1), .val (.int q2), .val (.int q3), .val (.int q4), .val (.int q5), .val (.int kk), .val (.int jj), .val (.int x0), .val (.int x1), .val (.int y0), .val (.int y1), .val (.ref s0), .val (.ref s1), .val (.ref a_93), .val (.ref a_104), .val (.int (0 : Int32)), .val (.int (1 : Int32)), .val (.int (q5 &&& (3 : Int32))), .val (.ref s0)]) (rest := []) (st := [(.ref s0), (.ref a_93)]) (by rw [hml]; rfl) rfl (Nat.le_of_eq rfl) (hb hby at_264)
            refine st_264x7 ?_
            rw [List.append_nil] at X_264x7
            show Go p e below _ (T_264x7.setTop (mkF m 267 #[.val (.int q1), .val (.int q2), .val (.int q3), .val (.int q4), .val (.int q5), .val (.int kk), .val (.int jj), .val (.int x0), .val (.int x1), .val (.int y0), .val (.int y1), .val (.ref s0), .val (.ref s1), .val (.ref a_93), .val (.ref a_104), .val (.int (0 : Int32)), .val (.int (1 : Int32)), .val (.int (q5 &&& (3 : Int32))), .val (.ref s0)] [(.int (0 : Int32))]))
            refine g_ifN X_264x7 hx 270 (hb hby at_267) (XT.i0_ne_f (by decide)) rfl ?_
            refine g_iconst X_264x7 hx 271 (1 : Int32) (hb hby at_270) rfl rfl ?_
            refine g_goto X_264x7 hx 275 (hb hby at_271) (by decide) (by decide) ?_
            exact GoW.ret X_264x7 hS (by rw [e_264x7]; exact (Nat.le_refl _)) hx hlk Bd.returns (hb hby at_275) rfl (Or.inl ⟨rfl, by decide, _, rfl⟩) (by decide) (by decide) ⟨rfl, N_110⟩
          ·
            refine g_icmpY X_171x7 hx 276 (hb hby at_248) (XT.ii_ne_t c248) (by decide) (by decide) ?_
            refine g_iload X_171x7 hx 278 (1 : Int32) (hb hby at_276) rfl rfl ?_
            exact GoW.ret X_171x7 hS (by rw [e_171x7]; exact (Nat.le_refl _)) hx hlk Bd.returns (hb hby at_278) rfl (Or.inl ⟨rfl, by decide, _, rfl⟩) (by decide) (by decide) ⟨rfl, N_110⟩
  refine g_iload_n X0 hx 1 q1 (hb hby at_0) rfl rfl ?_
  refine g_ldc X0 hx 3 (hb hby at_1) hown (mvT hZ (hw _ (List.mem_of_getElem? (i := 0) rfl))) rfl ?_
  refine g_iand X0 hx 4 (hb hby at_3) rfl ?_
  refine g_iconst X0 hx 5 (3 : Int32) (hb hby at_4) rfl rfl ?_
  refine g_irem X0 hx 6 (hb hby at_5) (by decide) rfl ?_
  refine g_istore X0 hx 8 #[.val (.int q1), .val (.int q2), .val (.int q3), .val (.int q4), .val (.int q5), .val (.int ((q1 &&& (2147483647 : Int32)) % (3 : Int32))), .unset, .unset, .unset, .unset, .unset, .unset, .unset, .unset, .unset, .unset, .unset, .unset, .unset] (hb hby at_6) rfl rfl ?_
  generalize hvk : ((q1 &&& (2147483647 : Int32)) % (3 : Int32)) = vk
  refine g_iload_n X0 hx 9 q4 (hb hby at_8) rfl rfl ?_
  refine g_iconst X0 hx 10 (4 : Int32) (hb hby at_9) rfl rfl ?_
  refine g_iand X0 hx 11 (hb hby at_10) rfl ?_
  by_cases c11 : (q4 &&& (4 : Int32)) = (0 : Int32)
  ·
    refine g_ifY X0 hx 19 (hb hby at_11) (XT.i0_eq_t c11) (by decide) (by decide) ?_
    refine g_iload_n X0 hx 20 q1 (hb hby at_19) rfl rfl ?_
    refine g_bipush X0 hx 22 (8 : Int32) (hb hby at_20) rfl rfl ?_
    refine g_iushr X0 hx 23 (hb hby at_22) rfl ?_
    refine g_iconst X0 hx 24 (3 : Int32) (hb hby at_23) rfl rfl ?_
    refine g_irem X0 hx 25 (hb hby at_24) (by decide) rfl ?_
    refine g_istore X0 hx 27 #[.val (.int q1), .val (.int q2), .val (.int q3), .val (.int q4), .val (.int q5), .val (.int vk), .val (.int ((XT.ushr q1 (8 : Int32)) % (3 : Int32))), .unset, .unset, .unset, .unset, .unset, .unset, .unset, .unset, .unset, .unset, .unset, .unset] (hb hby at_25) rfl rfl ?_
    refine g_iload_n X0 hx 28 q2 (hb hby at_27) rfl rfl ?_
    refine g_i2c X0 hx 29 (hb hby at_28) rfl ?_
    refine g_istore X0 hx 31 #[.val (.int q1), .val (.int q2), .val (.int q3), .val (.int q4), .val (.int q5), .val (.int vk), .val (.int ((XT.ushr q1 (8 : Int32)) % (3 : Int32))), .val (.int (q2.toUInt32.toUInt16.toUInt32.toInt32)), .unset, .unset, .unset, .unset, .unset, .unset, .unset, .unset, .unset, .unset, .unset] (hb hby at_29) rfl rfl ?_
    refine g_iload_n X0 hx 32 q2 (hb hby at_31) rfl rfl ?_
    refine g_bipush X0 hx 34 (16 : Int32) (hb hby at_32) rfl rfl ?_
    refine g_iushr X0 hx 35 (hb hby at_34) rfl ?_
    refine g_i2c X0 hx 36 (hb hby at_35) rfl ?_
    refine g_istore X0 hx 38 #[.val (.int q1), .val (.int q2), .val (.int q3), .val (.int q4), .val (.int q5), .val (.int vk), .val (.int ((XT.ushr q1 (8 : Int32)) % (3 : Int32))), .val (.int (q2.toUInt32.toUInt16.toUInt32.toInt32)), .val (.int ((XT.ushr q2 (16 : Int32)).toUInt32.toUInt16.toUInt32.toInt32)), .unset, .unset, .unset, .unset, .unset, .unset, .unset, .unset, .unset, .unset] (hb hby at_36) rfl rfl ?_
    refine g_iload_n X0 hx 39 q4 (hb hby at_38) rfl rfl ?_
    refine g_iconst X0 hx 40 (1 : Int32) (hb hby at_39) rfl rfl ?_
    refine g_iand X0 hx 41 (hb hby at_40) rfl ?_
    by_cases c41 : (q4 &&& (1 : Int32)) = (0 : Int32)
    ·
      refine g_ifY X0 hx 49 (hb hby at_41) (XT.i0_eq_t c41) (by decide) (by decide) ?_
      refine g_iload_n X0 hx 50 q3 (hb hby at_49) rfl rfl ?_
      refine g_i2c X0 hx 51 (hb hby at_50) rfl ?_
      refine g_istore X0 hx 53 #[.val (.int q1), .val (.int q2), .val (.int q3), .val (.int q4), .val (.int q5), .val (.int vk), .val (.int ((XT.ushr q1 (8 : Int32)) % (3 : Int32))), .val (.int (q2.toUInt32.toUInt16.toUInt32.toInt32)), .val (.int ((XT.ushr q2 (16 : Int32)).toUInt32.toUInt16.toUInt32.toInt32)), .val (.int (q3.toUInt32.toUInt16.toUInt32.toInt32)), .unset, .unset, .unset, .unset, .unset, .unset, .unset, .unset, .unset] (hb hby at_51) rfl rfl ?_
      refine g_iload_n X0 hx 54 q4 (hb hby at_53) rfl rfl ?_
      refine g_iconst X0 hx 55 (2 : Int32) (hb hby at_54) rfl rfl ?_
      refine g_iand X0 hx 56 (hb hby at_55) rfl ?_
      by_cases c56 : (q4 &&& (2 : Int32)) = (0 : Int32)
      ·
        refine g_ifY X0 hx 64 (hb hby at_56) (XT.i0_eq_t c56) (by decide) (by decide) ?_
        refine g_iload_n X0 hx 65 q3 (hb hby at_64) rfl rfl ?_
        refine g_bipush X0 hx 67 (16 : Int32) (hb hby at_65) rfl rfl ?_
        refine g_iushr X0 hx 68 (hb hby at_67) rfl ?_
        refine g_i2c X0 hx 69 (hb hby at_68) rfl ?_
        refine g_istore X0 hx 71 #[.val (.int q1), .val (.int q2), .val (.int q3), .val (.int q4), .val (.int q5), .val (.int vk), .val (.int ((XT.ushr q1 (8 : Int32)) % (3 : Int32))), .val (.int (q2.toUInt32.toUInt16.toUInt32.toInt32)), .val (.int ((XT.ushr q2 (16 : Int32)).toUInt32.toUInt16.toUInt32.toInt32)), .val (.int (q3.toUInt32.toUInt16.toUInt32.toInt32)), .val (.int ((XT.ushr q3 (16 : Int32)).toUInt32.toUInt16.toUInt32.toInt32)), .unset, .unset, .unset, .unset, .unset, .unset, .unset, .unset] (hb hby at_69) rfl rfl ?_
        exact J71 _ _ _ _ _ _ (own_3 hvk) (own_3u _) (ch_i2c _) (ch_i2c _) (ch_i2c _) (ch_i2c _)
      ·
        refine g_ifN X0 hx 59 (hb hby at_56) (XT.i0_eq_f c56) rfl ?_
        refine g_iload X0 hx 61 ((XT.ushr q2 (16 : Int32)).toUInt32.toUInt16.toUInt32.toInt32) (hb hby at_59) rfl rfl ?_
        refine g_goto X0 hx 69 (hb hby at_61) (by decide) (by decide) ?_
        refine g_istore X0 hx 71 #[.val (.int q1), .val (.int q2), .val (.int q3), .val (.int q4), .val (.int q5), .val (.int vk), .val (.int ((XT.ushr q1 (8 : Int32)) % (3 : Int32))), .val (.int (q2.toUInt32.toUInt16.toUInt32.toInt32)), .val (.int ((XT.ushr q2 (16 : Int32)).toUInt32.toUInt16.toUInt32.toInt32)), .val (.int (q3.toUInt32.toUInt16.toUInt32.toInt32)), .val (.int ((XT.ushr q2 (16 : Int32)).toUInt32.toUInt16.toUInt32.toInt32)), .unset, .unset, .unset, .unset, .unset, .unset, .unset, .unset] (hb hby at_69) rfl rfl ?_
        exact J71 _ _ _ _ _ _ (own_3 hvk) (own_3u _) (ch_i2c _) (ch_i2c _) (ch_i2c _) (ch_i2c _)
    ·
      refine g_ifN X0 hx 44 (hb hby at_41) (XT.i0_eq_f c41) rfl ?_
      refine g_iload X0 hx 46 (q2.toUInt32.toUInt16.toUInt32.toInt32) (hb hby at_44) rfl rfl ?_
      refine g_goto X0 hx 51 (hb hby at_46) (by decide) (by decide) ?_
      refine g_istore X0 hx 53 #[.val (.int q1), .val (.int q2), .val (.int q3), .val (.int q4), .val (.int q5), .val (.int vk), .val (.int ((XT.ushr q1 (8 : Int32)) % (3 : Int32))), .val (.int (q2.toUInt32.toUInt16.toUInt32.toInt32)), .val (.int ((XT.ushr q2 (16 : Int32)).toUInt32.toUInt16.toUInt32.toInt32)), .val (.int (q2.toUInt32.toUInt16.toUInt32.toInt32)), .unset, .unset, .unset, .unset, .unset, .unset, .unset, .unset, .unset] (hb hby at_51) rfl rfl ?_
      refine g_iload_n X0 hx 54 q4 (hb hby at_53) rfl rfl ?_
      refine g_iconst X0 hx 55 (2 : Int32) (hb hby at_54) rfl rfl ?_
      refine g_iand X0 hx 56 (hb hby at_55) rfl ?_
      by_cases c56 : (q4 &&& (2 : Int32)) = (0 : Int32)
      ·
        refine g_ifY X0 hx 64 (hb hby at_56) (XT.i0_eq_t c56) (by decide) (by decide) ?_
        refine g_iload_n X0 hx 65 q3 (hb hby at_64) rfl rfl ?_
        refine g_bipush X0 hx 67 (16 : Int32) (hb hby at_65) rfl rfl ?_
        refine g_iushr X0 hx 68 (hb hby at_67) rfl ?_
        refine g_i2c X0 hx 69 (hb hby at_68) rfl ?_
        refine g_istore X0 hx 71 #[.val (.int q1), .val (.int q2), .val (.int q3), .val (.int q4), .val (.int q5), .val (.int vk), .val (.int ((XT.ushr q1 (8 : Int32)) % (3 : Int32))), .val (.int (q2.toUInt32.toUInt16.toUInt32.toInt32)), .val (.int ((XT.ushr q2 (16 : Int32)).toUInt32.toUInt16.toUInt32.toInt32)), .val (.int (q2.toUInt32.toUInt16.toUInt32.toInt32)), .val (.int ((XT.ushr q3 (16 : Int32)).toUInt32.toUInt16.toUInt32.toInt32)), .unset, .unset, .unset, .unset, .unset, .unset, .unset, .unset] (hb hby at_69) rfl rfl ?_
        exact J71 _ _ _ _ _ _ (own_3 hvk) (own_3u _) (ch_i2c _) (ch_i2c _) (ch_i2c _) (ch_i2c _)
      ·
        refine g_ifN X0 hx 59 (hb hby at_56) (XT.i0_eq_f c56) rfl ?_
        refine g_iload X0 hx 61 ((XT.ushr q2 (16 : Int32)).toUInt32.toUInt16.toUInt32.toInt32) (hb hby at_59) rfl rfl ?_
        refine g_goto X0 hx 69 (hb hby at_61) (by decide) (by decide) ?_
        refine g_istore X0 hx 71 #[.val (.int q1), .val (.int q2), .val (.int q3), .val (.int q4), .val (.int q5), .val (.int vk), .val (.int ((XT.ushr q1 (8 : Int32)) % (3 : Int32))), .val (.int (q2.toUInt32.toUInt16.toUInt32.toInt32)), .val (.int ((XT.ushr q2 (16 : Int32)).toUInt32.toUInt16.toUInt32.toInt32)), .val (.int (q2.toUInt32.toUInt16.toUInt32.toInt32)), .val (.int ((XT.ushr q2 (16 : Int32)).toUInt32.toUInt16.toUInt32.toInt32)), .unset, .unset, .unset, .unset, .unset, .unset, .unset, .unset] (hb hby at_69) rfl rfl ?_
        exact J71 _ _ _ _ _ _ (own_3 hvk) (own_3u _) (ch_i2c _) (ch_i2c _) (ch_i2c _) (ch_i2c _)
  ·
    refine g_ifN X0 hx 14 (hb hby at_11) (XT.i0_eq_f c11) rfl ?_
    refine g_iload X0 hx 16 vk (hb hby at_14) rfl rfl ?_
    refine g_goto X0 hx 25 (hb hby at_16) (by decide) (by decide) ?_
    refine g_istore X0 hx 27 #[.val (.int q1), .val (.int q2), .val (.int q3), .val (.int q4), .val (.int q5), .val (.int vk), .val (.int vk), .unset, .unset, .unset, .unset, .unset, .unset, .unset, .unset, .unset, .unset, .unset, .unset] (hb hby at_25) rfl rfl ?_
    refine g_iload_n X0 hx 28 q2 (hb hby at_27) rfl rfl ?_
    refine g_i2c X0 hx 29 (hb hby at_28) rfl ?_
    refine g_istore X0 hx 31 #[.val (.int q1), .val (.int q2), .val (.int q3), .val (.int q4), .val (.int q5), .val (.int vk), .val (.int vk), .val (.int (q2.toUInt32.toUInt16.toUInt32.toInt32)), .unset, .unset, .unset, .unset, .unset, .unset, .unset, .unset, .unset, .unset, .unset] (hb hby at_29) rfl rfl ?_
    refine g_iload_n X0 hx 32 q2 (hb hby at_31) rfl rfl ?_
    refine g_bipush X0 hx 34 (16 : Int32) (hb hby at_32) rfl rfl ?_
    refine g_iushr X0 hx 35 (hb hby at_34) rfl ?_
    refine g_i2c X0 hx 36 (hb hby at_35) rfl ?_
    refine g_istore X0 hx 38 #[.val (.int q1), .val (.int q2), .val (.int q3), .val (.int q4), .val (.int q5), .val (.int vk), .val (.int vk), .val (.int (q2.toUInt32.toUInt16.toUInt32.toInt32)), .val (.int ((XT.ushr q2 (16 : Int32)).toUInt32.toUInt16.toUInt32.toInt32)), .unset, .unset, .unset, .unset, .unset, .unset, .unset, .unset, .unset, .unset] (hb hby at_36) rfl rfl ?_
    refine g_iload_n X0 hx 39 q4 (hb hby at_38) rfl rfl ?_
    refine g_iconst X0 hx 40 (1 : Int32) (hb hby at_39) rfl rfl ?_
    refine g_iand X0 hx 41 (hb hby at_40) rfl ?_
    by_cases c41 : (q4 &&& (1 : Int32)) = (0 : Int32)
    ·
      refine g_ifY X0 hx 49 (hb hby at_41) (XT.i0_eq_t c41) (by decide) (by decide) ?_
      refine g_iload_n X0 hx 50 q3 (hb hby at_49) rfl rfl ?_
      refine g_i2c X0 hx 51 (hb hby at_50) rfl ?_
      refine g_istore X0 hx 53 #[.val (.int q1), .val (.int q2), .val (.int q3), .val (.int q4), .val (.int q5), .val (.int vk), .val (.int vk), .val (.int (q2.toUInt32.toUInt16.toUInt32.toInt32)), .val (.int ((XT.ushr q2 (16 : Int32)).toUInt32.toUInt16.toUInt32.toInt32)), .val (.int (q3.toUInt32.toUInt16.toUInt32.toInt32)), .unset, .unset, .unset, .unset, .unset, .unset, .unset, .unset, .unset] (hb hby at_51) rfl rfl ?_
      refine g_iload_n X0 hx 54 q4 (hb hby at_53) rfl rfl ?_
      refine g_iconst X0 hx 55 (2 : Int32) (hb hby at_54) rfl rfl ?_
      refine g_iand X0 hx 56 (hb hby at_55) rfl ?_
      by_cases c56 : (q4 &&& (2 : Int32)) = (0 : Int32)
      ·
        refine g_ifY X0 hx 64 (hb hby at_56) (XT.i0_eq_t c56) (by decide) (by decide) ?_
        refine g_iload_n X0 hx 65 q3 (hb hby at_64) rfl rfl ?_
        refine g_bipush X0 hx 67 (16 : Int32) (hb hby at_65) rfl rfl ?_
        refine g_iushr X0 hx 68 (hb hby at_67) rfl ?_
        refine g_i2c X0 hx 69 (hb hby at_68) rfl ?_
        refine g_istore X0 hx 71 #[.val (.int q1), .val (.int q2), .val (.int q3), .val (.int q4), .val (.int q5), .val (.int vk), .val (.int vk), .val (.int (q2.toUInt32.toUInt16.toUInt32.toInt32)), .val (.int ((XT.ushr q2 (16 : Int32)).toUInt32.toUInt16.toUInt32.toInt32)), .val (.int (q3.toUInt32.toUInt16.toUInt32.toInt32)), .val (.int ((XT.ushr q3 (16 : Int32)).toUInt32.toUInt16.toUInt32.toInt32)), .unset, .unset, .unset, .unset, .unset, .unset, .unset, .unset] (hb hby at_69) rfl rfl ?_
        exact J71 _ _ _ _ _ _ (own_3 hvk) (own_3 hvk) (ch_i2c _) (ch_i2c _) (ch_i2c _) (ch_i2c _)
      ·
        refine g_ifN X0 hx 59 (hb hby at_56) (XT.i0_eq_f c56) rfl ?_
        refine g_iload X0 hx 61 ((XT.ushr q2 (16 : Int32)).toUInt32.toUInt16.toUInt32.toInt32) (hb hby at_59) rfl rfl ?_
        refine g_goto X0 hx 69 (hb hby at_61) (by decide) (by decide) ?_
        refine g_istore X0 hx 71 #[.val (.int q1), .val (.int q2), .val (.int q3), .val (.int q4), .val (.int q5), .val (.int vk), .val (.int vk), .val (.int (q2.toUInt32.toUInt16.toUInt32.toInt32)), .val (.int ((XT.ushr q2 (16 : Int32)).toUInt32.toUInt16.toUInt32.toInt32)), .val (.int (q3.toUInt32.toUInt16.toUInt32.toInt32)), .val (.int ((XT.ushr q2 (16 : Int32)).toUInt32.toUInt16.toUInt32.toInt32)), .unset, .unset, .unset, .unset, .unset, .unset, .unset, .unset] (hb hby at_69) rfl rfl ?_
        exact J71 _ _ _ _ _ _ (own_3 hvk) (own_3 hvk) (ch_i2c _) (ch_i2c _) (ch_i2c _) (ch_i2c _)
    ·
      refine g_ifN X0 hx 44 (hb hby at_41) (XT.i0_eq_f c41) rfl ?_
      refine g_iload X0 hx 46 (q2.toUInt32.toUInt16.toUInt32.toInt32) (hb hby at_44) rfl rfl ?_
      refine g_goto X0 hx 51 (hb hby at_46) (by decide) (by decide) ?_
      refine g_istore X0 hx 53 #[.val (.int q1), .val (.int q2), .val (.int q3), .val (.int q4), .val (.int q5), .val (.int vk), .val (.int vk), .val (.int (q2.toUInt32.toUInt16.toUInt32.toInt32)), .val (.int ((XT.ushr q2 (16 : Int32)).toUInt32.toUInt16.toUInt32.toInt32)), .val (.int (q2.toUInt32.toUInt16.toUInt32.toInt32)), .unset, .unset, .unset, .unset, .unset, .unset, .unset, .unset, .unset] (hb hby at_51) rfl rfl ?_
      refine g_iload_n X0 hx 54 q4 (hb hby at_53) rfl rfl ?_
      refine g_iconst X0 hx 55 (2 : Int32) (hb hby at_54) rfl rfl ?_
      refine g_iand X0 hx 56 (hb hby at_55) rfl ?_
      by_cases c56 : (q4 &&& (2 : Int32)) = (0 : Int32)
      ·
        refine g_ifY X0 hx 64 (hb hby at_56) (XT.i0_eq_t c56) (by decide) (by decide) ?_
        refine g_iload_n X0 hx 65 q3 (hb hby at_64) rfl rfl ?_
        refine g_bipush X0 hx 67 (16 : Int32) (hb hby at_65) rfl rfl ?_
        refine g_iushr X0 hx 68 (hb hby at_67) rfl ?_
        refine g_i2c X0 hx 69 (hb hby at_68) rfl ?_
        refine g_istore X0 hx 71 #[.val (.int q1), .val (.int q2), .val (.int q3), .val (.int q4), .val (.int q5), .val (.int vk), .val (.int vk), .val (.int (q2.toUInt32.toUInt16.toUInt32.toInt32)), .val (.int ((XT.ushr q2 (16 : Int32)).toUInt32.toUInt16.toUInt32.toInt32)), .val (.int (q2.toUInt32.toUInt16.toUInt32.toInt32)), .val (.int ((XT.ushr q3 (16 : Int32)).toUInt32.toUInt16.toUInt32.toInt32)), .unset, .unset, .unset, .unset, .unset, .unset, .unset, .unset] (hb hby at_69) rfl rfl ?_
        exact J71 _ _ _ _ _ _ (own_3 hvk) (own_3 hvk) (ch_i2c _) (ch_i2c _) (ch_i2c _) (ch_i2c _)
      ·
        refine g_ifN X0 hx 59 (hb hby at_56) (XT.i0_eq_f c56) rfl ?_
        refine g_iload X0 hx 61 ((XT.ushr q2 (16 : Int32)).toUInt32.toUInt16.toUInt32.toInt32) (hb hby at_59) rfl rfl ?_
        refine g_goto X0 hx 69 (hb hby at_61) (by decide) (by decide) ?_
        refine g_istore X0 hx 71 #[.val (.int q1), .val (.int q2), .val (.int q3), .val (.int q4), .val (.int q5), .val (.int vk), .val (.int vk), .val (.int (q2.toUInt32.toUInt16.toUInt32.toInt32)), .val (.int ((XT.ushr q2 (16 : Int32)).toUInt32.toUInt16.toUInt32.toInt32)), .val (.int (q2.toUInt32.toUInt16.toUInt32.toInt32)), .val (.int ((XT.ushr q2 (16 : Int32)).toUInt32.toUInt16.toUInt32.toInt32)), .unset, .unset, .unset, .unset, .unset, .unset, .unset, .unset] (hb hby at_69) rfl rfl ?_
        exact J71 _ _ _ _ _ _ (own_3 hvk) (own_3 hvk) (ch_i2c _) (ch_i2c _) (ch_i2c _) (ch_i2c _)
theorem own_sta {args : Array Value} {s : State} {t : Term} {k : Int32} (h : (Jvm.Cond.eq t (Term.int k)).value args s none s [] = some true) : t.eval args s none [] s = some (.int k) := by
  obtain ⟨x, y, ex, ey, k1, k2⟩ := cmp_v (Or.inl h)
  cases ey
  obtain ⟨z, rfl⟩ := k2
  have q := gotT (Cond.eq_ints ex (Term.int_eval k)) h
  subst q
  exact ex
set_option maxRecDepth 65536 in
set_option maxHeartbeats 40000000 in
theorem comes_1 {Post : Tables → Env → Array Value → State → Outcome → State → Prop} (hpost : ∀ tb e args s v u, (limb_1_1.after args s (.returned v) u = true ∧ limb_1_2.after args s (.returned v) u = true ∧ True) → ReturnedEndW s (.returned v) u (Jvm.fieldLocs frame_1_writes args s ++ Jvm.arrayLocs frame_1_arrays args s ++ Jvm.staticLocs frame_1_statics s) 32 2176 → Post tb e args s (.returned v) u) :
    ArmFor flags0 classFile x code maxLocals ret World_1 tables_1 room_1 Calls_1 rest_1 Pre_1 Post := by
  intro l hfl _ _ p e ha hc hk s m args below hf hA hF happ hP
  obtain ⟨hcalls, hrest, hpre⟩ := hP
  obtain ⟨-, -, -, hnamed, -, -, -, hat⟩ := (Spec.applies_iff hf).mp happ
  obtain ⟨hg, hn⟩ := and_e (Cond.before_iff.mp (show (Jvm.Cond.and given_1 narrow_1).before args s = true from hpre))
  obtain ⟨h1, g_0⟩ := and_e hg
  obtain ⟨k0, g_1⟩ := and_e g_0
  obtain ⟨k1, g_2⟩ := and_e g_1
  obtain ⟨k2, g_3⟩ := and_e g_2
  obtain ⟨k3, g_4⟩ := and_e g_3
  obtain ⟨w0, w1, w2, w3, w4, rfl⟩ : ∃ w0 w1 w2 w3 w4 : Value, args = #[w0, w1, w2, w3, w4] := by
    have hs : args.size = 5 := by simpa [Cond.value, given_1] using h1
    obtain ⟨L⟩ := args
    match L, hs with
    | [w0, w1, w2, w3, w4], _ => exact ⟨w0, w1, w2, w3, w4, rfl⟩
  have hw := fun d (hd : d ∈ tables_1) => atoms_spec (ws := Jvm.Cond.code x code maxLocals ret :: tables_1) hat d (List.mem_cons_of_mem _ hd)
  obtain ⟨i0, e_0⟩ := is_v k0
  obtain rfl : w0 = (.int i0) := Option.some.inj e_0
  obtain ⟨i1, e_1⟩ := is_v k1
  obtain rfl : w1 = (.int i1) := Option.some.inj e_1
  obtain ⟨i2, e_2⟩ := is_v k2
  obtain rfl : w2 = (.int i2) := Option.some.inj e_2
  obtain ⟨i3, e_3⟩ := is_v k3
  obtain rfl : w3 = (.int i3) := Option.some.inj e_3
  obtain ⟨i4, e_4⟩ := is_v g_4
  obtain rfl : w4 = (.int i4) := Option.some.inj e_4
  obtain ⟨hsets, hown0⟩ := atoms_of _ (rest_1_c_eq ▸ (show rest_1_c.before _ s = true from hrest))
  have n5 := not_v (Cond.before_iff.mp (hsets _ (List.mem_of_getElem? (i := 2) rfl)))
  obtain ⟨cs, e10⟩ := is_v (Cond.before_iff.mp (hsets _ (List.mem_of_getElem? (i := 1) rfl)))
  have SC : Sta s s.heap "java/lang/String" "COMPACT_STRINGS" "Z" (.int cs) := Sta.start e10 (Or.inl (hsets _ (List.mem_of_getElem? (i := 0) rfl)))
  have hcs : ¬ (cs = (0 : Int32)) := gotF (Cond.eq_ints e10 (Term.int_eval (0))) n5
  have hh1 := hcalls.1 _ (List.mem_of_getElem? (i := 0) rfl)
  have hh0 := hcalls.1 _ (List.mem_of_getElem? (i := 1) rfl)
  have SA := Sta.start (own_sta (Cond.before_iff.mp (hsets _ (List.mem_of_getElem? (i := 12) rfl)))) (Or.inl (hsets _ (List.mem_of_getElem? (i := 11) rfl)))
  have SH := Sta.start (own_sta (Cond.before_iff.mp (hsets _ (List.mem_of_getElem? (i := 15) rfl)))) (Or.inl (hsets _ (List.mem_of_getElem? (i := 14) rfl)))
  have SL := Sta.start (own_sta (Cond.before_iff.mp (hsets _ (List.mem_of_getElem? (i := 18) rfl)))) (Or.inl (hsets _ (List.mem_of_getElem? (i := 17) rfl)))
  obtain ⟨n, o, h1, h2, h3, _, L, rfl, ⟨rfl, N⟩, hq⟩ := rm_law l s _ hw tables_1 i0 i1 i2 i3 i4 s.heap (Old.start s) cs hcs SC SA SH SL hh1 hh0 (hsets _ (List.mem_of_getElem? (i := 2) rfl)) p e ha hc hk s m _ below hf ((Spec.applies_iff_loose hf).mp happ).1 ⟨rfl, State.Warmed39.refl s, rfl, IB.start⟩ trivial
  refine ⟨n, _, h1, h2, h3, hpost _ _ _ _ _ _ ⟨Cond.after_iff.mpr rfl, Cond.after_iff.mpr (eq_i res_at (Term.int_eval (1)) rfl), trivial⟩ ⟨hq.1, hq.2.1, hq.2.2.1, (hq.2.2.2.sift fun y hy => Or.inr (N y hy)).mono (by decide) (by decide)⟩⟩
theorem main_1_1 : Claimed_1_1 := comes_1 fun _ _ _ _ _ _ h hF => ⟨h.1, hF⟩
theorem main_1_2 : Claimed_1_2 := comes_1 fun _ _ _ _ _ _ h hF => ⟨h.2.1, hF⟩
end Jvm.Pilot.@@N@@
namespace Jvm.Pilot.@@N@@
open Jvm Jvm.ClassFile Sem Op Lib Jvm.Free Jvm.Stand Jvm.Pilot.@@N@@.Jvm.D
/-! MADE BY PROGRAM (witnessworld.py) out of the Statement's table words and the real class files: 22 classes; the members and pool entries that the words name. The judged class is class 1, her method 2. -/
namespace start1
open Jvm.ClassFile
def u (s : String) : CpInfo := .utf8 (stringToUtf16 s)
/-- a pool by its gaps: so many unusable entries, then the entry; so many at the end -/
def gap : Nat → List CpInfo → List CpInfo
  | 0, r => r
  | n + 1, r => .unusable :: gap n r
def poolList (es : List (Nat × CpInfo)) (last : Nat) : List CpInfo := es.foldr (fun e r => gap e.1 (e.2 :: r)) (gap last [])
def pool (es : List (Nat × CpInfo)) (last : Nat) : Array CpInfo := ⟨poolList es last⟩
def fileOf (pool : Array CpInfo) (this : Nat) (attrs : Array Attribute := #[]) (ms : Array MethodInfo := #[]) (fl : Nat := 33) (sup : Nat := 0) (ifs : Array Nat := #[]) (fds : Array FieldInfo := #[]) : ClassFile where
  minorVersion := 0
  majorVersion := 65
  constantPool := pool
  accessFlags := fl
  thisClass := this
  superClass := sup
  interfaces := ifs
  fields := fds
  methods := ms
  attributes := attrs
def plain (name : String) (sup : Option ClassId) : Class where
  name := name
  kind := .ordinary
  loader := none
  accessFlags := 33
  super := sup
  interfaces := #[]
  cf := none
  fields := #[]
  methods := #[]
  instanceTypes := #[]
  staticTypes := #[]
  resolved := #[]
  callSites := []
  init := .initialized
  statics := none
  mirror := none

def pool0 : Array CpInfo := pool [(5, u "<init>"), (0, u "()V"), (1, .class_ 10), (1, u "java/lang/Object")] 113

def k0c0 : Code := { maxStack := 0, maxLocals := 1, code := object_method_1_code, exceptionTable := #[], attributes := #[] }
def k0m0 : Method := { name := "<init>", desc := "()V", sig := { parameters := [], returnType := none }, accessFlags := 1, code := some k0c0 }
/-- java/lang/Object -/
def k0 : Class := { plain "java/lang/Object" none with
  accessFlags := 33
  interfaces := #[]
  cf := some (fileOf pool0 8 #[] #[{ accessFlags := 1, nameIndex := 5, descriptorIndex := 6, attributes := #[] }] 33 0 #[] #[])
  fields := #[]
  methods := #[k0m0]
  instanceTypes := #[]
  staticTypes := #[]
  resolved := Array.replicate 124 none
  statics := none }

def pool1 : Array CpInfo := pool [(2, .class_ 4), (1, u "java/lang/Object"), (0, u "<init>"), (0, u "()V"), (0, .class_ 8), (0, u "java/lang/String"), (0, .methodref 7 10), (0, .nameAndType 5 11), (0, u "([C)V"), (0, .methodref 7 13), (0, .nameAndType 14 15), (0, u "valueOf"), (0, u "(C)Ljava/lang/String;"), (0, .integer 2147483647), (0, .methodref 18 19), (0, .class_ 20), (0, .nameAndType 21 22), (0, u "com/example/assayer/assayer/core/JsonStringEqualsPinLaw"), (0, u "make"), (0, u "(ICC)Ljava/lang/String;"), (0, .class_ 24), (0, u "com/example/assayer/assayer/core/JsonString"), (0, .methodref 23 26), (0, .nameAndType 5 27), (0, u "(Ljava/lang/String;)V"), (0, .methodref 23 29), (0, .nameAndType 30 31), (0, u "equals"), (0, u "(Ljava/lang/Object;)Z"), (3, u "law"), (0, u "(IIIII)Z")] 2

def k1m0 : Method := { name := "<init>", desc := "()V", sig := { parameters := [], returnType := none }, accessFlags := 1, code := none }
def k1c1 : Code := { maxStack := 6, maxLocals := 3, code := method_2_code, exceptionTable := #[], attributes := #[] }
def k1m1 : Method := { name := "make", desc := "(ICC)Ljava/lang/String;", sig := { parameters := [.int, .char, .char], returnType := some (.object "java/lang/String") }, accessFlags := 10, code := some k1c1 }
def k1c2 : Code := { maxStack := 3, maxLocals := 19, code := code, exceptionTable := #[], attributes := #[] }
def k1m2 : Method := { name := "law", desc := "(IIIII)Z", sig := { parameters := [.int, .int, .int, .int, .int], returnType := some .boolean }, accessFlags := 9, code := some k1c2 }
/-- com/example/assayer/assayer/core/JsonStringEqualsPinLaw -/
def k1 : Class := { plain "com/example/assayer/assayer/core/JsonStringEqualsPinLaw" (some 0) with
  accessFlags := 49
  interfaces := #[]
  cf := some (fileOf pool1 18 #[] #[{ accessFlags := 1, nameIndex := 5, descriptorIndex := 6, attributes := #[] }, { accessFlags := 10, nameIndex := 21, descriptorIndex := 22, attributes := #[] }, { accessFlags := 9, nameIndex := 35, descriptorIndex := 36, attributes := #[] }] 49 2 #[] #[])
  fields := #[]
  methods := #[k1m0, k1m1, k1m2]
  instanceTypes := #[]
  staticTypes := #[]
  resolved := Array.replicate 39 none
  statics := none }

def pool2 : Array CpInfo := pool [(1, .class_ 2), (0, u "java/io/Serializable"), (0, .class_ 4), (0, u "java/lang/Object")] 2

/-- java/io/Serializable -/
def k2 : Class := { plain "java/io/Serializable" (some 0) with
  accessFlags := 1537
  interfaces := #[]
  cf := some (fileOf pool2 1 #[] #[] 1537 3 #[] #[])
  fields := #[]
  methods := #[]
  instanceTypes := #[]
  staticTypes := #[]
  resolved := Array.replicate 7 none
  statics := none }

def pool3 : Array CpInfo := pool [(1, .class_ 2), (0, u "java/lang/Comparable"), (0, .class_ 4), (0, u "java/lang/Object")] 7

/-- java/lang/Comparable -/
def k3 : Class := { plain "java/lang/Comparable" (some 0) with
  accessFlags := 1537
  interfaces := #[]
  cf := some (fileOf pool3 1 #[] #[] 1537 3 #[] #[])
  fields := #[]
  methods := #[]
  instanceTypes := #[]
  staticTypes := #[]
  resolved := Array.replicate 12 none
  statics := none }

def pool4 : Array CpInfo := pool [(2, .class_ 4), (1, u "java/lang/CharSequence"), (42, .class_ 48), (0, u "java/lang/CharSequence$1CodePointIterator"), (10, .class_ 60), (0, u "java/lang/CharSequence$1CharIterator"), (5, .class_ 67), (0, u "java/lang/Object")] 63

/-- java/lang/CharSequence -/
def k4 : Class := { plain "java/lang/CharSequence" (some 0) with
  accessFlags := 1537
  interfaces := #[]
  cf := some (fileOf pool4 2 #[.nestMembers #[47, 59]] #[] 1537 66 #[] #[])
  fields := #[]
  methods := #[]
  instanceTypes := #[]
  staticTypes := #[]
  resolved := Array.replicate 131 none
  statics := none }

def pool5 : Array CpInfo := pool [(1, .class_ 2), (0, u "java/lang/constant/Constable"), (0, .class_ 4), (0, u "java/lang/Object")] 6

/-- java/lang/constant/Constable -/
def k5 : Class := { plain "java/lang/constant/Constable" (some 0) with
  accessFlags := 1537
  interfaces := #[]
  cf := some (fileOf pool5 1 #[] #[] 1537 3 #[] #[])
  fields := #[]
  methods := #[]
  instanceTypes := #[]
  staticTypes := #[]
  resolved := Array.replicate 11 none
  statics := none }

def pool6 : Array CpInfo := pool [(1, .class_ 2), (0, u "java/lang/constant/ConstantDesc"), (0, .class_ 4), (0, u "java/lang/Object")] 32

/-- java/lang/constant/ConstantDesc -/
def k6 : Class := { plain "java/lang/constant/ConstantDesc" (some 0) with
  accessFlags := 1537
  interfaces := #[]
  cf := some (fileOf pool6 1 #[] #[] 1537 3 #[] #[])
  fields := #[]
  methods := #[]
  instanceTypes := #[]
  staticTypes := #[]
  resolved := Array.replicate 37 none
  statics := none }

def pool7 : Array CpInfo := pool [(1, .methodref 2 3), (0, .class_ 4), (0, .nameAndType 5 6), (0, u "java/lang/Object"), (0, u "<init>"), (0, u "()V"), (0, .string 8), (0, u ""), (0, .fieldref 10 11), (0, .class_ 12), (0, .nameAndType 13 14), (0, u "java/lang/String"), (0, u "value"), (0, u "[B"), (0, .fieldref 10 16), (0, .nameAndType 17 18), (0, u "coder"), (0, u "B"), (2, u "hash"), (0, u "I"), (2, u "hashIsZero"), (0, u "Z"), (0, .methodref 10 28), (0, .nameAndType 5 29), (0, u "([CIILjava/lang/Void;)V"), (8, .fieldref 10 39), (0, .nameAndType 40 26), (0, u "COMPACT_STRINGS"), (1, .class_ 44), (1, u "java/lang/StringUTF16"), (0, u "compress"), (1, .methodref 42 48), (0, .nameAndType 49 50), (0, u "coderFromArrayLen"), (0, u "([BI)B"), (2, u "toBytes"), (53, .class_ 109), (1, u "java/lang/StringLatin1"), (67, .methodref 42 178), (0, .nameAndType 45 179), (0, u "([CII)[B"), (29, .methodref 10 210), (0, .nameAndType 5 211), (0, u "([BB)V"), (157, u "(C)Z"), (171, .methodref 107 542), (0, .nameAndType 543 544), (0, u "equals"), (0, u "([B[B)Z"), (28, u "(Ljava/lang/Object;)Z"), (1, .class_ 576), (0, u "java/lang/CharSequence"), (22, u "CASE_INSENSITIVE_ORDER"), (0, u "Ljava/util/Comparator;"), (181, u "valueOf"), (0, u "(C)Ljava/lang/String;"), (226, u "([C)V"), (4, .methodref 107 1016), (0, .nameAndType 1017 369), (0, u "canEncode"), (0, .methodref 107 1019), (0, .nameAndType 53 1020), (0, u "(C)[B"), (0, .methodref 42 1019), (79, u "serialPersistentFields"), (0, u "[Ljava/io/ObjectStreamField;"), (0, .class_ 1104), (0, u "java/lang/String$CaseInsensitiveComparator"), (1, .class_ 1107), (0, u "java/io/Serializable"), (0, .class_ 1109), (0, u "java/lang/Comparable"), (0, .class_ 1111), (0, u "java/lang/constant/Constable"), (0, .class_ 1113), (0, u "java/lang/constant/ConstantDesc"), (2, u "serialVersionUID"), (0, u "J"), (3, u "REPL"), (0, u "C"), (2, u "LATIN1"), (1, u "UTF16")] 323

def k7m0 : Method := { name := "<init>", desc := "()V", sig := { parameters := [], returnType := none }, accessFlags := 1, code := none }
def k7c1 : Code := { maxStack := 5, maxLocals := 2, code := jdk_42_method_3_code, exceptionTable := #[], attributes := #[] }
def k7m1 : Method := { name := "<init>", desc := "([C)V", sig := { parameters := [(.array .char)], returnType := none }, accessFlags := 1, code := some k7c1 }
def k7c2 : Code := { maxStack := 2, maxLocals := 3, code := jdk_42_method_66_code, exceptionTable := #[], attributes := #[] }
def k7m2 : Method := { name := "equals", desc := "(Ljava/lang/Object;)Z", sig := { parameters := [(.object "java/lang/Object")], returnType := some .boolean }, accessFlags := 1, code := some k7c2 }
def k7c3 : Code := { maxStack := 4, maxLocals := 1, code := jdk_42_method_139_code, exceptionTable := #[], attributes := #[] }
def k7m3 : Method := { name := "valueOf", desc := "(C)Ljava/lang/String;", sig := { parameters := [.char], returnType := some (.object "java/lang/String") }, accessFlags := 9, code := some k7c3 }
def k7c4 : Code := { maxStack := 4, maxLocals := 6, code := jdk_42_method_149_code, exceptionTable := #[], attributes := #[] }
def k7m4 : Method := { name := "<init>", desc := "([CIILjava/lang/Void;)V", sig := { parameters := [(.array .char), .int, .int, (.object "java/lang/Void")], returnType := none }, accessFlags := 2, code := some k7c4 }
def k7c5 : Code := { maxStack := 2, maxLocals := 3, code := jdk_42_method_151_code, exceptionTable := #[], attributes := #[] }
def k7m5 : Method := { name := "<init>", desc := "([BB)V", sig := { parameters := [(.array .byte), .byte], returnType := none }, accessFlags := 0, code := some k7c5 }
/-- java/lang/String -/
def k7 : Class := { plain "java/lang/String" (some 0) with
  accessFlags := 49
  interfaces := #[2, 3, 4, 5, 6]
  cf := some (fileOf pool7 10 #[.nestMembers #[1103]] #[{ accessFlags := 1, nameIndex := 5, descriptorIndex := 6, attributes := #[] }, { accessFlags := 1, nameIndex := 5, descriptorIndex := 1010, attributes := #[] }, { accessFlags := 1, nameIndex := 543, descriptorIndex := 573, attributes := #[] }, { accessFlags := 9, nameIndex := 782, descriptorIndex := 783, attributes := #[] }, { accessFlags := 2, nameIndex := 5, descriptorIndex := 29, attributes := #[] }, { accessFlags := 0, nameIndex := 5, descriptorIndex := 211, attributes := #[] }] 49 2 #[1106, 1108, 575, 1110, 1112] #[{ accessFlags := 18, nameIndex := 13, descriptorIndex := 14, attributes := #[] }, { accessFlags := 18, nameIndex := 17, descriptorIndex := 18, attributes := #[] }, { accessFlags := 2, nameIndex := 21, descriptorIndex := 22, attributes := #[] }, { accessFlags := 2, nameIndex := 25, descriptorIndex := 26, attributes := #[] }, { accessFlags := 26, nameIndex := 1116, descriptorIndex := 1117, attributes := #[] }, { accessFlags := 24, nameIndex := 40, descriptorIndex := 26, attributes := #[] }, { accessFlags := 26, nameIndex := 1101, descriptorIndex := 1102, attributes := #[] }, { accessFlags := 26, nameIndex := 1121, descriptorIndex := 1122, attributes := #[] }, { accessFlags := 25, nameIndex := 599, descriptorIndex := 600, attributes := #[] }, { accessFlags := 24, nameIndex := 1125, descriptorIndex := 18, attributes := #[] }, { accessFlags := 24, nameIndex := 1127, descriptorIndex := 18, attributes := #[] }])
  fields := #[{ name := "value", type := (.array .byte), accessFlags := 18, slot := 0, constantValue := 0 }, { name := "coder", type := .byte, accessFlags := 18, slot := 1, constantValue := 0 }, { name := "hash", type := .int, accessFlags := 2, slot := 2, constantValue := 0 }, { name := "hashIsZero", type := .boolean, accessFlags := 2, slot := 3, constantValue := 0 }, { name := "serialVersionUID", type := .long, accessFlags := 26, slot := 0, constantValue := 0 }, { name := "COMPACT_STRINGS", type := .boolean, accessFlags := 24, slot := 1, constantValue := 0 }, { name := "serialPersistentFields", type := (.array (.object "java/io/ObjectStreamField")), accessFlags := 26, slot := 2, constantValue := 0 }, { name := "REPL", type := .char, accessFlags := 26, slot := 3, constantValue := 0 }, { name := "CASE_INSENSITIVE_ORDER", type := (.object "java/util/Comparator"), accessFlags := 25, slot := 4, constantValue := 0 }, { name := "LATIN1", type := .byte, accessFlags := 24, slot := 5, constantValue := 0 }, { name := "UTF16", type := .byte, accessFlags := 24, slot := 6, constantValue := 0 }]
  methods := #[k7m0, k7m1, k7m2, k7m3, k7m4, k7m5]
  instanceTypes := #[(.array .byte), .byte, .int, .boolean]
  staticTypes := #[.long, .boolean, (.array (.object "java/io/ObjectStreamField")), .char, (.object "java/util/Comparator"), .byte, .byte]
  resolved := Array.replicate 1451 none
  statics := some 0 }

def pool8 : Array CpInfo := pool [(1, .methodref 2 3), (0, .class_ 4), (0, .nameAndType 5 6), (0, u "java/lang/Object"), (0, u "<init>"), (0, u "()V"), (4, .class_ 13), (1, u "com/example/assayer/assayer/core/JsonValue")] 10

def k8c0 : Code := { maxStack := 1, maxLocals := 1, code := prog_18_method_1_code, exceptionTable := #[], attributes := #[] }
def k8m0 : Method := { name := "<init>", desc := "()V", sig := { parameters := [], returnType := none }, accessFlags := 0, code := some k8c0 }
/-- com/example/assayer/assayer/core/JsonValue -/
def k8 : Class := { plain "com/example/assayer/assayer/core/JsonValue" (some 0) with
  accessFlags := 1056
  interfaces := #[]
  cf := some (fileOf pool8 11 #[] #[{ accessFlags := 0, nameIndex := 5, descriptorIndex := 6, attributes := #[] }] 1056 2 #[] #[])
  fields := #[]
  methods := #[k8m0]
  instanceTypes := #[]
  staticTypes := #[]
  resolved := Array.replicate 24 none
  statics := none }

def pool9 : Array CpInfo := pool [(1, .methodref 2 3), (0, .class_ 4), (0, .nameAndType 5 6), (0, u "com/example/assayer/assayer/core/JsonValue"), (0, u "<init>"), (0, u "()V"), (0, .string 8), (0, u "value"), (0, .methodref 10 11), (0, .class_ 12), (0, .nameAndType 13 14), (0, u "java/util/Objects"), (0, u "requireNonNull"), (0, u "(Ljava/lang/Object;Ljava/lang/String;)Ljava/lang/Object;"), (0, .class_ 16), (0, u "java/lang/String"), (0, .fieldref 18 19), (0, .class_ 20), (0, .nameAndType 8 21), (0, u "com/example/assayer/assayer/core/JsonString"), (0, u "Ljava/lang/String;"), (39, u "HEX_DIGITS"), (0, u "[C"), (12, .methodref 15 76), (0, .nameAndType 77 78), (0, u "equals"), (0, u "(Ljava/lang/Object;)Z"), (9, u "(Ljava/lang/String;)V")] 10

def k9c0 : Code := { maxStack := 3, maxLocals := 2, code := prog_15_method_1_code, exceptionTable := #[], attributes := #[] }
def k9m0 : Method := { name := "<init>", desc := "(Ljava/lang/String;)V", sig := { parameters := [(.object "java/lang/String")], returnType := none }, accessFlags := 0, code := some k9c0 }
def k9c1 : Code := { maxStack := 2, maxLocals := 3, code := prog_15_method_6_code, exceptionTable := #[], attributes := #[] }
def k9m1 : Method := { name := "equals", desc := "(Ljava/lang/Object;)Z", sig := { parameters := [(.object "java/lang/Object")], returnType := some .boolean }, accessFlags := 1, code := some k9c1 }
/-- com/example/assayer/assayer/core/JsonString -/
def k9 : Class := { plain "com/example/assayer/assayer/core/JsonString" (some 8) with
  accessFlags := 48
  interfaces := #[]
  cf := some (fileOf pool9 18 #[] #[{ accessFlags := 0, nameIndex := 5, descriptorIndex := 88, attributes := #[] }, { accessFlags := 1, nameIndex := 77, descriptorIndex := 78, attributes := #[] }] 48 2 #[] #[{ accessFlags := 26, nameIndex := 61, descriptorIndex := 62, attributes := #[] }, { accessFlags := 18, nameIndex := 8, descriptorIndex := 21, attributes := #[] }])
  fields := #[{ name := "HEX_DIGITS", type := (.array .char), accessFlags := 26, slot := 0, constantValue := 0 }, { name := "value", type := (.object "java/lang/String"), accessFlags := 18, slot := 0, constantValue := 0 }]
  methods := #[k9m0, k9m1]
  instanceTypes := #[(.object "java/lang/String")]
  staticTypes := #[(.array .char)]
  resolved := Array.replicate 99 none
  statics := none }

def pool10 : Array CpInfo := pool [(2, .class_ 4), (1, u "java/lang/Object"), (0, u "<init>"), (0, u "()V"), (35, .class_ 44), (1, u "java/util/Objects"), (0, u "requireNonNull"), (48, u "(Ljava/lang/Object;Ljava/lang/String;)Ljava/lang/Object;")] 89

def k10m0 : Method := { name := "<init>", desc := "()V", sig := { parameters := [], returnType := none }, accessFlags := 2, code := none }
def k10c1 : Code := { maxStack := 3, maxLocals := 2, code := jdk_31_method_11_code, exceptionTable := #[], attributes := #[] }
def k10m1 : Method := { name := "requireNonNull", desc := "(Ljava/lang/Object;Ljava/lang/String;)Ljava/lang/Object;", sig := { parameters := [(.object "java/lang/Object"), (.object "java/lang/String")], returnType := some (.object "java/lang/Object") }, accessFlags := 9, code := some k10c1 }
/-- java/util/Objects -/
def k10 : Class := { plain "java/util/Objects" (some 0) with
  accessFlags := 49
  interfaces := #[]
  cf := some (fileOf pool10 42 #[] #[{ accessFlags := 2, nameIndex := 5, descriptorIndex := 6, attributes := #[] }, { accessFlags := 9, nameIndex := 45, descriptorIndex := 94, attributes := #[] }] 49 2 #[] #[])
  fields := #[]
  methods := #[k10m0, k10m1]
  instanceTypes := #[]
  staticTypes := #[]
  resolved := Array.replicate 184 none
  statics := none }

def pool11 : Array CpInfo := pool [(4, .class_ 6), (1, u "java/lang/Object"), (0, u "<init>"), (0, u "()V"), (5, .class_ 16), (1, u "java/lang/StringLatin1"), (73, u "canEncode"), (14, u "(C)Z"), (15, u "$assertionsDisabled"), (0, u "Z"), (98, .class_ 223), (1, u "java/lang/StringLatin1$LinesSpliterator"), (57, u "equals"), (0, u "([B[B)Z"), (97, u "toBytes"), (1, u "(C)[B"), (7, .class_ 391), (0, u "java/lang/StringLatin1$CharsSpliterator")] 3

def k11m0 : Method := { name := "<init>", desc := "()V", sig := { parameters := [], returnType := none }, accessFlags := 0, code := none }
def k11c1 : Code := { maxStack := 2, maxLocals := 1, code := jdk_43_method_3_code, exceptionTable := #[], attributes := #[] }
def k11m1 : Method := { name := "canEncode", desc := "(C)Z", sig := { parameters := [.char], returnType := some .boolean }, accessFlags := 9, code := some k11c1 }
def k11c2 : Code := { maxStack := 3, maxLocals := 3, code := jdk_43_method_13_code, exceptionTable := #[], attributes := #[] }
def k11m2 : Method := { name := "equals", desc := "([B[B)Z", sig := { parameters := [(.array .byte), (.array .byte)], returnType := some .boolean }, accessFlags := 9, code := some k11c2 }
def k11c3 : Code := { maxStack := 4, maxLocals := 1, code := jdk_43_method_46_code, exceptionTable := #[], attributes := #[] }
def k11m3 : Method := { name := "toBytes", desc := "(C)[B", sig := { parameters := [.char], returnType := some (.array .byte) }, accessFlags := 9, code := some k11c3 }
/-- java/lang/StringLatin1 -/
def k11 : Class := { plain "java/lang/StringLatin1" (some 0) with
  accessFlags := 48
  interfaces := #[]
  cf := some (fileOf pool11 14 #[.nestMembers #[390, 221]] #[{ accessFlags := 0, nameIndex := 7, descriptorIndex := 8, attributes := #[] }, { accessFlags := 9, nameIndex := 90, descriptorIndex := 105, attributes := #[] }, { accessFlags := 9, nameIndex := 281, descriptorIndex := 282, attributes := #[] }, { accessFlags := 9, nameIndex := 380, descriptorIndex := 382, attributes := #[] }] 48 4 #[] #[{ accessFlags := 4120, nameIndex := 121, descriptorIndex := 122, attributes := #[] }])
  fields := #[{ name := "$assertionsDisabled", type := .boolean, accessFlags := 4120, slot := 0, constantValue := 0 }]
  methods := #[k11m0, k11m1, k11m2, k11m3]
  instanceTypes := #[]
  staticTypes := #[.boolean]
  resolved := Array.replicate 395 none
  statics := none }

def pool12 : Array CpInfo := pool [(6, .class_ 8), (1, u "java/lang/Object"), (0, u "<init>"), (0, u "()V"), (0, .methodref 12 13), (0, .class_ 14), (0, .nameAndType 15 16), (0, u "java/lang/StringUTF16"), (0, u "newBytesLength"), (0, u "(I)I"), (3, .integer 1073741823), (23, .fieldref 12 45), (0, .nameAndType 46 47), (0, u "$assertionsDisabled"), (0, u "Z"), (11, .fieldref 12 60), (0, .nameAndType 61 62), (0, u "HI_BYTE_SHIFT"), (0, u "I"), (0, .fieldref 12 64), (0, .nameAndType 65 62), (0, u "LO_BYTE_SHIFT"), (5, .methodref 12 72), (0, .nameAndType 73 74), (0, u "getChar"), (0, u "([BI)C"), (32, .methodref 12 108), (0, .nameAndType 109 110), (0, u "newBytesFor"), (0, u "(I)[B"), (0, .methodref 12 112), (0, .nameAndType 113 114), (0, u "putChar"), (0, u "([BII)V"), (0, .methodref 12 116), (0, .nameAndType 117 118), (0, u "compress"), (0, u "([CI[BII)I"), (0, .methodref 12 120), (0, .nameAndType 121 122), (0, u "toBytes"), (0, u "([CII)[B"), (138, u "coderFromArrayLen"), (0, u "([BI)B"), (106, .class_ 371), (1, u "java/lang/StringUTF16$LinesSpliterator"), (58, u "MAX_LENGTH"), (44, u "(C)[B"), (151, .class_ 628), (0, u "java/lang/StringUTF16$CodePointsSpliterator"), (0, .class_ 630), (0, u "java/lang/StringUTF16$CharsSpliterator")] 4

def k12m0 : Method := { name := "<init>", desc := "()V", sig := { parameters := [], returnType := none }, accessFlags := 0, code := none }
def k12c1 : Code := { maxStack := 1, maxLocals := 1, code := jdk_52_method_2_code, exceptionTable := #[], attributes := #[] }
def k12m1 : Method := { name := "newBytesFor", desc := "(I)[B", sig := { parameters := [.int], returnType := some (.array .byte) }, accessFlags := 9, code := some k12c1 }
def k12c2 : Code := { maxStack := 4, maxLocals := 1, code := jdk_52_method_3_code, exceptionTable := #[], attributes := #[] }
def k12m2 : Method := { name := "newBytesLength", desc := "(I)I", sig := { parameters := [.int], returnType := some .int }, accessFlags := 9, code := some k12c2 }
def k12c3 : Code := { maxStack := 4, maxLocals := 3, code := jdk_52_method_4_code, exceptionTable := #[], attributes := #[] }
def k12m3 : Method := { name := "putChar", desc := "([BII)V", sig := { parameters := [(.array .byte), .int, .int], returnType := none }, accessFlags := 8, code := some k12c3 }
def k12c4 : Code := { maxStack := 3, maxLocals := 2, code := jdk_52_method_5_code, exceptionTable := #[], attributes := #[] }
def k12m4 : Method := { name := "getChar", desc := "([BI)C", sig := { parameters := [(.array .byte), .int], returnType := some .char }, accessFlags := 8, code := some k12c4 }
def k12c5 : Code := { maxStack := 4, maxLocals := 5, code := jdk_52_method_14_code, exceptionTable := #[], attributes := #[] }
def k12m5 : Method := { name := "toBytes", desc := "([CII)[B", sig := { parameters := [(.array .char), .int, .int], returnType := some (.array .byte) }, accessFlags := 9, code := some k12c5 }
def k12c6 : Code := { maxStack := 2, maxLocals := 2, code := jdk_52_method_15_code, exceptionTable := #[], attributes := #[] }
def k12m6 : Method := { name := "coderFromArrayLen", desc := "([BI)B", sig := { parameters := [(.array .byte), .int], returnType := some .byte }, accessFlags := 8, code := some k12c6 }
def k12c7 : Code := { maxStack := 5, maxLocals := 6, code := jdk_52_method_16_code, exceptionTable := #[], attributes := #[] }
def k12m7 : Method := { name := "compress", desc := "([CII)[B", sig := { parameters := [(.array .char), .int, .int], returnType := some (.array .byte) }, accessFlags := 9, code := some k12c7 }
def k12c8 : Code := { maxStack := 3, maxLocals := 7, code := jdk_52_method_21_code, exceptionTable := #[], attributes := #[] }
def k12m8 : Method := { name := "compress", desc := "([CI[BII)I", sig := { parameters := [(.array .char), .int, (.array .byte), .int, .int], returnType := some .int }, accessFlags := 9, code := some k12c8 }
def k12c9 : Code := { maxStack := 3, maxLocals := 2, code := jdk_52_method_24_code, exceptionTable := #[], attributes := #[] }
def k12m9 : Method := { name := "toBytes", desc := "(C)[B", sig := { parameters := [.char], returnType := some (.array .byte) }, accessFlags := 9, code := some k12c9 }
/-- java/lang/StringUTF16 -/
def k12 : Class := { plain "java/lang/StringUTF16" (some 0) with
  accessFlags := 48
  interfaces := #[]
  cf := some (fileOf pool12 12 #[.nestMembers #[627, 629, 369]] #[{ accessFlags := 0, nameIndex := 9, descriptorIndex := 10, attributes := #[] }, { accessFlags := 9, nameIndex := 109, descriptorIndex := 110, attributes := #[] }, { accessFlags := 9, nameIndex := 15, descriptorIndex := 16, attributes := #[] }, { accessFlags := 8, nameIndex := 113, descriptorIndex := 114, attributes := #[] }, { accessFlags := 8, nameIndex := 73, descriptorIndex := 74, attributes := #[] }, { accessFlags := 9, nameIndex := 121, descriptorIndex := 122, attributes := #[] }, { accessFlags := 8, nameIndex := 261, descriptorIndex := 262, attributes := #[] }, { accessFlags := 9, nameIndex := 117, descriptorIndex := 122, attributes := #[] }, { accessFlags := 9, nameIndex := 117, descriptorIndex := 118, attributes := #[] }, { accessFlags := 9, nameIndex := 121, descriptorIndex := 475, attributes := #[] }] 48 6 #[] #[{ accessFlags := 26, nameIndex := 61, descriptorIndex := 62, attributes := #[] }, { accessFlags := 26, nameIndex := 65, descriptorIndex := 62, attributes := #[] }, { accessFlags := 24, nameIndex := 430, descriptorIndex := 62, attributes := #[] }, { accessFlags := 4120, nameIndex := 46, descriptorIndex := 47, attributes := #[] }])
  fields := #[{ name := "HI_BYTE_SHIFT", type := .int, accessFlags := 26, slot := 0, constantValue := 0 }, { name := "LO_BYTE_SHIFT", type := .int, accessFlags := 26, slot := 1, constantValue := 0 }, { name := "MAX_LENGTH", type := .int, accessFlags := 24, slot := 2, constantValue := 0 }, { name := "$assertionsDisabled", type := .boolean, accessFlags := 4120, slot := 3, constantValue := 0 }]
  methods := #[k12m0, k12m1, k12m2, k12m3, k12m4, k12m5, k12m6, k12m7, k12m8, k12m9]
  instanceTypes := #[]
  staticTypes := #[.int, .int, .int, .boolean]
  resolved := Array.replicate 635 none
  statics := some 1 }

def pool13 : Array CpInfo := pool [(2, .class_ 4), (1, u "java/lang/Object"), (0, u "<init>"), (0, u "()V"), (17, .class_ 26), (1, u "jdk/internal/util/Preconditions"), (28, .class_ 56), (0, u "jdk/internal/util/Preconditions$4"), (57, .class_ 115), (0, u "jdk/internal/util/Preconditions$1"), (7, u "SIOOBE_FORMATTER"), (0, u "Ljava/util/function/BiFunction;"), (0, .class_ 126), (0, u "jdk/internal/util/Preconditions$2"), (3, u "AIOOBE_FORMATTER"), (0, .class_ 132), (0, u "jdk/internal/util/Preconditions$3"), (3, u "IOOBE_FORMATTER")] 57

def k13m0 : Method := { name := "<init>", desc := "()V", sig := { parameters := [], returnType := none }, accessFlags := 1, code := none }
/-- jdk/internal/util/Preconditions -/
def k13 : Class := { plain "jdk/internal/util/Preconditions" (some 0) with
  accessFlags := 33
  interfaces := #[]
  cf := some (fileOf pool13 24 #[.nestMembers #[55, 131, 125, 114]] #[{ accessFlags := 1, nameIndex := 5, descriptorIndex := 6, attributes := #[] }] 33 2 #[] #[{ accessFlags := 25, nameIndex := 123, descriptorIndex := 124, attributes := #[] }, { accessFlags := 25, nameIndex := 130, descriptorIndex := 124, attributes := #[] }, { accessFlags := 25, nameIndex := 136, descriptorIndex := 124, attributes := #[] }])
  fields := #[{ name := "SIOOBE_FORMATTER", type := (.object "java/util/function/BiFunction"), accessFlags := 25, slot := 0, constantValue := 0 }, { name := "AIOOBE_FORMATTER", type := (.object "java/util/function/BiFunction"), accessFlags := 25, slot := 1, constantValue := 0 }, { name := "IOOBE_FORMATTER", type := (.object "java/util/function/BiFunction"), accessFlags := 25, slot := 2, constantValue := 0 }]
  methods := #[k13m0]
  instanceTypes := #[]
  staticTypes := #[(.object "java/util/function/BiFunction"), (.object "java/util/function/BiFunction"), (.object "java/util/function/BiFunction")]
  resolved := Array.replicate 194 none
  statics := some 2 }

def pool14 : Array CpInfo := pool [(9, u "<init>"), (6, .class_ 18), (1, u "java/lang/Object"), (0, u "()V"), (1, .class_ 23), (1, u "jdk/internal/util/ArraysSupport"), (0, u "LOG2_ARRAY_LONG_INDEX_SCALE"), (0, u "I"), (2, u "U"), (0, u "Ljdk/internal/misc/Unsafe;"), (8, u "BIG_ENDIAN"), (0, u "Z"), (8, u "LOG2_BYTE_BIT_SIZE"), (4, u "LOG2_ARRAY_INT_INDEX_SCALE"), (54, u "JLA"), (0, u "Ljdk/internal/access/JavaLangAccess;"), (11, u "LOG2_ARRAY_BOOLEAN_INDEX_SCALE"), (9, u "LOG2_ARRAY_BYTE_INDEX_SCALE"), (5, u "LOG2_ARRAY_CHAR_INDEX_SCALE"), (5, u "LOG2_ARRAY_SHORT_INDEX_SCALE"), (18, u "LOG2_ARRAY_FLOAT_INDEX_SCALE"), (24, u "LOG2_ARRAY_DOUBLE_INDEX_SCALE"), (89, u "T_BOOLEAN"), (2, u "T_CHAR"), (1, u "T_FLOAT"), (1, u "T_DOUBLE"), (1, u "T_BYTE"), (1, u "T_SHORT"), (1, u "T_INT"), (1, u "T_LONG"), (1, u "SOFT_MAX_ARRAY_LENGTH")] 83

def k14m0 : Method := { name := "<init>", desc := "()V", sig := { parameters := [], returnType := none }, accessFlags := 2, code := none }
/-- jdk/internal/util/ArraysSupport -/
def k14 : Class := { plain "jdk/internal/util/ArraysSupport" (some 0) with
  accessFlags := 33
  interfaces := #[]
  cf := some (fileOf pool14 21 #[] #[{ accessFlags := 2, nameIndex := 9, descriptorIndex := 19, attributes := #[] }] 33 16 #[] #[{ accessFlags := 24, nameIndex := 28, descriptorIndex := 29, attributes := #[] }, { accessFlags := 26, nameIndex := 38, descriptorIndex := 39, attributes := #[] }, { accessFlags := 25, nameIndex := 121, descriptorIndex := 25, attributes := #[] }, { accessFlags := 25, nameIndex := 131, descriptorIndex := 25, attributes := #[] }, { accessFlags := 25, nameIndex := 137, descriptorIndex := 25, attributes := #[] }, { accessFlags := 25, nameIndex := 143, descriptorIndex := 25, attributes := #[] }, { accessFlags := 25, nameIndex := 53, descriptorIndex := 25, attributes := #[] }, { accessFlags := 25, nameIndex := 24, descriptorIndex := 25, attributes := #[] }, { accessFlags := 25, nameIndex := 162, descriptorIndex := 25, attributes := #[] }, { accessFlags := 25, nameIndex := 187, descriptorIndex := 25, attributes := #[] }, { accessFlags := 26, nameIndex := 48, descriptorIndex := 25, attributes := #[] }, { accessFlags := 25, nameIndex := 277, descriptorIndex := 25, attributes := #[] }, { accessFlags := 25, nameIndex := 280, descriptorIndex := 25, attributes := #[] }, { accessFlags := 25, nameIndex := 282, descriptorIndex := 25, attributes := #[] }, { accessFlags := 25, nameIndex := 284, descriptorIndex := 25, attributes := #[] }, { accessFlags := 25, nameIndex := 286, descriptorIndex := 25, attributes := #[] }, { accessFlags := 25, nameIndex := 288, descriptorIndex := 25, attributes := #[] }, { accessFlags := 25, nameIndex := 290, descriptorIndex := 25, attributes := #[] }, { accessFlags := 25, nameIndex := 292, descriptorIndex := 25, attributes := #[] }, { accessFlags := 26, nameIndex := 108, descriptorIndex := 109, attributes := #[] }, { accessFlags := 25, nameIndex := 294, descriptorIndex := 25, attributes := #[] }])
  fields := #[{ name := "U", type := (.object "jdk/internal/misc/Unsafe"), accessFlags := 24, slot := 0, constantValue := 0 }, { name := "BIG_ENDIAN", type := .boolean, accessFlags := 26, slot := 1, constantValue := 0 }, { name := "LOG2_ARRAY_BOOLEAN_INDEX_SCALE", type := .int, accessFlags := 25, slot := 2, constantValue := 0 }, { name := "LOG2_ARRAY_BYTE_INDEX_SCALE", type := .int, accessFlags := 25, slot := 3, constantValue := 0 }, { name := "LOG2_ARRAY_CHAR_INDEX_SCALE", type := .int, accessFlags := 25, slot := 4, constantValue := 0 }, { name := "LOG2_ARRAY_SHORT_INDEX_SCALE", type := .int, accessFlags := 25, slot := 5, constantValue := 0 }, { name := "LOG2_ARRAY_INT_INDEX_SCALE", type := .int, accessFlags := 25, slot := 6, constantValue := 0 }, { name := "LOG2_ARRAY_LONG_INDEX_SCALE", type := .int, accessFlags := 25, slot := 7, constantValue := 0 }, { name := "LOG2_ARRAY_FLOAT_INDEX_SCALE", type := .int, accessFlags := 25, slot := 8, constantValue := 0 }, { name := "LOG2_ARRAY_DOUBLE_INDEX_SCALE", type := .int, accessFlags := 25, slot := 9, constantValue := 0 }, { name := "LOG2_BYTE_BIT_SIZE", type := .int, accessFlags := 26, slot := 10, constantValue := 0 }, { name := "T_BOOLEAN", type := .int, accessFlags := 25, slot := 11, constantValue := 0 }, { name := "T_CHAR", type := .int, accessFlags := 25, slot := 12, constantValue := 0 }, { name := "T_FLOAT", type := .int, accessFlags := 25, slot := 13, constantValue := 0 }, { name := "T_DOUBLE", type := .int, accessFlags := 25, slot := 14, constantValue := 0 }, { name := "T_BYTE", type := .int, accessFlags := 25, slot := 15, constantValue := 0 }, { name := "T_SHORT", type := .int, accessFlags := 25, slot := 16, constantValue := 0 }, { name := "T_INT", type := .int, accessFlags := 25, slot := 17, constantValue := 0 }, { name := "T_LONG", type := .int, accessFlags := 25, slot := 18, constantValue := 0 }, { name := "JLA", type := (.object "jdk/internal/access/JavaLangAccess"), accessFlags := 26, slot := 19, constantValue := 0 }, { name := "SOFT_MAX_ARRAY_LENGTH", type := .int, accessFlags := 25, slot := 20, constantValue := 0 }]
  methods := #[k14m0]
  instanceTypes := #[]
  staticTypes := #[(.object "jdk/internal/misc/Unsafe"), .boolean, .int, .int, .int, .int, .int, .int, .int, .int, .int, .int, .int, .int, .int, .int, .int, .int, .int, (.object "jdk/internal/access/JavaLangAccess"), .int]
  resolved := Array.replicate 378 none
  statics := none }

def pool15 : Array CpInfo := pool [(1, u "java/lang/Cloneable"), (0, .class_ 1), (0, u "java/lang/Object"), (0, .class_ 3)] 3

/-- java/lang/Cloneable -/
def k15 : Class := { plain "java/lang/Cloneable" (some 0) with
  accessFlags := 1537
  interfaces := #[]
  cf := some (fileOf pool15 2 #[] #[] 1537 4 #[] #[])
  fields := #[]
  methods := #[]
  instanceTypes := #[]
  staticTypes := #[]
  resolved := Array.replicate 8 none
  statics := none }

/-- the primitive byte -/
def k16 : Class := { plain "byte" none with kind := .primitive 'B', accessFlags := 0x411 }
/-- [B -/
def k17 : Class := { plain "[B" (some 0) with kind := .array 16 .byte, interfaces := #[15, 2], accessFlags := 1041 }

/-- the primitive char -/
def k18 : Class := { plain "char" none with kind := .primitive 'C', accessFlags := 0x411 }
/-- [C -/
def k19 : Class := { plain "[C" (some 0) with kind := .array 18 .char, interfaces := #[15, 2], accessFlags := 1041 }

/-- the primitive int -/
def k20 : Class := { plain "int" none with kind := .primitive 'I', accessFlags := 0x411 }
/-- [I -/
def k21 : Class := { plain "[I" (some 0) with kind := .array 20 .int, interfaces := #[15, 2], accessFlags := 1041 }

def heap : Heap := #[{ cls := 7, slots := #[.long 0, .int 1, .null, .int 0, .null, .int 0, .int 0], vm := .statics 7 },
  { cls := 12, slots := #[.int 0, .int 8, .int 0, .int 1], vm := .statics 12 },
  { cls := 13, slots := #[.null, .null, .null], vm := .statics 13 }]
def classes : Array Class := #[k0, k1, k2, k3, k4, k5, k6, k7, k8, k9, k10, k11, k12, k13, k14, k15, k16, k17, k18, k19, k20, k21]
def interned : List (Array UInt16 × Addr) := []
def slotsUsed : Nat := 14
def theMethod : MethodId := ⟨1, 2⟩
def args0 : Array Value := #[.int 5, .int 65, .int 66, .int 98, .int 5]
def aboutOver (below : List Frame) : State where
  vm := { classes := classes, interned := interned.toArray }
  heap := heap
  slotsUsed := slotsUsed
  threads := #[{ frames := .invoking theMethod args0 :: below }]
def below0 : List Frame := [.native { method := ⟨0, 0⟩, args := #[] }]
def about1 : State := aboutOver below0
def p0 : Program := .bare "" "" ""
def e0 : Env := launch0.env 0 0 0
theorem w_frames : about1.frames = Frame.invoking theMethod args0 :: below0 := rfl
set_option maxRecDepth 65536 in
theorem w_args : argsFit about1.vm theMethod args0 = true := by decide +kernel
set_option maxRecDepth 65536 in
theorem w_heap : heapFits about1 = true := by decide +kernel
set_option maxRecDepth 65536 in
theorem w_runnable : about1.curStatus? = some .runnable := by decide +kernel
set_option maxRecDepth 65536 in
theorem w_alone : about1.alone = true := by decide +kernel
set_option maxRecDepth 65536 in
theorem w_named : about1.methodNamed? x = some theMethod := by decide +kernel
set_option maxRecDepth 65536 in
theorem w_hears : about1.hears theMethod below0 = true := by decide +kernel
set_option maxRecDepth 65536 in
theorem w_ripe : about1.ripe theMethod args0 below0 = true := by decide +kernel
theorem w_running : about1.status = .running := rfl
set_option maxRecDepth 65536 in
theorem w_room : about1.hasRoom e0.platform room_1 = true :=
  launch0.hasRoom_least _ room_1 (by decide +kernel) (by decide +kernel) (by decide +kernel) (by decide +kernel) (by decide +kernel) (by decide +kernel)
theorem allAtoms_all (ts : List Jvm.Cond) (a : Array Jvm.Value) (st : Jvm.State) : (allAtoms ts).before a st = ts.all (fun c => c.before a st) := by
  induction ts with
  | nil => rfl
  | cons c t ih =>
    show (Jvm.Cond.and c (allAtoms t)).before a st = _
    rw [Jvm.Cond.before_and, ih, List.all_cons]
def words1 : List Jvm.Cond := Jvm.Cond.code x code maxLocals ret :: tables_1
/-- a 'code' word, met by the world's own term for the bytes: nothing is compared byte by byte -/
theorem code_word {y : MethodName} {bytes : ByteArray} {mx : Nat} {rt : Option FieldType} {a : Array Value} {s : State} {m : MethodId} {meth : Method} {c : Code} (h1 : s.methodNamed? y = some m) (h2 : s.vm.method? m = some meth) (h3 : meth.code = some c) (h4 : c.code = bytes)
    (h5 : (c.maxLocals == mx && c.exceptionTable.isEmpty && decide (c.maxStack ≤ mostOperands) && decide (meth.sig.returnType = rt) && !meth.locks && decide (parseMethodDescriptor y.desc = some meth.sig)) = true) : (Jvm.Cond.code y bytes mx rt).before a s = true := by
  simp only [Bool.and_eq_true, beq_iff_eq, Bool.not_eq_true', decide_eq_true_eq] at h5
  obtain ⟨⟨⟨⟨⟨g1, g2⟩, g3⟩, g4⟩, g5⟩, g6⟩ := h5
  simp [Cond.before, Cond.holds, Cond.value, h1, h2, h3, h4, g1, g2, g3, g4, g5, g6]
def isCode : Jvm.Cond → Bool
  | .code _ _ _ _ => true
  | _ => false
theorem all_split {L : List Jvm.Cond} {P : Jvm.Cond → Bool} (h1 : L.all (fun c => isCode c || P c) = true) (h2 : ∀ c ∈ L.filter isCode, P c = true) : L.all P = true := by
  refine List.all_eq_true.mpr fun c hc => ?_
  have h := List.all_eq_true.mp h1 c hc
  rcases Bool.eq_false_or_eq_true (isCode c) with hi | hi
  · exact h2 c (List.mem_filter.mpr ⟨hc, hi⟩)
  · simpa [hi] using h
set_option maxRecDepth 65536 in
theorem w_c0 : (Jvm.Cond.code x code maxLocals ret).before args0 about1 = true := code_word (m := ⟨1, 2⟩) (meth := k1m2) (c := k1c2) (by decide +kernel) rfl rfl rfl (by decide +kernel)
set_option maxRecDepth 65536 in
theorem w_c1 : (Jvm.Cond.code ({ cls := "com/example/assayer/assayer/core/JsonStringEqualsPinLaw", name := "make", desc := "(ICC)Ljava/lang/String;" } : Jvm.MethodName) method_2_code (3 : Nat) (Option.some (Jvm.ClassFile.FieldType.object "java/lang/String"))).before args0 about1 = true := code_word (m := ⟨1, 1⟩) (meth := k1m1) (c := k1c1) (by decide +kernel) rfl rfl rfl (by decide +kernel)
set_option maxRecDepth 65536 in
theorem w_c2 : (Jvm.Cond.code ({ cls := "java/lang/String", name := "<init>", desc := "([C)V" } : Jvm.MethodName) jdk_42_method_3_code (2 : Nat) (Option.none : Option Jvm.ClassFile.FieldType)).before args0 about1 = true := code_word (m := ⟨7, 1⟩) (meth := k7m1) (c := k7c1) (by decide +kernel) rfl rfl rfl (by decide +kernel)
set_option maxRecDepth 65536 in
theorem w_c3 : (Jvm.Cond.code ({ cls := "java/lang/String", name := "<init>", desc := "([CIILjava/lang/Void;)V" } : Jvm.MethodName) jdk_42_method_149_code (6 : Nat) (Option.none : Option Jvm.ClassFile.FieldType)).before args0 about1 = true := code_word (m := ⟨7, 4⟩) (meth := k7m4) (c := k7c4) (by decide +kernel) rfl rfl rfl (by decide +kernel)
set_option maxRecDepth 65536 in
theorem w_c4 : (Jvm.Cond.code ({ cls := "java/lang/Object", name := "<init>", desc := "()V" } : Jvm.MethodName) object_method_1_code (1 : Nat) (Option.none : Option Jvm.ClassFile.FieldType)).before args0 about1 = true := code_word (m := ⟨0, 0⟩) (meth := k0m0) (c := k0c0) (by decide +kernel) rfl rfl rfl (by decide +kernel)
set_option maxRecDepth 65536 in
theorem w_c5 : (Jvm.Cond.code ({ cls := "com/example/assayer/assayer/core/JsonString", name := "<init>", desc := "(Ljava/lang/String;)V" } : Jvm.MethodName) prog_15_method_1_code (2 : Nat) (Option.none : Option Jvm.ClassFile.FieldType)).before args0 about1 = true := code_word (m := ⟨9, 0⟩) (meth := k9m0) (c := k9c0) (by decide +kernel) rfl rfl rfl (by decide +kernel)
set_option maxRecDepth 65536 in
theorem w_c6 : (Jvm.Cond.code ({ cls := "com/example/assayer/assayer/core/JsonValue", name := "<init>", desc := "()V" } : Jvm.MethodName) prog_18_method_1_code (1 : Nat) (Option.none : Option Jvm.ClassFile.FieldType)).before args0 about1 = true := code_word (m := ⟨8, 0⟩) (meth := k8m0) (c := k8c0) (by decide +kernel) rfl rfl rfl (by decide +kernel)
set_option maxRecDepth 65536 in
theorem w_c7 : (Jvm.Cond.code ({ cls := "java/util/Objects", name := "requireNonNull", desc := "(Ljava/lang/Object;Ljava/lang/String;)Ljava/lang/Object;" } : Jvm.MethodName) jdk_31_method_11_code (2 : Nat) (Option.some (Jvm.ClassFile.FieldType.object "java/lang/Object"))).before args0 about1 = true := code_word (m := ⟨10, 1⟩) (meth := k10m1) (c := k10c1) (by decide +kernel) rfl rfl rfl (by decide +kernel)
set_option maxRecDepth 65536 in
theorem w_c8 : (Jvm.Cond.code ({ cls := "com/example/assayer/assayer/core/JsonString", name := "equals", desc := "(Ljava/lang/Object;)Z" } : Jvm.MethodName) prog_15_method_6_code (3 : Nat) (Option.some Jvm.ClassFile.FieldType.boolean)).before args0 about1 = true := code_word (m := ⟨9, 1⟩) (meth := k9m1) (c := k9c1) (by decide +kernel) rfl rfl rfl (by decide +kernel)
set_option maxRecDepth 65536 in
theorem w_c9 : (Jvm.Cond.code ({ cls := "java/lang/String", name := "equals", desc := "(Ljava/lang/Object;)Z" } : Jvm.MethodName) jdk_42_method_66_code (3 : Nat) (Option.some Jvm.ClassFile.FieldType.boolean)).before args0 about1 = true := code_word (m := ⟨7, 2⟩) (meth := k7m2) (c := k7c2) (by decide +kernel) rfl rfl rfl (by decide +kernel)
set_option maxRecDepth 65536 in
theorem w_c10 : (Jvm.Cond.code ({ cls := "java/lang/StringLatin1", name := "equals", desc := "([B[B)Z" } : Jvm.MethodName) jdk_43_method_13_code (3 : Nat) (Option.some Jvm.ClassFile.FieldType.boolean)).before args0 about1 = true := code_word (m := ⟨11, 2⟩) (meth := k11m2) (c := k11c2) (by decide +kernel) rfl rfl rfl (by decide +kernel)
set_option maxRecDepth 65536 in
theorem w_c11 : (Jvm.Cond.code ({ cls := "java/lang/StringUTF16", name := "compress", desc := "([CII)[B" } : Jvm.MethodName) jdk_52_method_16_code (6 : Nat) (Option.some (Jvm.ClassFile.FieldType.array Jvm.ClassFile.FieldType.byte))).before args0 about1 = true := code_word (m := ⟨12, 7⟩) (meth := k12m7) (c := k12c7) (by decide +kernel) rfl rfl rfl (by decide +kernel)
set_option maxRecDepth 65536 in
theorem w_c12 : (Jvm.Cond.code ({ cls := "java/lang/StringUTF16", name := "compress", desc := "([CI[BII)I" } : Jvm.MethodName) jdk_52_method_21_code (7 : Nat) (Option.some Jvm.ClassFile.FieldType.int)).before args0 about1 = true := code_word (m := ⟨12, 8⟩) (meth := k12m8) (c := k12c8) (by decide +kernel) rfl rfl rfl (by decide +kernel)
set_option maxRecDepth 65536 in
theorem w_c13 : (Jvm.Cond.code ({ cls := "java/lang/StringUTF16", name := "coderFromArrayLen", desc := "([BI)B" } : Jvm.MethodName) jdk_52_method_15_code (2 : Nat) (Option.some Jvm.ClassFile.FieldType.byte)).before args0 about1 = true := code_word (m := ⟨12, 6⟩) (meth := k12m6) (c := k12c6) (by decide +kernel) rfl rfl rfl (by decide +kernel)
set_option maxRecDepth 65536 in
theorem w_c14 : (Jvm.Cond.code ({ cls := "java/lang/String", name := "valueOf", desc := "(C)Ljava/lang/String;" } : Jvm.MethodName) jdk_42_method_139_code (1 : Nat) (Option.some (Jvm.ClassFile.FieldType.object "java/lang/String"))).before args0 about1 = true := code_word (m := ⟨7, 3⟩) (meth := k7m3) (c := k7c3) (by decide +kernel) rfl rfl rfl (by decide +kernel)
set_option maxRecDepth 65536 in
theorem w_c15 : (Jvm.Cond.code ({ cls := "java/lang/StringLatin1", name := "canEncode", desc := "(C)Z" } : Jvm.MethodName) jdk_43_method_3_code (1 : Nat) (Option.some Jvm.ClassFile.FieldType.boolean)).before args0 about1 = true := code_word (m := ⟨11, 1⟩) (meth := k11m1) (c := k11c1) (by decide +kernel) rfl rfl rfl (by decide +kernel)
set_option maxRecDepth 65536 in
theorem w_c16 : (Jvm.Cond.code ({ cls := "java/lang/StringUTF16", name := "toBytes", desc := "(C)[B" } : Jvm.MethodName) jdk_52_method_24_code (2 : Nat) (Option.some (Jvm.ClassFile.FieldType.array Jvm.ClassFile.FieldType.byte))).before args0 about1 = true := code_word (m := ⟨12, 9⟩) (meth := k12m9) (c := k12c9) (by decide +kernel) rfl rfl rfl (by decide +kernel)
set_option maxRecDepth 65536 in
theorem w_c17 : (Jvm.Cond.code ({ cls := "java/lang/StringUTF16", name := "putChar", desc := "([BII)V" } : Jvm.MethodName) jdk_52_method_4_code (3 : Nat) (Option.none : Option Jvm.ClassFile.FieldType)).before args0 about1 = true := code_word (m := ⟨12, 3⟩) (meth := k12m3) (c := k12c3) (by decide +kernel) rfl rfl rfl (by decide +kernel)
set_option maxRecDepth 65536 in
theorem w_c18 : (Jvm.Cond.code ({ cls := "java/lang/String", name := "<init>", desc := "([BB)V" } : Jvm.MethodName) jdk_42_method_151_code (3 : Nat) (Option.none : Option Jvm.ClassFile.FieldType)).before args0 about1 = true := code_word (m := ⟨7, 5⟩) (meth := k7m5) (c := k7c5) (by decide +kernel) rfl rfl rfl (by decide +kernel)
set_option maxRecDepth 65536 in
theorem w_c19 : (Jvm.Cond.code ({ cls := "java/lang/StringLatin1", name := "toBytes", desc := "(C)[B" } : Jvm.MethodName) jdk_43_method_46_code (1 : Nat) (Option.some (Jvm.ClassFile.FieldType.array Jvm.ClassFile.FieldType.byte))).before args0 about1 = true := code_word (m := ⟨11, 3⟩) (meth := k11m3) (c := k11c3) (by decide +kernel) rfl rfl rfl (by decide +kernel)
set_option maxRecDepth 65536 in
theorem w_c20 : (Jvm.Cond.code ({ cls := "java/lang/StringUTF16", name := "toBytes", desc := "([CII)[B" } : Jvm.MethodName) jdk_52_method_14_code (5 : Nat) (Option.some (Jvm.ClassFile.FieldType.array Jvm.ClassFile.FieldType.byte))).before args0 about1 = true := code_word (m := ⟨12, 5⟩) (meth := k12m5) (c := k12c5) (by decide +kernel) rfl rfl rfl (by decide +kernel)
set_option maxRecDepth 65536 in
theorem w_c21 : (Jvm.Cond.code ({ cls := "java/lang/StringUTF16", name := "newBytesFor", desc := "(I)[B" } : Jvm.MethodName) jdk_52_method_2_code (1 : Nat) (Option.some (Jvm.ClassFile.FieldType.array Jvm.ClassFile.FieldType.byte))).before args0 about1 = true := code_word (m := ⟨12, 1⟩) (meth := k12m1) (c := k12c1) (by decide +kernel) rfl rfl rfl (by decide +kernel)
set_option maxRecDepth 65536 in
theorem w_c22 : (Jvm.Cond.code ({ cls := "java/lang/StringUTF16", name := "newBytesLength", desc := "(I)I" } : Jvm.MethodName) jdk_52_method_3_code (1 : Nat) (Option.some Jvm.ClassFile.FieldType.int)).before args0 about1 = true := code_word (m := ⟨12, 2⟩) (meth := k12m2) (c := k12c2) (by decide +kernel) rfl rfl rfl (by decide +kernel)
set_option maxRecDepth 65536 in
theorem w_c23 : (Jvm.Cond.code ({ cls := "java/lang/StringUTF16", name := "getChar", desc := "([BI)C" } : Jvm.MethodName) jdk_52_method_5_code (2 : Nat) (Option.some Jvm.ClassFile.FieldType.char)).before args0 about1 = true := code_word (m := ⟨12, 4⟩) (meth := k12m4) (c := k12c4) (by decide +kernel) rfl rfl rfl (by decide +kernel)
def codes1 : List Jvm.Cond := [Jvm.Cond.code x code maxLocals ret, Jvm.Cond.code ({ cls := "com/example/assayer/assayer/core/JsonStringEqualsPinLaw", name := "make", desc := "(ICC)Ljava/lang/String;" } : Jvm.MethodName) method_2_code (3 : Nat) (Option.some (Jvm.ClassFile.FieldType.object "java/lang/String")), Jvm.Cond.code ({ cls := "java/lang/String", name := "<init>", desc := "([C)V" } : Jvm.MethodName) jdk_42_method_3_code (2 : Nat) (Option.none : Option Jvm.ClassFile.FieldType), Jvm.Cond.code ({ cls := "java/lang/String", name := "<init>", desc := "([CIILjava/lang/Void;)V" } : Jvm.MethodName) jdk_42_method_149_code (6 : Nat) (Option.none : Option Jvm.ClassFile.FieldType), Jvm.Cond.code ({ cls := "java/lang/Object", name := "<init>", desc := "()V" } : Jvm.MethodName) object_method_1_code (1 : Nat) (Option.none : Option Jvm.ClassFile.FieldType), Jvm.Cond.code ({ cls := "com/example/assayer/assayer/core/JsonString", name := "<init>", desc := "(Ljava/lang/String;)V" } : Jvm.MethodName) prog_15_method_1_code (2 : Nat) (Option.none : Option Jvm.ClassFile.FieldType), Jvm.Cond.code ({ cls := "com/example/assayer/assayer/core/JsonValue", name := "<init>", desc := "()V" } : Jvm.MethodName) prog_18_method_1_code (1 : Nat) (Option.none : Option Jvm.ClassFile.FieldType), Jvm.Cond.code ({ cls := "java/util/Objects", name := "requireNonNull", desc := "(Ljava/lang/Object;Ljava/lang/String;)Ljava/lang/Object;" } : Jvm.MethodName) jdk_31_method_11_code (2 : Nat) (Option.some (Jvm.ClassFile.FieldType.object "java/lang/Object")), Jvm.Cond.code ({ cls := "com/example/assayer/assayer/core/JsonString", name := "equals", desc := "(Ljava/lang/Object;)Z" } : Jvm.MethodName) prog_15_method_6_code (3 : Nat) (Option.some Jvm.ClassFile.FieldType.boolean), Jvm.Cond.code ({ cls := "java/lang/String", name := "equals", desc := "(Ljava/lang/Object;)Z" } : Jvm.MethodName) jdk_42_method_66_code (3 : Nat) (Option.some Jvm.ClassFile.FieldType.boolean), Jvm.Cond.code ({ cls := "java/lang/StringLatin1", name := "equals", desc := "([B[B)Z" } : Jvm.MethodName) jdk_43_method_13_code (3 : Nat) (Option.some Jvm.ClassFile.FieldType.boolean), Jvm.Cond.code ({ cls := "java/lang/StringUTF16", name := "compress", desc := "([CII)[B" } : Jvm.MethodName) jdk_52_method_16_code (6 : Nat) (Option.some (Jvm.ClassFile.FieldType.array Jvm.ClassFile.FieldType.byte)), Jvm.Cond.code ({ cls := "java/lang/StringUTF16", name := "compress", desc := "([CI[BII)I" } : Jvm.MethodName) jdk_52_method_21_code (7 : Nat) (Option.some Jvm.ClassFile.FieldType.int), Jvm.Cond.code ({ cls := "java/lang/StringUTF16", name := "coderFromArrayLen", desc := "([BI)B" } : Jvm.MethodName) jdk_52_method_15_code (2 : Nat) (Option.some Jvm.ClassFile.FieldType.byte), Jvm.Cond.code ({ cls := "java/lang/String", name := "valueOf", desc := "(C)Ljava/lang/String;" } : Jvm.MethodName) jdk_42_method_139_code (1 : Nat) (Option.some (Jvm.ClassFile.FieldType.object "java/lang/String")), Jvm.Cond.code ({ cls := "java/lang/StringLatin1", name := "canEncode", desc := "(C)Z" } : Jvm.MethodName) jdk_43_method_3_code (1 : Nat) (Option.some Jvm.ClassFile.FieldType.boolean), Jvm.Cond.code ({ cls := "java/lang/StringUTF16", name := "toBytes", desc := "(C)[B" } : Jvm.MethodName) jdk_52_method_24_code (2 : Nat) (Option.some (Jvm.ClassFile.FieldType.array Jvm.ClassFile.FieldType.byte)), Jvm.Cond.code ({ cls := "java/lang/StringUTF16", name := "putChar", desc := "([BII)V" } : Jvm.MethodName) jdk_52_method_4_code (3 : Nat) (Option.none : Option Jvm.ClassFile.FieldType), Jvm.Cond.code ({ cls := "java/lang/String", name := "<init>", desc := "([BB)V" } : Jvm.MethodName) jdk_42_method_151_code (3 : Nat) (Option.none : Option Jvm.ClassFile.FieldType), Jvm.Cond.code ({ cls := "java/lang/StringLatin1", name := "toBytes", desc := "(C)[B" } : Jvm.MethodName) jdk_43_method_46_code (1 : Nat) (Option.some (Jvm.ClassFile.FieldType.array Jvm.ClassFile.FieldType.byte)), Jvm.Cond.code ({ cls := "java/lang/StringUTF16", name := "toBytes", desc := "([CII)[B" } : Jvm.MethodName) jdk_52_method_14_code (5 : Nat) (Option.some (Jvm.ClassFile.FieldType.array Jvm.ClassFile.FieldType.byte)), Jvm.Cond.code ({ cls := "java/lang/StringUTF16", name := "newBytesFor", desc := "(I)[B" } : Jvm.MethodName) jdk_52_method_2_code (1 : Nat) (Option.some (Jvm.ClassFile.FieldType.array Jvm.ClassFile.FieldType.byte)), Jvm.Cond.code ({ cls := "java/lang/StringUTF16", name := "newBytesLength", desc := "(I)I" } : Jvm.MethodName) jdk_52_method_3_code (1 : Nat) (Option.some Jvm.ClassFile.FieldType.int), Jvm.Cond.code ({ cls := "java/lang/StringUTF16", name := "getChar", desc := "([BI)C" } : Jvm.MethodName) jdk_52_method_5_code (2 : Nat) (Option.some Jvm.ClassFile.FieldType.char)]
set_option maxRecDepth 65536 in
theorem codes_eq : words1.filter isCode = codes1 := rfl
theorem w_codes : ∀ c ∈ words1.filter isCode, c.before args0 about1 = true := by
  rw [codes_eq]
  intro c hc
  simp only [codes1, List.mem_cons, List.not_mem_nil, or_false] at hc
  rcases hc with rfl | rfl | rfl | rfl | rfl | rfl | rfl | rfl | rfl | rfl | rfl | rfl | rfl | rfl | rfl | rfl | rfl | rfl | rfl | rfl | rfl | rfl | rfl | rfl
  · exact w_c0
  · exact w_c1
  · exact w_c2
  · exact w_c3
  · exact w_c4
  · exact w_c5
  · exact w_c6
  · exact w_c7
  · exact w_c8
  · exact w_c9
  · exact w_c10
  · exact w_c11
  · exact w_c12
  · exact w_c13
  · exact w_c14
  · exact w_c15
  · exact w_c16
  · exact w_c17
  · exact w_c18
  · exact w_c19
  · exact w_c20
  · exact w_c21
  · exact w_c22
  · exact w_c23
set_option maxRecDepth 65536 in
theorem w_t1 : (words1.take 24).all (fun c => isCode c || c.before args0 about1) = true := by decide +kernel
set_option maxRecDepth 65536 in
theorem w_t2 : ((words1.drop 24).take 24).all (fun c => isCode c || c.before args0 about1) = true := by decide +kernel
set_option maxRecDepth 65536 in
theorem w_t3 : (((words1.drop 24).drop 24).take 24).all (fun c => isCode c || c.before args0 about1) = true := by decide +kernel
set_option maxRecDepth 65536 in
theorem w_t4 : ((((words1.drop 24).drop 24).drop 24).take 24).all (fun c => isCode c || c.before args0 about1) = true := by decide +kernel
set_option maxRecDepth 65536 in
theorem w_t5 : ((((words1.drop 24).drop 24).drop 24).drop 24).all (fun c => isCode c || c.before args0 about1) = true := by decide +kernel
theorem w_tables : (allAtoms (Jvm.Cond.code x code maxLocals ret :: tables_1)).before args0 about1 = true := by
  rw [allAtoms_all]
  show words1.all (fun c => c.before args0 about1) = true
  refine all_split ?_ w_codes
  rw [← List.take_append_drop 24 words1, List.all_append, w_t1, ← List.take_append_drop 24 (words1.drop 24), List.all_append, w_t2, ← List.take_append_drop 24 ((words1.drop 24).drop 24), List.all_append, w_t3, ← List.take_append_drop 24 (((words1.drop 24).drop 24).drop 24), List.all_append, w_t4, w_t5]
  rfl
set_option maxRecDepth 65536 in
theorem w_rest : rest_1_c.before args0 about1 = true := by decide +kernel
set_option maxRecDepth 65536 in
theorem w_case : (Jvm.Cond.and given_1 narrow_1).before args0 about1 = true := by decide +kernel
set_option maxRecDepth 65536 in
theorem w_consts : constsHeld consts_1 about1 := Jvm.Lit.constsHeldB_iff.mp (by decide +kernel)
theorem w_applies : (headSpec (Jvm.Cond.code x code maxLocals ret :: tables_1) room_1).applies x e0.platform about1 = true :=
  (Spec.applies_iff w_frames).mpr ⟨w_running, w_runnable, w_alone, w_named, w_hears, w_ripe, w_room, w_tables⟩
theorem atStart : AtStart classFile x code maxLocals ret World_1 tables_1 room_1 Calls_1 rest_1 Pre_1 launch0 p0 e0 about1 theMethod args0 below0 :=
  ⟨lists_1, trivial, launch0.admits_env _ _ _, launch0.least_env, fairChoices_fair.cas, fairChoices_fair.clock, w_frames, w_args, w_heap, w_applies, ⟨w_consts, trivial⟩, w_rest, w_case⟩
end start1
theorem witness_1 : WitnessClaimed_1 := ⟨start1.p0, start1.e0, start1.about1, start1.theMethod, start1.args0, start1.below0, start1.atStart⟩
end Jvm.Pilot.@@N@@
