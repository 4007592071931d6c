import JvmDerived
import JvmDerived.Pilot.@@N@@Statement
import JvmDerived.Pilot.@@N@@Code
set_option linter.unusedVariables false
set_option linter.unusedSimpArgs false
@@BLOCK:NumsL.lean.txt@@
namespace Jvm.Pilot.@@N@@
open Jvm Jvm.ClassFile Sem Op Lib Jvm.Free Jvm.Stand Jvm.LawKit Jvm.RoadKit Bundle Jvm.Pilot.@@N@@.Jvm.D
section Own
variable {p : Program} {l : Launch} {e : Env} {R : Room} {s : State} {m : MethodId} {args : Array Value} {below : List Frame} {meth : Method} {c : Code} {T : State} {locs : List Loc} {cells slots : Nat} {Z : State} {a0 : Array Value} {h : Heap} {Q : Option Value → Heap → List Loc → Prop} {kc ks : Nat} {P : State → Outcome → Prop}
/-- from s₀ the run comes to an end at which P holds -/
def Go (p : Program) (e : Env) (below : List Frame) (P : State → Outcome → Prop) (s₀ : State) : Prop := ∃ s₂ o, Steps p.tables e below s₀ s₂ ∧ P s₂ o
/-- the method's end: Q holds of what it returns and leaves -/
def EndN (below : List Frame) (s : State) (Q : Option Value → Heap → List Loc → Prop) (kc ks : Nat) (s₂ : State) (o : Outcome) : Prop := s₂.status = .running ∧ Ended s₂ below o ∧ ∃ v L, o = .returned v ∧ Q v s₂.heap L ∧ FrameEnd s o s₂ L kc ks
theorem Go.of {P : State → Outcome → Prop} {s₀ s₁ : State} (G : Go p e below P s₁) (f : ∀ t, Steps p.tables e below s₁ t → Steps p.tables e below s₀ t) : Go p e below P s₀ := by
  obtain ⟨a, b, c1, d⟩ := G; exact ⟨a, b, f _ c1, d⟩
theorem Go.ret (X : Stand p l e R s m args below meth c T locs cells slots) (hx : p.tables.exec = Jvm.exec) (hlk : meth.locks = false) {pc : Nat} {Ls : Array Slot} {w : Value} {t : FieldType} {i : Instr} {rest : List Value} (hret : meth.sig.returnType = some t) (hd : decode c.code pc = .ok (i, 1)) (hn : narrow t w = w)
    (hi : (i = .ireturn ∧ (t = .int ∨ t = .boolean ∨ t = .byte ∨ t = .char ∨ t = .short) ∧ ∃ z, w = .int z) ∨ (i = .lreturn ∧ t = .long ∧ ∃ z, w = .long z) ∨ (i = .dreturn ∧ t = .double ∧ ∃ z, w = .double z) ∨ (i = .freturn ∧ t = .float ∧ ∃ z, w = .float z) ∨ (i = .areturn ∧ t.isReference = true ∧ w.isRef = true))
    (hc : cells ≤ kc) (hs : slots ≤ ks) (hQ : Q (some w) T.heap locs) : Go p e below (EndN below s Q kc ks) (T.setTop (mkF m pc Ls (w :: rest))) := by
  obtain ⟨fs, hr, hrun, hended, hW, hsame⟩ := X.leave (v := some w) (fun h => by rw [hret] at h; cases h) hlk
  exact ⟨_, _, retOut X hx hret hn hi hd hr, hrun, hended, _, _, rfl, hQ, ⟨_, rfl⟩, hW, hsame.mono hc hs⟩
theorem Go.retV (X : Stand p l e R s m args below meth c T locs cells slots) (hx : p.tables.exec = Jvm.exec) (hlk : meth.locks = false) {pc : Nat} {Ls : Array Slot} (hret : meth.sig.returnType = none) (hd : decode c.code pc = .ok (.return_, 1))
    (hc : cells ≤ kc) (hs : slots ≤ ks) (hQ : Q none T.heap locs) : Go p e below (EndN below s Q kc ks) (T.setTop (mkF m pc Ls [])) := by
  obtain ⟨fs, hr, hrun, hended, hW, hsame⟩ := X.leave (v := none) (fun _ => rfl) hlk
  exact ⟨_, _, X.returnOut hx hret hd hr, hrun, hended, _, _, rfl, hQ, ⟨_, rfl⟩, hW, hsame.mono hc hs⟩
theorem Go.retI (X : Stand p l e R s m args below meth c T locs cells slots) (hx : p.tables.exec = Jvm.exec) (hlk : meth.locks = false) {pc : Nat} {Ls : Array Slot} {z : Int32} {rest : List Value} (hret : meth.sig.returnType = some .int) (hd : decode c.code pc = .ok (.ireturn, 1))
    (hc : cells ≤ kc) (hs : slots ≤ ks) (hQ : Q (some (.int z)) T.heap locs) : Go p e below (EndN below s Q kc ks) (T.setTop (mkF m pc Ls (.int z :: rest))) :=
  Go.ret X hx hlk hret hd rfl (Or.inl ⟨rfl, Or.inl rfl, z, rfl⟩) hc hs hQ
theorem Go.retL (X : Stand p l e R s m args below meth c T locs cells slots) (hx : p.tables.exec = Jvm.exec) (hlk : meth.locks = false) {pc : Nat} {Ls : Array Slot} {z : Int64} {rest : List Value} (hret : meth.sig.returnType = some .long) (hd : decode c.code pc = .ok (.lreturn, 1))
    (hc : cells ≤ kc) (hs : slots ≤ ks) (hQ : Q (some (.long z)) T.heap locs) : Go p e below (EndN below s Q kc ks) (T.setTop (mkF m pc Ls (.long z :: rest))) :=
  Go.ret X hx hlk hret hd rfl (Or.inr (Or.inl ⟨rfl, rfl, z, rfl⟩)) hc hs hQ
theorem Go.retA (X : Stand p l e R s m args below meth c T locs cells slots) (hx : p.tables.exec = Jvm.exec) (hlk : meth.locks = false) {pc : Nat} {Ls : Array Slot} {w : Value} {t : FieldType} {rest : List Value} (hret : meth.sig.returnType = some t) (ht : t.isReference = true) (hw : w.isRef = true) (hd : decode c.code pc = .ok (.areturn, 1))
    (hc : cells ≤ kc) (hs : slots ≤ ks) (hQ : Q (some w) T.heap locs) : Go p e below (EndN below s Q kc ks) (T.setTop (mkF m pc Ls (w :: rest))) :=
  Go.ret X hx hlk hret hd (by cases t <;> first | (cases ht; done) | rfl) (Or.inr (Or.inr (Or.inr (Or.inr ⟨rfl, ht, hw⟩)))) hc hs hQ
theorem Go.retZ (X : Stand p l e R s m args below meth c T locs cells slots) (hx : p.tables.exec = Jvm.exec) (hlk : meth.locks = false) {pc : Nat} {Ls : Array Slot} {z : Int32} {t : FieldType} {rest : List Value} (hret : meth.sig.returnType = some t) (ht : t = .boolean ∨ t = .byte ∨ t = .char ∨ t = .short) (hd : decode c.code pc = .ok (.ireturn, 1))
    (hc : cells ≤ kc) (hs : slots ≤ ks) (hQ : Q (some (.int (nar t z))) T.heap locs) : Go p e below (EndN below s Q kc ks) (T.setTop (mkF m pc Ls (.int z :: rest))) := by
  obtain ⟨fs, hr, hrun, hended, hW, hsame⟩ := X.leave (v := some (.int (nar t z))) (fun h => by rw [hret] at h; cases h) hlk
  exact ⟨_, _, retN X hx hret ht hd hr, hrun, hended, _, _, rfl, hQ, ⟨_, rfl⟩, hW, hsame.mono hc hs⟩

theorem g_iconst (X : Stand p l e R s m args below meth c T locs cells slots) (hx : p.tables.exec = Jvm.exec) {pc : Nat} (pc' : Nat) {Ls : Array Slot} {st : List Value} {i : Int} (v : Int32) (hd : decode c.code pc = .ok (.iconst i, 1)) (hv : Int32.ofInt i = v) (hp : pc + 1 = pc') (G : Go p e below P (T.setTop (mkF m pc' Ls (.int v :: st)))) : Go p e below P (T.setTop (mkF m pc Ls (st))) := by
  subst hp; exact Go.of G fun _ q => XT.iconstV X.here hx rfl v hd hv q
theorem g_bipush (X : Stand p l e R s m args below meth c T locs cells slots) (hx : p.tables.exec = Jvm.exec) {pc : Nat} (pc' : Nat) {Ls : Array Slot} {st : List Value} {i : Int} (v : Int32) (hd : decode c.code pc = .ok (.bipush i, 2)) (hv : (Int8.ofInt i).toInt32 = v) (hp : pc + 2 = pc') (G : Go p e below P (T.setTop (mkF m pc' Ls (.int v :: st)))) : Go p e below P (T.setTop (mkF m pc Ls (st))) := by
  subst hp; exact Go.of G fun _ q => XT.bipushV X.here hx rfl v hd hv q
theorem g_sipush (X : Stand p l e R s m args below meth c T locs cells slots) (hx : p.tables.exec = Jvm.exec) {pc : Nat} (pc' : Nat) {Ls : Array Slot} {st : List Value} {i : Int} (v : Int32) (hd : decode c.code pc = .ok (.sipush i, 3)) (hv : (Int16.ofInt i).toInt32 = v) (hp : pc + 3 = pc') (G : Go p e below P (T.setTop (mkF m pc' Ls (.int v :: st)))) : Go p e below P (T.setTop (mkF m pc Ls (st))) := by
  subst hp; exact Go.of G fun _ q => XT.sipushV X.here hx rfl v hd hv q
theorem g_lconst (X : Stand p l e R s m args below meth c T locs cells slots) (hx : p.tables.exec = Jvm.exec) {pc : Nat} (pc' : Nat) {Ls : Array Slot} {st : List Value} {i : Fin 2} (v : Int64) (hd : decode c.code pc = .ok (.lconst i, 1)) (hv : Int64.ofNat i = v) (hp : pc + 1 = pc') (G : Go p e below P (T.setTop (mkF m pc' Ls (.long v :: st)))) : Go p e below P (T.setTop (mkF m pc Ls (st))) := by
  subst hp; exact Go.of G fun _ q => XT.lconstV X.here hx rfl v hd hv q
theorem g_aconst_null (X : Stand p l e R s m args below meth c T locs cells slots) (hx : p.tables.exec = Jvm.exec) {pc : Nat} (pc' : Nat) {Ls : Array Slot} {st : List Value}  (hd : decode c.code pc = .ok (.aconst_null, 1))  (hp : pc + 1 = pc') (G : Go p e below P (T.setTop (mkF m pc' Ls (.null :: st)))) : Go p e below P (T.setTop (mkF m pc Ls (st))) := by
  subst hp; exact Go.of G fun _ q => XS.aconstNull X.here hx rfl hd q
theorem g_iload_n (X : Stand p l e R s m args below meth c T locs cells slots) (hx : p.tables.exec = Jvm.exec) {pc : Nat} (pc' : Nat) {Ls : Array Slot} {st : List Value} {i : Fin 4} (v : Int32) (hd : decode c.code pc = .ok (.iload_n i, 1)) (hv : Ls[i.val]? = some (.val (.int v))) (hp : pc + 1 = pc') (G : Go p e below P (T.setTop (mkF m pc' Ls (.int v :: st)))) : Go p e below P (T.setTop (mkF m pc Ls (st))) := by
  subst hp; exact Go.of G fun _ q => XS.iloadN X.here hx rfl hd hv q
theorem g_iload (X : Stand p l e R s m args below meth c T locs cells slots) (hx : p.tables.exec = Jvm.exec) {pc : Nat} (pc' : Nat) {Ls : Array Slot} {st : List Value} {i : Nat} (v : Int32) (hd : decode c.code pc = .ok (.iload i, 2)) (hv : Ls[i]? = some (.val (.int v))) (hp : pc + 2 = pc') (G : Go p e below P (T.setTop (mkF m pc' Ls (.int v :: st)))) : Go p e below P (T.setTop (mkF m pc Ls (st))) := by
  subst hp; exact Go.of G fun _ q => XS.iload X.here hx rfl hd hv q
theorem g_lload_n (X : Stand p l e R s m args below meth c T locs cells slots) (hx : p.tables.exec = Jvm.exec) {pc : Nat} (pc' : Nat) {Ls : Array Slot} {st : List Value} {i : Fin 4} (v : Int64) (hd : decode c.code pc = .ok (.lload_n i, 1)) (hv : Ls[i.val]? = some (.val (.long v))) (hp : pc + 1 = pc') (G : Go p e below P (T.setTop (mkF m pc' Ls (.long v :: st)))) : Go p e below P (T.setTop (mkF m pc Ls (st))) := by
  subst hp; exact Go.of G fun _ q => XT.lloadN X.here hx rfl hd hv q
theorem g_lload (X : Stand p l e R s m args below meth c T locs cells slots) (hx : p.tables.exec = Jvm.exec) {pc : Nat} (pc' : Nat) {Ls : Array Slot} {st : List Value} {i : Nat} (v : Int64) (hd : decode c.code pc = .ok (.lload i, 2)) (hv : Ls[i]? = some (.val (.long v))) (hp : pc + 2 = pc') (G : Go p e below P (T.setTop (mkF m pc' Ls (.long v :: st)))) : Go p e below P (T.setTop (mkF m pc Ls (st))) := by
  subst hp; exact Go.of G fun _ q => XT.lload X.here hx rfl hd hv q
theorem g_aload_n (X : Stand p l e R s m args below meth c T locs cells slots) (hx : p.tables.exec = Jvm.exec) {pc : Nat} (pc' : Nat) {Ls : Array Slot} {st : List Value} {i : Fin 4} (v : Value) (hd : decode c.code pc = .ok (.aload_n i, 1)) (hv : Ls[i.val]? = some (.val v)) (hr : v.isRef = true) (hp : pc + 1 = pc') (G : Go p e below P (T.setTop (mkF m pc' Ls (v :: st)))) : Go p e below P (T.setTop (mkF m pc Ls (st))) := by
  subst hp; exact Go.of G fun _ q => XS.aloadN X.here hx rfl hd hv hr q
theorem g_aload (X : Stand p l e R s m args below meth c T locs cells slots) (hx : p.tables.exec = Jvm.exec) {pc : Nat} (pc' : Nat) {Ls : Array Slot} {st : List Value} {i : Nat} (v : Value) (hd : decode c.code pc = .ok (.aload i, 2)) (hv : Ls[i]? = some (.val v)) (hr : v.isRef = true) (hp : pc + 2 = pc') (G : Go p e below P (T.setTop (mkF m pc' Ls (v :: st)))) : Go p e below P (T.setTop (mkF m pc Ls (st))) := by
  subst hp; exact Go.of G fun _ q => XS.aload X.here hx rfl hd hv hr q
theorem g_istore_n (X : Stand p l e R s m args below meth c T locs cells slots) (hx : p.tables.exec = Jvm.exec) {pc : Nat} (pc' : Nat) {Ls : Array Slot} {st : List Value} {i : Fin 4} {v : Int32} (Ls' : Array Slot) (hd : decode c.code pc = .ok (.istore_n i, 1)) (hv : storeLocals Ls i.val (.int v) = some Ls') (hp : pc + 1 = pc') (G : Go p e below P (T.setTop (mkF m pc' Ls' (st)))) : Go p e below P (T.setTop (mkF m pc Ls (.int v :: st))) := by
  subst hp; exact Go.of G fun _ q => XS.istoreN X.here hx rfl hd rfl hv q
theorem g_istore (X : Stand p l e R s m args below meth c T locs cells slots) (hx : p.tables.exec = Jvm.exec) {pc : Nat} (pc' : Nat) {Ls : Array Slot} {st : List Value} {i : Nat} {v : Int32} (Ls' : Array Slot) (hd : decode c.code pc = .ok (.istore i, 2)) (hv : storeLocals Ls i (.int v) = some Ls') (hp : pc + 2 = pc') (G : Go p e below P (T.setTop (mkF m pc' Ls' (st)))) : Go p e below P (T.setTop (mkF m pc Ls (.int v :: st))) := by
  subst hp; exact Go.of G fun _ q => XS.istore X.here hx rfl hd rfl hv q
theorem g_lstore_n (X : Stand p l e R s m args below meth c T locs cells slots) (hx : p.tables.exec = Jvm.exec) {pc : Nat} (pc' : Nat) {Ls : Array Slot} {st : List Value} {i : Fin 4} {v : Int64} (Ls' : Array Slot) (hd : decode c.code pc = .ok (.lstore_n i, 1)) (hv : storeLocals Ls i.val (.long v) = some Ls') (hp : pc + 1 = pc') (G : Go p e below P (T.setTop (mkF m pc' Ls' (st)))) : Go p e below P (T.setTop (mkF m pc Ls (.long v :: st))) := by
  subst hp; exact Go.of G fun _ q => XT.lstoreN X.here hx rfl hd rfl hv q
theorem g_lstore (X : Stand p l e R s m args below meth c T locs cells slots) (hx : p.tables.exec = Jvm.exec) {pc : Nat} (pc' : Nat) {Ls : Array Slot} {st : List Value} {i : Nat} {v : Int64} (Ls' : Array Slot) (hd : decode c.code pc = .ok (.lstore i, 2)) (hv : storeLocals Ls i (.long v) = some Ls') (hp : pc + 2 = pc') (G : Go p e below P (T.setTop (mkF m pc' Ls' (st)))) : Go p e below P (T.setTop (mkF m pc Ls (.long v :: st))) := by
  subst hp; exact Go.of G fun _ q => XT.lstore X.here hx rfl hd rfl hv q
theorem g_astore_n (X : Stand p l e R s m args below meth c T locs cells slots) (hx : p.tables.exec = Jvm.exec) {pc : Nat} (pc' : Nat) {Ls : Array Slot} {st : List Value} {i : Fin 4} {v : Value} (Ls' : Array Slot) (hd : decode c.code pc = .ok (.astore_n i, 1)) (hr : v.isRef = true) (hv : storeLocals Ls i.val v = some Ls') (hp : pc + 1 = pc') (G : Go p e below P (T.setTop (mkF m pc' Ls' (st)))) : Go p e below P (T.setTop (mkF m pc Ls (v :: st))) := by
  subst hp; exact Go.of G fun _ q => XS.astoreN X.here hx rfl hd rfl hr hv q
theorem g_astore (X : Stand p l e R s m args below meth c T locs cells slots) (hx : p.tables.exec = Jvm.exec) {pc : Nat} (pc' : Nat) {Ls : Array Slot} {st : List Value} {i : Nat} {v : Value} (Ls' : Array Slot) (hd : decode c.code pc = .ok (.astore i, 2)) (hr : v.isRef = true) (hv : storeLocals Ls i v = some Ls') (hp : pc + 2 = pc') (G : Go p e below P (T.setTop (mkF m pc' Ls' (st)))) : Go p e below P (T.setTop (mkF m pc Ls (v :: st))) := by
  subst hp; exact Go.of G fun _ q => XS.astore X.here hx rfl hd rfl hr hv q
theorem g_iinc (X : Stand p l e R s m args below meth c T locs cells slots) (hx : p.tables.exec = Jvm.exec) {pc : Nat} (pc' : Nat) {Ls : Array Slot} {st : List Value} {i : Nat} {k : Int} {x : Int32} (v : Int32) (Ls' : Array Slot) (hd : decode c.code pc = .ok (.iinc i k, 3)) (hk : Int32.ofInt k = v) (hv : Ls[i]? = some (.val (.int x))) (hl : storeLocals Ls i (.int (x + v)) = some Ls') (hp : pc + 3 = pc') (G : Go p e below P (T.setTop (mkF m pc' Ls' (st)))) : Go p e below P (T.setTop (mkF m pc Ls (st))) := by
  subst hp; exact Go.of G fun _ q => XT.iincV X.here hx rfl v hd hk hv hl q
theorem g_iadd (X : Stand p l e R s m args below meth c T locs cells slots) (hx : p.tables.exec = Jvm.exec) {pc : Nat} (pc' : Nat) {Ls : Array Slot} {st : List Value} {x y : Int32} (hd : decode c.code pc = .ok (.iadd, 1))  (hp : pc + 1 = pc') (G : Go p e below P (T.setTop (mkF m pc' Ls (.int (x + y) :: st)))) : Go p e below P (T.setTop (mkF m pc Ls (.int y :: .int x :: st))) := by
  subst hp; exact Go.of G fun _ q => XS.iadd X.here hx rfl hd rfl q
theorem g_isub (X : Stand p l e R s m args below meth c T locs cells slots) (hx : p.tables.exec = Jvm.exec) {pc : Nat} (pc' : Nat) {Ls : Array Slot} {st : List Value} {x y : Int32} (hd : decode c.code pc = .ok (.isub, 1))  (hp : pc + 1 = pc') (G : Go p e below P (T.setTop (mkF m pc' Ls (.int (x - y) :: st)))) : Go p e below P (T.setTop (mkF m pc Ls (.int y :: .int x :: st))) := by
  subst hp; exact Go.of G fun _ q => XS.isub X.here hx rfl hd rfl q
theorem g_iand (X : Stand p l e R s m args below meth c T locs cells slots) (hx : p.tables.exec = Jvm.exec) {pc : Nat} (pc' : Nat) {Ls : Array Slot} {st : List Value} {x y : Int32} (hd : decode c.code pc = .ok (.iand, 1))  (hp : pc + 1 = pc') (G : Go p e below P (T.setTop (mkF m pc' Ls (.int (x &&& y) :: st)))) : Go p e below P (T.setTop (mkF m pc Ls (.int y :: .int x :: st))) := by
  subst hp; exact Go.of G fun _ q => XS.iand X.here hx rfl hd rfl q
theorem g_imul (X : Stand p l e R s m args below meth c T locs cells slots) (hx : p.tables.exec = Jvm.exec) {pc : Nat} (pc' : Nat) {Ls : Array Slot} {st : List Value} {x y : Int32} (hd : decode c.code pc = .ok (.imul, 1))  (hp : pc + 1 = pc') (G : Go p e below P (T.setTop (mkF m pc' Ls (.int (x * y) :: st)))) : Go p e below P (T.setTop (mkF m pc Ls (.int y :: .int x :: st))) := by
  subst hp; exact Go.of G fun _ q => XS.imul X.here hx rfl hd rfl q
theorem g_ior (X : Stand p l e R s m args below meth c T locs cells slots) (hx : p.tables.exec = Jvm.exec) {pc : Nat} (pc' : Nat) {Ls : Array Slot} {st : List Value} {x y : Int32} (hd : decode c.code pc = .ok (.ior, 1))  (hp : pc + 1 = pc') (G : Go p e below P (T.setTop (mkF m pc' Ls (.int (x ||| y) :: st)))) : Go p e below P (T.setTop (mkF m pc Ls (.int y :: .int x :: st))) := by
  subst hp; exact Go.of G fun _ q => XT.ior X.here hx rfl hd rfl q
theorem g_ixor (X : Stand p l e R s m args below meth c T locs cells slots) (hx : p.tables.exec = Jvm.exec) {pc : Nat} (pc' : Nat) {Ls : Array Slot} {st : List Value} {x y : Int32} (hd : decode c.code pc = .ok (.ixor, 1))  (hp : pc + 1 = pc') (G : Go p e below P (T.setTop (mkF m pc' Ls (.int (x ^^^ y) :: st)))) : Go p e below P (T.setTop (mkF m pc Ls (.int y :: .int x :: st))) := by
  subst hp; exact Go.of G fun _ q => XT.ixor X.here hx rfl hd rfl q
theorem g_ishl (X : Stand p l e R s m args below meth c T locs cells slots) (hx : p.tables.exec = Jvm.exec) {pc : Nat} (pc' : Nat) {Ls : Array Slot} {st : List Value} {x y : Int32} (hd : decode c.code pc = .ok (.ishl, 1))  (hp : pc + 1 = pc') (G : Go p e below P (T.setTop (mkF m pc' Ls (.int (x <<< (y &&& 31)) :: st)))) : Go p e below P (T.setTop (mkF m pc Ls (.int y :: .int x :: st))) := by
  subst hp; exact Go.of G fun _ q => XT.ishl X.here hx rfl hd rfl q
theorem g_ishr (X : Stand p l e R s m args below meth c T locs cells slots) (hx : p.tables.exec = Jvm.exec) {pc : Nat} (pc' : Nat) {Ls : Array Slot} {st : List Value} {x y : Int32} (hd : decode c.code pc = .ok (.ishr, 1))  (hp : pc + 1 = pc') (G : Go p e below P (T.setTop (mkF m pc' Ls (.int (x >>> (y &&& 31)) :: st)))) : Go p e below P (T.setTop (mkF m pc Ls (.int y :: .int x :: st))) := by
  subst hp; exact Go.of G fun _ q => XT.ishr X.here hx rfl hd rfl q
theorem g_iushr (X : Stand p l e R s m args below meth c T locs cells slots) (hx : p.tables.exec = Jvm.exec) {pc : Nat} (pc' : Nat) {Ls : Array Slot} {st : List Value} {x y : Int32} (hd : decode c.code pc = .ok (.iushr, 1))  (hp : pc + 1 = pc') (G : Go p e below P (T.setTop (mkF m pc' Ls (.int (XT.ushr x y) :: st)))) : Go p e below P (T.setTop (mkF m pc Ls (.int y :: .int x :: st))) := by
  subst hp; exact Go.of G fun _ q => XT.iushr X.here hx rfl hd rfl q
theorem g_idiv (X : Stand p l e R s m args below meth c T locs cells slots) (hx : p.tables.exec = Jvm.exec) {pc : Nat} (pc' : Nat) {Ls : Array Slot} {st : List Value} {x y : Int32} (hd : decode c.code pc = .ok (.idiv, 1)) (hy : y ≠ 0) (hp : pc + 1 = pc') (G : Go p e below P (T.setTop (mkF m pc' Ls (.int (x / y) :: st)))) : Go p e below P (T.setTop (mkF m pc Ls (.int y :: .int x :: st))) := by
  subst hp; exact Go.of G fun _ q => XS.idiv X.here hx rfl hd rfl hy q
theorem g_irem (X : Stand p l e R s m args below meth c T locs cells slots) (hx : p.tables.exec = Jvm.exec) {pc : Nat} (pc' : Nat) {Ls : Array Slot} {st : List Value} {x y : Int32} (hd : decode c.code pc = .ok (.irem, 1)) (hy : y ≠ 0) (hp : pc + 1 = pc') (G : Go p e below P (T.setTop (mkF m pc' Ls (.int (x % y) :: st)))) : Go p e below P (T.setTop (mkF m pc Ls (.int y :: .int x :: st))) := by
  subst hp; exact Go.of G fun _ q => iremM X hx rfl hd rfl hy q
theorem g_ineg (X : Stand p l e R s m args below meth c T locs cells slots) (hx : p.tables.exec = Jvm.exec) {pc : Nat} (pc' : Nat) {Ls : Array Slot} {st : List Value} {x : Int32} (hd : decode c.code pc = .ok (.ineg, 1))  (hp : pc + 1 = pc') (G : Go p e below P (T.setTop (mkF m pc' Ls (.int (-x) :: st)))) : Go p e below P (T.setTop (mkF m pc Ls (.int x :: st))) := by
  subst hp; exact Go.of G fun _ q => XS.ineg X.here hx rfl hd rfl q
theorem g_ladd (X : Stand p l e R s m args below meth c T locs cells slots) (hx : p.tables.exec = Jvm.exec) {pc : Nat} (pc' : Nat) {Ls : Array Slot} {st : List Value} {x y : Int64} (hd : decode c.code pc = .ok (.ladd, 1))  (hp : pc + 1 = pc') (G : Go p e below P (T.setTop (mkF m pc' Ls (.long (x + y) :: st)))) : Go p e below P (T.setTop (mkF m pc Ls (.long y :: .long x :: st))) := by
  subst hp; exact Go.of G fun _ q => XT.ladd X.here hx rfl hd rfl q
theorem g_lsub (X : Stand p l e R s m args below meth c T locs cells slots) (hx : p.tables.exec = Jvm.exec) {pc : Nat} (pc' : Nat) {Ls : Array Slot} {st : List Value} {x y : Int64} (hd : decode c.code pc = .ok (.lsub, 1))  (hp : pc + 1 = pc') (G : Go p e below P (T.setTop (mkF m pc' Ls (.long (x - y) :: st)))) : Go p e below P (T.setTop (mkF m pc Ls (.long y :: .long x :: st))) := by
  subst hp; exact Go.of G fun _ q => XT.lsub X.here hx rfl hd rfl q
theorem g_lmul (X : Stand p l e R s m args below meth c T locs cells slots) (hx : p.tables.exec = Jvm.exec) {pc : Nat} (pc' : Nat) {Ls : Array Slot} {st : List Value} {x y : Int64} (hd : decode c.code pc = .ok (.lmul, 1))  (hp : pc + 1 = pc') (G : Go p e below P (T.setTop (mkF m pc' Ls (.long (x * y) :: st)))) : Go p e below P (T.setTop (mkF m pc Ls (.long y :: .long x :: st))) := by
  subst hp; exact Go.of G fun _ q => XT.lmul X.here hx rfl hd rfl q
theorem g_land (X : Stand p l e R s m args below meth c T locs cells slots) (hx : p.tables.exec = Jvm.exec) {pc : Nat} (pc' : Nat) {Ls : Array Slot} {st : List Value} {x y : Int64} (hd : decode c.code pc = .ok (.land, 1))  (hp : pc + 1 = pc') (G : Go p e below P (T.setTop (mkF m pc' Ls (.long (x &&& y) :: st)))) : Go p e below P (T.setTop (mkF m pc Ls (.long y :: .long x :: st))) := by
  subst hp; exact Go.of G fun _ q => XT.land X.here hx rfl hd rfl q
theorem g_lor (X : Stand p l e R s m args below meth c T locs cells slots) (hx : p.tables.exec = Jvm.exec) {pc : Nat} (pc' : Nat) {Ls : Array Slot} {st : List Value} {x y : Int64} (hd : decode c.code pc = .ok (.lor, 1))  (hp : pc + 1 = pc') (G : Go p e below P (T.setTop (mkF m pc' Ls (.long (x ||| y) :: st)))) : Go p e below P (T.setTop (mkF m pc Ls (.long y :: .long x :: st))) := by
  subst hp; exact Go.of G fun _ q => XT.lor X.here hx rfl hd rfl q
theorem g_lxor (X : Stand p l e R s m args below meth c T locs cells slots) (hx : p.tables.exec = Jvm.exec) {pc : Nat} (pc' : Nat) {Ls : Array Slot} {st : List Value} {x y : Int64} (hd : decode c.code pc = .ok (.lxor, 1))  (hp : pc + 1 = pc') (G : Go p e below P (T.setTop (mkF m pc' Ls (.long (x ^^^ y) :: st)))) : Go p e below P (T.setTop (mkF m pc Ls (.long y :: .long x :: st))) := by
  subst hp; exact Go.of G fun _ q => XT.lxor X.here hx rfl hd rfl q
theorem g_ldiv (X : Stand p l e R s m args below meth c T locs cells slots) (hx : p.tables.exec = Jvm.exec) {pc : Nat} (pc' : Nat) {Ls : Array Slot} {st : List Value} {x y : Int64} (hd : decode c.code pc = .ok (.ldiv, 1)) (hy : y ≠ 0) (hp : pc + 1 = pc') (G : Go p e below P (T.setTop (mkF m pc' Ls (.long (x / y) :: st)))) : Go p e below P (T.setTop (mkF m pc Ls (.long y :: .long x :: st))) := by
  subst hp; exact Go.of G fun _ q => XT.ldiv X.here hx rfl hd rfl hy q
theorem g_lrem (X : Stand p l e R s m args below meth c T locs cells slots) (hx : p.tables.exec = Jvm.exec) {pc : Nat} (pc' : Nat) {Ls : Array Slot} {st : List Value} {x y : Int64} (hd : decode c.code pc = .ok (.lrem, 1)) (hy : y ≠ 0) (hp : pc + 1 = pc') (G : Go p e below P (T.setTop (mkF m pc' Ls (.long (x % y) :: st)))) : Go p e below P (T.setTop (mkF m pc Ls (.long y :: .long x :: st))) := by
  subst hp; exact Go.of G fun _ q => XT.lrem X.here hx rfl hd rfl hy (by rw [Jvm.RoadKit.lrem_mod]; exact q)
theorem g_lneg (X : Stand p l e R s m args below meth c T locs cells slots) (hx : p.tables.exec = Jvm.exec) {pc : Nat} (pc' : Nat) {Ls : Array Slot} {st : List Value} {x : Int64} (hd : decode c.code pc = .ok (.lneg, 1))  (hp : pc + 1 = pc') (G : Go p e below P (T.setTop (mkF m pc' Ls (.long (-x) :: st)))) : Go p e below P (T.setTop (mkF m pc Ls (.long x :: st))) := by
  subst hp; exact Go.of G fun _ q => XT.lneg X.here hx rfl hd rfl q
theorem g_lshl (X : Stand p l e R s m args below meth c T locs cells slots) (hx : p.tables.exec = Jvm.exec) {pc : Nat} (pc' : Nat) {Ls : Array Slot} {st : List Value} {x : Int64} {y : Int32} (hd : decode c.code pc = .ok (.lshl, 1))  (hp : pc + 1 = pc') (G : Go p e below P (T.setTop (mkF m pc' Ls (.long (x <<< (y.toInt64 &&& 63)) :: st)))) : Go p e below P (T.setTop (mkF m pc Ls (.int y :: .long x :: st))) := by
  subst hp; exact Go.of G fun _ q => XT.lshl X.here hx rfl hd rfl q
theorem g_lshr (X : Stand p l e R s m args below meth c T locs cells slots) (hx : p.tables.exec = Jvm.exec) {pc : Nat} (pc' : Nat) {Ls : Array Slot} {st : List Value} {x : Int64} {y : Int32} (hd : decode c.code pc = .ok (.lshr, 1))  (hp : pc + 1 = pc') (G : Go p e below P (T.setTop (mkF m pc' Ls (.long (x >>> (y.toInt64 &&& 63)) :: st)))) : Go p e below P (T.setTop (mkF m pc Ls (.int y :: .long x :: st))) := by
  subst hp; exact Go.of G fun _ q => XT.lshr X.here hx rfl hd rfl q
theorem g_lushr (X : Stand p l e R s m args below meth c T locs cells slots) (hx : p.tables.exec = Jvm.exec) {pc : Nat} (pc' : Nat) {Ls : Array Slot} {st : List Value} {x : Int64} {y : Int32} (hd : decode c.code pc = .ok (.lushr, 1))  (hp : pc + 1 = pc') (G : Go p e below P (T.setTop (mkF m pc' Ls (.long (XT.ushrL x y) :: st)))) : Go p e below P (T.setTop (mkF m pc Ls (.int y :: .long x :: st))) := by
  subst hp; exact Go.of G fun _ q => XT.lushr X.here hx rfl hd rfl q
theorem g_lcmp (X : Stand p l e R s m args below meth c T locs cells slots) (hx : p.tables.exec = Jvm.exec) {pc : Nat} (pc' : Nat) {Ls : Array Slot} {st : List Value} {x y : Int64} (hd : decode c.code pc = .ok (.lcmp, 1))  (hp : pc + 1 = pc') (G : Go p e below P (T.setTop (mkF m pc' Ls (.int (XT.cmpL x y) :: st)))) : Go p e below P (T.setTop (mkF m pc Ls (.long y :: .long x :: st))) := by
  subst hp; exact Go.of G fun _ q => XT.lcmp X.here hx rfl hd rfl q
theorem g_i2l (X : Stand p l e R s m args below meth c T locs cells slots) (hx : p.tables.exec = Jvm.exec) {pc : Nat} (pc' : Nat) {Ls : Array Slot} {st : List Value} {x : Int32} (hd : decode c.code pc = .ok (.i2l, 1))  (hp : pc + 1 = pc') (G : Go p e below P (T.setTop (mkF m pc' Ls (.long (x.toInt64) :: st)))) : Go p e below P (T.setTop (mkF m pc Ls (.int x :: st))) := by
  subst hp; exact Go.of G fun _ q => XT.i2l X.here hx rfl hd rfl q
theorem g_l2i (X : Stand p l e R s m args below meth c T locs cells slots) (hx : p.tables.exec = Jvm.exec) {pc : Nat} (pc' : Nat) {Ls : Array Slot} {st : List Value} {x : Int64} (hd : decode c.code pc = .ok (.l2i, 1))  (hp : pc + 1 = pc') (G : Go p e below P (T.setTop (mkF m pc' Ls (.int (x.toInt32) :: st)))) : Go p e below P (T.setTop (mkF m pc Ls (.long x :: st))) := by
  subst hp; exact Go.of G fun _ q => XT.l2i X.here hx rfl hd rfl q
theorem g_i2b (X : Stand p l e R s m args below meth c T locs cells slots) (hx : p.tables.exec = Jvm.exec) {pc : Nat} (pc' : Nat) {Ls : Array Slot} {st : List Value} {x : Int32} (hd : decode c.code pc = .ok (.i2b, 1))  (hp : pc + 1 = pc') (G : Go p e below P (T.setTop (mkF m pc' Ls (.int (x.toInt8.toInt32) :: st)))) : Go p e below P (T.setTop (mkF m pc Ls (.int x :: st))) := by
  subst hp; exact Go.of G fun _ q => XT.i2b X.here hx rfl hd rfl q
theorem g_i2c (X : Stand p l e R s m args below meth c T locs cells slots) (hx : p.tables.exec = Jvm.exec) {pc : Nat} (pc' : Nat) {Ls : Array Slot} {st : List Value} {x : Int32} (hd : decode c.code pc = .ok (.i2c, 1))  (hp : pc + 1 = pc') (G : Go p e below P (T.setTop (mkF m pc' Ls (.int (x.toUInt32.toUInt16.toUInt32.toInt32) :: st)))) : Go p e below P (T.setTop (mkF m pc Ls (.int x :: st))) := by
  subst hp; exact Go.of G fun _ q => XT.i2c X.here hx rfl hd rfl q
theorem g_i2s (X : Stand p l e R s m args below meth c T locs cells slots) (hx : p.tables.exec = Jvm.exec) {pc : Nat} (pc' : Nat) {Ls : Array Slot} {st : List Value} {x : Int32} (hd : decode c.code pc = .ok (.i2s, 1))  (hp : pc + 1 = pc') (G : Go p e below P (T.setTop (mkF m pc' Ls (.int (x.toInt16.toInt32) :: st)))) : Go p e below P (T.setTop (mkF m pc Ls (.int x :: st))) := by
  subst hp; exact Go.of G fun _ q => XT.i2s X.here hx rfl hd rfl q
theorem g_dup (X : Stand p l e R s m args below meth c T locs cells slots) (hx : p.tables.exec = Jvm.exec) {pc : Nat} (pc' : Nat) {Ls : Array Slot} {st : List Value} {x : Value} (hd : decode c.code pc = .ok (.dup, 1)) (hc : x.category = 1) (hp : pc + 1 = pc') (G : Go p e below P (T.setTop (mkF m pc' Ls (x :: x :: st)))) : Go p e below P (T.setTop (mkF m pc Ls (x :: st))) := by
  subst hp; exact Go.of G fun _ q => XS.dup X.here hx rfl hd rfl hc q
theorem g_pop (X : Stand p l e R s m args below meth c T locs cells slots) (hx : p.tables.exec = Jvm.exec) {pc : Nat} (pc' : Nat) {Ls : Array Slot} {st : List Value} {x : Value} (hd : decode c.code pc = .ok (.pop, 1)) (hc : x.category = 1) (hp : pc + 1 = pc') (G : Go p e below P (T.setTop (mkF m pc' Ls (st)))) : Go p e below P (T.setTop (mkF m pc Ls (x :: st))) := by
  subst hp; exact Go.of G fun _ q => XT.pop X.here hx rfl hd rfl hc q
theorem g_dup_x1 (X : Stand p l e R s m args below meth c T locs cells slots) (hx : p.tables.exec = Jvm.exec) {pc : Nat} (pc' : Nat) {Ls : Array Slot} {st : List Value} {x y : Value} (hd : decode c.code pc = .ok (.dup_x1, 1)) (hc : x.category = 1) (hc' : y.category = 1) (hp : pc + 1 = pc') (G : Go p e below P (T.setTop (mkF m pc' Ls (x :: y :: x :: st)))) : Go p e below P (T.setTop (mkF m pc Ls (x :: y :: st))) := by
  subst hp; exact Go.of G fun _ q => XT.dupX1 X.here hx rfl hd rfl hc hc' q
theorem g_dup2 (X : Stand p l e R s m args below meth c T locs cells slots) (hx : p.tables.exec = Jvm.exec) {pc : Nat} (pc' : Nat) {Ls : Array Slot} {st : List Value} {x y : Value} (hd : decode c.code pc = .ok (.dup2, 1)) (hc : x.category = 1) (hc' : y.category = 1) (hp : pc + 1 = pc') (G : Go p e below P (T.setTop (mkF m pc' Ls (x :: y :: x :: y :: st)))) : Go p e below P (T.setTop (mkF m pc Ls (x :: y :: st))) := by
  subst hp; exact Go.of G fun _ q => XT.dup2 X.here hx rfl hd rfl hc hc' q
theorem g_ldc (X : Stand p l e R s m args below meth c T locs cells slots) (hx : p.tables.exec = Jvm.exec) {pc : Nat} (pc' : Nat) {Ls : Array Slot} {st : List Value} {own : String} {i : Nat} {v : Int32} (hd : decode c.code pc = .ok (.ldc i, 2)) (hown : s.vm.findClass own = some m.cls) (hw : (Jvm.Cond.constant own i v).before args s = true) (hp : pc + 2 = pc') (G : Go p e below P (T.setTop (mkF m pc' Ls (.int v :: st)))) : Go p e below P (T.setTop (mkF m pc Ls (st))) := by
  subst hp; exact Go.of G fun _ q => X.ldcI hx hown hw rfl hd q
theorem g_ldc2_w (X : Stand p l e R s m args below meth c T locs cells slots) (hx : p.tables.exec = Jvm.exec) {pc : Nat} (pc' : Nat) {Ls : Array Slot} {st : List Value} {own : String} {i : Nat} {v : Int64} (hd : decode c.code pc = .ok (.ldc2_w i, 3)) (hown : s.vm.findClass own = some m.cls) (hw : (Jvm.Cond.constantLong own i v).before args s = true) (hp : pc + 3 = pc') (G : Go p e below P (T.setTop (mkF m pc' Ls (.long v :: st)))) : Go p e below P (T.setTop (mkF m pc Ls (st))) := by
  subst hp; exact Go.of G fun _ q => X.ldc2J hx hown hw rfl hd q
theorem g_ifN (X : Stand p l e R s m args below meth c T locs cells slots) (hx : p.tables.exec = Jvm.exec) {pc : Nat} (pc' : Nat) {Ls : Array Slot} {st : List Value} {cd : ClassFile.Cond} {o : Int} {x : Int32} (hd : decode c.code pc = .ok (.ifCond cd o, 3)) (hc : ifCond.holds cd x = false) (hp : pc + 3 = pc') (G : Go p e below P (T.setTop (mkF m pc' Ls (st)))) : Go p e below P (T.setTop (mkF m pc Ls (.int x :: st))) := by
  subst hp; exact Go.of G fun _ q => XS.ifNo X.here hx rfl hd rfl hc q
theorem g_icmpN (X : Stand p l e R s m args below meth c T locs cells slots) (hx : p.tables.exec = Jvm.exec) {pc : Nat} (pc' : Nat) {Ls : Array Slot} {st : List Value} {cd : ClassFile.Cond} {o : Int} {x y : Int32} (hd : decode c.code pc = .ok (.if_icmp cd o, 3)) (hc : if_icmp.holds cd x y = false) (hp : pc + 3 = pc') (G : Go p e below P (T.setTop (mkF m pc' Ls (st)))) : Go p e below P (T.setTop (mkF m pc Ls (.int y :: .int x :: st))) := by
  subst hp; exact Go.of G fun _ q => XS.icmpNo X.here hx rfl hd rfl hc q
theorem g_acmpN (X : Stand p l e R s m args below meth c T locs cells slots) (hx : p.tables.exec = Jvm.exec) {pc : Nat} (pc' : Nat) {Ls : Array Slot} {st : List Value} {cd : ClassFile.ACond} {o : Int} {x y : Value} (hd : decode c.code pc = .ok (.if_acmp cd o, 3)) (hx' : x.isRef = true) (hy' : y.isRef = true) (hc : XT.acmp cd x y = false) (hp : pc + 3 = pc') (G : Go p e below P (T.setTop (mkF m pc' Ls (st)))) : Go p e below P (T.setTop (mkF m pc Ls (y :: x :: st))) := by
  subst hp; exact Go.of G fun _ q => XT.acmpNo X.here hx rfl hd rfl hx' hy' hc q
theorem g_ifnullN (X : Stand p l e R s m args below meth c T locs cells slots) (hx : p.tables.exec = Jvm.exec) {pc : Nat} (pc' : Nat) {Ls : Array Slot} {st : List Value} {o : Int} {b : Addr} (hd : decode c.code pc = .ok (.ifnull o, 3))  (hp : pc + 3 = pc') (G : Go p e below P (T.setTop (mkF m pc' Ls (st)))) : Go p e below P (T.setTop (mkF m pc Ls (.ref b :: st))) := by
  subst hp; exact Go.of G fun _ q => XS.ifnullNo X.here hx rfl hd rfl q
theorem g_ifnonnullN (X : Stand p l e R s m args below meth c T locs cells slots) (hx : p.tables.exec = Jvm.exec) {pc : Nat} (pc' : Nat) {Ls : Array Slot} {st : List Value} {o : Int} (hd : decode c.code pc = .ok (.ifnonnull o, 3))  (hp : pc + 3 = pc') (G : Go p e below P (T.setTop (mkF m pc' Ls (st)))) : Go p e below P (T.setTop (mkF m pc Ls (.null :: st))) := by
  subst hp; exact Go.of G fun _ q => XT.ifnonnullNo X.here hx rfl hd rfl q
theorem g_goto (X : Stand p l e R s m args below meth c T locs cells slots) (hx : p.tables.exec = Jvm.exec) {pc : Nat} (pc' : Nat) {o : Int} {Ls : Array Slot} {st : List Value}  (hd : decode c.code pc = .ok (.goto o, 3))  (ho : 0 ≤ (pc : Int) + o) (hp : ((pc : Int) + o).toNat = pc') (G : Go p e below P (T.setTop (mkF m pc' Ls st))) : Go p e below P (T.setTop (mkF m pc Ls (st))) :=
  Go.of G fun _ q => XS.goto X.here hx rfl (pc0 := pc) rfl hd ho hp q
theorem g_ifY (X : Stand p l e R s m args below meth c T locs cells slots) (hx : p.tables.exec = Jvm.exec) {pc : Nat} (pc' : Nat) {o : Int} {Ls : Array Slot} {st : List Value} {cd : ClassFile.Cond} {x : Int32} (hd : decode c.code pc = .ok (.ifCond cd o, 3)) (hc : ifCond.holds cd x = true) (ho : 0 ≤ (pc : Int) + o) (hp : ((pc : Int) + o).toNat = pc') (G : Go p e below P (T.setTop (mkF m pc' Ls st))) : Go p e below P (T.setTop (mkF m pc Ls (.int x :: st))) :=
  Go.of G fun _ q => XS.ifYes X.here hx rfl (pc0 := pc) rfl hd rfl hc ho hp q
theorem g_icmpY (X : Stand p l e R s m args below meth c T locs cells slots) (hx : p.tables.exec = Jvm.exec) {pc : Nat} (pc' : Nat) {o : Int} {Ls : Array Slot} {st : List Value} {cd : ClassFile.Cond} {x y : Int32} (hd : decode c.code pc = .ok (.if_icmp cd o, 3)) (hc : if_icmp.holds cd x y = true) (ho : 0 ≤ (pc : Int) + o) (hp : ((pc : Int) + o).toNat = pc') (G : Go p e below P (T.setTop (mkF m pc' Ls st))) : Go p e below P (T.setTop (mkF m pc Ls (.int y :: .int x :: st))) :=
  Go.of G fun _ q => XS.icmpYes X.here hx rfl (pc0 := pc) rfl hd rfl hc ho hp q
theorem g_acmpY (X : Stand p l e R s m args below meth c T locs cells slots) (hx : p.tables.exec = Jvm.exec) {pc : Nat} (pc' : Nat) {o : Int} {Ls : Array Slot} {st : List Value} {cd : ClassFile.ACond} {x y : Value} (hd : decode c.code pc = .ok (.if_acmp cd o, 3)) (hx' : x.isRef = true) (hy' : y.isRef = true) (hc : XT.acmp cd x y = true) (ho : 0 ≤ (pc : Int) + o) (hp : ((pc : Int) + o).toNat = pc') (G : Go p e below P (T.setTop (mkF m pc' Ls st))) : Go p e below P (T.setTop (mkF m pc Ls (y :: x :: st))) :=
  Go.of G fun _ q => XT.acmpYes X.here hx rfl (pc0 := pc) rfl hd rfl hx' hy' hc ho hp q
theorem g_ifnullY (X : Stand p l e R s m args below meth c T locs cells slots) (hx : p.tables.exec = Jvm.exec) {pc : Nat} (pc' : Nat) {o : Int} {Ls : Array Slot} {st : List Value}  (hd : decode c.code pc = .ok (.ifnull o, 3))  (ho : 0 ≤ (pc : Int) + o) (hp : ((pc : Int) + o).toNat = pc') (G : Go p e below P (T.setTop (mkF m pc' Ls st))) : Go p e below P (T.setTop (mkF m pc Ls (.null :: st))) :=
  Go.of G fun _ q => XS.ifnullYes X.here hx rfl (pc0 := pc) rfl hd rfl ho hp q
theorem g_ifnonnullY (X : Stand p l e R s m args below meth c T locs cells slots) (hx : p.tables.exec = Jvm.exec) {pc : Nat} (pc' : Nat) {o : Int} {Ls : Array Slot} {st : List Value} {b : Addr} (hd : decode c.code pc = .ok (.ifnonnull o, 3))  (ho : 0 ≤ (pc : Int) + o) (hp : ((pc : Int) + o).toNat = pc') (G : Go p e below P (T.setTop (mkF m pc' Ls st))) : Go p e below P (T.setTop (mkF m pc Ls (.ref b :: st))) :=
  Go.of G fun _ q => XT.ifnonnullYes X.here hx rfl (pc0 := pc) rfl hd rfl ho hp q

theorem g_callS (X : Stand p l e R s m args below meth c T locs cells slots) (hx : p.tables.exec = Jvm.exec) (hZ : Z.Warmed39 s.vm) {own : String} {index : Nat} {y : MethodName} {bytes : ByteArray} {maxL : Nat} {ret : Option FieldType} {rm : Room} {as' : List Value} {Q' : Option Value → Heap → List Loc → Prop}
    (hown : s.vm.findClass own = some m.cls) (w1 : (Jvm.Cond.methodLink own index y).before a0 Z = true) (w2 : (Jvm.Cond.static y).before a0 Z = true) (w3 : (Jvm.Cond.initialized y.cls).before a0 Z = true) (w4 : (Jvm.Cond.code y bytes maxL ret).before a0 Z = true)
    (np : y.cls ≠ "java/lang/invoke/MethodHandle" ∧ y.cls ≠ "java/lang/invoke/VarHandle") (eT : T.heap = h)
    (hM : MetFree l y (head1 [Jvm.Cond.code y bytes maxL ret] rm) (fun a U => a = as'.toArray ∧ Z.Warmed39 U.vm ∧ U.heap = h) (fun _ _ _ _ _ => True) (fun _ U o U' => ∃ v L, o = .returned v ∧ Q' v U'.heap L ∧ FrameEnd U o U' L rm.cells rm.slots))
    {ps : List FieldType} {rt : Option FieldType} (pd : parseMethodDescriptor y.desc = some ⟨ps, rt⟩) (hlen : as'.length = ps.length)
    (W : Nat) (hf : rm.frames + 1 ≤ R.frames) (hl : W + (maxL + 11) + rm.locals ≤ R.locals) (hc : cells + rm.cells ≤ R.cells) (hs : slots + rm.slots ≤ R.slots)
    {pc : Nat} {Ls : Array Slot} {rest st : List Value} (hsz : Ls.size = c.maxLocals) (hst : st = as'.reverse ++ rest) (hW : (rest.map fun v => v.category).sum ≤ W) (hd : decode c.code pc = .ok (.invokestatic index, 3)) :
    ∃ v T' L, Stand p l e R s m args below meth c T' (locs ++ L) (cells + rm.cells) (slots + rm.slots) ∧ Q' v T'.heap L ∧ ∀ t, Steps p.tables e below (T'.setTop (mkF m (pc + 3) Ls (v.toList ++ rest))) t → Steps p.tables e below (T.setTop (mkF m pc Ls st)) t := by
  obtain ⟨v, _, ⟨T', L', k', n'⟩, -, X', ⟨L, hQ, l1, y1, z1⟩, st'⟩ := Jvm.LawKit.callS X hx (y := y) hown (mvT hZ w1) (mvT hZ w2) (mvT hZ w3) (mvT hZ w4) np (backOf (W := W) hM hZ w4 w3 hf hl) (g := mkF m pc Ls st) rfl hsz (argsL := as') (rest := rest) (lenOf pd hlen) hst (by show 2 * 0 + _ ≤ _; omega) hd (fun _ _ => ⟨rfl, eT, hc, hs⟩)
  dsimp only [Pt.U, Pt.locs, Pt.cells, Pt.slots] at X' l1 y1 z1 st' hQ
  subst l1 y1 z1
  exact ⟨v, T', L, X', hQ, st'⟩
/-- a callee that only answers -/
def Pur (w : Option Value) (h0 : Heap) (v : Option Value) (h : Heap) (L : List Loc) : Prop := v = w ∧ L = [] ∧ h = h0
theorem g_callSP (X : Stand p l e R s m args below meth c T locs cells slots) (hx : p.tables.exec = Jvm.exec) (hZ : Z.Warmed39 s.vm) {own : String} {index : Nat} {y : MethodName} {bytes : ByteArray} {maxL : Nat} {ret : Option FieldType} {rm : Room} {as' : List Value} {w : Option Value}
    (hown : s.vm.findClass own = some m.cls) (w1 : (Jvm.Cond.methodLink own index y).before a0 Z = true) (w2 : (Jvm.Cond.static y).before a0 Z = true) (w3 : (Jvm.Cond.initialized y.cls).before a0 Z = true) (w4 : (Jvm.Cond.code y bytes maxL ret).before a0 Z = true)
    (np : y.cls ≠ "java/lang/invoke/MethodHandle" ∧ y.cls ≠ "java/lang/invoke/VarHandle") (eT : T.heap = h)
    (hM : MetFree l y (head1 [Jvm.Cond.code y bytes maxL ret] rm) (fun a U => a = as'.toArray ∧ Z.Warmed39 U.vm ∧ U.heap = h) (fun _ _ _ _ _ => True) (fun _ U o U' => ∃ v L, o = .returned v ∧ Pur w h v U'.heap L ∧ FrameEnd U o U' L rm.cells rm.slots))
    {ps : List FieldType} {rt : Option FieldType} (pd : parseMethodDescriptor y.desc = some ⟨ps, rt⟩) (hlen : as'.length = ps.length)
    (W : Nat) (hf : rm.frames + 1 ≤ R.frames) (hl : W + (maxL + 11) + rm.locals ≤ R.locals) (hc : cells + rm.cells ≤ R.cells) (hs : slots + rm.slots ≤ R.slots) (h0 : rm.cells = 0) (h1 : rm.slots = 0)
    {pc pc' : Nat} {Ls : Array Slot} {rest st : List Value} (hsz : Ls.size = c.maxLocals) (hst : st = as'.reverse ++ rest) (hW : (rest.map fun v => v.category).sum ≤ W) (hd : decode c.code pc = .ok (.invokestatic index, 3)) (hp : pc + 3 = pc') :
    ∃ T', Stand p l e R s m args below meth c T' locs cells slots ∧ T'.heap = h ∧ ∀ {P : State → Outcome → Prop}, Go p e below P (T'.setTop (mkF m pc' Ls (w.toList ++ rest))) → Go p e below P (T.setTop (mkF m pc Ls st)) := by
  obtain ⟨v, T', L, X', ⟨rfl, rfl, e1⟩, st'⟩ := g_callS X hx hZ hown w1 w2 w3 w4 np eT hM pd hlen W hf hl hc hs hsz hst hW hd
  subst hp
  rw [h0, h1, List.append_nil] at X'
  exact ⟨T', X', e1, fun G => Go.of G st'⟩


theorem g_getF (X : Stand p l e R s m args below meth c T locs cells slots) (hx : p.tables.exec = Jvm.exec) (hZ : Z.Warmed39 s.vm) {own R0 O n d : String} {index : Nat} (hown : s.vm.findClass own = some m.cls) (w : (Jvm.Cond.fieldLink own index R0 n d).before a0 Z = true) (via : Via Z R0 O n d) (eT : T.heap = h) {a : Addr} {v : Value} (F : Fld Z h a O n d v)
    {pc : Nat} (pc' : Nat) {Ls : Array Slot} {st : List Value} (hd : decode c.code pc = .ok (.getfield index, 3)) (hp : pc + 3 = pc') :
    ∃ T', Stand p l e R s m args below meth c T' locs cells slots ∧ T'.heap = h ∧ ∀ {P : State → Outcome → Prop}, Go p e below P (T'.setTop (mkF m pc' Ls (v :: st))) → Go p e below P (T.setTop (mkF m pc Ls (.ref a :: st))) := by
  subst hp
  obtain ⟨T', X', e', f⟩ := getF X hx hZ hown (host := "") (Or.inl w) via eT F (g := mkF m pc Ls (.ref a :: st)) rfl rfl hd
  exact ⟨T', X', e', fun G => Go.of G f⟩
theorem g_getS (X : Stand p l e R s m args below meth c T locs cells slots) (hx : p.tables.exec = Jvm.exec) (hZ : Z.Warmed39 s.vm) {own O n d : String} {index : Nat} (hown : s.vm.findClass own = some m.cls) (w : (Jvm.Cond.fieldLink own index O n d).before a0 Z = true) (eT : T.heap = h) {v : Value} (F : Sta Z h O n d v)
    {pc : Nat} (pc' : Nat) {Ls : Array Slot} {st : List Value} (hd : decode c.code pc = .ok (.getstatic index, 3)) (hp : pc + 3 = pc') :
    ∃ T', Stand p l e R s m args below meth c T' locs cells slots ∧ T'.heap = h ∧ ∀ {P : State → Outcome → Prop}, Go p e below P (T'.setTop (mkF m pc' Ls (v :: st))) → Go p e below P (T.setTop (mkF m pc Ls st)) := by
  subst hp
  obtain ⟨T', X', e', f⟩ := getS X hx hZ hown (host := "") w Via.refl eT F (g := mkF m pc Ls st) rfl hd
  exact ⟨T', X', e', fun G => Go.of G f⟩
theorem g_putF (X : Stand p l e R s m args below meth c T locs cells slots) (hx : p.tables.exec = Jvm.exec) (hZ : Z.Warmed39 s.vm) {own R0 O n d C : String} {index kk : Nat} {ty : FieldType} (hown : s.vm.findClass own = some m.cls) (w : (Jvm.Cond.fieldLink own index R0 n d).before a0 Z = true) (via : Via Z R0 O n d) (eT : T.heap = h) {a : Addr} {v old : Value} (F : Fld Z h a O n d old) (E : Exa Z h a C)
    (L : (Jvm.Cond.lays C O n d).before a0 Z = true ∨ ((Jvm.Cond.laysFinal C O n d).before a0 Z = true ∧ own = O ∧ meth.name = "<init>")) (wi : (Jvm.Cond.instantiable C kk).before a0 Z = true) (hty : parseFieldDescriptor d = some ty) (hn : narrow ty v = v) (hf : fits ty v = true)
    {pc : Nat} (pc' : Nat) {Ls : Array Slot} {st : List Value} (hd : decode c.code pc = .ok (.putfield index, 3)) (hp : pc + 3 = pc') :
    ∃ T' h', Stand p l e R s m args below meth c T' (locs ++ [⟨a, Jvm.RoadKit.slotOf Z O n d⟩]) cells slots ∧ T'.heap = h' ∧ Wr h h' a (Jvm.RoadKit.slotOf Z O n d) v ∧ ∀ {P : State → Outcome → Prop}, Go p e below P (T'.setTop (mkF m pc' Ls st)) → Go p e below P (T.setTop (mkF m pc Ls (v :: .ref a :: st))) := by
  subst hp
  obtain ⟨T', h', X', e', W, f⟩ := putF X hx hZ hown (host := "") (Or.inl w) via eT F E L wi hty hn hf (g := mkF m pc Ls (v :: .ref a :: st)) rfl rfl hd
  exact ⟨T', h', X', e', W, fun G => Go.of G f⟩
theorem g_newO (X : Stand p l e R s m args below meth c T locs cells slots) (hx : p.tables.exec = Jvm.exec) (hZ : Z.Warmed39 s.vm) {own C : String} {index n : Nat} (hown : s.vm.findClass own = some m.cls) (w : (Jvm.Cond.classLink own index C).before a0 Z = true) (wi : (Jvm.Cond.instantiable C n).before a0 Z = true) (wz : (Jvm.Cond.initialized C).before a0 Z = true) (eT : T.heap = h)
    {pc : Nat} (pc' : Nat) {Ls : Array Slot} {st : List Value} (hd : decode c.code pc = .ok (.new index, 3)) (hp : pc + 3 = pc') (hc : cells + 1 ≤ R.cells) (hl : slots + n ≤ R.slots) :
    ∃ T' h' a, Stand p l e R s m args below meth c T' locs (cells + 1) (slots + n) ∧ T'.heap = h' ∧ a = h.size ∧ Ext h h' ∧ Exa Z h' a C ∧ (∀ {O nm d : String} {ty : FieldType}, Laid Z a0 C O nm d → parseFieldDescriptor d = some ty → Fld Z h' a O nm d (defaultValue ty)) ∧
      ∀ {P : State → Outcome → Prop}, Go p e below P (T'.setTop (mkF m pc' Ls (.ref a :: st))) → Go p e below P (T.setTop (mkF m pc Ls st)) := by
  subst hp
  obtain ⟨T', h', X', e', E, A, D, -, f⟩ := newO X hx hZ hown w wi wz eT (g := mkF m pc Ls st) rfl hd hc hl
  exact ⟨T', h', _, X', e', rfl, E, A, D, fun G => Go.of G f⟩
theorem g_initO (X : Stand p l e R s m args below meth c T locs cells slots) (hx : p.tables.exec = Jvm.exec) (hZ : Z.Warmed39 s.vm) {own : String} {idx : Nat} (hown : s.vm.findClass own = some m.cls) (w1 : (Jvm.Cond.methodLink own idx Lib.objectInit).before a0 Z = true) (w2 : (Jvm.Cond.instanceMethod Lib.objectInit).before a0 Z = true)
    (w3 : (Jvm.Cond.code Lib.objectInit ⟨#[0xb1]⟩ 1 none).before a0 Z = true) (eT : T.heap = h) (W : Nat) (hf : 1 ≤ R.frames) (hl : W + 12 ≤ R.locals) {a : Addr} {pc : Nat} (pc' : Nat) {Ls : Array Slot} {st : List Value} (hsz : Ls.size = c.maxLocals) (hW : (st.map fun v => v.category).sum ≤ W) (hd : decode c.code pc = .ok (.invokespecial idx, 3)) (hp : pc + 3 = pc') :
    ∃ T', Stand p l e R s m args below meth c T' locs cells slots ∧ T'.heap = h ∧ ∀ {P : State → Outcome → Prop}, Go p e below P (T'.setTop (mkF m pc' Ls st)) → Go p e below P (T.setTop (mkF m pc Ls (.ref a :: st))) := by
  subst hp
  obtain ⟨T', X', e', f⟩ := initO X hx hZ hown w1 w2 w3 eT (g := mkF m pc Ls (.ref a :: st)) rfl hsz rfl hd hf (W := W) (by show 2 * 0 + _ ≤ _; omega) hl
  exact ⟨T', X', e', fun G => Go.of G f⟩
theorem g_newP (X : Stand p l e R s m args below meth c T locs cells slots) (hx : p.tables.exec = Jvm.exec) (hZ : Z.Warmed39 s.vm) {aty : ArrayType} (w : (Jvm.Cond.arrayClass (newarray.typeOf aty)).before a0 Z = true) (eT : T.heap = h) {n : Int32} (cap : Nat) (hn : ¬ n < 0) (hcap : n.toNatClampNeg ≤ cap) (hbig : cap * 8 ≤ 536870912) (hc : cells + 1 ≤ R.cells) (hl : slots + cap ≤ R.slots)
    {pc : Nat} (pc' : Nat) {Ls : Array Slot} {st : List Value} (hd : decode c.code pc = .ok (.newarray aty, 2)) (hp : pc + 2 = pc') :
    ∃ T' h' a cA, Stand p l e R s m args below meth c T' locs (cells + 1) (slots + cap) ∧ T'.heap = h' ∧ a = h.size ∧ Ext h h' ∧ Arr Z h' a (newA cA (newarray.typeOf aty) n) (newarray.typeOf aty) ∧
      ∀ {P : State → Outcome → Prop}, Go p e below P (T'.setTop (mkF m pc' Ls (.ref a :: st))) → Go p e below P (T.setTop (mkF m pc Ls (.int n :: st))) := by
  subst hp
  obtain ⟨T', h', cA, X', e', E, A, f⟩ := newP X hx hZ w eT (g := mkF m pc Ls (.int n :: st)) rfl hd rfl hn hcap hbig hc hl
  exact ⟨T', h', _, cA, X', e', rfl, E, A, fun G => Go.of G f⟩
theorem g_callI (X : Stand p l e R s m args below meth c T locs cells slots) (hx : p.tables.exec = Jvm.exec) (hZ : Z.Warmed39 s.vm) {own : String} {index : Nat} {y : MethodName} {bytes : ByteArray} {maxL : Nat} {rm : Room} {a : Addr} {as' : List Value} {Q' : Option Value → Heap → List Loc → Prop} (hy1 : y.name = "<init>")
    (hown : s.vm.findClass own = some m.cls) (w1 : (Jvm.Cond.methodLink own index y).before a0 Z = true) (w2 : (Jvm.Cond.instanceMethod y).before a0 Z = true) (w3 : (Jvm.Cond.initialized y.cls).before a0 Z = true) (w4 : (Jvm.Cond.code y bytes maxL none).before a0 Z = true)
    (np : y.cls ≠ "java/lang/invoke/MethodHandle" ∧ y.cls ≠ "java/lang/invoke/VarHandle") (eT : T.heap = h)
    (hM : MetFree l y (head1 [Jvm.Cond.code y bytes maxL none] rm) (fun b U => b = (.ref a :: as').toArray ∧ Z.Warmed39 U.vm ∧ U.heap = h) (fun _ _ _ _ _ => True) (fun _ U o U' => ∃ v L, o = .returned v ∧ Q' v U'.heap L ∧ FrameEnd U o U' L rm.cells rm.slots))
    {ps : List FieldType} {rt : Option FieldType} (pd : parseMethodDescriptor y.desc = some ⟨ps, rt⟩) (hlen : as'.length = ps.length)
    (W : Nat) (hf : rm.frames + 1 ≤ R.frames) (hl : W + (maxL + 11) + rm.locals ≤ R.locals) (hc : cells + rm.cells ≤ R.cells) (hs : slots + rm.slots ≤ R.slots)
    {pc : Nat} {Ls : Array Slot} {rest st : List Value} (hsz : Ls.size = c.maxLocals) (hst : st = as'.reverse ++ .ref a :: rest) (hW : (rest.map fun v => v.category).sum ≤ W) (hd : decode c.code pc = .ok (.invokespecial index, 3)) :
    ∃ v T' L, Stand p l e R s m args below meth c T' (locs ++ L) (cells + rm.cells) (slots + rm.slots) ∧ Q' v T'.heap L ∧ ∀ {P : State → Outcome → Prop}, Go p e below P (T'.setTop (mkF m (pc + 3) Ls (v.toList ++ rest))) → Go p e below P (T.setTop (mkF m pc Ls st)) := by
  obtain ⟨v, _, ⟨T', L', k', n'⟩, -, X', ⟨L, hQ, l1, y1, z1⟩, st'⟩ := X.specialBack hx (y := y) hy1 hown (mvT hZ w1) (mvT hZ w2) (mvT hZ w4) np (backOf (W := W) hM hZ w4 w3 hf hl) (g := mkF m pc Ls st) rfl hsz (Steps.refl _) (a := a) (argsL := as') (rest := rest) (lenOf pd hlen) hst (by show 2 * 0 + _ ≤ _; omega) hd (fun _ _ => ⟨rfl, eT, hc, hs⟩)
  dsimp only [Pt.U, Pt.locs, Pt.cells, Pt.slots] at X' l1 y1 z1 st' hQ
  subst l1 y1 z1
  exact ⟨v, T', L, X', hQ, fun G => Go.of G fun _ q => st'.trans q⟩
theorem g_callV (X : Stand p l e R s m args below meth c T locs cells slots) (hx : p.tables.exec = Jvm.exec) (hZ : Z.Warmed39 s.vm) {own C : String} {index : Nat} {y z : MethodName} {bytes : ByteArray} {maxL : Nat} {ret : Option FieldType} {rm : Room} {a : Addr} {as' : List Value} {Q' : Option Value → Heap → List Loc → Prop}
    (hown : s.vm.findClass own = some m.cls) (w1 : (Jvm.Cond.methodLink own index y).before a0 Z = true) (w2 : (Jvm.Cond.declares y).before a0 Z = true) (w5 : (Jvm.Cond.selects y.cls y y).before a0 Z = true) (w6 : (Jvm.Cond.selects C y z).before a0 Z = true) (w7 : (Jvm.Cond.instanceMethod z).before a0 Z = true) (w3 : (Jvm.Cond.initialized z.cls).before a0 Z = true) (w4 : (Jvm.Cond.code z bytes maxL ret).before a0 Z = true)
    (np : y.cls ≠ "java/lang/invoke/MethodHandle" ∧ y.cls ≠ "java/lang/invoke/VarHandle") (eT : T.heap = h) (E : Exa Z h a C)
    (hM : MetFree l z (head1 [Jvm.Cond.code z bytes maxL ret] rm) (fun b U => b = (.ref a :: as').toArray ∧ Z.Warmed39 U.vm ∧ U.heap = h) (fun _ _ _ _ _ => True) (fun _ U o U' => ∃ v L, o = .returned v ∧ Q' v U'.heap L ∧ FrameEnd U o U' L rm.cells rm.slots))
    {ps : List FieldType} {rt : Option FieldType} (pd : parseMethodDescriptor y.desc = some ⟨ps, rt⟩) (hlen : as'.length = ps.length)
    (W : Nat) (hf : rm.frames + 1 ≤ R.frames) (hl : W + (maxL + 11) + rm.locals ≤ R.locals) (hc : cells + rm.cells ≤ R.cells) (hs : slots + rm.slots ≤ R.slots)
    {pc : Nat} {Ls : Array Slot} {rest st : List Value} (hsz : Ls.size = c.maxLocals) (hst : st = as'.reverse ++ .ref a :: rest) (hW : (rest.map fun v => v.category).sum ≤ W) (hd : decode c.code pc = .ok (.invokevirtual index, 3)) :
    ∃ v T' L, Stand p l e R s m args below meth c T' (locs ++ L) (cells + rm.cells) (slots + rm.slots) ∧ Q' v T'.heap L ∧ ∀ {P : State → Outcome → Prop}, Go p e below P (T'.setTop (mkF m (pc + 3) Ls (v.toList ++ rest))) → Go p e below P (T.setTop (mkF m pc Ls st)) := by
  obtain ⟨cq, kq, qa, qb, qc⟩ := isOf hZ eT E
  obtain ⟨v, _, ⟨T', L', k', n'⟩, -, X', ⟨L, hQ, l1, y1, z1⟩, st'⟩ := X.virtualBack hx (y := y) (z := z) hown (mvT hZ w1) (mvT hZ w2) (notFace_of_selects (args := #[]) (mvT hZ w5)) (mvT hZ w6) (mvT hZ w7) np (backOf (W := W) hM hZ w4 w3 hf hl) qa qc (g := mkF m pc Ls st) rfl hsz (Steps.refl _) (argsL := as') (rest := rest) (lenOf pd hlen) hst (by show 2 * 0 + _ ≤ _; omega) hd (fun _ _ => ⟨rfl, eT, hc, hs⟩)
  dsimp only [Pt.U, Pt.locs, Pt.cells, Pt.slots] at X' l1 y1 z1 st' hQ
  subst l1 y1 z1
  exact ⟨v, T', L, X', hQ, fun G => Go.of G fun _ q => st'.trans q⟩
theorem g_callVP (X : Stand p l e R s m args below meth c T locs cells slots) (hx : p.tables.exec = Jvm.exec) (hZ : Z.Warmed39 s.vm) {own C : String} {index : Nat} {y z : MethodName} {bytes : ByteArray} {maxL : Nat} {ret : Option FieldType} {rm : Room} {a : Addr} {as' : List Value} {w : Option Value}
    (hown : s.vm.findClass own = some m.cls) (w1 : (Jvm.Cond.methodLink own index y).before a0 Z = true) (w2 : (Jvm.Cond.declares y).before a0 Z = true) (w5 : (Jvm.Cond.selects y.cls y y).before a0 Z = true) (w6 : (Jvm.Cond.selects C y z).before a0 Z = true) (w7 : (Jvm.Cond.instanceMethod z).before a0 Z = true) (w3 : (Jvm.Cond.initialized z.cls).before a0 Z = true) (w4 : (Jvm.Cond.code z bytes maxL ret).before a0 Z = true)
    (np : y.cls ≠ "java/lang/invoke/MethodHandle" ∧ y.cls ≠ "java/lang/invoke/VarHandle") (eT : T.heap = h) (E : Exa Z h a C)
    (hM : MetFree l z (head1 [Jvm.Cond.code z bytes maxL ret] rm) (fun b U => b = (.ref a :: as').toArray ∧ Z.Warmed39 U.vm ∧ U.heap = h) (fun _ _ _ _ _ => True) (fun _ U o U' => ∃ v L, o = .returned v ∧ Pur w h v U'.heap L ∧ FrameEnd U o U' L rm.cells rm.slots))
    {ps : List FieldType} {rt : Option FieldType} (pd : parseMethodDescriptor y.desc = some ⟨ps, rt⟩) (hlen : as'.length = ps.length)
    (W : Nat) (hf : rm.frames + 1 ≤ R.frames) (hl : W + (maxL + 11) + rm.locals ≤ R.locals) (hc : cells + rm.cells ≤ R.cells) (hs : slots + rm.slots ≤ R.slots) (h0 : rm.cells = 0) (h1 : rm.slots = 0)
    {pc pc' : Nat} {Ls : Array Slot} {rest st : List Value} (hsz : Ls.size = c.maxLocals) (hst : st = as'.reverse ++ .ref a :: rest) (hW : (rest.map fun v => v.category).sum ≤ W) (hd : decode c.code pc = .ok (.invokevirtual index, 3)) (hp : pc + 3 = pc') :
    ∃ T', Stand p l e R s m args below meth c T' locs cells slots ∧ T'.heap = h ∧ ∀ {P : State → Outcome → Prop}, Go p e below P (T'.setTop (mkF m pc' Ls (w.toList ++ rest))) → Go p e below P (T.setTop (mkF m pc Ls st)) := by
  obtain ⟨v, T', L, X', ⟨rfl, rfl, e1⟩, st'⟩ := g_callV X hx hZ hown w1 w2 w5 w6 w7 w3 w4 np eT E hM pd hlen W hf hl hc hs hsz hst hW hd
  subst hp
  rw [h0, h1, List.append_nil] at X'
  exact ⟨T', X', e1, st'⟩

end Own
def LQ (h0 : Heap) (v : Option Value) (h : Heap) (L : List Loc) : Prop := v = some (.int 1) ∧ Fr h0.size L
def b2i (p : Prop) [Decidable p] : Int32 := if p then 1 else 0
theorem b2i_t {p : Prop} [Decidable p] (h : p) : b2i p = 1 := if_pos h
theorem b2i_f {p : Prop} [Decidable p] (h : ¬ p) : b2i p = 0 := if_neg h
theorem own_max (x : Int32) : ¬ (2147483647 : Int32) < x := by
  have e : (2147483647 : Int32).toInt = 2147483647 := rfl
  have := x.toInt_lt; rw [Int32.lt_iff_toInt_lt, e]; omega
theorem own_n {a n : Int32} (h : a &&& (2147483647 : Int32) = n) : 0 ≤ n.toInt := by
  have e1 : (a &&& (2147483647 : Int32)).toInt = a.toInt % 2 ^ 31 := Jvm.Kit.i32_mask a _ (k := 31) (by decide) (by decide)
  rw [← h, e1]; omega
theorem own_nn {n : Int32} (h : 0 ≤ n.toInt) : ¬ n < (0 : Int32) := by rw [Int32.lt_iff_toInt_lt]; have : (0 : Int32).toInt = 0 := rfl; omega
theorem own_irr (n : Int32) : ¬ n < n := by rw [Int32.lt_iff_toInt_lt]; omega
theorem own_pred {n : Int32} (h : 0 ≤ n.toInt) : n - (1 : Int32) < n := by
  have e1 : (1 : Int32).toInt = 1 := rfl
  have := n.toInt_lt
  rw [Int32.lt_iff_toInt_lt, Jvm.Kit.i32_sub (by omega) (by omega)]; omega
def IQ (Z : State) (a : Addr) (q1 q2 : Int32) (h0 : Heap) (n0 : Nat) (v : Option Value) (h : Heap) (L : List Loc) : Prop := v = none ∧ Fr n0 L ∧ Keep h0 h [a] ∧ Fld Z h a "com/example/assayer/assayer/http/CallCount" "least" "I" (.int q1) ∧ Fld Z h a "com/example/assayer/assayer/http/CallCount" "most" "I" (.int q2)
def AQ (Z : State) (q1 : Int32) (h0 : Heap) (v : Option Value) (h : Heap) (L : List Loc) : Prop := ∃ a : Addr, v = some (.ref a) ∧ Fr h0.size L ∧ Keep h0 h [] ∧ Exa Z h a "com/example/assayer/assayer/http/CallCount" ∧ Fld Z h a "com/example/assayer/assayer/http/CallCount" "least" "I" (.int q1) ∧ Fld Z h a "com/example/assayer/assayer/http/CallCount" "most" "I" (.int (2147483647 : Int32))
theorem init_0 : decode prog_25_method_1_code 0 = .ok (.aload_n 0, 1) := by decide +kernel
theorem init_1 : decode prog_25_method_1_code 1 = .ok (.invokespecial 3, 3) := by decide +kernel
theorem init_4 : decode prog_25_method_1_code 4 = .ok (.aload_n 0, 1) := by decide +kernel
theorem init_5 : decode prog_25_method_1_code 5 = .ok (.iload_n 1, 1) := by decide +kernel
theorem init_6 : decode prog_25_method_1_code 6 = .ok (.putfield 9, 3) := by decide +kernel
theorem init_9 : decode prog_25_method_1_code 9 = .ok (.aload_n 0, 1) := by decide +kernel
theorem init_10 : decode prog_25_method_1_code 10 = .ok (.iload_n 2, 1) := by decide +kernel
theorem init_11 : decode prog_25_method_1_code 11 = .ok (.putfield 15, 3) := by decide +kernel
theorem init_14 : decode prog_25_method_1_code 14 = .ok (.return_, 1) := by decide +kernel
theorem pn_init : plainFor (⟨"com/example/assayer/assayer/http/CallCount", "<init>", "(II)V"⟩ : MethodName) = true := by first | exact plainFor_of_name (by first | (simp [plainName, overriddenIn]; done) | decide +kernel) | decide +kernel
theorem ef_init (m : MethodId) (qa : Addr) (q1 : Int32) (q2 : Int32) : entryFrame m #[(.ref qa), (.int q1), (.int q2)] 3 = mkF m 0 #[.val (.ref qa), .val (.int q1), .val (.int q2)] [] := by first | (simp [entryFrame, mkF, argsToLocals, Value.category, maxLocals]; done) | rfl
theorem pd_init : parseMethodDescriptor "(II)V" = some ⟨[.int, .int], none⟩ := by decide +kernel
set_option maxRecDepth 65536 in
set_option maxHeartbeats 40000000 in
theorem rm_init (l : Launch) (Z : State) (a0 : Array Value) (hw : ∀ d ∈ tables_1, d.before a0 Z = true)  (qa : Addr) (q1 : Int32) (q2 : Int32) (h0 : Heap) (n0 : Nat) (ga : n0 ≤ qa) (F1 : Fld Z h0 qa "com/example/assayer/assayer/http/CallCount" "least" "I" (.int (0 : Int32))) (F2 : Fld Z h0 qa "com/example/assayer/assayer/http/CallCount" "most" "I" (.int (0 : Int32))) (E1 : Exa Z h0 qa "com/example/assayer/assayer/http/CallCount") :
    MetFree l (⟨"com/example/assayer/assayer/http/CallCount", "<init>", "(II)V"⟩ : MethodName) (head1 [Jvm.Cond.code (⟨"com/example/assayer/assayer/http/CallCount", "<init>", "(II)V"⟩ : MethodName) prog_25_method_1_code 3 none] ({ frames := 1, cells := 0, slots := 0, locals := 12 } : Room)) (fun a U => a = #[(.ref qa), (.int q1), (.int q2)] ∧ Z.Warmed39 U.vm ∧ U.heap = h0) (fun _ _ _ _ _ => True) (fun _ U o U' => ∃ v L, o = .returned v ∧ IQ Z qa q1 q2 h0 n0 v U'.heap L ∧ FrameEnd U o U' L ({ frames := 1, cells := 0, slots := 0, locals := 12 } : Room).cells ({ frames := 1, cells := 0, slots := 0, locals := 12 } : Room).slots) := by
  refine MetFree.of_bodySF pn_init hisR ?_
  intro p e s m args below meth c s₁ Bd hml0 hP hK
  obtain ⟨rfl, hZ, hh⟩ := hP
  have hx := Bd.exec
  have hby := Bd.bytes
  have hml : c.maxLocals = 3 := hml0
  have hown : s.vm.findClass "com/example/assayer/assayer/http/CallCount" = some m.cls := findClass_of_methodNamed Bd.named
  have hnm := (name_of_methodNamed Bd.named Bd.method).1
  have hlk : meth.locks = false := BodyLoose.notSynchronized Bd
  have X0 : Stand p l e ({ frames := 1, cells := 0, slots := 0, locals := 12 } : Room) s m #[(.ref qa), (.int q1), (.int q2)] below meth c s₁ [] 0 0 := Stand.of_body Bd
  have e0 : s₁.heap = h0 := by rw [← hh, Bd.state]; rfl
  show Go p e below (EndN below s (IQ Z qa q1 q2 h0 n0) ({ frames := 1, cells := 0, slots := 0, locals := 12 } : Room).cells ({ frames := 1, cells := 0, slots := 0, locals := 12 } : Room).slots) (s₁.setTop (entryFrame m #[(.ref qa), (.int q1), (.int q2)] 3))
  rw [ef_init]
  refine g_aload_n X0 hx 1 (.ref qa) (hb hby init_0) rfl rfl rfl ?_
  obtain ⟨T_1, X_1, e_1, st_1⟩ := g_initO X0 hx hZ hown (hw _ (List.mem_of_getElem? (i := 14) rfl)) (hw _ (List.mem_of_getElem? (i := 15) rfl)) (hw _ (List.mem_of_getElem? (i := 16) rfl)) e0 0 (by decide) (by decide) 4 (a := qa) (Ls := #[.val (.ref qa), .val (.int q1), .val (.int q2)]) (st := []) (by rw [hml]; rfl) (Nat.le_of_eq rfl) (hb hby init_1) rfl
  refine st_1 ?_
  refine g_aload_n X_1 hx 5 (.ref qa) (hb hby init_4) rfl rfl rfl ?_
  refine g_iload_n X_1 hx 6 q1 (hb hby init_5) rfl rfl ?_
  obtain ⟨T_6, h_6, X_6, e_6, W_6, st_6⟩ := g_putF X_1 hx hZ hown (hw _ (List.mem_of_getElem? (i := 17) rfl)) Via.refl e_1 F1 E1 (Or.inr ⟨hw _ (List.mem_of_getElem? (i := 18) rfl), rfl, hnm⟩) (hw _ (List.mem_of_getElem? (i := 6) rfl)) (ty := .int) (v := (.int q1)) (by decide) rfl rfl 9 (hb hby init_6) rfl
  refine st_6 ?_
  have F_6_0 : Fld Z h_6 qa "com/example/assayer/assayer/http/CallCount" "least" "I" (.int q1) := (F1.same W_6)
  have F_6_1 : Fld Z h_6 qa "com/example/assayer/assayer/http/CallCount" "most" "I" (.int (0 : Int32)) := (F2.other W_6 (Or.inr (Jvm.RoadKit.slot_ne (Or.inr (hw _ (List.mem_of_getElem? (i := 20) rfl))) (Or.inr (hw _ (List.mem_of_getElem? (i := 18) rfl))) (by decide) (t := .int) (t' := .int) (by decide) (by decide))))
  have N_6 := Fr.snoc X_6 (Fr.nil _) ga
  have Z_6 : h0.size ≤ h_6.size := by rw [W_6.size]; exact (Nat.le_refl _)
  refine g_aload_n X_6 hx 10 (.ref qa) (hb hby init_9) rfl rfl rfl ?_
  refine g_iload_n X_6 hx 11 q2 (hb hby init_10) rfl rfl ?_
  obtain ⟨T_11, h_11, X_11, e_11, W_11, st_11⟩ := g_putF X_6 hx hZ hown (hw _ (List.mem_of_getElem? (i := 19) rfl)) Via.refl e_6 F_6_1 (E1.wr W_6) (Or.inr ⟨hw _ (List.mem_of_getElem? (i := 20) rfl), rfl, hnm⟩) (hw _ (List.mem_of_getElem? (i := 6) rfl)) (ty := .int) (v := (.int q2)) (by decide) rfl rfl 14 (hb hby init_11) rfl
  refine st_11 ?_
  have F_11_0 : Fld Z h_11 qa "com/example/assayer/assayer/http/CallCount" "least" "I" (.int q1) := (F_6_0.other W_11 (Or.inr (Jvm.RoadKit.slot_ne (Or.inr (hw _ (List.mem_of_getElem? (i := 18) rfl))) (Or.inr (hw _ (List.mem_of_getElem? (i := 20) rfl))) (by decide) (t := .int) (t' := .int) (by decide) (by decide))))
  have F_11_1 : Fld Z h_11 qa "com/example/assayer/assayer/http/CallCount" "most" "I" (.int q2) := (F_6_1.same W_11)
  have N_11 := Fr.snoc X_11 N_6 ga
  have Z_11 : h0.size ≤ h_11.size := by rw [W_11.size]; exact Z_6
  refine Go.retV X_11 hx hlk Bd.returns (hb hby init_14) (by decide) (by decide) ⟨rfl, N_11, ?_, ?_, ?_⟩
  · rw [e_11]; exact (((Keep.refl _ _).wr W_6 (Or.inl (by simp))).wr W_11 (Or.inl (by simp)))
  · rw [e_11]; exact F_11_0
  · rw [e_11]; exact F_11_1
theorem chk_0 : decode prog_25_method_5_code 0 = .ok (.iload_n 0, 1) := by decide +kernel
theorem chk_1 : decode prog_25_method_5_code 1 = .ok (.ifCond .ge 17, 3) := by decide +kernel
theorem chk_4 : decode prog_25_method_5_code 4 = .ok (.new 26, 3) := by decide +kernel
theorem chk_7 : decode prog_25_method_5_code 7 = .ok (.dup, 1) := by decide +kernel
theorem chk_8 : decode prog_25_method_5_code 8 = .ok (.iload_n 0, 1) := by decide +kernel
theorem chk_9 : decode prog_25_method_5_code 9 = .ok (.invokedynamic 28, 5) := by decide +kernel
theorem chk_14 : decode prog_25_method_5_code 14 = .ok (.invokespecial 32, 3) := by decide +kernel
theorem chk_17 : decode prog_25_method_5_code 17 = .ok (.athrow, 1) := by decide +kernel
theorem chk_18 : decode prog_25_method_5_code 18 = .ok (.iload_n 0, 1) := by decide +kernel
theorem chk_19 : decode prog_25_method_5_code 19 = .ok (.ireturn, 1) := by decide +kernel
theorem pn_chk : plainFor (⟨"com/example/assayer/assayer/http/CallCount", "checked", "(I)I"⟩ : MethodName) = true := by first | exact plainFor_of_name (by first | (simp [plainName, overriddenIn]; done) | decide +kernel) | decide +kernel
theorem ef_chk (m : MethodId) (q1 : Int32) : entryFrame m #[(.int q1)] 1 = mkF m 0 #[.val (.int q1)] [] := by first | (simp [entryFrame, mkF, argsToLocals, Value.category, maxLocals]; done) | rfl
theorem pd_chk : parseMethodDescriptor "(I)I" = some ⟨[.int], some (.int)⟩ := by decide +kernel
set_option maxRecDepth 65536 in
set_option maxHeartbeats 40000000 in
theorem rm_chk (l : Launch) (Z : State) (a0 : Array Value) (hw : ∀ d ∈ tables_1, d.before a0 Z = true)  (q1 : Int32) (h0 : Heap) (c1 : ¬ q1 < (0 : Int32)) :
    MetFree l (⟨"com/example/assayer/assayer/http/CallCount", "checked", "(I)I"⟩ : MethodName) (head1 [Jvm.Cond.code (⟨"com/example/assayer/assayer/http/CallCount", "checked", "(I)I"⟩ : MethodName) prog_25_method_5_code 1 (some Jvm.ClassFile.FieldType.int)] ({ frames := 0, cells := 0, slots := 0, locals := 0 } : Room)) (fun a U => a = #[(.int q1)] ∧ Z.Warmed39 U.vm ∧ U.heap = h0) (fun _ _ _ _ _ => True) (fun _ U o U' => ∃ v L, o = .returned v ∧ Pur (some (.int q1)) h0 v U'.heap L ∧ FrameEnd U o U' L ({ frames := 0, cells := 0, slots := 0, locals := 0 } : Room).cells ({ frames := 0, cells := 0, slots := 0, locals := 0 } : Room).slots) := by
  refine MetFree.of_bodySF pn_chk hisR ?_
  intro p e s m args below meth c s₁ Bd hml0 hP hK
  obtain ⟨rfl, hZ, hh⟩ := hP
  have hx := Bd.exec
  have hby := Bd.bytes
  have hml : c.maxLocals = 1 := hml0
  have hown : s.vm.findClass "com/example/assayer/assayer/http/CallCount" = some m.cls := findClass_of_methodNamed Bd.named
  have hnm := (name_of_methodNamed Bd.named Bd.method).1
  have hlk : meth.locks = false := BodyLoose.notSynchronized Bd
  have X0 : Stand p l e ({ frames := 0, cells := 0, slots := 0, locals := 0 } : Room) s m #[(.int q1)] below meth c s₁ [] 0 0 := Stand.of_body Bd
  have e0 : s₁.heap = h0 := by rw [← hh, Bd.state]; rfl
  show Go p e below (EndN below s (Pur (some (.int q1)) h0) ({ frames := 0, cells := 0, slots := 0, locals := 0 } : Room).cells ({ frames := 0, cells := 0, slots := 0, locals := 0 } : Room).slots) (s₁.setTop (entryFrame m #[(.int q1)] 1))
  rw [ef_chk]
  refine g_iload_n X0 hx 1 q1 (hb hby chk_0) rfl rfl ?_
  refine g_ifY X0 hx 18 (hb hby chk_1) (XT.i0_ge_t c1) (by decide) (by decide) ?_
  refine g_iload_n X0 hx 19 q1 (hb hby chk_18) rfl rfl ?_
  exact Go.retI X0 hx hlk Bd.returns (hb hby chk_19) (by decide) (by decide) ⟨rfl, rfl, e0⟩
theorem atl_0 : decode prog_25_method_3_code 0 = .ok (.new 10, 3) := by decide +kernel
theorem atl_3 : decode prog_25_method_3_code 3 = .ok (.dup, 1) := by decide +kernel
theorem atl_4 : decode prog_25_method_3_code 4 = .ok (.iload_n 0, 1) := by decide +kernel
theorem atl_5 : decode prog_25_method_3_code 5 = .ok (.invokestatic 18, 3) := by decide +kernel
theorem atl_8 : decode prog_25_method_3_code 8 = .ok (.ldc 25, 2) := by decide +kernel
theorem atl_10 : decode prog_25_method_3_code 10 = .ok (.invokespecial 22, 3) := by decide +kernel
theorem atl_13 : decode prog_25_method_3_code 13 = .ok (.areturn, 1) := by decide +kernel
theorem pn_atl : plainFor (⟨"com/example/assayer/assayer/http/CallCount", "atLeast", "(I)Lcom/example/assayer/assayer/http/CallCount;"⟩ : MethodName) = true := by first | exact plainFor_of_name (by first | (simp [plainName, overriddenIn]; done) | decide +kernel) | decide +kernel
theorem ef_atl (m : MethodId) (q1 : Int32) : entryFrame m #[(.int q1)] 1 = mkF m 0 #[.val (.int q1)] [] := by first | (simp [entryFrame, mkF, argsToLocals, Value.category, maxLocals]; done) | rfl
theorem pd_atl : parseMethodDescriptor "(I)Lcom/example/assayer/assayer/http/CallCount;" = some ⟨[.int], some (.object "com/example/assayer/assayer/http/CallCount")⟩ := by decide +kernel
set_option maxRecDepth 65536 in
set_option maxHeartbeats 40000000 in
theorem rm_atl (l : Launch) (Z : State) (a0 : Array Value) (hw : ∀ d ∈ tables_1, d.before a0 Z = true)  (q1 : Int32) (h0 : Heap) (c1 : ¬ q1 < (0 : Int32)) :
    MetFree l (⟨"com/example/assayer/assayer/http/CallCount", "atLeast", "(I)Lcom/example/assayer/assayer/http/CallCount;"⟩ : MethodName) (head1 [Jvm.Cond.code (⟨"com/example/assayer/assayer/http/CallCount", "atLeast", "(I)Lcom/example/assayer/assayer/http/CallCount;"⟩ : MethodName) prog_25_method_3_code 1 (some (Jvm.ClassFile.FieldType.object "com/example/assayer/assayer/http/CallCount"))] ({ frames := 2, cells := 1, slots := 2, locals := 27 } : Room)) (fun a U => a = #[(.int q1)] ∧ Z.Warmed39 U.vm ∧ U.heap = h0) (fun _ _ _ _ _ => True) (fun _ U o U' => ∃ v L, o = .returned v ∧ AQ Z q1 h0 v U'.heap L ∧ FrameEnd U o U' L ({ frames := 2, cells := 1, slots := 2, locals := 27 } : Room).cells ({ frames := 2, cells := 1, slots := 2, locals := 27 } : Room).slots) := by
  refine MetFree.of_bodySF pn_atl hisR ?_
  intro p e s m args below meth c s₁ Bd hml0 hP hK
  obtain ⟨rfl, hZ, hh⟩ := hP
  have hx := Bd.exec
  have hby := Bd.bytes
  have hml : c.maxLocals = 1 := hml0
  have hown : s.vm.findClass "com/example/assayer/assayer/http/CallCount" = some m.cls := findClass_of_methodNamed Bd.named
  have hnm := (name_of_methodNamed Bd.named Bd.method).1
  have hlk : meth.locks = false := BodyLoose.notSynchronized Bd
  have X0 : Stand p l e ({ frames := 2, cells := 1, slots := 2, locals := 27 } : Room) s m #[(.int q1)] below meth c s₁ [] 0 0 := Stand.of_body Bd
  have e0 : s₁.heap = h0 := by rw [← hh, Bd.state]; rfl
  show Go p e below (EndN below s (AQ Z q1 h0) ({ frames := 2, cells := 1, slots := 2, locals := 27 } : Room).cells ({ frames := 2, cells := 1, slots := 2, locals := 27 } : Room).slots) (s₁.setTop (entryFrame m #[(.int q1)] 1))
  rw [ef_atl]
  obtain ⟨T_0, h_0, a_0, X_0, e_0, ga_0, E_0, A_0, D_0, st_0⟩ := g_newO X0 hx hZ hown (hw _ (List.mem_of_getElem? (i := 5) rfl)) (hw _ (List.mem_of_getElem? (i := 6) rfl)) (hw _ (List.mem_of_getElem? (i := 3) rfl)) e0 3 (hb hby atl_0) rfl (by decide) (by decide)
  refine st_0 ?_
  have g_0 : h0.size ≤ a_0 := by rw [ga_0]; exact (Nat.le_refl _)
  have Z_0 : h0.size ≤ h_0.size := Nat.le_trans (Nat.le_refl _) E_0.1
  have F_0_least : Fld Z h_0 a_0 "com/example/assayer/assayer/http/CallCount" "least" "I" (.int (0 : Int32)) := D_0 (Or.inr (hw _ (List.mem_of_getElem? (i := 18) rfl))) (ty := .int) (by decide)
  have F_0_most : Fld Z h_0 a_0 "com/example/assayer/assayer/http/CallCount" "most" "I" (.int (0 : Int32)) := D_0 (Or.inr (hw _ (List.mem_of_getElem? (i := 20) rfl))) (ty := .int) (by decide)
  refine g_dup X_0 hx 4 (hb hby atl_3) rfl rfl ?_
  refine g_iload_n X_0 hx 5 q1 (hb hby atl_4) rfl rfl ?_
  obtain ⟨T_5, X_5, e_5, st_5⟩ := g_callSP X_0 hx hZ (own := "com/example/assayer/assayer/http/CallCount") (index := 18) (y := (⟨"com/example/assayer/assayer/http/CallCount", "checked", "(I)I"⟩ : MethodName)) (as' := [(.int q1)]) (w := some (.int q1)) hown (hw _ (List.mem_of_getElem? (i := 7) rfl)) (hw _ (List.mem_of_getElem? (i := 8) rfl)) (hw _ (List.mem_of_getElem? (i := 3) rfl)) (hw _ (List.mem_of_getElem? (i := 9) rfl)) (by decide) e_0 (rm_chk l Z a0 hw q1 h_0 c1) pd_chk rfl 2 (by decide) (by decide) (by decide) (by decide) rfl rfl (pc := 5) (pc' := 8) (Ls := #[.val (.int q1)]) (rest := [(.ref a_0), (.ref a_0)]) (st := [(.int q1), (.ref a_0), (.ref a_0)]) (by rw [hml]; rfl) rfl (Nat.le_of_eq rfl) (hb hby atl_5) rfl
  refine st_5 ?_
  show Go p e below _ (T_5.setTop (mkF m 8 #[.val (.int q1)] [(.int q1), (.ref a_0), (.ref a_0)]))
  refine g_ldc X_5 hx 10 (hb hby atl_8) hown (mvT hZ (hw _ (List.mem_of_getElem? (i := 10) rfl))) rfl ?_
  obtain ⟨_, T_10, L_10, X_10, ⟨rfl, NI, KI, FI1, FI2⟩, st_10⟩ := g_callI X_5 hx hZ (own := "com/example/assayer/assayer/http/CallCount") (index := 22) (y := (⟨"com/example/assayer/assayer/http/CallCount", "<init>", "(II)V"⟩ : MethodName)) (a := a_0) (as' := [(.int q1), (.int (2147483647 : Int32))]) rfl hown (hw _ (List.mem_of_getElem? (i := 11) rfl)) (hw _ (List.mem_of_getElem? (i := 12) rfl)) (hw _ (List.mem_of_getElem? (i := 3) rfl)) (hw _ (List.mem_of_getElem? (i := 13) rfl)) (by decide) e_5 (rm_init l Z a0 hw a_0 q1 (2147483647 : Int32) h_0 h0.size g_0 F_0_least F_0_most A_0) pd_init rfl 1 (by decide) (by decide) (by decide) (by decide) (pc := 10) (Ls := #[.val (.int q1)]) (rest := [(.ref a_0)]) (st := [(.int (2147483647 : Int32)), (.int q1), (.ref a_0), (.ref a_0)]) (by rw [hml]; rfl) rfl (Nat.le_of_eq rfl) (hb hby atl_10)
  refine st_10 ?_
  have N_10 := Fr.app (Fr.nil _) NI
  show Go p e below _ (T_10.setTop (mkF m 13 #[.val (.int q1)] [(.ref a_0)]))
  exact Go.retA X_10 hx hlk Bd.returns rfl rfl (hb hby atl_13) (by decide) (by decide) ⟨_, rfl, N_10, (((Keep.refl _ _).ext E_0).trans KI (fun x hx => Or.inr (by cases List.mem_singleton.mp hx; exact g_0))), (A_0.keep KI), FI1, FI2⟩
theorem alw_0 : decode prog_25_method_6_code 0 = .ok (.iload_n 1, 1) := by decide +kernel
theorem alw_1 : decode prog_25_method_6_code 1 = .ok (.aload_n 0, 1) := by decide +kernel
theorem alw_2 : decode prog_25_method_6_code 2 = .ok (.getfield 9, 3) := by decide +kernel
theorem alw_5 : decode prog_25_method_6_code 5 = .ok (.if_icmp .lt 15, 3) := by decide +kernel
theorem alw_8 : decode prog_25_method_6_code 8 = .ok (.iload_n 1, 1) := by decide +kernel
theorem alw_9 : decode prog_25_method_6_code 9 = .ok (.aload_n 0, 1) := by decide +kernel
theorem alw_10 : decode prog_25_method_6_code 10 = .ok (.getfield 15, 3) := by decide +kernel
theorem alw_13 : decode prog_25_method_6_code 13 = .ok (.if_icmp .gt 7, 3) := by decide +kernel
theorem alw_16 : decode prog_25_method_6_code 16 = .ok (.iconst 1, 1) := by decide +kernel
theorem alw_17 : decode prog_25_method_6_code 17 = .ok (.goto 4, 3) := by decide +kernel
theorem alw_20 : decode prog_25_method_6_code 20 = .ok (.iconst 0, 1) := by decide +kernel
theorem alw_21 : decode prog_25_method_6_code 21 = .ok (.ireturn, 1) := by decide +kernel
theorem pn_alw : plainFor (⟨"com/example/assayer/assayer/http/CallCount", "allows", "(I)Z"⟩ : MethodName) = true := by first | exact plainFor_of_name (by first | (simp [plainName, overriddenIn]; done) | decide +kernel) | decide +kernel
theorem ef_alw (m : MethodId) (qa : Addr) (q1 : Int32) : entryFrame m #[(.ref qa), (.int q1)] 2 = mkF m 0 #[.val (.ref qa), .val (.int q1)] [] := by first | (simp [entryFrame, mkF, argsToLocals, Value.category, maxLocals]; done) | rfl
theorem pd_alw : parseMethodDescriptor "(I)Z" = some ⟨[.int], some (.boolean)⟩ := by decide +kernel
set_option maxRecDepth 65536 in
set_option maxHeartbeats 40000000 in
theorem rm_alw (l : Launch) (Z : State) (a0 : Array Value) (hw : ∀ d ∈ tables_1, d.before a0 Z = true)  (qa : Addr) (q1 : Int32) (h0 : Heap) (q2 q3 q4 : Int32) (hz : b2i (¬ q1 < q2 ∧ ¬ q3 < q1) = q4) (F1 : Fld Z h0 qa "com/example/assayer/assayer/http/CallCount" "least" "I" (.int q2)) (F2 : Fld Z h0 qa "com/example/assayer/assayer/http/CallCount" "most" "I" (.int q3)) :
    MetFree l (⟨"com/example/assayer/assayer/http/CallCount", "allows", "(I)Z"⟩ : MethodName) (head1 [Jvm.Cond.code (⟨"com/example/assayer/assayer/http/CallCount", "allows", "(I)Z"⟩ : MethodName) prog_25_method_6_code 2 (some Jvm.ClassFile.FieldType.boolean)] ({ frames := 0, cells := 0, slots := 0, locals := 0 } : Room)) (fun a U => a = #[(.ref qa), (.int q1)] ∧ Z.Warmed39 U.vm ∧ U.heap = h0) (fun _ _ _ _ _ => True) (fun _ U o U' => ∃ v L, o = .returned v ∧ Pur (some (.int q4)) h0 v U'.heap L ∧ FrameEnd U o U' L ({ frames := 0, cells := 0, slots := 0, locals := 0 } : Room).cells ({ frames := 0, cells := 0, slots := 0, locals := 0 } : Room).slots) := by
  refine MetFree.of_bodySF pn_alw hisR ?_
  intro p e s m args below meth c s₁ Bd hml0 hP hK
  obtain ⟨rfl, hZ, hh⟩ := hP
  have hx := Bd.exec
  have hby := Bd.bytes
  have hml : c.maxLocals = 2 := hml0
  have hown : s.vm.findClass "com/example/assayer/assayer/http/CallCount" = some m.cls := findClass_of_methodNamed Bd.named
  have hnm := (name_of_methodNamed Bd.named Bd.method).1
  have hlk : meth.locks = false := BodyLoose.notSynchronized Bd
  have X0 : Stand p l e ({ frames := 0, cells := 0, slots := 0, locals := 0 } : Room) s m #[(.ref qa), (.int q1)] below meth c s₁ [] 0 0 := Stand.of_body Bd
  have e0 : s₁.heap = h0 := by rw [← hh, Bd.state]; rfl
  show Go p e below (EndN below s (Pur (some (.int q4)) h0) ({ frames := 0, cells := 0, slots := 0, locals := 0 } : Room).cells ({ frames := 0, cells := 0, slots := 0, locals := 0 } : Room).slots) (s₁.setTop (entryFrame m #[(.ref qa), (.int q1)] 2))
  rw [ef_alw]
  refine g_iload_n X0 hx 1 q1 (hb hby alw_0) rfl rfl ?_
  refine g_aload_n X0 hx 2 (.ref qa) (hb hby alw_1) rfl rfl rfl ?_
  obtain ⟨T_2, X_2, e_2, st_2⟩ := g_getF X0 hx hZ hown (hw _ (List.mem_of_getElem? (i := 17) rfl)) Via.refl e0 F1 5 (hb hby alw_2) rfl
  refine st_2 ?_
  by_cases c5 : q1 < q2
  ·
    refine g_icmpY X_2 hx 20 (hb hby alw_5) (XT.ii_lt_t c5) (by decide) (by decide) ?_
    refine g_iconst X_2 hx 21 (0 : Int32) (hb hby alw_20) rfl rfl ?_
    exact Go.retZ X_2 hx hlk Bd.returns (by simp) (hb hby alw_21) (by decide) (by decide) ⟨by rw [← hz, b2i_f (fun q => q.1 c5)]; rfl, rfl, e_2⟩
  ·
    refine g_icmpN X_2 hx 8 (hb hby alw_5) (XT.ii_lt_f c5) rfl ?_
    refine g_iload_n X_2 hx 9 q1 (hb hby alw_8) rfl rfl ?_
    refine g_aload_n X_2 hx 10 (.ref qa) (hb hby alw_9) rfl rfl rfl ?_
    obtain ⟨T_10, X_10, e_10, st_10⟩ := g_getF X_2 hx hZ hown (hw _ (List.mem_of_getElem? (i := 19) rfl)) Via.refl e_2 F2 13 (hb hby alw_10) rfl
    refine st_10 ?_
    by_cases c13 : q3 < q1
    ·
      refine g_icmpY X_10 hx 20 (hb hby alw_13) (XT.ii_gt_t c13) (by decide) (by decide) ?_
      refine g_iconst X_10 hx 21 (0 : Int32) (hb hby alw_20) rfl rfl ?_
      exact Go.retZ X_10 hx hlk Bd.returns (by simp) (hb hby alw_21) (by decide) (by decide) ⟨by rw [← hz, b2i_f (fun q => q.2 c13)]; rfl, rfl, e_10⟩
    ·
      refine g_icmpN X_10 hx 16 (hb hby alw_13) (XT.ii_gt_f c13) rfl ?_
      refine g_iconst X_10 hx 17 (1 : Int32) (hb hby alw_16) rfl rfl ?_
      refine g_goto X_10 hx 21 (hb hby alw_17) (by decide) (by decide) ?_
      exact Go.retZ X_10 hx hlk Bd.returns (by simp) (hb hby alw_21) (by decide) (by decide) ⟨by rw [← hz, b2i_t ⟨c5, c13⟩]; rfl, rfl, e_10⟩
theorem pn_law : plainFor x = true := by first | exact plainFor_of_name (by first | (simp [plainName, overriddenIn]; done) | decide +kernel) | decide +kernel
theorem ef_law (m : MethodId) (q1 : Int32) (q2 : Int32) : entryFrame m #[(.int q1), (.int q2)] maxLocals = mkF m 0 #[.val (.int q1), .val (.int q2), .unset, .unset, .unset, .unset, .unset, .unset] [] := by first | (simp [entryFrame, mkF, argsToLocals, Value.category, maxLocals]; done) | rfl
theorem pd_law : parseMethodDescriptor "(II)Z" = some ⟨[.int, .int], some (.boolean)⟩ := by decide +kernel
set_option maxRecDepth 65536 in
set_option maxHeartbeats 40000000 in
theorem rm_law (l : Launch) (Z : State) (a0 : Array Value) (hw : ∀ d ∈ tables_1, d.before a0 Z = true) (ws : List Jvm.Cond) (q1 : Int32) (q2 : Int32) (h0 : Heap)  :
    MetFree l x (head1 (Jvm.Cond.code x code maxLocals ret :: ws) room_1) (fun a U => a = #[(.int q1), (.int q2)] ∧ Z.Warmed39 U.vm ∧ U.heap = h0) (fun _ _ _ _ _ => True) (fun _ U o U' => ∃ v L, o = .returned v ∧ LQ h0 v U'.heap L ∧ FrameEnd U o U' L 16 128) := by
  refine MetFree.of_bodySF pn_law hisR ?_
  intro p e s m args below meth c s₁ Bd hml0 hP hK
  obtain ⟨rfl, hZ, hh⟩ := hP
  have hx := Bd.exec
  have hby := Bd.bytes
  have hml : c.maxLocals = 8 := hml0
  have hown : s.vm.findClass "com/example/assayer/assayer/http/CallCountAtLeastPinLaw" = some m.cls := findClass_of_methodNamed Bd.named
  have hnm := (name_of_methodNamed Bd.named Bd.method).1
  have hlk : meth.locks = false := BodyLoose.notSynchronized Bd
  have X0 : Stand p l e room_1 s m #[(.int q1), (.int q2)] below meth c s₁ [] 0 0 := Stand.of_body Bd
  have e0 : s₁.heap = h0 := by rw [← hh, Bd.state]; rfl
  show Go p e below (EndN below s (LQ h0) 16 128) (s₁.setTop (entryFrame m #[(.int q1), (.int q2)] maxLocals))
  rw [ef_law]
  refine g_iload_n X0 hx 1 q1 (hb hby at_0) rfl rfl ?_
  refine g_ldc X0 hx 3 (hb hby at_1) hown (mvT hZ (hw _ (List.mem_of_getElem? (i := 0) rfl))) rfl ?_
  refine g_iand X0 hx 4 (hb hby at_3) rfl ?_
  refine g_istore_n X0 hx 5 #[.val (.int q1), .val (.int q2), .val (.int (q1 &&& (2147483647 : Int32))), .unset, .unset, .unset, .unset, .unset] (hb hby at_4) rfl rfl ?_
  generalize hvn : (q1 &&& (2147483647 : Int32)) = vn
  have bn := own_n hvn
  refine g_iload_n X0 hx 6 vn (hb hby at_5) rfl rfl ?_
  obtain ⟨_, T_6, L_6, X_6, ⟨r, rfl, NA, KA, EA, FA1, FA2⟩, st_6⟩ := g_callS X0 hx hZ (own := "com/example/assayer/assayer/http/CallCountAtLeastPinLaw") (index := 8) (y := (⟨"com/example/assayer/assayer/http/CallCount", "atLeast", "(I)Lcom/example/assayer/assayer/http/CallCount;"⟩ : MethodName)) (as' := [(.int vn)]) hown (hw _ (List.mem_of_getElem? (i := 1) rfl)) (hw _ (List.mem_of_getElem? (i := 2) rfl)) (hw _ (List.mem_of_getElem? (i := 3) rfl)) (hw _ (List.mem_of_getElem? (i := 4) rfl)) (by decide) e0 (rm_atl l Z a0 hw vn h0 (own_nn bn)) pd_atl rfl 0 (by decide) (by decide) (by decide) (by decide) (pc := 6) (Ls := #[.val (.int q1), .val (.int q2), .val (.int vn), .unset, .unset, .unset, .unset, .unset]) (rest := []) (st := [(.int vn)]) (by rw [hml]; rfl) rfl (Nat.le_of_eq rfl) (hb hby at_6)
  refine Go.of ?_ st_6
  have N6 := Fr.app (Fr.nil _) NA
  show Go p e below _ (T_6.setTop (mkF m 9 #[.val (.int q1), .val (.int q2), .val (.int vn), .unset, .unset, .unset, .unset, .unset] [(.ref r)]))
  refine g_astore_n X_6 hx 10 #[.val (.int q1), .val (.int q2), .val (.int vn), .val (.ref r), .unset, .unset, .unset, .unset] (hb hby at_9) rfl rfl rfl ?_
  refine g_aload_n X_6 hx 11 (.ref r) (hb hby at_10) rfl rfl rfl ?_
  refine g_iload_n X_6 hx 12 q2 (hb hby at_11) rfl rfl ?_
  obtain ⟨T_12, X_12, e_12, st_12⟩ := g_callVP X_6 hx hZ (own := "com/example/assayer/assayer/http/CallCountAtLeastPinLaw") (C := "com/example/assayer/assayer/http/CallCount") (index := 14) (y := (⟨"com/example/assayer/assayer/http/CallCount", "allows", "(I)Z"⟩ : MethodName)) (z := (⟨"com/example/assayer/assayer/http/CallCount", "allows", "(I)Z"⟩ : MethodName)) (a := r) (as' := [(.int q2)]) (w := (some (.int (b2i (¬ q2 < vn ∧ ¬ (2147483647 : Int32) < q2))))) hown (hw _ (List.mem_of_getElem? (i := 21) rfl)) (hw _ (List.mem_of_getElem? (i := 22) rfl)) (hw _ (List.mem_of_getElem? (i := 24) rfl)) (hw _ (List.mem_of_getElem? (i := 24) rfl)) (hw _ (List.mem_of_getElem? (i := 23) rfl)) (hw _ (List.mem_of_getElem? (i := 3) rfl)) (hw _ (List.mem_of_getElem? (i := 25) rfl)) (by decide) rfl EA (rm_alw l Z a0 hw r q2 T_6.heap vn (2147483647 : Int32) (b2i (¬ q2 < vn ∧ ¬ (2147483647 : Int32) < q2)) rfl FA1 FA2) pd_alw rfl 0 (by decide) (by decide) (by decide) (by decide) rfl rfl (pc := 12) (pc' := 15) (Ls := #[.val (.int q1), .val (.int q2), .val (.int vn), .val (.ref r), .unset, .unset, .unset, .unset]) (rest := []) (st := [(.int q2), (.ref r)]) (by rw [hml]; rfl) rfl (Nat.le_of_eq rfl) (hb hby at_12) rfl
  refine st_12 ?_
  show Go p e below _ (T_12.setTop (mkF m 15 #[.val (.int q1), .val (.int q2), .val (.int vn), .val (.ref r), .unset, .unset, .unset, .unset] [(.int (b2i (¬ q2 < vn ∧ ¬ (2147483647 : Int32) < q2)))]))
  refine g_iload_n X_12 hx 16 q2 (hb hby at_15) rfl rfl ?_
  refine g_iload_n X_12 hx 17 vn (hb hby at_16) rfl rfl ?_
  by_cases c17 : q2 < vn
  ·
    refine g_icmpY X_12 hx 24 (hb hby at_17) (XT.ii_lt_t c17) (by decide) (by decide) ?_
    refine g_iconst X_12 hx 25 (0 : Int32) (hb hby at_24) rfl rfl ?_
    refine g_icmpN X_12 hx 28 (hb hby at_25) (XT.ii_ne_f (b2i_f (fun q => q.1 c17))) rfl ?_
    refine g_iconst X_12 hx 29 (1 : Int32) (hb hby at_28) rfl rfl ?_
    refine g_goto X_12 hx 33 (hb hby at_29) (by decide) (by decide) ?_
    refine g_istore X_12 hx 35 #[.val (.int q1), .val (.int q2), .val (.int vn), .val (.ref r), .val (.int (1 : Int32)), .unset, .unset, .unset] (hb hby at_33) rfl rfl ?_
    refine g_aload_n X_12 hx 36 (.ref r) (hb hby at_35) rfl rfl rfl ?_
    refine g_iload_n X_12 hx 37 vn (hb hby at_36) rfl rfl ?_
    obtain ⟨T_37, X_37, e_37, st_37⟩ := g_callVP X_12 hx hZ (own := "com/example/assayer/assayer/http/CallCountAtLeastPinLaw") (C := "com/example/assayer/assayer/http/CallCount") (index := 14) (y := (⟨"com/example/assayer/assayer/http/CallCount", "allows", "(I)Z"⟩ : MethodName)) (z := (⟨"com/example/assayer/assayer/http/CallCount", "allows", "(I)Z"⟩ : MethodName)) (a := r) (as' := [(.int vn)]) (w := (some (.int (1 : Int32)))) hown (hw _ (List.mem_of_getElem? (i := 21) rfl)) (hw _ (List.mem_of_getElem? (i := 22) rfl)) (hw _ (List.mem_of_getElem? (i := 24) rfl)) (hw _ (List.mem_of_getElem? (i := 24) rfl)) (hw _ (List.mem_of_getElem? (i := 23) rfl)) (hw _ (List.mem_of_getElem? (i := 3) rfl)) (hw _ (List.mem_of_getElem? (i := 25) rfl)) (by decide) e_12 EA (rm_alw l Z a0 hw r vn T_6.heap vn (2147483647 : Int32) (1 : Int32) (b2i_t ⟨own_irr _, own_max _⟩) FA1 FA2) pd_alw rfl 0 (by decide) (by decide) (by decide) (by decide) rfl rfl (pc := 37) (pc' := 40) (Ls := #[.val (.int q1), .val (.int q2), .val (.int vn), .val (.ref r), .val (.int (1 : Int32)), .unset, .unset, .unset]) (rest := []) (st := [(.int vn), (.ref r)]) (by rw [hml]; rfl) rfl (Nat.le_of_eq rfl) (hb hby at_37) rfl
    refine st_37 ?_
    show Go p e below _ (T_37.setTop (mkF m 40 #[.val (.int q1), .val (.int q2), .val (.int vn), .val (.ref r), .val (.int (1 : Int32)), .unset, .unset, .unset] [(.int (1 : Int32))]))
    refine g_istore X_37 hx 42 #[.val (.int q1), .val (.int q2), .val (.int vn), .val (.ref r), .val (.int (1 : Int32)), .val (.int (1 : Int32)), .unset, .unset] (hb hby at_40) rfl rfl ?_
    refine g_aload_n X_37 hx 43 (.ref r) (hb hby at_42) rfl rfl rfl ?_
    refine g_iload_n X_37 hx 44 vn (hb hby at_43) rfl rfl ?_
    refine g_iconst X_37 hx 45 (1 : Int32) (hb hby at_44) rfl rfl ?_
    refine g_isub X_37 hx 46 (hb hby at_45) rfl ?_
    obtain ⟨T_46, X_46, e_46, st_46⟩ := g_callVP X_37 hx hZ (own := "com/example/assayer/assayer/http/CallCountAtLeastPinLaw") (C := "com/example/assayer/assayer/http/CallCount") (index := 14) (y := (⟨"com/example/assayer/assayer/http/CallCount", "allows", "(I)Z"⟩ : MethodName)) (z := (⟨"com/example/assayer/assayer/http/CallCount", "allows", "(I)Z"⟩ : MethodName)) (a := r) (as' := [(.int (vn - (1 : Int32)))]) (w := (some (.int (0 : Int32)))) hown (hw _ (List.mem_of_getElem? (i := 21) rfl)) (hw _ (List.mem_of_getElem? (i := 22) rfl)) (hw _ (List.mem_of_getElem? (i := 24) rfl)) (hw _ (List.mem_of_getElem? (i := 24) rfl)) (hw _ (List.mem_of_getElem? (i := 23) rfl)) (hw _ (List.mem_of_getElem? (i := 3) rfl)) (hw _ (List.mem_of_getElem? (i := 25) rfl)) (by decide) e_37 EA (rm_alw l Z a0 hw r (vn - (1 : Int32)) T_6.heap vn (2147483647 : Int32) (0 : Int32) (b2i_f (fun q => q.1 (own_pred bn))) FA1 FA2) pd_alw rfl 0 (by decide) (by decide) (by decide) (by decide) rfl rfl (pc := 46) (pc' := 49) (Ls := #[.val (.int q1), .val (.int q2), .val (.int vn), .val (.ref r), .val (.int (1 : Int32)), .val (.int (1 : Int32)), .unset, .unset]) (rest := []) (st := [(.int (vn - (1 : Int32))), (.ref r)]) (by rw [hml]; rfl) rfl (Nat.le_of_eq rfl) (hb hby at_46) rfl
    refine st_46 ?_
    show Go p e below _ (T_46.setTop (mkF m 49 #[.val (.int q1), .val (.int q2), .val (.int vn), .val (.ref r), .val (.int (1 : Int32)), .val (.int (1 : Int32)), .unset, .unset] [(.int (0 : Int32))]))
    refine g_ifN X_46 hx 52 (hb hby at_49) (XT.i0_ne_f (by decide)) rfl ?_
    refine g_iconst X_46 hx 53 (1 : Int32) (hb hby at_52) rfl rfl ?_
    refine g_goto X_46 hx 57 (hb hby at_53) (by decide) (by decide) ?_
    refine g_istore X_46 hx 59 #[.val (.int q1), .val (.int q2), .val (.int vn), .val (.ref r), .val (.int (1 : Int32)), .val (.int (1 : Int32)), .val (.int (1 : Int32)), .unset] (hb hby at_57) rfl rfl ?_
    refine g_aload_n X_46 hx 60 (.ref r) (hb hby at_59) rfl rfl rfl ?_
    refine g_ldc X_46 hx 62 (hb hby at_60) hown (mvT hZ (hw _ (List.mem_of_getElem? (i := 0) rfl))) rfl ?_
    obtain ⟨T_62, X_62, e_62, st_62⟩ := g_callVP X_46 hx hZ (own := "com/example/assayer/assayer/http/CallCountAtLeastPinLaw") (C := "com/example/assayer/assayer/http/CallCount") (index := 14) (y := (⟨"com/example/assayer/assayer/http/CallCount", "allows", "(I)Z"⟩ : MethodName)) (z := (⟨"com/example/assayer/assayer/http/CallCount", "allows", "(I)Z"⟩ : MethodName)) (a := r) (as' := [(.int (2147483647 : Int32))]) (w := (some (.int (1 : Int32)))) hown (hw _ (List.mem_of_getElem? (i := 21) rfl)) (hw _ (List.mem_of_getElem? (i := 22) rfl)) (hw _ (List.mem_of_getElem? (i := 24) rfl)) (hw _ (List.mem_of_getElem? (i := 24) rfl)) (hw _ (List.mem_of_getElem? (i := 23) rfl)) (hw _ (List.mem_of_getElem? (i := 3) rfl)) (hw _ (List.mem_of_getElem? (i := 25) rfl)) (by decide) e_46 EA (rm_alw l Z a0 hw r (2147483647 : Int32) T_6.heap vn (2147483647 : Int32) (1 : Int32) (b2i_t ⟨own_max _, own_max _⟩) FA1 FA2) pd_alw rfl 0 (by decide) (by decide) (by decide) (by decide) rfl rfl (pc := 62) (pc' := 65) (Ls := #[.val (.int q1), .val (.int q2), .val (.int vn), .val (.ref r), .val (.int (1 : Int32)), .val (.int (1 : Int32)), .val (.int (1 : Int32)), .unset]) (rest := []) (st := [(.int (2147483647 : Int32)), (.ref r)]) (by rw [hml]; rfl) rfl (Nat.le_of_eq rfl) (hb hby at_62) rfl
    refine st_62 ?_
    show Go p e below _ (T_62.setTop (mkF m 65 #[.val (.int q1), .val (.int q2), .val (.int vn), .val (.ref r), .val (.int (1 : Int32)), .val (.int (1 : Int32)), .val (.int (1 : Int32)), .unset] [(.int (1 : Int32))]))
    refine g_istore X_62 hx 67 #[.val (.int q1), .val (.int q2), .val (.int vn), .val (.ref r), .val (.int (1 : Int32)), .val (.int (1 : Int32)), .val (.int (1 : Int32)), .val (.int (1 : Int32))] (hb hby at_65) rfl rfl ?_
    refine g_iload X_62 hx 69 (1 : Int32) (hb hby at_67) rfl rfl ?_
    refine g_ifN X_62 hx 72 (hb hby at_69) (XT.i0_eq_f (by decide)) rfl ?_
    refine g_iload X_62 hx 74 (1 : Int32) (hb hby at_72) rfl rfl ?_
    refine g_ifN X_62 hx 77 (hb hby at_74) (XT.i0_eq_f (by decide)) rfl ?_
    refine g_iload X_62 hx 79 (1 : Int32) (hb hby at_77) rfl rfl ?_
    refine g_ifN X_62 hx 82 (hb hby at_79) (XT.i0_eq_f (by decide)) rfl ?_
    refine g_iload X_62 hx 84 (1 : Int32) (hb hby at_82) rfl rfl ?_
    refine g_ifN X_62 hx 87 (hb hby at_84) (XT.i0_eq_f (by decide)) rfl ?_
    refine g_iconst X_62 hx 88 (1 : Int32) (hb hby at_87) rfl rfl ?_
    refine g_goto X_62 hx 92 (hb hby at_88) (by decide) (by decide) ?_
    exact Go.ret X_62 hx hlk Bd.returns (hb hby at_92) rfl (Or.inl ⟨rfl, by decide, _, rfl⟩) (by decide) (by decide) ⟨rfl, N6⟩
  ·
    refine g_icmpN X_12 hx 20 (hb hby at_17) (XT.ii_lt_f c17) rfl ?_
    refine g_iconst X_12 hx 21 (1 : Int32) (hb hby at_20) rfl rfl ?_
    refine g_goto X_12 hx 25 (hb hby at_21) (by decide) (by decide) ?_
    refine g_icmpN X_12 hx 28 (hb hby at_25) (XT.ii_ne_f (b2i_t ⟨c17, own_max _⟩)) rfl ?_
    refine g_iconst X_12 hx 29 (1 : Int32) (hb hby at_28) rfl rfl ?_
    refine g_goto X_12 hx 33 (hb hby at_29) (by decide) (by decide) ?_
    refine g_istore X_12 hx 35 #[.val (.int q1), .val (.int q2), .val (.int vn), .val (.ref r), .val (.int (1 : Int32)), .unset, .unset, .unset] (hb hby at_33) rfl rfl ?_
    refine g_aload_n X_12 hx 36 (.ref r) (hb hby at_35) rfl rfl rfl ?_
    refine g_iload_n X_12 hx 37 vn (hb hby at_36) rfl rfl ?_
    obtain ⟨T_37, X_37, e_37, st_37⟩ := g_callVP X_12 hx hZ (own := "com/example/assayer/assayer/http/CallCountAtLeastPinLaw") (C := "com/example/assayer/assayer/http/CallCount") (index := 14) (y := (⟨"com/example/assayer/assayer/http/CallCount", "allows", "(I)Z"⟩ : MethodName)) (z := (⟨"com/example/assayer/assayer/http/CallCount", "allows", "(I)Z"⟩ : MethodName)) (a := r) (as' := [(.int vn)]) (w := (some (.int (1 : Int32)))) hown (hw _ (List.mem_of_getElem? (i := 21) rfl)) (hw _ (List.mem_of_getElem? (i := 22) rfl)) (hw _ (List.mem_of_getElem? (i := 24) rfl)) (hw _ (List.mem_of_getElem? (i := 24) rfl)) (hw _ (List.mem_of_getElem? (i := 23) rfl)) (hw _ (List.mem_of_getElem? (i := 3) rfl)) (hw _ (List.mem_of_getElem? (i := 25) rfl)) (by decide) e_12 EA (rm_alw l Z a0 hw r vn T_6.heap vn (2147483647 : Int32) (1 : Int32) (b2i_t ⟨own_irr _, own_max _⟩) FA1 FA2) pd_alw rfl 0 (by decide) (by decide) (by decide) (by decide) rfl rfl (pc := 37) (pc' := 40) (Ls := #[.val (.int q1), .val (.int q2), .val (.int vn), .val (.ref r), .val (.int (1 : Int32)), .unset, .unset, .unset]) (rest := []) (st := [(.int vn), (.ref r)]) (by rw [hml]; rfl) rfl (Nat.le_of_eq rfl) (hb hby at_37) rfl
    refine st_37 ?_
    show Go p e below _ (T_37.setTop (mkF m 40 #[.val (.int q1), .val (.int q2), .val (.int vn), .val (.ref r), .val (.int (1 : Int32)), .unset, .unset, .unset] [(.int (1 : Int32))]))
    refine g_istore X_37 hx 42 #[.val (.int q1), .val (.int q2), .val (.int vn), .val (.ref r), .val (.int (1 : Int32)), .val (.int (1 : Int32)), .unset, .unset] (hb hby at_40) rfl rfl ?_
    refine g_aload_n X_37 hx 43 (.ref r) (hb hby at_42) rfl rfl rfl ?_
    refine g_iload_n X_37 hx 44 vn (hb hby at_43) rfl rfl ?_
    refine g_iconst X_37 hx 45 (1 : Int32) (hb hby at_44) rfl rfl ?_
    refine g_isub X_37 hx 46 (hb hby at_45) rfl ?_
    obtain ⟨T_46, X_46, e_46, st_46⟩ := g_callVP X_37 hx hZ (own := "com/example/assayer/assayer/http/CallCountAtLeastPinLaw") (C := "com/example/assayer/assayer/http/CallCount") (index := 14) (y := (⟨"com/example/assayer/assayer/http/CallCount", "allows", "(I)Z"⟩ : MethodName)) (z := (⟨"com/example/assayer/assayer/http/CallCount", "allows", "(I)Z"⟩ : MethodName)) (a := r) (as' := [(.int (vn - (1 : Int32)))]) (w := (some (.int (0 : Int32)))) hown (hw _ (List.mem_of_getElem? (i := 21) rfl)) (hw _ (List.mem_of_getElem? (i := 22) rfl)) (hw _ (List.mem_of_getElem? (i := 24) rfl)) (hw _ (List.mem_of_getElem? (i := 24) rfl)) (hw _ (List.mem_of_getElem? (i := 23) rfl)) (hw _ (List.mem_of_getElem? (i := 3) rfl)) (hw _ (List.mem_of_getElem? (i := 25) rfl)) (by decide) e_37 EA (rm_alw l Z a0 hw r (vn - (1 : Int32)) T_6.heap vn (2147483647 : Int32) (0 : Int32) (b2i_f (fun q => q.1 (own_pred bn))) FA1 FA2) pd_alw rfl 0 (by decide) (by decide) (by decide) (by decide) rfl rfl (pc := 46) (pc' := 49) (Ls := #[.val (.int q1), .val (.int q2), .val (.int vn), .val (.ref r), .val (.int (1 : Int32)), .val (.int (1 : Int32)), .unset, .unset]) (rest := []) (st := [(.int (vn - (1 : Int32))), (.ref r)]) (by rw [hml]; rfl) rfl (Nat.le_of_eq rfl) (hb hby at_46) rfl
    refine st_46 ?_
    show Go p e below _ (T_46.setTop (mkF m 49 #[.val (.int q1), .val (.int q2), .val (.int vn), .val (.ref r), .val (.int (1 : Int32)), .val (.int (1 : Int32)), .unset, .unset] [(.int (0 : Int32))]))
    refine g_ifN X_46 hx 52 (hb hby at_49) (XT.i0_ne_f (by decide)) rfl ?_
    refine g_iconst X_46 hx 53 (1 : Int32) (hb hby at_52) rfl rfl ?_
    refine g_goto X_46 hx 57 (hb hby at_53) (by decide) (by decide) ?_
    refine g_istore X_46 hx 59 #[.val (.int q1), .val (.int q2), .val (.int vn), .val (.ref r), .val (.int (1 : Int32)), .val (.int (1 : Int32)), .val (.int (1 : Int32)), .unset] (hb hby at_57) rfl rfl ?_
    refine g_aload_n X_46 hx 60 (.ref r) (hb hby at_59) rfl rfl rfl ?_
    refine g_ldc X_46 hx 62 (hb hby at_60) hown (mvT hZ (hw _ (List.mem_of_getElem? (i := 0) rfl))) rfl ?_
    obtain ⟨T_62, X_62, e_62, st_62⟩ := g_callVP X_46 hx hZ (own := "com/example/assayer/assayer/http/CallCountAtLeastPinLaw") (C := "com/example/assayer/assayer/http/CallCount") (index := 14) (y := (⟨"com/example/assayer/assayer/http/CallCount", "allows", "(I)Z"⟩ : MethodName)) (z := (⟨"com/example/assayer/assayer/http/CallCount", "allows", "(I)Z"⟩ : MethodName)) (a := r) (as' := [(.int (2147483647 : Int32))]) (w := (some (.int (1 : Int32)))) hown (hw _ (List.mem_of_getElem? (i := 21) rfl)) (hw _ (List.mem_of_getElem? (i := 22) rfl)) (hw _ (List.mem_of_getElem? (i := 24) rfl)) (hw _ (List.mem_of_getElem? (i := 24) rfl)) (hw _ (List.mem_of_getElem? (i := 23) rfl)) (hw _ (List.mem_of_getElem? (i := 3) rfl)) (hw _ (List.mem_of_getElem? (i := 25) rfl)) (by decide) e_46 EA (rm_alw l Z a0 hw r (2147483647 : Int32) T_6.heap vn (2147483647 : Int32) (1 : Int32) (b2i_t ⟨own_max _, own_max _⟩) FA1 FA2) pd_alw rfl 0 (by decide) (by decide) (by decide) (by decide) rfl rfl (pc := 62) (pc' := 65) (Ls := #[.val (.int q1), .val (.int q2), .val (.int vn), .val (.ref r), .val (.int (1 : Int32)), .val (.int (1 : Int32)), .val (.int (1 : Int32)), .unset]) (rest := []) (st := [(.int (2147483647 : Int32)), (.ref r)]) (by rw [hml]; rfl) rfl (Nat.le_of_eq rfl) (hb hby at_62) rfl
    refine st_62 ?_
    show Go p e below _ (T_62.setTop (mkF m 65 #[.val (.int q1), .val (.int q2), .val (.int vn), .val (.ref r), .val (.int (1 : Int32)), .val (.int (1 : Int32)), .val (.int (1 : Int32)), .unset] [(.int (1 : Int32))]))
    refine g_istore X_62 hx 67 #[.val (.int q1), .val (.int q2), .val (.int vn), .val (.ref r), .val (.int (1 : Int32)), .val (.int (1 : Int32)), .val (.int (1 : Int32)), .val (.int (1 : Int32))] (hb hby at_65) rfl rfl ?_
    refine g_iload X_62 hx 69 (1 : Int32) (hb hby at_67) rfl rfl ?_
    refine g_ifN X_62 hx 72 (hb hby at_69) (XT.i0_eq_f (by decide)) rfl ?_
    refine g_iload X_62 hx 74 (1 : Int32) (hb hby at_72) rfl rfl ?_
    refine g_ifN X_62 hx 77 (hb hby at_74) (XT.i0_eq_f (by decide)) rfl ?_
    refine g_iload X_62 hx 79 (1 : Int32) (hb hby at_77) rfl rfl ?_
    refine g_ifN X_62 hx 82 (hb hby at_79) (XT.i0_eq_f (by decide)) rfl ?_
    refine g_iload X_62 hx 84 (1 : Int32) (hb hby at_82) rfl rfl ?_
    refine g_ifN X_62 hx 87 (hb hby at_84) (XT.i0_eq_f (by decide)) rfl ?_
    refine g_iconst X_62 hx 88 (1 : Int32) (hb hby at_87) rfl rfl ?_
    refine g_goto X_62 hx 92 (hb hby at_88) (by decide) (by decide) ?_
    exact Go.ret X_62 hx hlk Bd.returns (hb hby at_92) rfl (Or.inl ⟨rfl, by decide, _, rfl⟩) (by decide) (by decide) ⟨rfl, N6⟩
set_option maxRecDepth 65536 in
set_option maxHeartbeats 40000000 in
theorem comes_1 {Post : Tables → Env → Array Value → State → Outcome → State → Prop} (hpost : ∀ tb e args s v u, (limb_1_1.after args s (.returned v) u = true ∧ limb_1_2.after args s (.returned v) u = true ∧ True) → FrameEnd s (.returned v) u (Jvm.fieldLocs frame_1_writes args s ++ Jvm.arrayLocs frame_1_arrays args s ++ Jvm.staticLocs frame_1_statics s) 16 128 → Post tb e args s (.returned v) u) :
    ArmFor flags0 classFile x code maxLocals ret World_1 tables_1 room_1 Calls_1 rest_1 Pre_1 Post := by
  intro l hfl _ _ p e ha hc hk s m args below hf hA hF happ hP
  obtain ⟨hcalls, hrest, hpre⟩ := hP
  obtain ⟨-, -, -, hnamed, -, -, -, hat⟩ := (Spec.applies_iff hf).mp happ
  obtain ⟨hg, hn⟩ := and_e (Cond.before_iff.mp (show (Jvm.Cond.and given_1 narrow_1).before args s = true from hpre))
  obtain ⟨h1, g_0⟩ := and_e hg
  obtain ⟨k0, g_1⟩ := and_e g_0
  obtain ⟨w0, w1, rfl⟩ : ∃ w0 w1 : Value, args = #[w0, w1] := by
    have hs : args.size = 2 := by simpa [Cond.value, given_1] using h1
    obtain ⟨L⟩ := args
    match L, hs with
    | [w0, w1], _ => exact ⟨w0, w1, rfl⟩
  have hw := fun d (hd : d ∈ tables_1) => atoms_spec (ws := Jvm.Cond.code x code maxLocals ret :: tables_1) hat d (List.mem_cons_of_mem _ hd)
  obtain ⟨i0, e_0⟩ := is_v k0
  obtain rfl : w0 = (.int i0) := Option.some.inj e_0
  obtain ⟨i1, e_1⟩ := is_v g_1
  obtain rfl : w1 = (.int i1) := Option.some.inj e_1
  obtain ⟨n, o, h1, h2, h3, _, L, rfl, ⟨rfl, N⟩, hq⟩ := rm_law l s _ hw tables_1 i0 i1 s.heap  p e ha hc hk s m _ below hf ((Spec.applies_iff_loose hf).mp happ).1 ⟨rfl, State.Warmed39.refl s, rfl⟩ trivial
  refine ⟨n, _, h1, h2, h3, hpost _ _ _ _ _ _ ⟨Cond.after_iff.mpr rfl, Cond.after_iff.mpr (eq_i res_at (Term.int_eval (1)) rfl), trivial⟩ ⟨hq.1, hq.2.1, (hq.2.2.sift fun y hy => Or.inr (N y hy)).mono (by decide) (by decide)⟩⟩
theorem main_1_1 : Claimed_1_1 := comes_1 fun _ _ _ _ _ _ h hF => ⟨h.1, hF⟩
theorem main_1_2 : Claimed_1_2 := comes_1 fun _ _ _ _ _ _ h hF => ⟨h.2.1, hF⟩
end Jvm.Pilot.@@N@@
namespace Jvm.Pilot.@@N@@
open Jvm Jvm.ClassFile Sem Op Lib Jvm.Free Jvm.Stand Jvm.Pilot.@@N@@.Jvm.D
/-! MADE BY PROGRAM (witnessworld.py) out of the Statement's table words and the real class files: 9 classes; the members and pool entries that the words name. The judged class is class 1, her method 1. -/
namespace start1
open Jvm.ClassFile
def u (s : String) : CpInfo := .utf8 (stringToUtf16 s)
/-- a pool by its gaps: so many unusable entries, then the entry; so many at the end -/
def gap : Nat → List CpInfo → List CpInfo
  | 0, r => r
  | n + 1, r => .unusable :: gap n r
def poolList (es : List (Nat × CpInfo)) (last : Nat) : List CpInfo := es.foldr (fun e r => gap e.1 (e.2 :: r)) (gap last [])
def pool (es : List (Nat × CpInfo)) (last : Nat) : Array CpInfo := ⟨poolList es last⟩
def fileOf (pool : Array CpInfo) (this : Nat) (attrs : Array Attribute := #[]) (ms : Array MethodInfo := #[]) (fl : Nat := 33) (sup : Nat := 0) (ifs : Array Nat := #[]) (fds : Array FieldInfo := #[]) : ClassFile where
  minorVersion := 0
  majorVersion := 65
  constantPool := pool
  accessFlags := fl
  thisClass := this
  superClass := sup
  interfaces := ifs
  fields := fds
  methods := ms
  attributes := attrs
def plain (name : String) (sup : Option ClassId) : Class where
  name := name
  kind := .ordinary
  loader := none
  accessFlags := 33
  super := sup
  interfaces := #[]
  cf := none
  fields := #[]
  methods := #[]
  instanceTypes := #[]
  staticTypes := #[]
  resolved := #[]
  callSites := []
  init := .initialized
  statics := none
  mirror := none

def pool0 : Array CpInfo := pool [(5, u "<init>"), (0, u "()V"), (1, .class_ 10), (1, u "java/lang/Object")] 113

def k0c0 : Code := { maxStack := 0, maxLocals := 1, code := object_method_1_code, exceptionTable := #[], attributes := #[] }
def k0m0 : Method := { name := "<init>", desc := "()V", sig := { parameters := [], returnType := none }, accessFlags := 1, code := some k0c0 }
/-- java/lang/Object -/
def k0 : Class := { plain "java/lang/Object" none with
  accessFlags := 33
  interfaces := #[]
  cf := some (fileOf pool0 8 #[] #[{ accessFlags := 1, nameIndex := 5, descriptorIndex := 6, attributes := #[] }] 33 0 #[] #[])
  fields := #[]
  methods := #[k0m0]
  instanceTypes := #[]
  staticTypes := #[]
  resolved := Array.replicate 124 none
  statics := none }

def pool1 : Array CpInfo := pool [(2, .class_ 4), (1, u "java/lang/Object"), (0, u "<init>"), (0, u "()V"), (0, .integer 2147483647), (0, .methodref 9 10), (0, .class_ 11), (0, .nameAndType 12 13), (0, u "com/example/assayer/assayer/http/CallCount"), (0, u "atLeast"), (0, u "(I)Lcom/example/assayer/assayer/http/CallCount;"), (0, .methodref 9 15), (0, .nameAndType 16 17), (0, u "allows"), (0, u "(I)Z"), (2, .class_ 21), (0, u "com/example/assayer/assayer/http/CallCountAtLeastPinLaw"), (2, u "law"), (0, u "(II)Z")] 3

def k1m0 : Method := { name := "<init>", desc := "()V", sig := { parameters := [], returnType := none }, accessFlags := 2, code := none }
def k1c1 : Code := { maxStack := 3, maxLocals := 8, code := code, exceptionTable := #[], attributes := #[] }
def k1m1 : Method := { name := "law", desc := "(II)Z", sig := { parameters := [.int, .int], returnType := some .boolean }, accessFlags := 9, code := some k1c1 }
/-- com/example/assayer/assayer/http/CallCountAtLeastPinLaw -/
def k1 : Class := { plain "com/example/assayer/assayer/http/CallCountAtLeastPinLaw" (some 0) with
  accessFlags := 49
  interfaces := #[]
  cf := some (fileOf pool1 20 #[] #[{ accessFlags := 2, nameIndex := 5, descriptorIndex := 6, attributes := #[] }, { accessFlags := 9, nameIndex := 24, descriptorIndex := 25, attributes := #[] }] 49 2 #[] #[])
  fields := #[]
  methods := #[k1m0, k1m1]
  instanceTypes := #[]
  staticTypes := #[]
  resolved := Array.replicate 29 none
  statics := none }

def pool2 : Array CpInfo := pool [(3, .methodref 4 5), (0, .class_ 6), (0, .nameAndType 7 8), (0, u "java/lang/Object"), (0, u "<init>"), (0, u "()V"), (0, .fieldref 10 11), (0, .class_ 12), (0, .nameAndType 13 14), (0, u "com/example/assayer/assayer/http/CallCount"), (0, u "least"), (0, u "I"), (0, .fieldref 10 16), (0, .nameAndType 17 14), (0, u "most"), (0, .methodref 10 19), (0, .nameAndType 20 21), (0, u "checked"), (0, u "(I)I"), (0, .methodref 10 23), (0, .nameAndType 7 24), (0, u "(II)V"), (0, .integer 2147483647), (26, u "UNBOUNDED"), (4, u "(I)Lcom/example/assayer/assayer/http/CallCount;"), (0, u "atLeast"), (2, u "allows"), (0, u "(I)Z")] 29

def k2c0 : Code := { maxStack := 2, maxLocals := 3, code := prog_25_method_1_code, exceptionTable := #[], attributes := #[] }
def k2m0 : Method := { name := "<init>", desc := "(II)V", sig := { parameters := [.int, .int], returnType := none }, accessFlags := 2, code := some k2c0 }
def k2c1 : Code := { maxStack := 4, maxLocals := 1, code := prog_25_method_3_code, exceptionTable := #[], attributes := #[] }
def k2m1 : Method := { name := "atLeast", desc := "(I)Lcom/example/assayer/assayer/http/CallCount;", sig := { parameters := [.int], returnType := some (.object "com/example/assayer/assayer/http/CallCount") }, accessFlags := 8, code := some k2c1 }
def k2c2 : Code := { maxStack := 3, maxLocals := 1, code := prog_25_method_5_code, exceptionTable := #[], attributes := #[] }
def k2m2 : Method := { name := "checked", desc := "(I)I", sig := { parameters := [.int], returnType := some .int }, accessFlags := 10, code := some k2c2 }
def k2c3 : Code := { maxStack := 2, maxLocals := 2, code := prog_25_method_6_code, exceptionTable := #[], attributes := #[] }
def k2m3 : Method := { name := "allows", desc := "(I)Z", sig := { parameters := [.int], returnType := some .boolean }, accessFlags := 0, code := some k2c3 }
/-- com/example/assayer/assayer/http/CallCount -/
def k2 : Class := { plain "com/example/assayer/assayer/http/CallCount" (some 0) with
  accessFlags := 48
  interfaces := #[]
  cf := some (fileOf pool2 10 #[] #[{ accessFlags := 2, nameIndex := 7, descriptorIndex := 24, attributes := #[] }, { accessFlags := 8, nameIndex := 58, descriptorIndex := 57, attributes := #[] }, { accessFlags := 10, nameIndex := 20, descriptorIndex := 21, attributes := #[] }, { accessFlags := 0, nameIndex := 61, descriptorIndex := 62, attributes := #[] }] 48 4 #[] #[{ accessFlags := 26, nameIndex := 52, descriptorIndex := 14, attributes := #[] }, { accessFlags := 18, nameIndex := 13, descriptorIndex := 14, attributes := #[] }, { accessFlags := 18, nameIndex := 17, descriptorIndex := 14, attributes := #[] }])
  fields := #[{ name := "UNBOUNDED", type := .int, accessFlags := 26, slot := 0, constantValue := 0 }, { name := "least", type := .int, accessFlags := 18, slot := 0, constantValue := 0 }, { name := "most", type := .int, accessFlags := 18, slot := 1, constantValue := 0 }]
  methods := #[k2m0, k2m1, k2m2, k2m3]
  instanceTypes := #[.int, .int]
  staticTypes := #[.int]
  resolved := Array.replicate 92 none
  statics := none }

def pool3 : Array CpInfo := pool [(1, u "java/lang/Cloneable"), (0, .class_ 1), (0, u "java/lang/Object"), (0, .class_ 3)] 3

/-- java/lang/Cloneable -/
def k3 : Class := { plain "java/lang/Cloneable" (some 0) with
  accessFlags := 1537
  interfaces := #[]
  cf := some (fileOf pool3 2 #[] #[] 1537 4 #[] #[])
  fields := #[]
  methods := #[]
  instanceTypes := #[]
  staticTypes := #[]
  resolved := Array.replicate 8 none
  statics := none }

def pool4 : Array CpInfo := pool [(1, u "java/io/Serializable"), (0, .class_ 1), (0, u "java/lang/Object"), (0, .class_ 3)] 3

/-- java/io/Serializable -/
def k4 : Class := { plain "java/io/Serializable" (some 0) with
  accessFlags := 1537
  interfaces := #[]
  cf := some (fileOf pool4 2 #[] #[] 1537 4 #[] #[])
  fields := #[]
  methods := #[]
  instanceTypes := #[]
  staticTypes := #[]
  resolved := Array.replicate 8 none
  statics := none }

/-- the primitive byte -/
def k5 : Class := { plain "byte" none with kind := .primitive 'B', accessFlags := 0x411 }
/-- [B -/
def k6 : Class := { plain "[B" (some 0) with kind := .array 5 .byte, interfaces := #[3, 4], accessFlags := 1041 }

/-- the primitive int -/
def k7 : Class := { plain "int" none with kind := .primitive 'I', accessFlags := 0x411 }
/-- [I -/
def k8 : Class := { plain "[I" (some 0) with kind := .array 7 .int, interfaces := #[3, 4], accessFlags := 1041 }

def heap : Heap := #[]
def classes : Array Class := #[k0, k1, k2, k3, k4, k5, k6, k7, k8]
def interned : List (Array UInt16 × Addr) := []
def slotsUsed : Nat := 0
def theMethod : MethodId := ⟨1, 1⟩
def args0 : Array Value := #[.int 5, .int 7]
def aboutOver (below : List Frame) : State where
  vm := { classes := classes, interned := interned.toArray }
  heap := heap
  slotsUsed := slotsUsed
  threads := #[{ frames := .invoking theMethod args0 :: below }]
def below0 : List Frame := [.native { method := ⟨0, 0⟩, args := #[] }]
def about1 : State := aboutOver below0
def p0 : Program := .bare "" "" ""
def e0 : Env := launch0.env 0 0 0
theorem w_frames : about1.frames = Frame.invoking theMethod args0 :: below0 := rfl
set_option maxRecDepth 65536 in
theorem w_args : argsFit about1.vm theMethod args0 = true := by decide +kernel
set_option maxRecDepth 65536 in
theorem w_heap : heapFits about1 = true := by decide +kernel
set_option maxRecDepth 65536 in
theorem w_runnable : about1.curStatus? = some .runnable := by decide +kernel
set_option maxRecDepth 65536 in
theorem w_alone : about1.alone = true := by decide +kernel
set_option maxRecDepth 65536 in
theorem w_named : about1.methodNamed? x = some theMethod := by decide +kernel
set_option maxRecDepth 65536 in
theorem w_hears : about1.hears theMethod below0 = true := by decide +kernel
set_option maxRecDepth 65536 in
theorem w_ripe : about1.ripe theMethod args0 below0 = true := by decide +kernel
theorem w_running : about1.status = .running := rfl
set_option maxRecDepth 65536 in
theorem w_room : about1.hasRoom e0.platform room_1 = true :=
  launch0.hasRoom_least _ room_1 (by decide +kernel) (by decide +kernel) (by decide +kernel) (by decide +kernel) (by decide +kernel) (by decide +kernel)
theorem allAtoms_all (ts : List Jvm.Cond) (a : Array Jvm.Value) (st : Jvm.State) : (allAtoms ts).before a st = ts.all (fun c => c.before a st) := by
  induction ts with
  | nil => rfl
  | cons c t ih =>
    show (Jvm.Cond.and c (allAtoms t)).before a st = _
    rw [Jvm.Cond.before_and, ih, List.all_cons]
def words1 : List Jvm.Cond := Jvm.Cond.code x code maxLocals ret :: tables_1
/-- a 'code' word, met by the world's own term for the bytes: nothing is compared byte by byte -/
theorem code_word {y : MethodName} {bytes : ByteArray} {mx : Nat} {rt : Option FieldType} {a : Array Value} {s : State} {m : MethodId} {meth : Method} {c : Code} (h1 : s.methodNamed? y = some m) (h2 : s.vm.method? m = some meth) (h3 : meth.code = some c) (h4 : c.code = bytes)
    (h5 : (c.maxLocals == mx && c.exceptionTable.isEmpty && decide (c.maxStack ≤ mostOperands) && decide (meth.sig.returnType = rt) && !meth.locks && decide (parseMethodDescriptor y.desc = some meth.sig)) = true) : (Jvm.Cond.code y bytes mx rt).before a s = true := by
  simp only [Bool.and_eq_true, beq_iff_eq, Bool.not_eq_true', decide_eq_true_eq] at h5
  obtain ⟨⟨⟨⟨⟨g1, g2⟩, g3⟩, g4⟩, g5⟩, g6⟩ := h5
  simp [Cond.before, Cond.holds, Cond.value, h1, h2, h3, h4, g1, g2, g3, g4, g5, g6]
def isCode : Jvm.Cond → Bool
  | .code _ _ _ _ => true
  | _ => false
theorem all_split {L : List Jvm.Cond} {P : Jvm.Cond → Bool} (h1 : L.all (fun c => isCode c || P c) = true) (h2 : ∀ c ∈ L.filter isCode, P c = true) : L.all P = true := by
  refine List.all_eq_true.mpr fun c hc => ?_
  have h := List.all_eq_true.mp h1 c hc
  rcases Bool.eq_false_or_eq_true (isCode c) with hi | hi
  · exact h2 c (List.mem_filter.mpr ⟨hc, hi⟩)
  · simpa [hi] using h
set_option maxRecDepth 65536 in
theorem w_c0 : (Jvm.Cond.code x code maxLocals ret).before args0 about1 = true := code_word (m := ⟨1, 1⟩) (meth := k1m1) (c := k1c1) (by decide +kernel) rfl rfl rfl (by decide +kernel)
set_option maxRecDepth 65536 in
theorem w_c1 : (Jvm.Cond.code ({ cls := "com/example/assayer/assayer/http/CallCount", name := "atLeast", desc := "(I)Lcom/example/assayer/assayer/http/CallCount;" } : Jvm.MethodName) prog_25_method_3_code (1 : Nat) (Option.some (Jvm.ClassFile.FieldType.object "com/example/assayer/assayer/http/CallCount"))).before args0 about1 = true := code_word (m := ⟨2, 1⟩) (meth := k2m1) (c := k2c1) (by decide +kernel) rfl rfl rfl (by decide +kernel)
set_option maxRecDepth 65536 in
theorem w_c2 : (Jvm.Cond.code ({ cls := "com/example/assayer/assayer/http/CallCount", name := "checked", desc := "(I)I" } : Jvm.MethodName) prog_25_method_5_code (1 : Nat) (Option.some Jvm.ClassFile.FieldType.int)).before args0 about1 = true := code_word (m := ⟨2, 2⟩) (meth := k2m2) (c := k2c2) (by decide +kernel) rfl rfl rfl (by decide +kernel)
set_option maxRecDepth 65536 in
theorem w_c3 : (Jvm.Cond.code ({ cls := "com/example/assayer/assayer/http/CallCount", name := "<init>", desc := "(II)V" } : Jvm.MethodName) prog_25_method_1_code (3 : Nat) (Option.none : Option Jvm.ClassFile.FieldType)).before args0 about1 = true := code_word (m := ⟨2, 0⟩) (meth := k2m0) (c := k2c0) (by decide +kernel) rfl rfl rfl (by decide +kernel)
set_option maxRecDepth 65536 in
theorem w_c4 : (Jvm.Cond.code ({ cls := "java/lang/Object", name := "<init>", desc := "()V" } : Jvm.MethodName) object_method_1_code (1 : Nat) (Option.none : Option Jvm.ClassFile.FieldType)).before args0 about1 = true := code_word (m := ⟨0, 0⟩) (meth := k0m0) (c := k0c0) (by decide +kernel) rfl rfl rfl (by decide +kernel)
set_option maxRecDepth 65536 in
theorem w_c5 : (Jvm.Cond.code ({ cls := "com/example/assayer/assayer/http/CallCount", name := "allows", desc := "(I)Z" } : Jvm.MethodName) prog_25_method_6_code (2 : Nat) (Option.some Jvm.ClassFile.FieldType.boolean)).before args0 about1 = true := code_word (m := ⟨2, 3⟩) (meth := k2m3) (c := k2c3) (by decide +kernel) rfl rfl rfl (by decide +kernel)
def codes1 : List Jvm.Cond := [Jvm.Cond.code x code maxLocals ret, Jvm.Cond.code ({ cls := "com/example/assayer/assayer/http/CallCount", name := "atLeast", desc := "(I)Lcom/example/assayer/assayer/http/CallCount;" } : Jvm.MethodName) prog_25_method_3_code (1 : Nat) (Option.some (Jvm.ClassFile.FieldType.object "com/example/assayer/assayer/http/CallCount")), Jvm.Cond.code ({ cls := "com/example/assayer/assayer/http/CallCount", name := "checked", desc := "(I)I" } : Jvm.MethodName) prog_25_method_5_code (1 : Nat) (Option.some Jvm.ClassFile.FieldType.int), Jvm.Cond.code ({ cls := "com/example/assayer/assayer/http/CallCount", name := "<init>", desc := "(II)V" } : Jvm.MethodName) prog_25_method_1_code (3 : Nat) (Option.none : Option Jvm.ClassFile.FieldType), Jvm.Cond.code ({ cls := "java/lang/Object", name := "<init>", desc := "()V" } : Jvm.MethodName) object_method_1_code (1 : Nat) (Option.none : Option Jvm.ClassFile.FieldType), Jvm.Cond.code ({ cls := "com/example/assayer/assayer/http/CallCount", name := "allows", desc := "(I)Z" } : Jvm.MethodName) prog_25_method_6_code (2 : Nat) (Option.some Jvm.ClassFile.FieldType.boolean)]
set_option maxRecDepth 65536 in
theorem codes_eq : words1.filter isCode = codes1 := rfl
theorem w_codes : ∀ c ∈ words1.filter isCode, c.before args0 about1 = true := by
  rw [codes_eq]
  intro c hc
  simp only [codes1, List.mem_cons, List.not_mem_nil, or_false] at hc
  rcases hc with rfl | rfl | rfl | rfl | rfl | rfl
  · exact w_c0
  · exact w_c1
  · exact w_c2
  · exact w_c3
  · exact w_c4
  · exact w_c5
set_option maxRecDepth 65536 in
theorem w_t1 : (words1.take 24).all (fun c => isCode c || c.before args0 about1) = true := by decide +kernel
set_option maxRecDepth 65536 in
theorem w_t2 : (words1.drop 24).all (fun c => isCode c || c.before args0 about1) = true := by decide +kernel
theorem w_tables : (allAtoms (Jvm.Cond.code x code maxLocals ret :: tables_1)).before args0 about1 = true := by
  rw [allAtoms_all]
  show words1.all (fun c => c.before args0 about1) = true
  refine all_split ?_ w_codes
  rw [← List.take_append_drop 24 words1, List.all_append, w_t1, w_t2]
  rfl
set_option maxRecDepth 65536 in
theorem w_case : (Jvm.Cond.and given_1 narrow_1).before args0 about1 = true := by decide +kernel
theorem w_applies : (headSpec (Jvm.Cond.code x code maxLocals ret :: tables_1) room_1).applies x e0.platform about1 = true :=
  (Spec.applies_iff w_frames).mpr ⟨w_running, w_runnable, w_alone, w_named, w_hears, w_ripe, w_room, w_tables⟩
theorem atStart : AtStart classFile x code maxLocals ret World_1 tables_1 room_1 Calls_1 rest_1 Pre_1 launch0 p0 e0 about1 theMethod args0 below0 :=
  ⟨lists_1, trivial, launch0.admits_env _ _ _, launch0.least_env, fairChoices_fair.cas, fairChoices_fair.clock, w_frames, w_args, w_heap, w_applies, trivial, trivial, w_case⟩
end start1
theorem witness_1 : WitnessClaimed_1 := ⟨start1.p0, start1.e0, start1.about1, start1.theMethod, start1.args0, start1.below0, start1.atStart⟩
end Jvm.Pilot.@@N@@
