import JvmDerived
import JvmDerived.Pilot.@@N@@Statement
import JvmDerived.Pilot.@@N@@Code
set_option linter.unusedVariables false
set_option linter.unusedSimpArgs false
namespace Jvm.RoadKit
open Sem ClassFile Op Lib Jvm.Stand Jvm.Free Jvm.LawKit
section Own
variable {p : Program} {l : Launch} {e : Env} {R : Room} {s : State} {m : MethodId} {args : Array Value} {below : List Frame} {meth : Method} {c : Code} {T : State} {locs : List Loc} {cells slots : Nat} {Fe : Outcome → State → List Loc → Nat → Nat → Prop} {Qf : Option Value → Heap → List Loc → Prop} {kc ks : Nat} {code : ByteArray} {pc pc' : Nat} {Ls l' : Array Slot} {rest : List Value} {Z : State} {a0 : Array Value} {h : Heap}
/-- from the state S the call ends well: it returns, what is returned and the heap at the end meet Qf, and the frame is kept -/
def Gol (p : Program) (e : Env) (below : List Frame) (Fe : Outcome → State → List Loc → Nat → Nat → Prop) (Qf : Option Value → Heap → List Loc → Prop) (kc ks : Nat) (S : State) : Prop :=
  ∃ s₂ o, Steps p.tables e below S s₂ ∧ s₂.status = .running ∧ Ended s₂ below o ∧ ∃ v L, o = .returned v ∧ Qf v s₂.heap L ∧ Fe o s₂ L kc ks
theorem Gol.step {S S' : State} (st : ∀ t, Steps p.tables e below S' t → Steps p.tables e below S t) (k : Gol p e below Fe Qf kc ks S') : Gol p e below Fe Qf kc ks S := by
  obtain ⟨s₂, o, h, r⟩ := k
  exact ⟨s₂, o, st _ h, r⟩
theorem Gol.dia {S S' : State} (h1 : Gol p e below Fe Qf kc ks S' → Gol p e below Fe Qf kc ks S) (h2 : Gol p e below Fe Qf kc ks S') : Gol p e below Fe Qf kc ks S := h1 h2
theorem Gol.all {A : Type} {B : A → Prop} {S : State} {S' : A → State} (h2 : ∀ a, B a → Gol p e below Fe Qf kc ks (S' a)) (h1 : (∀ a, B a → Gol p e below Fe Qf kc ks (S' a)) → Gol p e below Fe Qf kc ks S) : Gol p e below Fe Qf kc ks S := h1 h2
/-- the run stands at pc -/
abbrev GolF (p : Program) (e : Env) (below : List Frame) (Fe : Outcome → State → List Loc → Nat → Nat → Prop) (Qf : Option Value → Heap → List Loc → Prop) (kc ks : Nat) (T : State) (m : MethodId) (pc : Nat) (Ls : Array Slot) (st : List Value) : Prop := Gol p e below Fe Qf kc ks (T.setTop (mkF m pc Ls st))
theorem Gol.fin (X : Stand p l e R s m args below meth c T locs cells slots) {v : Option Value} (hv : meth.sig.returnType = none → v = none) (hlk : meth.locks = false) {S : State} (eT : T.heap = h) (hq : Qf v h locs) (hc : cells ≤ kc) (hs : slots ≤ ks)
    (st : ∀ fs, (∀ (f : JFrame) (acts : List Action), f.method = m → f.locked = none → f.entered = [] → (doReturn e (T.setTop f) acts v).1 = T.setFrames fs) → Steps p.tables e below S (T.setFrames fs)) : Gol p e below (FrameEnd s) Qf kc ks S := by
  obtain ⟨fs, hr, hrun, hended, hW, hsame⟩ := X.leave (v := v) hv hlk
  refine ⟨_, _, st fs hr, hrun, hended, _, _, rfl, ?_, ⟨_, rfl⟩, hW, hsame.mono hc hs⟩
  show Qf v T.heap locs
  rw [eT]; exact hq
theorem Gol.finW {vm₁ : Vm} (X : Stand p l e R (s.setVm vm₁) m args below meth c T locs cells slots) {n : Nat} (hS : s.Since vm₁ n) (hn : n ≤ T.heap.size) {v : Option Value} (hv : meth.sig.returnType = none → v = none) (hlk : meth.locks = false) {S : State} (eT : T.heap = h) (hq : Qf v h locs) (hc : cells ≤ kc) (hs : slots ≤ ks)
    (st : ∀ fs, (∀ (f : JFrame) (acts : List Action), f.method = m → f.locked = none → f.entered = [] → (doReturn e (T.setTop f) acts v).1 = T.setFrames fs) → Steps p.tables e below S (T.setFrames fs)) : Gol p e below (ReturnedEndW s) Qf kc ks S := by
  obtain ⟨fs, hr, hrun, hended, h1, h2, h3, h4⟩ := X.leaveW hS hn (v := v) hv hlk
  refine ⟨_, _, st fs hr, hrun, hended, _, _, rfl, ?_, h1, h2, h3, h4.mono hc hs⟩
  show Qf v T.heap locs
  rw [eT]; exact hq
theorem Gol.aloadN (X : Stand p l e R s m args below meth c T locs cells slots) (hx : p.tables.exec = Jvm.exec) (hby : c.code = code) {k : Fin 4} {v : Value} (hd : decode code pc = .ok (.aload_n k, 1)) (hp : pc + 1 = pc') (hl : Ls[k.val]? = some (.val v)) (hv : v.isRef = true) (k : GolF p e below Fe Qf kc ks T m pc' Ls (v :: rest)) : GolF p e below Fe Qf kc ks T m pc Ls rest := by
  subst hp
  exact Gol.step (fun _ k => XS.aloadN X.here hx rfl (hb hby hd) hl hv k) k
theorem Gol.aload (X : Stand p l e R s m args below meth c T locs cells slots) (hx : p.tables.exec = Jvm.exec) (hby : c.code = code) {k : Nat} {v : Value} (hd : decode code pc = .ok (.aload k, 2)) (hp : pc + 2 = pc') (hl : Ls[k]? = some (.val v)) (hv : v.isRef = true) (k : GolF p e below Fe Qf kc ks T m pc' Ls (v :: rest)) : GolF p e below Fe Qf kc ks T m pc Ls rest := by
  subst hp
  exact Gol.step (fun _ k => XS.aload X.here hx rfl (hb hby hd) hl hv k) k
theorem Gol.iloadN (X : Stand p l e R s m args below meth c T locs cells slots) (hx : p.tables.exec = Jvm.exec) (hby : c.code = code) {k : Fin 4} {v : Int32} (hd : decode code pc = .ok (.iload_n k, 1)) (hp : pc + 1 = pc') (hl : Ls[k.val]? = some (.val (.int v))) (k : GolF p e below Fe Qf kc ks T m pc' Ls (.int v :: rest)) : GolF p e below Fe Qf kc ks T m pc Ls rest := by
  subst hp
  exact Gol.step (fun _ k => XS.iloadN X.here hx rfl (hb hby hd) hl k) k
theorem Gol.iload (X : Stand p l e R s m args below meth c T locs cells slots) (hx : p.tables.exec = Jvm.exec) (hby : c.code = code) {k : Nat} {v : Int32} (hd : decode code pc = .ok (.iload k, 2)) (hp : pc + 2 = pc') (hl : Ls[k]? = some (.val (.int v))) (k : GolF p e below Fe Qf kc ks T m pc' Ls (.int v :: rest)) : GolF p e below Fe Qf kc ks T m pc Ls rest := by
  subst hp
  exact Gol.step (fun _ k => XS.iload X.here hx rfl (hb hby hd) hl k) k
theorem Gol.istoreN (X : Stand p l e R s m args below meth c T locs cells slots) (hx : p.tables.exec = Jvm.exec) (hby : c.code = code) {k : Fin 4} {x : Int32} (hd : decode code pc = .ok (.istore_n k, 1)) (hp : pc + 1 = pc') (hl : storeLocals Ls k.val (.int x) = some l') (k : GolF p e below Fe Qf kc ks T m pc' l' rest) : GolF p e below Fe Qf kc ks T m pc Ls (.int x :: rest) := by
  subst hp
  exact Gol.step (fun _ k => XS.istoreN X.here hx rfl (hb hby hd) rfl hl k) k
theorem Gol.istore (X : Stand p l e R s m args below meth c T locs cells slots) (hx : p.tables.exec = Jvm.exec) (hby : c.code = code) {k : Nat} {x : Int32} (hd : decode code pc = .ok (.istore k, 2)) (hp : pc + 2 = pc') (hl : storeLocals Ls k (.int x) = some l') (k : GolF p e below Fe Qf kc ks T m pc' l' rest) : GolF p e below Fe Qf kc ks T m pc Ls (.int x :: rest) := by
  subst hp
  exact Gol.step (fun _ k => XS.istore X.here hx rfl (hb hby hd) rfl hl k) k
theorem Gol.lloadN (X : Stand p l e R s m args below meth c T locs cells slots) (hx : p.tables.exec = Jvm.exec) (hby : c.code = code) {k : Fin 4} {v : Int64} (hd : decode code pc = .ok (.lload_n k, 1)) (hp : pc + 1 = pc') (hl : Ls[k.val]? = some (.val (.long v))) (k : GolF p e below Fe Qf kc ks T m pc' Ls (.long v :: rest)) : GolF p e below Fe Qf kc ks T m pc Ls rest := by
  subst hp
  exact Gol.step (fun _ k => XT.lloadN X.here hx rfl (hb hby hd) hl k) k
theorem Gol.lload (X : Stand p l e R s m args below meth c T locs cells slots) (hx : p.tables.exec = Jvm.exec) (hby : c.code = code) {k : Nat} {v : Int64} (hd : decode code pc = .ok (.lload k, 2)) (hp : pc + 2 = pc') (hl : Ls[k]? = some (.val (.long v))) (k : GolF p e below Fe Qf kc ks T m pc' Ls (.long v :: rest)) : GolF p e below Fe Qf kc ks T m pc Ls rest := by
  subst hp
  exact Gol.step (fun _ k => XT.lload X.here hx rfl (hb hby hd) hl k) k
theorem Gol.lstoreN (X : Stand p l e R s m args below meth c T locs cells slots) (hx : p.tables.exec = Jvm.exec) (hby : c.code = code) {k : Fin 4} {x : Int64} (hd : decode code pc = .ok (.lstore_n k, 1)) (hp : pc + 1 = pc') (hl : storeLocals Ls k.val (.long x) = some l') (k : GolF p e below Fe Qf kc ks T m pc' l' rest) : GolF p e below Fe Qf kc ks T m pc Ls (.long x :: rest) := by
  subst hp
  exact Gol.step (fun _ k => XT.lstoreN X.here hx rfl (hb hby hd) rfl hl k) k
theorem Gol.lstore (X : Stand p l e R s m args below meth c T locs cells slots) (hx : p.tables.exec = Jvm.exec) (hby : c.code = code) {k : Nat} {x : Int64} (hd : decode code pc = .ok (.lstore k, 2)) (hp : pc + 2 = pc') (hl : storeLocals Ls k (.long x) = some l') (k : GolF p e below Fe Qf kc ks T m pc' l' rest) : GolF p e below Fe Qf kc ks T m pc Ls (.long x :: rest) := by
  subst hp
  exact Gol.step (fun _ k => XT.lstore X.here hx rfl (hb hby hd) rfl hl k) k
theorem Gol.astoreN (X : Stand p l e R s m args below meth c T locs cells slots) (hx : p.tables.exec = Jvm.exec) (hby : c.code = code) {k : Fin 4} {x : Value} (hd : decode code pc = .ok (.astore_n k, 1)) (hp : pc + 1 = pc') (hv : x.isRef = true) (hl : storeLocals Ls k.val x = some l') (k : GolF p e below Fe Qf kc ks T m pc' l' rest) : GolF p e below Fe Qf kc ks T m pc Ls (x :: rest) := by
  subst hp
  exact Gol.step (fun _ k => XS.astoreN X.here hx rfl (hb hby hd) rfl hv hl k) k
theorem Gol.astore (X : Stand p l e R s m args below meth c T locs cells slots) (hx : p.tables.exec = Jvm.exec) (hby : c.code = code) {k : Nat} {x : Value} (hd : decode code pc = .ok (.astore k, 2)) (hp : pc + 2 = pc') (hv : x.isRef = true) (hl : storeLocals Ls k x = some l') (k : GolF p e below Fe Qf kc ks T m pc' l' rest) : GolF p e below Fe Qf kc ks T m pc Ls (x :: rest) := by
  subst hp
  exact Gol.step (fun _ k => XS.astore X.here hx rfl (hb hby hd) rfl hv hl k) k
theorem Gol.iconst (X : Stand p l e R s m args below meth c T locs cells slots) (hx : p.tables.exec = Jvm.exec) (hby : c.code = code) {i : Int} {z : Int32} (hd : decode code pc = .ok (.iconst i, 1)) (hp : pc + 1 = pc') (hz : Int32.ofInt i = z) (k : GolF p e below Fe Qf kc ks T m pc' Ls (.int z :: rest)) : GolF p e below Fe Qf kc ks T m pc Ls rest := by
  subst hp hz
  exact Gol.step (fun _ k => XS.iconst X.here hx rfl (hb hby hd) k) k
theorem Gol.bipush (X : Stand p l e R s m args below meth c T locs cells slots) (hx : p.tables.exec = Jvm.exec) (hby : c.code = code) {i : Int} {z : Int32} (hd : decode code pc = .ok (.bipush i, 2)) (hp : pc + 2 = pc') (hz : (Int8.ofInt i).toInt32 = z) (k : GolF p e below Fe Qf kc ks T m pc' Ls (.int z :: rest)) : GolF p e below Fe Qf kc ks T m pc Ls rest := by
  subst hp hz
  exact Gol.step (fun _ k => XS.bipush X.here hx rfl (hb hby hd) k) k
theorem Gol.sipush (X : Stand p l e R s m args below meth c T locs cells slots) (hx : p.tables.exec = Jvm.exec) (hby : c.code = code) {i : Int} {z : Int32} (hd : decode code pc = .ok (.sipush i, 3)) (hp : pc + 3 = pc') (hz : (Int16.ofInt i).toInt32 = z) (k : GolF p e below Fe Qf kc ks T m pc' Ls (.int z :: rest)) : GolF p e below Fe Qf kc ks T m pc Ls rest := by
  subst hp hz
  exact Gol.step (fun _ k => XS.sipush X.here hx rfl (hb hby hd) k) k
theorem Gol.lconst (X : Stand p l e R s m args below meth c T locs cells slots) (hx : p.tables.exec = Jvm.exec) (hby : c.code = code) {i : Fin 2} {z : Int64} (hd : decode code pc = .ok (.lconst i, 1)) (hp : pc + 1 = pc') (hz : Int64.ofNat i = z) (k : GolF p e below Fe Qf kc ks T m pc' Ls (.long z :: rest)) : GolF p e below Fe Qf kc ks T m pc Ls rest := by
  subst hp hz
  exact Gol.step (fun _ k => XT.lconst X.here hx rfl (hb hby hd) k) k
theorem Gol.aconstNull (X : Stand p l e R s m args below meth c T locs cells slots) (hx : p.tables.exec = Jvm.exec) (hby : c.code = code) (hd : decode code pc = .ok (.aconst_null, 1)) (hp : pc + 1 = pc') (k : GolF p e below Fe Qf kc ks T m pc' Ls (.null :: rest)) : GolF p e below Fe Qf kc ks T m pc Ls rest := by
  subst hp
  exact Gol.step (fun _ k => XS.aconstNull X.here hx rfl (hb hby hd) k) k
theorem Gol.iadd (X : Stand p l e R s m args below meth c T locs cells slots) (hx : p.tables.exec = Jvm.exec) (hby : c.code = code) {x y z : Int32} (hd : decode code pc = .ok (.iadd, 1)) (hp : pc + 1 = pc') (hz : x + y = z) (k : GolF p e below Fe Qf kc ks T m pc' Ls (.int z :: rest)) : GolF p e below Fe Qf kc ks T m pc Ls (.int y :: .int x :: rest) := by
  subst hp hz
  exact Gol.step (fun _ k => XS.iadd X.here hx rfl (hb hby hd) rfl k) k
theorem Gol.ladd (X : Stand p l e R s m args below meth c T locs cells slots) (hx : p.tables.exec = Jvm.exec) (hby : c.code = code) {x y z : Int64} (hd : decode code pc = .ok (.ladd, 1)) (hp : pc + 1 = pc') (hz : x + y = z) (k : GolF p e below Fe Qf kc ks T m pc' Ls (.long z :: rest)) : GolF p e below Fe Qf kc ks T m pc Ls (.long y :: .long x :: rest) := by
  subst hp hz
  exact Gol.step (fun _ k => XT.ladd X.here hx rfl (hb hby hd) rfl k) k
theorem Gol.isub (X : Stand p l e R s m args below meth c T locs cells slots) (hx : p.tables.exec = Jvm.exec) (hby : c.code = code) {x y z : Int32} (hd : decode code pc = .ok (.isub, 1)) (hp : pc + 1 = pc') (hz : x - y = z) (k : GolF p e below Fe Qf kc ks T m pc' Ls (.int z :: rest)) : GolF p e below Fe Qf kc ks T m pc Ls (.int y :: .int x :: rest) := by
  subst hp hz
  exact Gol.step (fun _ k => XS.isub X.here hx rfl (hb hby hd) rfl k) k
theorem Gol.lsub (X : Stand p l e R s m args below meth c T locs cells slots) (hx : p.tables.exec = Jvm.exec) (hby : c.code = code) {x y z : Int64} (hd : decode code pc = .ok (.lsub, 1)) (hp : pc + 1 = pc') (hz : x - y = z) (k : GolF p e below Fe Qf kc ks T m pc' Ls (.long z :: rest)) : GolF p e below Fe Qf kc ks T m pc Ls (.long y :: .long x :: rest) := by
  subst hp hz
  exact Gol.step (fun _ k => XT.lsub X.here hx rfl (hb hby hd) rfl k) k
theorem Gol.imul (X : Stand p l e R s m args below meth c T locs cells slots) (hx : p.tables.exec = Jvm.exec) (hby : c.code = code) {x y z : Int32} (hd : decode code pc = .ok (.imul, 1)) (hp : pc + 1 = pc') (hz : x * y = z) (k : GolF p e below Fe Qf kc ks T m pc' Ls (.int z :: rest)) : GolF p e below Fe Qf kc ks T m pc Ls (.int y :: .int x :: rest) := by
  subst hp hz
  exact Gol.step (fun _ k => XS.imul X.here hx rfl (hb hby hd) rfl k) k
theorem Gol.lmul (X : Stand p l e R s m args below meth c T locs cells slots) (hx : p.tables.exec = Jvm.exec) (hby : c.code = code) {x y z : Int64} (hd : decode code pc = .ok (.lmul, 1)) (hp : pc + 1 = pc') (hz : x * y = z) (k : GolF p e below Fe Qf kc ks T m pc' Ls (.long z :: rest)) : GolF p e below Fe Qf kc ks T m pc Ls (.long y :: .long x :: rest) := by
  subst hp hz
  exact Gol.step (fun _ k => XT.lmul X.here hx rfl (hb hby hd) rfl k) k
theorem Gol.iand (X : Stand p l e R s m args below meth c T locs cells slots) (hx : p.tables.exec = Jvm.exec) (hby : c.code = code) {x y z : Int32} (hd : decode code pc = .ok (.iand, 1)) (hp : pc + 1 = pc') (hz : x &&& y = z) (k : GolF p e below Fe Qf kc ks T m pc' Ls (.int z :: rest)) : GolF p e below Fe Qf kc ks T m pc Ls (.int y :: .int x :: rest) := by
  subst hp hz
  exact Gol.step (fun _ k => XS.iand X.here hx rfl (hb hby hd) rfl k) k
theorem Gol.land (X : Stand p l e R s m args below meth c T locs cells slots) (hx : p.tables.exec = Jvm.exec) (hby : c.code = code) {x y z : Int64} (hd : decode code pc = .ok (.land, 1)) (hp : pc + 1 = pc') (hz : x &&& y = z) (k : GolF p e below Fe Qf kc ks T m pc' Ls (.long z :: rest)) : GolF p e below Fe Qf kc ks T m pc Ls (.long y :: .long x :: rest) := by
  subst hp hz
  exact Gol.step (fun _ k => XT.land X.here hx rfl (hb hby hd) rfl k) k
theorem Gol.ior (X : Stand p l e R s m args below meth c T locs cells slots) (hx : p.tables.exec = Jvm.exec) (hby : c.code = code) {x y z : Int32} (hd : decode code pc = .ok (.ior, 1)) (hp : pc + 1 = pc') (hz : x ||| y = z) (k : GolF p e below Fe Qf kc ks T m pc' Ls (.int z :: rest)) : GolF p e below Fe Qf kc ks T m pc Ls (.int y :: .int x :: rest) := by
  subst hp hz
  exact Gol.step (fun _ k => XT.ior X.here hx rfl (hb hby hd) rfl k) k
theorem Gol.lor (X : Stand p l e R s m args below meth c T locs cells slots) (hx : p.tables.exec = Jvm.exec) (hby : c.code = code) {x y z : Int64} (hd : decode code pc = .ok (.lor, 1)) (hp : pc + 1 = pc') (hz : x ||| y = z) (k : GolF p e below Fe Qf kc ks T m pc' Ls (.long z :: rest)) : GolF p e below Fe Qf kc ks T m pc Ls (.long y :: .long x :: rest) := by
  subst hp hz
  exact Gol.step (fun _ k => XT.lor X.here hx rfl (hb hby hd) rfl k) k
theorem Gol.ixor (X : Stand p l e R s m args below meth c T locs cells slots) (hx : p.tables.exec = Jvm.exec) (hby : c.code = code) {x y z : Int32} (hd : decode code pc = .ok (.ixor, 1)) (hp : pc + 1 = pc') (hz : x ^^^ y = z) (k : GolF p e below Fe Qf kc ks T m pc' Ls (.int z :: rest)) : GolF p e below Fe Qf kc ks T m pc Ls (.int y :: .int x :: rest) := by
  subst hp hz
  exact Gol.step (fun _ k => XT.ixor X.here hx rfl (hb hby hd) rfl k) k
theorem Gol.lxor (X : Stand p l e R s m args below meth c T locs cells slots) (hx : p.tables.exec = Jvm.exec) (hby : c.code = code) {x y z : Int64} (hd : decode code pc = .ok (.lxor, 1)) (hp : pc + 1 = pc') (hz : x ^^^ y = z) (k : GolF p e below Fe Qf kc ks T m pc' Ls (.long z :: rest)) : GolF p e below Fe Qf kc ks T m pc Ls (.long y :: .long x :: rest) := by
  subst hp hz
  exact Gol.step (fun _ k => XT.lxor X.here hx rfl (hb hby hd) rfl k) k
theorem Gol.ishl (X : Stand p l e R s m args below meth c T locs cells slots) (hx : p.tables.exec = Jvm.exec) (hby : c.code = code) {x y z : Int32} (hd : decode code pc = .ok (.ishl, 1)) (hp : pc + 1 = pc') (hz : x <<< (y &&& 31) = z) (k : GolF p e below Fe Qf kc ks T m pc' Ls (.int z :: rest)) : GolF p e below Fe Qf kc ks T m pc Ls (.int y :: .int x :: rest) := by
  subst hp hz
  exact Gol.step (fun _ k => XT.ishl X.here hx rfl (hb hby hd) rfl k) k
theorem Gol.ishr (X : Stand p l e R s m args below meth c T locs cells slots) (hx : p.tables.exec = Jvm.exec) (hby : c.code = code) {x y z : Int32} (hd : decode code pc = .ok (.ishr, 1)) (hp : pc + 1 = pc') (hz : x >>> (y &&& 31) = z) (k : GolF p e below Fe Qf kc ks T m pc' Ls (.int z :: rest)) : GolF p e below Fe Qf kc ks T m pc Ls (.int y :: .int x :: rest) := by
  subst hp hz
  exact Gol.step (fun _ k => XT.ishr X.here hx rfl (hb hby hd) rfl k) k
theorem Gol.iushr (X : Stand p l e R s m args below meth c T locs cells slots) (hx : p.tables.exec = Jvm.exec) (hby : c.code = code) {x y z : Int32} (hd : decode code pc = .ok (.iushr, 1)) (hp : pc + 1 = pc') (hz : XT.ushr x y = z) (k : GolF p e below Fe Qf kc ks T m pc' Ls (.int z :: rest)) : GolF p e below Fe Qf kc ks T m pc Ls (.int y :: .int x :: rest) := by
  subst hp hz
  exact Gol.step (fun _ k => XT.iushr X.here hx rfl (hb hby hd) rfl k) k
theorem Gol.lshl (X : Stand p l e R s m args below meth c T locs cells slots) (hx : p.tables.exec = Jvm.exec) (hby : c.code = code) {x z : Int64} {y : Int32} (hd : decode code pc = .ok (.lshl, 1)) (hp : pc + 1 = pc') (hz : x <<< (y.toInt64 &&& 63) = z) (k : GolF p e below Fe Qf kc ks T m pc' Ls (.long z :: rest)) : GolF p e below Fe Qf kc ks T m pc Ls (.int y :: .long x :: rest) := by
  subst hp hz
  exact Gol.step (fun _ k => XT.lshl X.here hx rfl (hb hby hd) rfl k) k
theorem Gol.lshr (X : Stand p l e R s m args below meth c T locs cells slots) (hx : p.tables.exec = Jvm.exec) (hby : c.code = code) {x z : Int64} {y : Int32} (hd : decode code pc = .ok (.lshr, 1)) (hp : pc + 1 = pc') (hz : x >>> (y.toInt64 &&& 63) = z) (k : GolF p e below Fe Qf kc ks T m pc' Ls (.long z :: rest)) : GolF p e below Fe Qf kc ks T m pc Ls (.int y :: .long x :: rest) := by
  subst hp hz
  exact Gol.step (fun _ k => XT.lshr X.here hx rfl (hb hby hd) rfl k) k
theorem Gol.lushr (X : Stand p l e R s m args below meth c T locs cells slots) (hx : p.tables.exec = Jvm.exec) (hby : c.code = code) {x z : Int64} {y : Int32} (hd : decode code pc = .ok (.lushr, 1)) (hp : pc + 1 = pc') (hz : XT.ushrL x y = z) (k : GolF p e below Fe Qf kc ks T m pc' Ls (.long z :: rest)) : GolF p e below Fe Qf kc ks T m pc Ls (.int y :: .long x :: rest) := by
  subst hp hz
  exact Gol.step (fun _ k => XT.lushr X.here hx rfl (hb hby hd) rfl k) k
theorem Gol.lcmp (X : Stand p l e R s m args below meth c T locs cells slots) (hx : p.tables.exec = Jvm.exec) (hby : c.code = code) {x y : Int64} (hd : decode code pc = .ok (.lcmp, 1)) (hp : pc + 1 = pc') (k : GolF p e below Fe Qf kc ks T m pc' Ls (.int (XT.cmpL x y) :: rest)) : GolF p e below Fe Qf kc ks T m pc Ls (.long y :: .long x :: rest) := by
  subst hp
  exact Gol.step (fun _ k => XT.lcmp X.here hx rfl (hb hby hd) rfl k) k
theorem Gol.ineg (X : Stand p l e R s m args below meth c T locs cells slots) (hx : p.tables.exec = Jvm.exec) (hby : c.code = code) {x : Int32} {z : Int32} (hd : decode code pc = .ok (.ineg, 1)) (hp : pc + 1 = pc') (hz : -x = z) (k : GolF p e below Fe Qf kc ks T m pc' Ls (.int z :: rest)) : GolF p e below Fe Qf kc ks T m pc Ls (.int x :: rest) := by
  subst hp hz
  exact Gol.step (fun _ k => XS.ineg X.here hx rfl (hb hby hd) rfl k) k
theorem Gol.lneg (X : Stand p l e R s m args below meth c T locs cells slots) (hx : p.tables.exec = Jvm.exec) (hby : c.code = code) {x : Int64} {z : Int64} (hd : decode code pc = .ok (.lneg, 1)) (hp : pc + 1 = pc') (hz : -x = z) (k : GolF p e below Fe Qf kc ks T m pc' Ls (.long z :: rest)) : GolF p e below Fe Qf kc ks T m pc Ls (.long x :: rest) := by
  subst hp hz
  exact Gol.step (fun _ k => XT.lneg X.here hx rfl (hb hby hd) rfl k) k
theorem Gol.i2l (X : Stand p l e R s m args below meth c T locs cells slots) (hx : p.tables.exec = Jvm.exec) (hby : c.code = code) {x : Int32} {z : Int64} (hd : decode code pc = .ok (.i2l, 1)) (hp : pc + 1 = pc') (hz : x.toInt64 = z) (k : GolF p e below Fe Qf kc ks T m pc' Ls (.long z :: rest)) : GolF p e below Fe Qf kc ks T m pc Ls (.int x :: rest) := by
  subst hp hz
  exact Gol.step (fun _ k => XT.i2l X.here hx rfl (hb hby hd) rfl k) k
theorem Gol.l2i (X : Stand p l e R s m args below meth c T locs cells slots) (hx : p.tables.exec = Jvm.exec) (hby : c.code = code) {x : Int64} {z : Int32} (hd : decode code pc = .ok (.l2i, 1)) (hp : pc + 1 = pc') (hz : x.toInt32 = z) (k : GolF p e below Fe Qf kc ks T m pc' Ls (.int z :: rest)) : GolF p e below Fe Qf kc ks T m pc Ls (.long x :: rest) := by
  subst hp hz
  exact Gol.step (fun _ k => XT.l2i X.here hx rfl (hb hby hd) rfl k) k
theorem Gol.i2b (X : Stand p l e R s m args below meth c T locs cells slots) (hx : p.tables.exec = Jvm.exec) (hby : c.code = code) {x : Int32} {z : Int32} (hd : decode code pc = .ok (.i2b, 1)) (hp : pc + 1 = pc') (hz : x.toInt8.toInt32 = z) (k : GolF p e below Fe Qf kc ks T m pc' Ls (.int z :: rest)) : GolF p e below Fe Qf kc ks T m pc Ls (.int x :: rest) := by
  subst hp hz
  exact Gol.step (fun _ k => XT.i2b X.here hx rfl (hb hby hd) rfl k) k
theorem Gol.i2s (X : Stand p l e R s m args below meth c T locs cells slots) (hx : p.tables.exec = Jvm.exec) (hby : c.code = code) {x : Int32} {z : Int32} (hd : decode code pc = .ok (.i2s, 1)) (hp : pc + 1 = pc') (hz : x.toInt16.toInt32 = z) (k : GolF p e below Fe Qf kc ks T m pc' Ls (.int z :: rest)) : GolF p e below Fe Qf kc ks T m pc Ls (.int x :: rest) := by
  subst hp hz
  exact Gol.step (fun _ k => XT.i2s X.here hx rfl (hb hby hd) rfl k) k
theorem Gol.i2c (X : Stand p l e R s m args below meth c T locs cells slots) (hx : p.tables.exec = Jvm.exec) (hby : c.code = code) {x : Int32} {z : Int32} (hd : decode code pc = .ok (.i2c, 1)) (hp : pc + 1 = pc') (hz : x.toUInt32.toUInt16.toUInt32.toInt32 = z) (k : GolF p e below Fe Qf kc ks T m pc' Ls (.int z :: rest)) : GolF p e below Fe Qf kc ks T m pc Ls (.int x :: rest) := by
  subst hp hz
  exact Gol.step (fun _ k => XT.i2c X.here hx rfl (hb hby hd) rfl k) k
theorem Gol.idiv (X : Stand p l e R s m args below meth c T locs cells slots) (hx : p.tables.exec = Jvm.exec) (hby : c.code = code) {x y : Int32} (hd : decode code pc = .ok (.idiv, 1)) (hp : pc + 1 = pc') (hy : y ≠ 0) (k : GolF p e below Fe Qf kc ks T m pc' Ls (.int (x / y) :: rest)) : GolF p e below Fe Qf kc ks T m pc Ls (.int y :: .int x :: rest) := by
  subst hp
  exact Gol.step (fun _ k => XS.idiv X.here hx rfl (hb hby hd) rfl hy k) k
theorem Gol.irem (X : Stand p l e R s m args below meth c T locs cells slots) (hx : p.tables.exec = Jvm.exec) (hby : c.code = code) {x y : Int32} (hd : decode code pc = .ok (.irem, 1)) (hp : pc + 1 = pc') (hy : y ≠ 0) (k : GolF p e below Fe Qf kc ks T m pc' Ls (.int (x % y) :: rest)) : GolF p e below Fe Qf kc ks T m pc Ls (.int y :: .int x :: rest) := by
  subst hp
  exact Gol.step (fun _ k => Jvm.RoadKit.iremM X hx rfl (hb hby hd) rfl hy k) k
theorem Gol.ldiv (X : Stand p l e R s m args below meth c T locs cells slots) (hx : p.tables.exec = Jvm.exec) (hby : c.code = code) {x y : Int64} (hd : decode code pc = .ok (.ldiv, 1)) (hp : pc + 1 = pc') (hy : y ≠ 0) (k : GolF p e below Fe Qf kc ks T m pc' Ls (.long (x / y) :: rest)) : GolF p e below Fe Qf kc ks T m pc Ls (.long y :: .long x :: rest) := by
  subst hp
  exact Gol.step (fun _ k => XT.ldiv X.here hx rfl (hb hby hd) rfl hy k) k
theorem Gol.lrem (X : Stand p l e R s m args below meth c T locs cells slots) (hx : p.tables.exec = Jvm.exec) (hby : c.code = code) {x y : Int64} (hd : decode code pc = .ok (.lrem, 1)) (hp : pc + 1 = pc') (hy : y ≠ 0) (k : GolF p e below Fe Qf kc ks T m pc' Ls (.long (x - (x / y) * y) :: rest)) : GolF p e below Fe Qf kc ks T m pc Ls (.long y :: .long x :: rest) := by
  subst hp
  exact Gol.step (fun _ k => XT.lrem X.here hx rfl (hb hby hd) rfl hy k) k
theorem Gol.iinc (X : Stand p l e R s m args below meth c T locs cells slots) (hx : p.tables.exec = Jvm.exec) (hby : c.code = code) {k : Nat} {cst : Int} {x : Int32} (hd : decode code pc = .ok (.iinc k cst, 3)) (hp : pc + 3 = pc') (hl : Ls[k]? = some (.val (.int x))) (hl' : storeLocals Ls k (.int (x + Int32.ofInt cst)) = some l') (k : GolF p e below Fe Qf kc ks T m pc' l' rest) : GolF p e below Fe Qf kc ks T m pc Ls rest := by
  subst hp
  exact Gol.step (fun _ k => XS.iinc X.here hx rfl (hb hby hd) hl hl' k) k
theorem Gol.dup (X : Stand p l e R s m args below meth c T locs cells slots) (hx : p.tables.exec = Jvm.exec) (hby : c.code = code) {x : Value} (hd : decode code pc = .ok (.dup, 1)) (hp : pc + 1 = pc') (hc : x.category = 1) (k : GolF p e below Fe Qf kc ks T m pc' Ls (x :: x :: rest)) : GolF p e below Fe Qf kc ks T m pc Ls (x :: rest) := by
  subst hp
  exact Gol.step (fun _ k => XS.dup X.here hx rfl (hb hby hd) rfl hc k) k
theorem Gol.pop (X : Stand p l e R s m args below meth c T locs cells slots) (hx : p.tables.exec = Jvm.exec) (hby : c.code = code) {x : Value} (hd : decode code pc = .ok (.pop, 1)) (hp : pc + 1 = pc') (hc : x.category = 1) (k : GolF p e below Fe Qf kc ks T m pc' Ls rest) : GolF p e below Fe Qf kc ks T m pc Ls (x :: rest) := by
  subst hp
  exact Gol.step (fun _ k => XT.pop X.here hx rfl (hb hby hd) rfl hc k) k
theorem Gol.dupX1 (X : Stand p l e R s m args below meth c T locs cells slots) (hx : p.tables.exec = Jvm.exec) (hby : c.code = code) {x y : Value} (hd : decode code pc = .ok (.dup_x1, 1)) (hp : pc + 1 = pc') (hc : x.category = 1) (hc' : y.category = 1) (k : GolF p e below Fe Qf kc ks T m pc' Ls (x :: y :: x :: rest)) : GolF p e below Fe Qf kc ks T m pc Ls (x :: y :: rest) := by
  subst hp
  exact Gol.step (fun _ k => XT.dupX1 X.here hx rfl (hb hby hd) rfl hc hc' k) k
theorem Gol.dup2 (X : Stand p l e R s m args below meth c T locs cells slots) (hx : p.tables.exec = Jvm.exec) (hby : c.code = code) {x y : Value} (hd : decode code pc = .ok (.dup2, 1)) (hp : pc + 1 = pc') (hc : x.category = 1) (hc' : y.category = 1) (k : GolF p e below Fe Qf kc ks T m pc' Ls (x :: y :: x :: y :: rest)) : GolF p e below Fe Qf kc ks T m pc Ls (x :: y :: rest) := by
  subst hp
  exact Gol.step (fun _ k => XT.dup2 X.here hx rfl (hb hby hd) rfl hc hc' k) k
theorem Gol.dup2L (X : Stand p l e R s m args below meth c T locs cells slots) (hx : p.tables.exec = Jvm.exec) (hby : c.code = code) {x : Int64} (hd : decode code pc = .ok (.dup2, 1)) (hp : pc + 1 = pc') (k : GolF p e below Fe Qf kc ks T m pc' Ls (.long x :: .long x :: rest)) : GolF p e below Fe Qf kc ks T m pc Ls (.long x :: rest) := by
  subst hp
  exact Gol.step (fun _ k => XT.dup2L X.here hx rfl (hb hby hd) rfl k) k
theorem Gol.goto (X : Stand p l e R s m args below meth c T locs cells slots) (hx : p.tables.exec = Jvm.exec) (hby : c.code = code) {o : Int} (hd : decode code pc = .ok (.goto o, 3)) (hp : (pc : Int) + o = (pc' : Int)) (k : GolF p e below Fe Qf kc ks T m pc' Ls rest) : GolF p e below Fe Qf kc ks T m pc Ls rest :=
  Gol.step (fun _ k => XS.goto X.here hx rfl (pc0 := pc) rfl (hb hby hd) (by rw [hp]; exact Int.natCast_nonneg _) (by rw [hp]; rfl) k) k
theorem Gol.ifYes (X : Stand p l e R s m args below meth c T locs cells slots) (hx : p.tables.exec = Jvm.exec) (hby : c.code = code) {o : Int} {cd : ClassFile.Cond} {x : Int32} (hd : decode code pc = .ok (.ifCond cd o, 3)) (hp : (pc : Int) + o = (pc' : Int)) (hc : ifCond.holds cd x = true) (k : GolF p e below Fe Qf kc ks T m pc' Ls rest) : GolF p e below Fe Qf kc ks T m pc Ls (.int x :: rest) :=
  Gol.step (fun _ k => XS.ifYes X.here hx rfl (pc0 := pc) rfl (hb hby hd) rfl hc (by rw [hp]; exact Int.natCast_nonneg _) (by rw [hp]; rfl) k) k
theorem Gol.icmpYes (X : Stand p l e R s m args below meth c T locs cells slots) (hx : p.tables.exec = Jvm.exec) (hby : c.code = code) {o : Int} {cd : ClassFile.Cond} {x y : Int32} (hd : decode code pc = .ok (.if_icmp cd o, 3)) (hp : (pc : Int) + o = (pc' : Int)) (hc : if_icmp.holds cd x y = true) (k : GolF p e below Fe Qf kc ks T m pc' Ls rest) : GolF p e below Fe Qf kc ks T m pc Ls (.int y :: .int x :: rest) :=
  Gol.step (fun _ k => XS.icmpYes X.here hx rfl (pc0 := pc) rfl (hb hby hd) rfl hc (by rw [hp]; exact Int.natCast_nonneg _) (by rw [hp]; rfl) k) k
theorem Gol.ifNo (X : Stand p l e R s m args below meth c T locs cells slots) (hx : p.tables.exec = Jvm.exec) (hby : c.code = code) {o : Int} {cd : ClassFile.Cond} {x : Int32} (hd : decode code pc = .ok (.ifCond cd o, 3)) (hp : pc + 3 = pc') (hc : ifCond.holds cd x = false) (k : GolF p e below Fe Qf kc ks T m pc' Ls rest) : GolF p e below Fe Qf kc ks T m pc Ls (.int x :: rest) := by
  subst hp
  exact Gol.step (fun _ k => XS.ifNo X.here hx rfl (hb hby hd) rfl hc k) k
theorem Gol.icmpNo (X : Stand p l e R s m args below meth c T locs cells slots) (hx : p.tables.exec = Jvm.exec) (hby : c.code = code) {o : Int} {cd : ClassFile.Cond} {x y : Int32} (hd : decode code pc = .ok (.if_icmp cd o, 3)) (hp : pc + 3 = pc') (hc : if_icmp.holds cd x y = false) (k : GolF p e below Fe Qf kc ks T m pc' Ls rest) : GolF p e below Fe Qf kc ks T m pc Ls (.int y :: .int x :: rest) := by
  subst hp
  exact Gol.step (fun _ k => XS.icmpNo X.here hx rfl (hb hby hd) rfl hc k) k
theorem Gol.ifnullYes (X : Stand p l e R s m args below meth c T locs cells slots) (hx : p.tables.exec = Jvm.exec) (hby : c.code = code) {o : Int} (hd : decode code pc = .ok (.ifnull o, 3)) (hp : (pc : Int) + o = (pc' : Int)) (k : GolF p e below Fe Qf kc ks T m pc' Ls rest) : GolF p e below Fe Qf kc ks T m pc Ls (.null :: rest) :=
  Gol.step (fun _ k => XS.ifnullYes X.here hx rfl (pc0 := pc) rfl (hb hby hd) rfl (by rw [hp]; exact Int.natCast_nonneg _) (by rw [hp]; rfl) k) k
theorem Gol.ifnullNo (X : Stand p l e R s m args below meth c T locs cells slots) (hx : p.tables.exec = Jvm.exec) (hby : c.code = code) {o : Int} {b : Addr} (hd : decode code pc = .ok (.ifnull o, 3)) (hp : pc + 3 = pc') (k : GolF p e below Fe Qf kc ks T m pc' Ls rest) : GolF p e below Fe Qf kc ks T m pc Ls (.ref b :: rest) := by
  subst hp
  exact Gol.step (fun _ k => XS.ifnullNo X.here hx rfl (hb hby hd) rfl k) k
theorem Gol.ifnonnullYes (X : Stand p l e R s m args below meth c T locs cells slots) (hx : p.tables.exec = Jvm.exec) (hby : c.code = code) {o : Int} {b : Addr} (hd : decode code pc = .ok (.ifnonnull o, 3)) (hp : (pc : Int) + o = (pc' : Int)) (k : GolF p e below Fe Qf kc ks T m pc' Ls rest) : GolF p e below Fe Qf kc ks T m pc Ls (.ref b :: rest) :=
  Gol.step (fun _ k => XT.ifnonnullYes X.here hx rfl (pc0 := pc) rfl (hb hby hd) rfl (by rw [hp]; exact Int.natCast_nonneg _) (by rw [hp]; rfl) k) k
theorem Gol.ifnonnullNo (X : Stand p l e R s m args below meth c T locs cells slots) (hx : p.tables.exec = Jvm.exec) (hby : c.code = code) {o : Int} (hd : decode code pc = .ok (.ifnonnull o, 3)) (hp : pc + 3 = pc') (k : GolF p e below Fe Qf kc ks T m pc' Ls rest) : GolF p e below Fe Qf kc ks T m pc Ls (.null :: rest) := by
  subst hp
  exact Gol.step (fun _ k => XT.ifnonnullNo X.here hx rfl (hb hby hd) rfl k) k
theorem Gol.acmp (X : Stand p l e R s m args below meth c T locs cells slots) (hx : p.tables.exec = Jvm.exec) (hby : c.code = code) {cd : ACond} {o : Int} {x y : Value} (same : Bool) (hd : decode code pc = .ok (.if_acmp cd o, 3)) (h1 : x.isRef = true) (h2 : y.isRef = true) (hq : decide (x = y) = same) (ho : 0 ≤ (pc : Int) + o) (hp : pc' = if acV cd same = true then ((pc : Int) + o).toNat else pc + 3) (k : GolF p e below Fe Qf kc ks T m pc' Ls rest) : GolF p e below Fe Qf kc ks T m pc Ls (y :: x :: rest) :=
  Gol.step (fun _ k => Jvm.RoadKit.acmp (g := mkF m pc Ls (y :: x :: rest)) X hx rfl h1 h2 (pc0 := pc) (pc' := pc') rfl (hb hby hd) rfl hq ho hp k) k
theorem Gol.ldcInt (X : Stand p l e R s m args below meth c T locs cells slots) (hx : p.tables.exec = Jvm.exec) (hby : c.code = code) (hZ : Z.Warmed39 s.vm) {own : String} (hown : s.vm.findClass own = some m.cls) {index : Nat} {v : Int32} (hd : decode code pc = .ok (.ldc index, 2)) (hp : pc + 2 = pc') (w : (Cond.constant own index v).before a0 Z = true) (k : GolF p e below Fe Qf kc ks T m pc' Ls (.int v :: rest)) : GolF p e below Fe Qf kc ks T m pc Ls rest := by
  subst hp
  exact Gol.step (fun _ k => X.ldcInt hx hown (mvT hZ w) (g := mkF m pc Ls rest) rfl (hb hby hd) _ k) k
theorem Gol.ldcwInt (X : Stand p l e R s m args below meth c T locs cells slots) (hx : p.tables.exec = Jvm.exec) (hby : c.code = code) (hZ : Z.Warmed39 s.vm) {own : String} (hown : s.vm.findClass own = some m.cls) {index : Nat} {v : Int32} (hd : decode code pc = .ok (.ldc_w index, 3)) (hp : pc + 3 = pc') (w : (Cond.constant own index v).before a0 Z = true) (k : GolF p e below Fe Qf kc ks T m pc' Ls (.int v :: rest)) : GolF p e below Fe Qf kc ks T m pc Ls rest := by
  subst hp
  exact Gol.step (fun _ k => X.ldcwInt hx hown (mvT hZ w) (g := mkF m pc Ls rest) rfl (hb hby hd) _ k) k
theorem Gol.ldc2Long (X : Stand p l e R s m args below meth c T locs cells slots) (hx : p.tables.exec = Jvm.exec) (hby : c.code = code) (hZ : Z.Warmed39 s.vm) {own : String} (hown : s.vm.findClass own = some m.cls) {index : Nat} {v : Int64} (hd : decode code pc = .ok (.ldc2_w index, 3)) (hp : pc + 3 = pc') (w : (Cond.constantLong own index v).before a0 Z = true) (k : GolF p e below Fe Qf kc ks T m pc' Ls (.long v :: rest)) : GolF p e below Fe Qf kc ks T m pc Ls rest := by
  subst hp
  exact Gol.step (fun _ k => X.ldc2Long hx hown (mvT hZ w) (g := mkF m pc Ls rest) rfl (hb hby hd) _ k) k
theorem Gol.iaload (X : Stand p l e R s m args below meth c T locs cells slots) (hx : p.tables.exec = Jvm.exec) (hby : c.code = code) (hZ : Z.Warmed39 s.vm) (eT : T.heap = h) {a : Addr} {ka : ClassId} {z j : Int32} {vs : List Value} {dv : Value} {v : Int32} (A : Arv Z h a ka .int z vs dv) (hd : decode code pc = .ok (.iaload, 1)) (hp : pc + 1 = pc') (hj : ¬ j < 0 ∧ j < z) (hv : vs.getD j.toNatClampNeg dv = .int v) (k : GolF p e below Fe Qf kc ks T m pc' Ls (.int v :: rest)) : GolF p e below Fe Qf kc ks T m pc Ls (.int j :: .ref a :: rest) := by
  subst hp
  obtain ⟨cl, Ar, -, S, -, Hs, -⟩ := A
  have hin := inb_of S hj
  exact Gol.step (fun _ k => X.iaload hx (by rw [eT]; exact Ar.1) (State.isArrayOf_alike hZ.alike Ar.2.1) Ar.2.2 hin (Has.at Hs hin hv) (g := mkF m pc Ls (.int j :: .ref a :: rest)) rfl rfl (hb hby hd) _ k) k
theorem Gol.baload (X : Stand p l e R s m args below meth c T locs cells slots) (hx : p.tables.exec = Jvm.exec) (hby : c.code = code) (hZ : Z.Warmed39 s.vm) (eT : T.heap = h) {a : Addr} {ka : ClassId} {z j : Int32} {vs : List Value} {dv : Value} {v : Int32} (A : Arv Z h a ka .byte z vs dv) (hd : decode code pc = .ok (.baload, 1)) (hp : pc + 1 = pc') (hj : ¬ j < 0 ∧ j < z) (hv : vs.getD j.toNatClampNeg dv = .int v) (k : GolF p e below Fe Qf kc ks T m pc' Ls (.int v :: rest)) : GolF p e below Fe Qf kc ks T m pc Ls (.int j :: .ref a :: rest) := by
  subst hp
  obtain ⟨cl, Ar, -, S, -, Hs, -⟩ := A
  have hin := inb_of S hj
  exact Gol.step (fun _ k => X.baloadBytes hx (by rw [eT]; exact Ar.1) (State.isArrayOf_alike hZ.alike Ar.2.1) Ar.2.2 hin (Has.at Hs hin hv) (g := mkF m pc Ls (.int j :: .ref a :: rest)) rfl rfl (hb hby hd) _ k) k
theorem Gol.caload (X : Stand p l e R s m args below meth c T locs cells slots) (hx : p.tables.exec = Jvm.exec) (hby : c.code = code) (hZ : Z.Warmed39 s.vm) (eT : T.heap = h) {a : Addr} {ka : ClassId} {z j : Int32} {vs : List Value} {dv : Value} {v : Int32} (A : Arv Z h a ka .char z vs dv) (hd : decode code pc = .ok (.caload, 1)) (hp : pc + 1 = pc') (hj : ¬ j < 0 ∧ j < z) (hv : vs.getD j.toNatClampNeg dv = .int v) (k : GolF p e below Fe Qf kc ks T m pc' Ls (.int v :: rest)) : GolF p e below Fe Qf kc ks T m pc Ls (.int j :: .ref a :: rest) := by
  subst hp
  obtain ⟨cl, Ar, -, S, -, Hs, -⟩ := A
  have hin := inb_of S hj
  exact Gol.step (fun _ k => X.caload hx (by rw [eT]; exact Ar.1) (State.isArrayOf_alike hZ.alike Ar.2.1) Ar.2.2 hin (Has.at Hs hin hv) (g := mkF m pc Ls (.int j :: .ref a :: rest)) rfl rfl (hb hby hd) _ k) k
theorem Gol.laload (X : Stand p l e R s m args below meth c T locs cells slots) (hx : p.tables.exec = Jvm.exec) (hby : c.code = code) (hZ : Z.Warmed39 s.vm) (eT : T.heap = h) {a : Addr} {ka : ClassId} {z j : Int32} {vs : List Value} {dv : Value} {v : Int64} (A : Arv Z h a ka .long z vs dv) (hd : decode code pc = .ok (.laload, 1)) (hp : pc + 1 = pc') (hj : ¬ j < 0 ∧ j < z) (hv : vs.getD j.toNatClampNeg dv = .long v) (k : GolF p e below Fe Qf kc ks T m pc' Ls (.long v :: rest)) : GolF p e below Fe Qf kc ks T m pc Ls (.int j :: .ref a :: rest) := by
  subst hp
  obtain ⟨cl, Ar, -, S, -, Hs, -⟩ := A
  have hin := inb_of S hj
  exact Gol.step (fun _ k => X.laload hx (by rw [eT]; exact Ar.1) (State.isArrayOf_alike hZ.alike Ar.2.1) Ar.2.2 hin (Has.at Hs hin hv) (g := mkF m pc Ls (.int j :: .ref a :: rest)) rfl rfl (hb hby hd) _ k) k
theorem Gol.aaload (X : Stand p l e R s m args below meth c T locs cells slots) (hx : p.tables.exec = Jvm.exec) (hby : c.code = code) (hZ : Z.Warmed39 s.vm) (eT : T.heap = h) {a : Addr} {ka : ClassId} {ty : FieldType} {z j : Int32} {vs : List Value} {dv v : Value} (A : Arv Z h a ka ty z vs dv) (hd : decode code pc = .ok (.aaload, 1)) (hp : pc + 1 = pc') (ht : ty.isReference = true) (hj : ¬ j < 0 ∧ j < z) (hv : vs.getD j.toNatClampNeg dv = v) (k : GolF p e below Fe Qf kc ks T m pc' Ls (v :: rest)) : GolF p e below Fe Qf kc ks T m pc Ls (.int j :: .ref a :: rest) := by
  subst hp
  obtain ⟨cl, Ar, -, S, -, Hs, -⟩ := A
  have hin := inb_of S hj
  exact Gol.step (fun _ k => X.aaload hx (by rw [eT]; exact Ar.1) (State.isArrayOf_alike hZ.alike Ar.2.1) ht Ar.2.2 hin (Has.at Hs hin hv) (g := mkF m pc Ls (.int j :: .ref a :: rest)) rfl rfl (hb hby hd) _ k) k
theorem Gol.alen (X : Stand p l e R s m args below meth c T locs cells slots) (hx : p.tables.exec = Jvm.exec) (hby : c.code = code) (hZ : Z.Warmed39 s.vm) (eT : T.heap = h) {a : Addr} {ka : ClassId} {ty : FieldType} {z : Int32} {vs : List Value} {dv : Value} (A : Arv Z h a ka ty z vs dv) (hd : decode code pc = .ok (.arraylength, 1)) (hp : pc + 1 = pc') (k : GolF p e below Fe Qf kc ks T m pc' Ls (.int z :: rest)) : GolF p e below Fe Qf kc ks T m pc Ls (.ref a :: rest) := by
  subst hp
  obtain ⟨cl, Ar, -, S, M, -, -⟩ := A
  rw [← len_of S M] at k
  exact Gol.step (fun _ k => X.arraylength hx (by rw [eT]; exact Ar.1) (State.isArrayOf_alike hZ.alike Ar.2.1) (g := mkF m pc Ls (.ref a :: rest)) rfl rfl (hb hby hd) _ k) k
theorem Gol.iastore (X : Stand p l e R s m args below meth c T locs cells slots) (hx : p.tables.exec = Jvm.exec) (hby : c.code = code) (hZ : Z.Warmed39 s.vm) (eT : T.heap = h) {a : Addr} {ka : ClassId} {z j : Int32} {x : Int32} {vs : List Value} {dv : Value} (A : Arv Z h a ka .int z vs dv) (hd : decode code pc = .ok (.iastore, 1)) (hp : pc + 1 = pc') (hj : ¬ j < 0 ∧ j < z) (i : Nat) (hi : j.toNatClampNeg = i) (hl : i < vs.length)
    (k : ∀ (T' : State) (h' : Heap), Stand p l e R s m args below meth c T' (locs ++ [⟨a, j.toNatClampNeg⟩]) cells slots → T'.heap = h' → Wr h h' a j.toNatClampNeg (.int x) → Arv Z h' a ka .int z (vs.set i (.int x)) dv → GolF p e below Fe Qf kc ks T' m pc' Ls rest) : GolF p e below Fe Qf kc ks T m pc Ls (.int x :: .int j :: .ref a :: rest) := by
  subst hp
  obtain ⟨cl, Ar, q, S, M, Hs, G⟩ := A
  have hin := inb_of S hj
  obtain ⟨T', h', X', e', W, st⟩ := stI X hx hZ eT Ar (j := j) hin (g := mkF m pc Ls (.int x :: .int j :: .ref a :: rest)) rfl rfl (hb hby hd)
  exact Gol.step st (k T' h' X' e' W (Arv.set Ar q S M Hs G rfl W i hi hl))
theorem Gol.lastore (X : Stand p l e R s m args below meth c T locs cells slots) (hx : p.tables.exec = Jvm.exec) (hby : c.code = code) (hZ : Z.Warmed39 s.vm) (eT : T.heap = h) {a : Addr} {ka : ClassId} {z j : Int32} {x : Int64} {vs : List Value} {dv : Value} (A : Arv Z h a ka .long z vs dv) (hd : decode code pc = .ok (.lastore, 1)) (hp : pc + 1 = pc') (hj : ¬ j < 0 ∧ j < z) (i : Nat) (hi : j.toNatClampNeg = i) (hl : i < vs.length)
    (k : ∀ (T' : State) (h' : Heap), Stand p l e R s m args below meth c T' (locs ++ [⟨a, j.toNatClampNeg⟩]) cells slots → T'.heap = h' → Wr h h' a j.toNatClampNeg (.long x) → Arv Z h' a ka .long z (vs.set i (.long x)) dv → GolF p e below Fe Qf kc ks T' m pc' Ls rest) : GolF p e below Fe Qf kc ks T m pc Ls (.long x :: .int j :: .ref a :: rest) := by
  subst hp
  obtain ⟨cl, Ar, q, S, M, Hs, G⟩ := A
  have hin := inb_of S hj
  obtain ⟨T', h', X', e', W, st⟩ := stJ X hx hZ eT Ar (j := j) hin (g := mkF m pc Ls (.long x :: .int j :: .ref a :: rest)) rfl rfl (hb hby hd)
  exact Gol.step st (k T' h' X' e' W (Arv.set Ar q S M Hs G rfl W i hi hl))
theorem Gol.bastore (X : Stand p l e R s m args below meth c T locs cells slots) (hx : p.tables.exec = Jvm.exec) (hby : c.code = code) (hZ : Z.Warmed39 s.vm) (eT : T.heap = h) {a : Addr} {ka : ClassId} {z j : Int32} {x : Int32} {vs : List Value} {dv : Value} (A : Arv Z h a ka .byte z vs dv) (hd : decode code pc = .ok (.bastore, 1)) (hp : pc + 1 = pc') (hj : ¬ j < 0 ∧ j < z) (i : Nat) (hi : j.toNatClampNeg = i) (hl : i < vs.length)
    (k : ∀ (T' : State) (h' : Heap), Stand p l e R s m args below meth c T' (locs ++ [⟨a, j.toNatClampNeg⟩]) cells slots → T'.heap = h' → Wr h h' a j.toNatClampNeg (.int (nar .byte x)) → Arv Z h' a ka .byte z (vs.set i (.int (nar .byte x))) dv → GolF p e below Fe Qf kc ks T' m pc' Ls rest) : GolF p e below Fe Qf kc ks T m pc Ls (.int x :: .int j :: .ref a :: rest) := by
  subst hp
  obtain ⟨cl, Ar, q, S, M, Hs, G⟩ := A
  have hin := inb_of S hj
  obtain ⟨T', h', X', e', W, st⟩ := stB X hx hZ eT Ar (j := j) hin (g := mkF m pc Ls (.int x :: .int j :: .ref a :: rest)) rfl rfl (hb hby hd)
  exact Gol.step st (k T' h' X' e' W (Arv.set Ar q S M Hs G (fits_nar_byte _) W i hi hl))
theorem Gol.castore (X : Stand p l e R s m args below meth c T locs cells slots) (hx : p.tables.exec = Jvm.exec) (hby : c.code = code) (hZ : Z.Warmed39 s.vm) (eT : T.heap = h) {a : Addr} {ka : ClassId} {z j : Int32} {x : Int32} {vs : List Value} {dv : Value} (A : Arv Z h a ka .char z vs dv) (hd : decode code pc = .ok (.castore, 1)) (hp : pc + 1 = pc') (hj : ¬ j < 0 ∧ j < z) (i : Nat) (hi : j.toNatClampNeg = i) (hl : i < vs.length)
    (k : ∀ (T' : State) (h' : Heap), Stand p l e R s m args below meth c T' (locs ++ [⟨a, j.toNatClampNeg⟩]) cells slots → T'.heap = h' → Wr h h' a j.toNatClampNeg (.int (nar .char x)) → Arv Z h' a ka .char z (vs.set i (.int (nar .char x))) dv → GolF p e below Fe Qf kc ks T' m pc' Ls rest) : GolF p e below Fe Qf kc ks T m pc Ls (.int x :: .int j :: .ref a :: rest) := by
  subst hp
  obtain ⟨cl, Ar, q, S, M, Hs, G⟩ := A
  have hin := inb_of S hj
  obtain ⟨T', h', X', e', W, st⟩ := stC X hx hZ eT Ar (j := j) hin (g := mkF m pc Ls (.int x :: .int j :: .ref a :: rest)) rfl rfl (hb hby hd)
  exact Gol.step st (k T' h' X' e' W (Arv.set Ar q S M Hs G (fits_nar_char _) W i hi hl))
theorem Gol.aastore (X : Stand p l e R s m args below meth c T locs cells slots) (hx : p.tables.exec = Jvm.exec) (hby : c.code = code) (hZ : Z.Warmed39 s.vm) (eT : T.heap = h) {a : Addr} {ka : ClassId} {z j : Int32} {x : Value} {ty : FieldType} {vs : List Value} {dv : Value} (A : Arv Z h a ka ty z vs dv) (hd : decode code pc = .ok (.aastore, 1)) (hp : pc + 1 = pc') (hj : ¬ j < 0 ∧ j < z) (i : Nat) (hi : j.toNatClampNeg = i) (hl : i < vs.length) (ht : ty.isReference = true) (hf : fits ty x = true) (so : ∀ cl : Cell, Arr Z h a cl ty → cl.cls = ka → Sto Z h a x)
    (k : ∀ (T' : State) (h' : Heap), Stand p l e R s m args below meth c T' (locs ++ [⟨a, j.toNatClampNeg⟩]) cells slots → T'.heap = h' → Wr h h' a j.toNatClampNeg x → Arv Z h' a ka ty z (vs.set i x) dv → GolF p e below Fe Qf kc ks T' m pc' Ls rest) : GolF p e below Fe Qf kc ks T m pc Ls (x :: .int j :: .ref a :: rest) := by
  subst hp
  obtain ⟨cl, Ar, q, S, M, Hs, G⟩ := A
  have hin := inb_of S hj
  obtain ⟨T', h', X', e', W, st⟩ := stR X hx hZ eT Ar (j := j) hin ht (so cl Ar q) (g := mkF m pc Ls (x :: .int j :: .ref a :: rest)) rfl rfl (hb hby hd)
  exact Gol.step st (k T' h' X' e' W (Arv.set Ar q S M Hs G hf W i hi hl))
theorem Gol.newarr (X : Stand p l e R s m args below meth c T locs cells slots) (hx : p.tables.exec = Jvm.exec) (hby : c.code = code) (hZ : Z.Warmed39 s.vm) {aty : ArrayType} (w : (Cond.arrayClass (newarray.typeOf aty)).before a0 Z = true) (eT : T.heap = h) {n : Int32} (cap : Nat) (hd : decode code pc = .ok (.newarray aty, 2)) (hp : pc + 2 = pc') (hn : ¬ n < 0) (hcap : n.toNatClampNeg ≤ cap) (hb8 : cap * 8 ≤ 536870912) (hc : cells + 1 ≤ R.cells) (hl : slots + cap ≤ R.slots)
    (k : ∀ (T' : State) (h' : Heap) (ka : ClassId) (b : Addr), b = h.size → Stand p l e R s m args below meth c T' locs (cells + 1) (slots + cap) → T'.heap = h' → Ext h h' → Arv Z h' b ka (newarray.typeOf aty) n [] (defaultValue (newarray.typeOf aty)) → GolF p e below Fe Qf kc ks T' m pc' Ls (.ref b :: rest)) : GolF p e below Fe Qf kc ks T m pc Ls (.int n :: rest) := by
  subst hp
  obtain ⟨T', h', ka, X', e', E, A, st⟩ := newP X hx hZ w eT (g := mkF m pc Ls (.int n :: rest)) rfl (hb hby hd) rfl hn (cap := cap) hcap hb8 hc hl
  exact Gol.step st (k T' h' ka _ rfl X' e' E (Arv.new A hn))
theorem Gol.newref (X : Stand p l e R s m args below meth c T locs cells slots) (hx : p.tables.exec = Jvm.exec) (hby : c.code = code) (hZ : Z.Warmed39 s.vm) {own : String} (hown : s.vm.findClass own = some m.cls) {C : String} {index : Nat} (w1 : (Cond.classLink own index C).before a0 Z = true) (w2 : (Cond.arrayOver (.object C)).before a0 Z = true) (eT : T.heap = h) {n : Int32} (cap : Nat) (hd : decode code pc = .ok (.anewarray index, 3)) (hp : pc + 3 = pc') (hn : ¬ n < 0) (hcap : n.toNatClampNeg ≤ cap) (hb8 : cap * 8 ≤ 536870912) (hc : cells + 1 ≤ R.cells) (hl : slots + cap ≤ R.slots)
    (k : ∀ (T' : State) (h' : Heap) (ka : ClassId) (b : Addr), b = h.size → Stand p l e R s m args below meth c T' locs (cells + 1) (slots + cap) → T'.heap = h' → Ext h h' → Arv Z h' b ka (.object C) n [] .null → Ovr Z ka C → GolF p e below Fe Qf kc ks T' m pc' Ls (.ref b :: rest)) : GolF p e below Fe Qf kc ks T m pc Ls (.int n :: rest) := by
  subst hp
  obtain ⟨T', h', ka, X', e', E, A, O, st⟩ := newR X hx hZ hown w1 w2 eT (g := mkF m pc Ls (.int n :: rest)) rfl (hb hby hd) rfl hn (cap := cap) hcap hb8 hc hl
  exact Gol.step st (k T' h' ka _ rfl X' e' E (Arv.new A hn) O)
theorem Gol.getF (X : Stand p l e R s m args below meth c T locs cells slots) (hx : p.tables.exec = Jvm.exec) (hby : c.code = code) (hZ : Z.Warmed39 s.vm) {own : String} (hown : s.vm.findClass own = some m.cls) {R0 O n d host : String} {index : Nat} (w : (Cond.fieldLink own index R0 n d).before a0 Z = true ∨ (Cond.fieldLinkNest own index R0 n d host).before a0 Z = true) (via : Via Z R0 O n d) (eT : T.heap = h) {a : Addr} {v : Value} (F : Fld Z h a O n d v) (hd : decode code pc = .ok (.getfield index, 3)) (hp : pc + 3 = pc')
    (k : ∀ T' : State, Stand p l e R s m args below meth c T' locs cells slots → T'.heap = h → GolF p e below Fe Qf kc ks T' m pc' Ls (v :: rest)) : GolF p e below Fe Qf kc ks T m pc Ls (.ref a :: rest) := by
  subst hp
  obtain ⟨T', X', e', st⟩ := getF X hx hZ hown (host := host) w via eT F (g := mkF m pc Ls (.ref a :: rest)) rfl rfl (hb hby hd)
  exact Gol.step st (k T' X' e')
theorem Gol.getS (X : Stand p l e R s m args below meth c T locs cells slots) (hx : p.tables.exec = Jvm.exec) (hby : c.code = code) (hZ : Z.Warmed39 s.vm) {own : String} (hown : s.vm.findClass own = some m.cls) {R0 O n d host : String} {index : Nat} (w : (Cond.fieldLink own index R0 n d).before a0 Z = true ∨ (Cond.fieldLinkNest own index R0 n d host).before a0 Z = true) (via : Via Z R0 O n d) (eT : T.heap = h) {v : Value} (F : Sta Z h O n d v) (hd : decode code pc = .ok (.getstatic index, 3)) (hp : pc + 3 = pc')
    (k : ∀ T' : State, Stand p l e R s m args below meth c T' locs cells slots → T'.heap = h → GolF p e below Fe Qf kc ks T' m pc' Ls (v :: rest)) : GolF p e below Fe Qf kc ks T m pc Ls rest := by
  subst hp
  obtain ⟨T', X', e', st⟩ := getS2 X hx hZ hown (host := host) w via eT F (g := mkF m pc Ls rest) rfl (hb hby hd)
  exact Gol.step st (k T' X' e')
theorem Gol.putF (X : Stand p l e R s m args below meth c T locs cells slots) (hx : p.tables.exec = Jvm.exec) (hby : c.code = code) (hZ : Z.Warmed39 s.vm) {own : String} (hown : s.vm.findClass own = some m.cls) {R0 O n d host : String} {index : Nat} (w : (Cond.fieldLink own index R0 n d).before a0 Z = true ∨ (Cond.fieldLinkNest own index R0 n d host).before a0 Z = true) (via : Via Z R0 O n d) (eT : T.heap = h) {C : String} {kk : Nat} {ty : FieldType} {a : Addr} {v old : Value} (F : Fld Z h a O n d old) (E : Exa Z h a C) (L : (Cond.lays C O n d).before a0 Z = true ∨ ((Cond.laysFinal C O n d).before a0 Z = true ∧ own = O ∧ meth.name = "<init>")) (wi : (Cond.instantiable C kk).before a0 Z = true) (hty : parseFieldDescriptor d = some ty) (hn : narrow ty v = v) (hf : fits ty v = true) (hd : decode code pc = .ok (.putfield index, 3)) (hp : pc + 3 = pc')
    (k : ∀ (T' : State) (h' : Heap), Stand p l e R s m args below meth c T' (locs ++ [⟨a, slotOf Z O n d⟩]) cells slots → T'.heap = h' → Wr h h' a (slotOf Z O n d) v → GolF p e below Fe Qf kc ks T' m pc' Ls rest) : GolF p e below Fe Qf kc ks T m pc Ls (v :: .ref a :: rest) := by
  subst hp
  obtain ⟨T', h', X', e', W, st⟩ := putF X hx hZ hown (host := host) w via eT F E L wi hty hn hf (g := mkF m pc Ls (v :: .ref a :: rest)) rfl rfl (hb hby hd)
  exact Gol.step st (k T' h' X' e' W)
theorem Gol.putFN (X : Stand p l e R s m args below meth c T locs cells slots) (hx : p.tables.exec = Jvm.exec) (hby : c.code = code) (hZ : Z.Warmed39 s.vm) {own : String} (hown : s.vm.findClass own = some m.cls) {R0 O n d : String} {index : Nat} (w : (Cond.fieldLink own index R0 n d).before a0 Z = true) (via : Via Z R0 O n d) (eT : T.heap = h) {C : String} {kk : Nat} {ty : FieldType} {a : Addr} {v v' old : Value} (F : Fld Z h a O n d old) (E : Exa Z h a C) (L : (Cond.lays C O n d).before a0 Z = true ∨ ((Cond.laysFinal C O n d).before a0 Z = true ∧ own = O ∧ meth.name = "<init>")) (wi : (Cond.instantiable C kk).before a0 Z = true) (hty : parseFieldDescriptor d = some ty) (hn : narrow ty v = v') (hf : fits ty v' = true) (hd : decode code pc = .ok (.putfield index, 3)) (hp : pc + 3 = pc')
    (k : ∀ (T' : State) (h' : Heap), Stand p l e R s m args below meth c T' (locs ++ [⟨a, slotOf Z O n d⟩]) cells slots → T'.heap = h' → Wr h h' a (slotOf Z O n d) v' → GolF p e below Fe Qf kc ks T' m pc' Ls rest) : GolF p e below Fe Qf kc ks T m pc Ls (v :: .ref a :: rest) := by
  subst hp
  obtain ⟨T', h', X', e', W, st⟩ := putFN X hx hZ hown w via eT F E L wi hty hn hf (g := mkF m pc Ls (v :: .ref a :: rest)) rfl rfl (hb hby hd)
  exact Gol.step st (k T' h' X' e' W)
theorem Gol.newO (X : Stand p l e R s m args below meth c T locs cells slots) (hx : p.tables.exec = Jvm.exec) (hby : c.code = code) (hZ : Z.Warmed39 s.vm) {own : String} (hown : s.vm.findClass own = some m.cls) {C : String} {index n : Nat} (w : (Cond.classLink own index C).before a0 Z = true) (wi : (Cond.instantiable C n).before a0 Z = true) (wz : (Cond.initialized C).before a0 Z = true) (eT : T.heap = h) (hd : decode code pc = .ok (.new index, 3)) (hp : pc + 3 = pc') (hc : cells + 1 ≤ R.cells) (hl : slots + n ≤ R.slots)
    (k : ∀ (T' : State) (h' : Heap) (b : Addr), b = h.size → Stand p l e R s m args below meth c T' locs (cells + 1) (slots + n) → T'.heap = h' → Ext h h' → Exa Z h' b C → (∀ {O nm d : String} {ty : FieldType}, Laid Z a0 C O nm d → parseFieldDescriptor d = some ty → Fld Z h' b O nm d (defaultValue ty)) → GolF p e below Fe Qf kc ks T' m pc' Ls (.ref b :: rest)) : GolF p e below Fe Qf kc ks T m pc Ls rest := by
  subst hp
  obtain ⟨T', h', X', e', E, A, D, -, st⟩ := newO X hx hZ hown w wi wz eT (g := mkF m pc Ls rest) rfl (hb hby hd) hc hl
  exact Gol.step st (k T' h' _ rfl X' e' E A D)
theorem Gol.initO (X : Stand p l e R s m args below meth c T locs cells slots) (hx : p.tables.exec = Jvm.exec) (hby : c.code = code) (hZ : Z.Warmed39 s.vm) {own : String} (hown : s.vm.findClass own = some m.cls) {index : Nat} (w1 : (Cond.methodLink own index Lib.objectInit).before a0 Z = true) (w2 : (Cond.instanceMethod Lib.objectInit).before a0 Z = true) (w3 : (Cond.code Lib.objectInit ⟨#[0xb1]⟩ 1 none).before a0 Z = true) (eT : T.heap = h) (W : Nat) {a : Addr} (hd : decode code pc = .ok (.invokespecial index, 3)) (hp : pc + 3 = pc') (hsz : Ls.size = c.maxLocals) (hf : 1 ≤ R.frames) (hW : (rest.map fun v => v.category).sum ≤ W) (hl : W + 12 ≤ R.locals)
    (k : ∀ T' : State, Stand p l e R s m args below meth c T' locs cells slots → T'.heap = h → GolF p e below Fe Qf kc ks T' m pc' Ls rest) : GolF p e below Fe Qf kc ks T m pc Ls (.ref a :: rest) := by
  subst hp
  obtain ⟨T', X', e', st⟩ := initO X hx hZ hown w1 w2 w3 eT (g := mkF m pc Ls (.ref a :: rest)) rfl hsz rfl (hb hby hd) hf (W := W) (by show 2 * 0 + _ ≤ _; rw [Nat.mul_zero, Nat.zero_add]; exact hW) hl
  exact Gol.step st (k T' X' e')
theorem Gol.castY (X : Stand p l e R s m args below meth c T locs cells slots) (hx : p.tables.exec = Jvm.exec) (hby : c.code = code) (hZ : Z.Warmed39 s.vm) {own : String} (hown : s.vm.findClass own = some m.cls) {K : String} {index : Nat} (w : (Cond.classLink own index K).before a0 Z = true) (eT : T.heap = h) {a : Addr} (F : Ins Z h a K true) (hd : decode code pc = .ok (.checkcast index, 3)) (hp : pc + 3 = pc')
    (k : ∀ T' : State, Stand p l e R s m args below meth c T' locs cells slots → T'.heap = h → GolF p e below Fe Qf kc ks T' m pc' Ls (.ref a :: rest)) : GolF p e below Fe Qf kc ks T m pc Ls (.ref a :: rest) := by
  subst hp
  obtain ⟨T', X', e', st⟩ := castY X hx hZ hown w eT F (g := mkF m pc Ls (.ref a :: rest)) rfl rfl (hb hby hd)
  exact Gol.step st (k T' X' e')
theorem Gol.instY (X : Stand p l e R s m args below meth c T locs cells slots) (hx : p.tables.exec = Jvm.exec) (hby : c.code = code) (hZ : Z.Warmed39 s.vm) {own : String} (hown : s.vm.findClass own = some m.cls) {K : String} {index : Nat} (w : (Cond.classLink own index K).before a0 Z = true) (eT : T.heap = h) {a : Addr} (F : Ins Z h a K true) (hd : decode code pc = .ok (.instanceof index, 3)) (hp : pc + 3 = pc')
    (k : ∀ T' : State, Stand p l e R s m args below meth c T' locs cells slots → T'.heap = h → GolF p e below Fe Qf kc ks T' m pc' Ls (.int 1 :: rest)) : GolF p e below Fe Qf kc ks T m pc Ls (.ref a :: rest) := by
  subst hp
  obtain ⟨T', X', e', st⟩ := instY X hx hZ hown w eT F (g := mkF m pc Ls (.ref a :: rest)) rfl rfl (hb hby hd)
  exact Gol.step st (k T' X' e')
theorem Gol.callS (X : Stand p l e R s m args below meth c T locs cells slots) (hx : p.tables.exec = Jvm.exec) (hby : c.code = code) (hZ : Z.Warmed39 s.vm) {own : String} (hown : s.vm.findClass own = some m.cls) {index : Nat} {y : MethodName} {bytes : ByteArray} {maxL : Nat} {ret : Option FieldType} {rm : Room} {Q : Option Value → Heap → List Loc → Prop} (W : Nat) (argsL : List Value) (wl : (Cond.methodLink own index y).before a0 Z = true) (ws : (Cond.static y).before a0 Z = true) (wz : (Cond.initialized y.cls).before a0 Z = true) (wc : (Cond.code y bytes maxL ret).before a0 Z = true) (hy : y.cls ≠ "java/lang/invoke/MethodHandle" ∧ y.cls ≠ "java/lang/invoke/VarHandle") (hM : MetFree l y (head1 [Cond.code y bytes maxL ret] rm) (fun aa U => aa = argsL.toArray ∧ Z.Warmed39 U.vm ∧ U.heap = h) (fun _ _ _ _ _ => True) (fun _ U o U' => ∃ v L, o = .returned v ∧ Q v U'.heap L ∧ FrameEnd U o U' L rm.cells rm.slots)) (hf : rm.frames + 1 ≤ R.frames) (hl : W + (maxL + 11) + rm.locals ≤ R.locals) (eT : T.heap = h) {st : List Value} (hsz : Ls.size = c.maxLocals) (hW : (rest.map fun v => v.category).sum ≤ W) (hc : cells + rm.cells ≤ R.cells) (hs : slots + rm.slots ≤ R.slots) (hlen : ∀ sig, parseMethodDescriptor y.desc = some sig → argsL.length = sig.parameters.length) (hst : st = argsL.reverse ++ rest) (hd : decode code pc = .ok (.invokestatic index, 3)) (hp : pc + 3 = pc')
    (k : ∀ (T' : State) (v : Option Value) (L : List Loc), Stand p l e R s m args below meth c T' (locs ++ L) (cells + rm.cells) (slots + rm.slots) → Q v T'.heap L → GolF p e below Fe Qf kc ks T' m pc' Ls (v.toList ++ rest)) : GolF p e below Fe Qf kc ks T m pc Ls st := by
  subst hp
  obtain ⟨v, _, ⟨T', L1, k1, n1⟩, -, X', ⟨Lc, hQ, l1, y1, z1⟩, st1⟩ := Jvm.LawKit.callS X hx hown (mvT hZ wl) (mvT hZ ws) (mvT hZ wz) (mvT hZ wc) hy (backOf (W := W) hM hZ wc wz hf hl) (g := mkF m pc Ls st) rfl hsz hlen hst (by show 2 * 0 + _ ≤ _; rw [Nat.mul_zero, Nat.zero_add]; exact hW) (hb hby hd) (fun _ _ => ⟨rfl, eT, hc, hs⟩)
  dsimp only [Pt.U, Pt.locs, Pt.cells, Pt.slots] at X' l1 y1 z1 st1 hQ
  subst l1 y1 z1
  exact Gol.step st1 (k T' v Lc X' hQ)
theorem Gol.callI (X : Stand p l e R s m args below meth c T locs cells slots) (hx : p.tables.exec = Jvm.exec) (hby : c.code = code) (hZ : Z.Warmed39 s.vm) {own : String} (hown : s.vm.findClass own = some m.cls) {index : Nat} {y : MethodName} {bytes : ByteArray} {maxL : Nat} {ret : Option FieldType} {rm : Room} {Q : Option Value → Heap → List Loc → Prop} (W : Nat) (argsL : List Value) {a : Addr} (wl : (Cond.methodLink own index y).before a0 Z = true) (wi : (Cond.instanceMethod y).before a0 Z = true) (wz : (Cond.initialized y.cls).before a0 Z = true) (hrt : ret = none) (wc : (Cond.code y bytes maxL ret).before a0 Z = true) (hn : y.name = "<init>") (hy : y.cls ≠ "java/lang/invoke/MethodHandle" ∧ y.cls ≠ "java/lang/invoke/VarHandle") (hM : MetFree l y (head1 [Cond.code y bytes maxL ret] rm) (fun aa U => aa = (.ref a :: argsL).toArray ∧ Z.Warmed39 U.vm ∧ U.heap = h) (fun _ _ _ _ _ => True) (fun _ U o U' => ∃ v L, o = .returned v ∧ Q v U'.heap L ∧ FrameEnd U o U' L rm.cells rm.slots)) (hf : rm.frames + 1 ≤ R.frames) (hl : W + (maxL + 11) + rm.locals ≤ R.locals) (eT : T.heap = h) {st : List Value} (hsz : Ls.size = c.maxLocals) (hW : (rest.map fun v => v.category).sum ≤ W) (hc : cells + rm.cells ≤ R.cells) (hs : slots + rm.slots ≤ R.slots) (hlen : ∀ sig, parseMethodDescriptor y.desc = some sig → argsL.length = sig.parameters.length) (hst : st = argsL.reverse ++ .ref a :: rest) (hd : decode code pc = .ok (.invokespecial index, 3)) (hp : pc + 3 = pc')
    (k : ∀ (T' : State) (v : Option Value) (L : List Loc), Stand p l e R s m args below meth c T' (locs ++ L) (cells + rm.cells) (slots + rm.slots) → Q v T'.heap L → GolF p e below Fe Qf kc ks T' m pc' Ls (v.toList ++ rest)) : GolF p e below Fe Qf kc ks T m pc Ls st := by
  subst hp hrt
  obtain ⟨v, _, ⟨T', L1, k1, n1⟩, -, X', ⟨Lc, hQ, l1, y1, z1⟩, st1⟩ := X.specialBack hx hn hown (mvT hZ wl) (mvT hZ wi) (mvT hZ wc) hy (backOf (W := W) hM hZ wc wz hf hl) (g := mkF m pc Ls st) rfl hsz (Steps.refl _) (a := a) hlen hst (by show 2 * 0 + _ ≤ _; rw [Nat.mul_zero, Nat.zero_add]; exact hW) (hb hby hd) (fun _ _ => ⟨rfl, eT, hc, hs⟩)
  dsimp only [Pt.U, Pt.locs, Pt.cells, Pt.slots] at X' l1 y1 z1 st1 hQ
  subst l1 y1 z1
  exact Gol.step (fun _ k => st1.trans k) (k T' v Lc X' hQ)
theorem Gol.callV (X : Stand p l e R s m args below meth c T locs cells slots) (hx : p.tables.exec = Jvm.exec) (hby : c.code = code) (hZ : Z.Warmed39 s.vm) {own : String} (hown : s.vm.findClass own = some m.cls) {index : Nat} {y z : MethodName} {C : String} {bytes : ByteArray} {maxL : Nat} {ret : Option FieldType} {rm : Room} {Q : Option Value → Heap → List Loc → Prop} (W : Nat) (argsL : List Value) {a : Addr} (wl : (Cond.methodLink own index y).before a0 Z = true) (wd : (Cond.declares y).before a0 Z = true) (nf : NotFace s y) (wse : (Cond.selects C y z).before a0 Z = true) (wi : (Cond.instanceMethod z).before a0 Z = true) (wz : (Cond.initialized z.cls).before a0 Z = true) (wc : (Cond.code z bytes maxL ret).before a0 Z = true) (hy : y.cls ≠ "java/lang/invoke/MethodHandle" ∧ y.cls ≠ "java/lang/invoke/VarHandle") (E : Exa Z h a C) (hM : MetFree l z (head1 [Cond.code z bytes maxL ret] rm) (fun aa U => aa = (.ref a :: argsL).toArray ∧ Z.Warmed39 U.vm ∧ U.heap = h) (fun _ _ _ _ _ => True) (fun _ U o U' => ∃ v L, o = .returned v ∧ Q v U'.heap L ∧ FrameEnd U o U' L rm.cells rm.slots)) (hf : rm.frames + 1 ≤ R.frames) (hl : W + (maxL + 11) + rm.locals ≤ R.locals) (eT : T.heap = h) {st : List Value} (hsz : Ls.size = c.maxLocals) (hW : (rest.map fun v => v.category).sum ≤ W) (hc : cells + rm.cells ≤ R.cells) (hs : slots + rm.slots ≤ R.slots) (hlen : ∀ sig, parseMethodDescriptor y.desc = some sig → argsL.length = sig.parameters.length) (hst : st = argsL.reverse ++ .ref a :: rest) (hd : decode code pc = .ok (.invokevirtual index, 3)) (hp : pc + 3 = pc')
    (k : ∀ (T' : State) (v : Option Value) (L : List Loc), Stand p l e R s m args below meth c T' (locs ++ L) (cells + rm.cells) (slots + rm.slots) → Q v T'.heap L → GolF p e below Fe Qf kc ks T' m pc' Ls (v.toList ++ rest)) : GolF p e below Fe Qf kc ks T m pc Ls st := by
  subst hp
  obtain ⟨cq, kq, qa, qb, qc⟩ := isOf hZ eT E
  obtain ⟨v, _, ⟨T', L1, k1, n1⟩, -, X', ⟨Lc, hQ, l1, y1, z1⟩, st1⟩ := X.virtualBack hx hown (mvT hZ wl) (mvT hZ wd) nf (mvT hZ wse) (mvT hZ wi) hy (backOf (W := W) hM hZ wc wz hf hl) qa qc (g := mkF m pc Ls st) rfl hsz (Steps.refl _) hlen hst (by show 2 * 0 + _ ≤ _; rw [Nat.mul_zero, Nat.zero_add]; exact hW) (hb hby hd) (fun _ _ => ⟨rfl, eT, hc, hs⟩)
  dsimp only [Pt.U, Pt.locs, Pt.cells, Pt.slots] at X' l1 y1 z1 st1 hQ
  subst l1 y1 z1
  exact Gol.step (fun _ k => st1.trans k) (k T' v Lc X' hQ)
theorem Gol.callF (X : Stand p l e R s m args below meth c T locs cells slots) (hx : p.tables.exec = Jvm.exec) (hby : c.code = code) (hZ : Z.Warmed39 s.vm) {own : String} (hown : s.vm.findClass own = some m.cls) {index count : Nat} {y z : MethodName} {C : String} {bytes : ByteArray} {maxL : Nat} {ret : Option FieldType} {rm : Room} {Q : Option Value → Heap → List Loc → Prop} (W : Nat) (argsL : List Value) {a : Addr} (wl : (Cond.methodLink own index y).before a0 Z = true) (wd : (Cond.declares y).before a0 Z = true) (wf : (Cond.interfaceMethod y.cls y.cls y.name y.desc).before args s = true) (wse : (Cond.selects C y z).before a0 Z = true) (wi : (Cond.instanceMethod z).before a0 Z = true) (wp : (Cond.publicMethod z).before a0 Z = true) (wu : (Cond.unhidden C y.name y.desc).before a0 Z = true) (wt : (Cond.castable C y.cls).before a0 Z = true) (wz : (Cond.initialized z.cls).before a0 Z = true) (wc : (Cond.code z bytes maxL ret).before a0 Z = true) (hy : y.cls ≠ "java/lang/invoke/MethodHandle" ∧ y.cls ≠ "java/lang/invoke/VarHandle") (E : Exa Z h a C) (hM : MetFree l z (head1 [Cond.code z bytes maxL ret] rm) (fun aa U => aa = (.ref a :: argsL).toArray ∧ Z.Warmed39 U.vm ∧ U.heap = h) (fun _ _ _ _ _ => True) (fun _ U o U' => ∃ v L, o = .returned v ∧ Q v U'.heap L ∧ FrameEnd U o U' L rm.cells rm.slots)) (hf : rm.frames + 1 ≤ R.frames) (hl : W + (maxL + 11) + rm.locals ≤ R.locals) (eT : T.heap = h) {st : List Value} (hsz : Ls.size = c.maxLocals) (hW : (rest.map fun v => v.category).sum ≤ W) (hc : cells + rm.cells ≤ R.cells) (hs : slots + rm.slots ≤ R.slots) (hlen : ∀ sig, parseMethodDescriptor y.desc = some sig → argsL.length = sig.parameters.length) (hst : st = argsL.reverse ++ .ref a :: rest) (hd : decode code pc = .ok (.invokeinterface index count, 5)) (hp : pc + 5 = pc')
    (k : ∀ (T' : State) (v : Option Value) (L : List Loc), Stand p l e R s m args below meth c T' (locs ++ L) (cells + rm.cells) (slots + rm.slots) → Q v T'.heap L → GolF p e below Fe Qf kc ks T' m pc' Ls (v.toList ++ rest)) : GolF p e below Fe Qf kc ks T m pc Ls st := by
  subst hp
  obtain ⟨cq, kq, qa, qb, qc⟩ := isOf hZ eT E
  obtain ⟨v, _, ⟨T', L1, k1, n1⟩, -, X', ⟨Lc, hQ, l1, y1, z1⟩, st1⟩ := X.interfaceBack hx hown (mvT hZ wl) (mvT hZ wd) wf (mvT hZ wse) (mvT hZ wi) (mvT hZ wp) (mvT hZ wu) (mvT hZ wt) hy (backOf (W := W) hM hZ wc wz hf hl) qa qb qc (g := mkF m pc Ls st) rfl hsz (Steps.refl _) hlen hst (by show 2 * 0 + _ ≤ _; rw [Nat.mul_zero, Nat.zero_add]; exact hW) (hb hby hd) (fun _ _ => ⟨rfl, eT, hc, hs⟩)
  dsimp only [Pt.U, Pt.locs, Pt.cells, Pt.slots] at X' l1 y1 z1 st1 hQ
  subst l1 y1 z1
  exact Gol.step (fun _ k => st1.trans k) (k T' v Lc X' hQ)
theorem Gol.callP (X : Stand p l e R s m args below meth c T locs cells slots) (hx : p.tables.exec = Jvm.exec) (hby : c.code = code) (hZ : Z.Warmed39 s.vm) {own : String} (hown : s.vm.findClass own = some m.cls) {index : Nat} {y : MethodName} {C : String} {bytes : ByteArray} {maxL : Nat} {ret : Option FieldType} {rm : Room} {Q : Option Value → Heap → List Loc → Prop} (W : Nat) (argsL : List Value) {a : Addr} (wl : (Cond.methodLink own index y).before a0 Z = true) (wi : (Cond.instanceMethod y).before a0 Z = true) (wse : (Cond.selects y.cls y y).before a0 Z = true) (wp : (Cond.privateMethod y).before a0 Z = true) (wz : (Cond.initialized y.cls).before a0 Z = true) (wc : (Cond.code y bytes maxL ret).before a0 Z = true) (hy : y.cls ≠ "java/lang/invoke/MethodHandle" ∧ y.cls ≠ "java/lang/invoke/VarHandle") (E : Exa Z h a C) (hM : MetFree l y (head1 [Cond.code y bytes maxL ret] rm) (fun aa U => aa = (.ref a :: argsL).toArray ∧ Z.Warmed39 U.vm ∧ U.heap = h) (fun _ _ _ _ _ => True) (fun _ U o U' => ∃ v L, o = .returned v ∧ Q v U'.heap L ∧ FrameEnd U o U' L rm.cells rm.slots)) (hf : rm.frames + 1 ≤ R.frames) (hl : W + (maxL + 11) + rm.locals ≤ R.locals) (eT : T.heap = h) {st : List Value} (hsz : Ls.size = c.maxLocals) (hW : (rest.map fun v => v.category).sum ≤ W) (hc : cells + rm.cells ≤ R.cells) (hs : slots + rm.slots ≤ R.slots) (hlen : ∀ sig, parseMethodDescriptor y.desc = some sig → argsL.length = sig.parameters.length) (hst : st = argsL.reverse ++ .ref a :: rest) (hd : decode code pc = .ok (.invokevirtual index, 3)) (hp : pc + 3 = pc')
    (k : ∀ (T' : State) (v : Option Value) (L : List Loc), Stand p l e R s m args below meth c T' (locs ++ L) (cells + rm.cells) (slots + rm.slots) → Q v T'.heap L → GolF p e below Fe Qf kc ks T' m pc' Ls (v.toList ++ rest)) : GolF p e below Fe Qf kc ks T m pc Ls st := by
  subst hp
  obtain ⟨cq, qa, qb⟩ := E.cell
  obtain ⟨v, _, ⟨T', L1, k1, n1⟩, -, X', ⟨Lc, hQ, l1, y1, z1⟩, st1⟩ := X.privateBack hx hown (mvT hZ wl) (mvT hZ wi) (mvT hZ wse) (Cond.privateMethod_at (mvP hZ wp (args := #[]))) (mvT hZ wc) hy (backOf (W := W) hM hZ wc wz hf hl) (g := mkF m pc Ls st) rfl hsz (Steps.refl _) (a := a) (by rw [eT]; exact qa) qb hlen hst (by show 2 * 0 + _ ≤ _; rw [Nat.mul_zero, Nat.zero_add]; exact hW) (hb hby hd) (fun _ _ => ⟨rfl, eT, hc, hs⟩)
  dsimp only [Pt.U, Pt.locs, Pt.cells, Pt.slots] at X' l1 y1 z1 st1 hQ
  subst l1 y1 z1
  exact Gol.step (fun _ k => st1.trans k) (k T' v Lc X' hQ)
theorem Gol.callB (X : Stand p l e R s m args below meth c T locs cells slots) (hx : p.tables.exec = Jvm.exec) (hby : c.code = code) (hZ : Z.Warmed39 s.vm) {own : String} (hown : s.vm.findClass own = some m.cls) {index : Nat} {y : MethodName} {bytes : ByteArray} {maxL : Nat} {Q : Option Value → Heap → List Loc → Prop} (W : Nat) (argsL : List Value) {a : Addr} {ck cn : Nat} (wl : (Cond.methodLink own index y).before a0 Z = true) (wi : (Cond.instanceMethod y).before a0 Z = true) (wc : (Cond.code y bytes maxL none).before a0 Z = true) (hn : y.name = "<init>") (hy : y.cls ≠ "java/lang/invoke/MethodHandle" ∧ y.cls ≠ "java/lang/invoke/VarHandle")
    (hK : Back l R p e below s args y 3 W (fun A aa => aa = (.ref a :: argsL).toArray ∧ A.U.heap = h ∧ A.cells + ck ≤ R.cells ∧ A.slots + cn ≤ R.slots) (fun A _ v B => ∃ L, Q v B.U.heap L ∧ B.locs = A.locs ++ L ∧ B.cells = A.cells + ck ∧ B.slots = A.slots + cn)) (eT : T.heap = h) {st : List Value} (hsz : Ls.size = c.maxLocals) (hW : (rest.map fun v => v.category).sum ≤ W) (hc : cells + ck ≤ R.cells) (hs : slots + cn ≤ R.slots) (hlen : ∀ sig, parseMethodDescriptor y.desc = some sig → argsL.length = sig.parameters.length) (hst : st = argsL.reverse ++ .ref a :: rest) (hd : decode code pc = .ok (.invokespecial index, 3)) (hp : pc + 3 = pc')
    (k : ∀ (T' : State) (v : Option Value) (L : List Loc), Stand p l e R s m args below meth c T' (locs ++ L) (cells + ck) (slots + cn) → Q v T'.heap L → GolF p e below Fe Qf kc ks T' m pc' Ls (v.toList ++ rest)) : GolF p e below Fe Qf kc ks T m pc Ls st := by
  subst hp
  obtain ⟨v, _, ⟨T', L1, k1, n1⟩, -, X', ⟨Lc, hQ, l1, y1, z1⟩, st1⟩ := X.specialBack hx hn hown (mvT hZ wl) (mvT hZ wi) (mvT hZ wc) hy hK (g := mkF m pc Ls st) rfl hsz (Steps.refl _) (a := a) hlen hst (by show 2 * 0 + _ ≤ _; rw [Nat.mul_zero, Nat.zero_add]; exact hW) (hb hby hd) (fun _ _ => ⟨rfl, eT, hc, hs⟩)
  dsimp only [Pt.U, Pt.locs, Pt.cells, Pt.slots] at X' l1 y1 z1 st1 hQ
  subst l1 y1 z1
  exact Gol.step (fun _ k => st1.trans k) (k T' v Lc X' hQ)
theorem Gol.retN (X : Stand p l e R s m args below meth c T locs cells slots) (hx : p.tables.exec = Jvm.exec) (hby : c.code = code) {z : Int32} {t : FieldType} (hret : meth.sig.returnType = some t) (ht : t = .boolean ∨ t = .byte ∨ t = .char ∨ t = .short) (hlk : meth.locks = false) (hd : decode code pc = .ok (.ireturn, 1)) (eT : T.heap = h) (hq : Qf (some (.int (nar t z))) h locs) (hc : cells ≤ kc) (hs : slots ≤ ks) : GolF p e below (FrameEnd s) Qf kc ks T m pc Ls (.int z :: rest) :=
  Gol.fin X (fun h => by rw [hret] at h; cases h) hlk eT hq hc hs fun fs hr => Jvm.RoadKit.retN X hx hret ht (hb hby hd) hr
theorem Gol.retI (X : Stand p l e R s m args below meth c T locs cells slots) (hx : p.tables.exec = Jvm.exec) (hby : c.code = code) {z : Int32} (hret : meth.sig.returnType = some .int) (hlk : meth.locks = false) (hd : decode code pc = .ok (.ireturn, 1)) (eT : T.heap = h) (hq : Qf (some (.int z)) h locs) (hc : cells ≤ kc) (hs : slots ≤ ks) : GolF p e below (FrameEnd s) Qf kc ks T m pc Ls (.int z :: rest) :=
  Gol.fin X (fun h => by rw [hret] at h; cases h) hlk eT hq hc hs fun fs hr => Jvm.RoadKit.retOut X hx hret rfl (Or.inl ⟨rfl, Or.inl rfl, _, rfl⟩) (hb hby hd) hr
theorem Gol.retL (X : Stand p l e R s m args below meth c T locs cells slots) (hx : p.tables.exec = Jvm.exec) (hby : c.code = code) {z : Int64} (hret : meth.sig.returnType = some .long) (hlk : meth.locks = false) (hd : decode code pc = .ok (.lreturn, 1)) (eT : T.heap = h) (hq : Qf (some (.long z)) h locs) (hc : cells ≤ kc) (hs : slots ≤ ks) : GolF p e below (FrameEnd s) Qf kc ks T m pc Ls (.long z :: rest) :=
  Gol.fin X (fun h => by rw [hret] at h; cases h) hlk eT hq hc hs fun fs hr => Jvm.RoadKit.retOut X hx hret rfl (Or.inr (Or.inl ⟨rfl, rfl, _, rfl⟩)) (hb hby hd) hr
theorem Gol.retA (X : Stand p l e R s m args below meth c T locs cells slots) (hx : p.tables.exec = Jvm.exec) (hby : c.code = code) {w : Value} {t : FieldType} (hret : meth.sig.returnType = some t) (ht : t.isReference = true) (hw : w.isRef = true) (hlk : meth.locks = false) (hd : decode code pc = .ok (.areturn, 1)) (eT : T.heap = h) (hq : Qf (some w) h locs) (hc : cells ≤ kc) (hs : slots ≤ ks) : GolF p e below (FrameEnd s) Qf kc ks T m pc Ls (w :: rest) :=
  Gol.fin X (fun h => by rw [hret] at h; cases h) hlk eT hq hc hs fun fs hr => Jvm.RoadKit.retOut X hx hret (by rcases ref_cases hw with rfl | ⟨a, rfl⟩ <;> cases t <;> first | rfl | (simp [FieldType.isReference] at ht)) (Or.inr (Or.inr (Or.inr (Or.inr ⟨rfl, ht, hw⟩)))) (hb hby hd) hr
theorem Gol.ret0 (X : Stand p l e R s m args below meth c T locs cells slots) (hx : p.tables.exec = Jvm.exec) (hby : c.code = code) (hret : meth.sig.returnType = none) (hlk : meth.locks = false) (hd : decode code pc = .ok (.return_, 1)) (eT : T.heap = h) (hq : Qf none h locs) (hc : cells ≤ kc) (hs : slots ≤ ks) : GolF p e below (FrameEnd s) Qf kc ks T m pc Ls [] :=
  Gol.fin X (fun _ => rfl) hlk eT hq hc hs fun fs hr => X.returnOut hx hret (hb hby hd) hr
theorem Gol.retNW {vm₁ : Vm} (X : Stand p l e R (s.setVm vm₁) m args below meth c T locs cells slots) (hx : p.tables.exec = Jvm.exec) (hby : c.code = code) {n : Nat} (hS : s.Since vm₁ n) (hn : n ≤ h.size) {z : Int32} {t : FieldType} (hret : meth.sig.returnType = some t) (ht : t = .boolean ∨ t = .byte ∨ t = .char ∨ t = .short) (hlk : meth.locks = false) (hd : decode code pc = .ok (.ireturn, 1)) (eT : T.heap = h) (hq : Qf (some (.int (nar t z))) h locs) (hc : cells ≤ kc) (hs : slots ≤ ks) : GolF p e below (ReturnedEndW s) Qf kc ks T m pc Ls (.int z :: rest) :=
  Gol.finW X hS (eT ▸ hn) (fun h => by rw [hret] at h; cases h) hlk eT hq hc hs fun fs hr => Jvm.RoadKit.retN X hx hret ht (hb hby hd) hr
theorem Gol.ldcStr {vm₁ : Vm} (X : Stand p l e R (s.setVm vm₁) m args below meth c T locs cells slots) (hx : p.tables.exec = Jvm.exec) (hby : c.code = code) {own text : String} {index : Nat} (hZ : Z.Warmed39 vm₁) (hown : vm₁.findClass own = some m.cls) (w : (Cond.stringLink own index text).before a0 Z = true) (wS : ∀ a ∈ Bundle.stringAtoms, a.before a0 Z = true) (eT : T.heap = h) {k0 : Nat} (hS : s.Since vm₁ k0) (hk : k0 ≤ h.size) (n : Nat) (hd : decode code pc = .ok (.ldc index, 2)) (hp : pc + 2 = pc') (hn : 4 * text.toList.length ≤ n) (hbig : n ≤ 536870912) (hc : cells + 2 ≤ R.cells) (hl : slots + (n + 4) ≤ R.slots)
    (k : ∀ (a : Addr) (T' : State) (h' : Heap) (k1 : Nat), Stand p l e R (s.setVm T'.vm) m args below meth c T' locs (cells + 2) (slots + (n + 4)) → T'.heap = h' → Ext h h' → s.Since T'.vm k1 → k1 ≤ h'.size → Z.Warmed39 (s.setVm T'.vm).vm → (s.setVm T'.vm).vm.findClass own = some m.cls → GolF p e below Fe Qf kc ks T' m pc' Ls (.ref a :: rest)) : GolF p e below Fe Qf kc ks T m pc Ls rest := by
  subst hp
  obtain ⟨a, T', h', k1, X', e', E, S', K', Z', O', st⟩ := ldcS X hx hZ hown w wS eT hS hk (g := mkF m pc Ls rest) rfl (hb hby hd) (n := n) hn hbig hc hl
  exact Gol.step st (k a T' h' k1 X' e' E S' K' Z' O')
theorem nar_ite {P : Prop} [Decidable P] {a b : Int32} (ha : nar .boolean a = a) (hb : nar .boolean b = b) : nar .boolean (if P then a else b) = (if P then a else b) := by
  split <;> assumption
theorem tltL {x y : Int64} (h : x < y) : ifCond.holds .lt (XT.cmpL x y) = true ∧ ifCond.holds .ge (XT.cmpL x y) = false := by
  have h1 : ¬ y < x := fun q => Int64.lt_irrefl (Int64.lt_trans h q)
  have h2 : ¬ x = y := fun q => Int64.lt_irrefl (q ▸ h)
  simp [XT.cmpL, h1, h2, ifCond.holds]
theorem fltL {x y : Int64} (h : ¬ x < y) : ifCond.holds .lt (XT.cmpL x y) = false ∧ ifCond.holds .ge (XT.cmpL x y) = true := by
  by_cases h1 : y < x
  · simp [XT.cmpL, h1, ifCond.holds]
  · have h2 : x = y := Int64.le_antisymm (Int64.not_lt.mp h1) (Int64.not_lt.mp h)
    simp [XT.cmpL, h2, ifCond.holds, Int64.lt_irrefl]
theorem tgtL {x y : Int64} (h : y < x) : ifCond.holds .gt (XT.cmpL x y) = true ∧ ifCond.holds .le (XT.cmpL x y) = false := by
  simp [XT.cmpL, h, ifCond.holds]
theorem fgtL {x y : Int64} (h : ¬ y < x) : ifCond.holds .gt (XT.cmpL x y) = false ∧ ifCond.holds .le (XT.cmpL x y) = true := by
  by_cases h2 : x = y <;> simp [XT.cmpL, h, h2, ifCond.holds, Int64.lt_irrefl]
theorem teqL {x y : Int64} (h : x = y) : ifCond.holds .eq (XT.cmpL x y) = true ∧ ifCond.holds .ne (XT.cmpL x y) = false := by
  subst h; simp [XT.cmpL, Int64.lt_irrefl, ifCond.holds]
theorem feqL {x y : Int64} (h : ¬ x = y) : ifCond.holds .eq (XT.cmpL x y) = false ∧ ifCond.holds .ne (XT.cmpL x y) = true := by
  by_cases h1 : y < x <;> simp [XT.cmpL, h, h1, ifCond.holds]
end Own
end Jvm.RoadKit
namespace Jvm.Pilot.@@N@@
open Jvm Jvm.ClassFile Sem Op Lib Jvm.Free Jvm.Stand Jvm.LawKit Jvm.RoadKit Bundle Jvm.Pilot.@@N@@.Jvm.D
abbrev own_bad (num : Int64) (c : Int32) : Prop := (c - (48 : Int32)) < (0 : Int32) ∨ (9 : Int32) < (c - (48 : Int32)) ∨ (((9223372036854775807 : Int64) - (c - (48 : Int32)).toInt64) / (10 : Int64)) < num
def own_nxt (num : Int64) (c : Int32) : Int64 := (num * (10 : Int64)) + (c - (48 : Int32)).toInt64
def own_loop (bs : List Int32) : Nat → Nat → Int64 → Int64
  | 0, _, num => num
  | k + 1, i, num => if own_bad num (bs.getD i 0) then -1 else own_loop bs k (i + 1) (own_nxt num (bs.getD i 0))
def own_dec (bs : List Int32) (fr to : Nat) : Int64 :=
  if fr = to then -1 else if 1 < to - fr ∧ bs.getD fr 0 = 48 then -1 else own_loop bs (to - fr) fr 0

theorem own_nbad {num : Int64} {c : Int32} (hn : 0 ≤ num.toInt) (h : ¬ own_bad num c) : ∃ d : Int, 0 ≤ d ∧ d ≤ 9 ∧ (c - 48).toInt = d ∧ c.toInt = d + 48 ∧ num.toInt ≤ (9223372036854775807 - d) / 10 ∧ (own_nxt num c).toInt = num.toInt * 10 + d := by
  unfold own_bad at h
  rw [not_or, not_or] at h
  obtain ⟨h1, h2, h3⟩ := h
  rw [Int32.lt_iff_toInt_lt, show (0 : Int32).toInt = 0 from rfl] at h1
  rw [Int32.lt_iff_toInt_lt, show (9 : Int32).toInt = 9 from rfl] at h2
  have e : (c - 48).toInt64.toInt = (c - 48).toInt := Int32.toInt_toInt64 _
  have em : ((9223372036854775807 : Int64) - (c - 48).toInt64).toInt = 9223372036854775807 - (c - 48).toInt := by
    rw [Int64.toInt_sub, e, show (9223372036854775807 : Int64).toInt = 9223372036854775807 from rfl]
    rw [Int.bmod_eq_of_le] <;> omega
  have ed : (((9223372036854775807 : Int64) - (c - 48).toInt64) / (10 : Int64)).toInt = (9223372036854775807 - (c - 48).toInt) / 10 := by
    rw [Int64.toInt_div, em, show (10 : Int64).toInt = 10 from rfl, Int.tdiv_eq_ediv_of_nonneg (by omega)]
    rw [Int.bmod_eq_of_le] <;> omega
  rw [Int64.lt_iff_toInt_lt, ed] at h3
  have hc : c.toInt = (c - 48).toInt + 48 := by
    have h := Int32.toInt_sub c 48
    rw [show (48 : Int32).toInt = 48 from rfl] at h
    have l := Int32.toInt_lt c; have g := Int32.le_toInt c
    have := Int.bmod_def (c.toInt - 48) (2 ^ 32)
    omega
  refine ⟨(c - 48).toInt, by omega, by omega, rfl, hc, by omega, ?_⟩
  unfold own_nxt
  have e1 : (num * 10).toInt = num.toInt * 10 := by
    rw [Int64.toInt_mul, show (10 : Int64).toInt = 10 from rfl]
    rw [Int.bmod_eq_of_le] <;> omega
  rw [Int64.toInt_add, e1, e]
  rw [Int.bmod_eq_of_le] <;> omega
theorem own_dig {c : Int32} : ((c - 48) < (0 : Int32) ∨ (9 : Int32) < (c - 48)) ↔ (c < 48 ∨ 57 < c) := by
  rw [Int32.lt_iff_toInt_lt, Int32.lt_iff_toInt_lt, Int32.lt_iff_toInt_lt, Int32.lt_iff_toInt_lt]
  have h := Int32.toInt_sub c 48
  rw [show (48 : Int32).toInt = 48 from rfl] at h
  have l := Int32.toInt_lt c; have g := Int32.le_toInt c
  have := Int.bmod_def (c.toInt - 48) (2 ^ 32)
  rw [show (48 : Int32).toInt = 48 from rfl, show (0 : Int32).toInt = 0 from rfl, show (9 : Int32).toInt = 9 from rfl, show (57 : Int32).toInt = 57 from rfl]
  omega
theorem own_m1 : (-1 : Int64).toInt = -1 := rfl
theorem own_snoc (bs : List Int32) : ∀ (k i : Nat) (num : Int64), 0 ≤ num.toInt →
    (own_loop bs k i num = -1 ∧ own_loop bs (k + 1) i num = -1) ∨ (num.toInt ≤ (own_loop bs k i num).toInt ∧ own_loop bs (k + 1) i num = if own_bad (own_loop bs k i num) (bs.getD (i + k) 0) then -1 else own_nxt (own_loop bs k i num) (bs.getD (i + k) 0)) := by
  intro k
  induction k with
  | zero => intro i num h; exact Or.inr ⟨Int.le_refl _, rfl⟩
  | succ k ih =>
    intro i num h
    by_cases hb : own_bad num (bs.getD i 0)
    · refine Or.inl ⟨?_, ?_⟩
      · show (if _ then _ else _) = _
        rw [if_pos hb]
      · show (if _ then _ else _) = _
        rw [if_pos hb]
    · obtain ⟨d, d1, d2, d3, d4, d5, d6⟩ := own_nbad h hb
      have e1 : own_loop bs (k + 1) i num = own_loop bs k (i + 1) (own_nxt num (bs.getD i 0)) := by
        show (if _ then _ else _) = _
        rw [if_neg hb]
      have e2 : own_loop bs (k + 1 + 1) i num = own_loop bs (k + 1) (i + 1) (own_nxt num (bs.getD i 0)) := by
        show (if _ then _ else _) = _
        rw [if_neg hb]
      rw [e1, e2, show i + (k + 1) = i + 1 + k by omega]
      rcases ih (i + 1) (own_nxt num (bs.getD i 0)) (by omega) with q | ⟨q1, q2⟩
      · exact Or.inl q
      · exact Or.inr ⟨by omega, q2⟩
/-- one place: the number is the digit -/
theorem own_one1 (bs : List Int32) (fr : Nat) : own_dec bs fr fr = -1 ∧ own_dec bs fr (fr + 1) = if own_bad 0 (bs.getD fr 0) then -1 else own_nxt 0 (bs.getD fr 0) := by
  refine ⟨by unfold own_dec; rw [if_pos rfl], ?_⟩
  unfold own_dec
  rw [if_neg (by omega), if_neg (by omega), show fr + 1 - fr = 1 by omega]
  rfl
/-- more places -/
theorem own_more (bs : List Int32) (fr to : Nat) (h : fr < to) : (own_dec bs fr (to + 1) = -1 ∧ (own_dec bs fr to = -1 ∨ own_dec bs fr to = 0)) ∨
    (0 < (own_dec bs fr to).toInt ∧ own_dec bs fr (to + 1) = if own_bad (own_dec bs fr to) (bs.getD to 0) then -1 else own_nxt (own_dec bs fr to) (bs.getD to 0)) := by
  by_cases h48 : bs.getD fr 0 = 48
  · left
    refine ⟨by unfold own_dec; rw [if_neg (by omega), if_pos ⟨by omega, h48⟩], ?_⟩
    by_cases h1 : 1 < to - fr
    · left; unfold own_dec; rw [if_neg (by omega), if_pos ⟨h1, h48⟩]
    · right
      unfold own_dec
      rw [if_neg (by omega), if_neg (fun q => h1 q.1), show to - fr = 1 by omega]
      show (if own_bad 0 (bs.getD fr 0) then -1 else own_nxt 0 (bs.getD fr 0)) = 0
      rw [h48]; decide
  · have ep : own_dec bs fr to = own_loop bs (to - fr) fr 0 := by unfold own_dec; rw [if_neg (by omega), if_neg (fun q => h48 q.2)]
    have eq : own_dec bs fr (to + 1) = own_loop bs (to - fr + 1) fr 0 := by unfold own_dec; rw [if_neg (by omega), if_neg (fun q => h48 q.2), show to + 1 - fr = to - fr + 1 by omega]
    rw [ep, eq]
    obtain ⟨k, hk⟩ : ∃ k, to - fr = k + 1 := ⟨to - fr - 1, by omega⟩
    rcases own_snoc bs (to - fr) fr 0 (by decide) with ⟨q1, q2⟩ | ⟨q1, q2⟩
    · exact Or.inl ⟨q2, Or.inl q1⟩
    · rw [show fr + (to - fr) = to by omega] at q2
      rw [hk] at q1 q2 ⊢
      by_cases hb : own_bad 0 (bs.getD fr 0)
      · exfalso
        have : own_loop bs (k + 1) fr 0 = -1 := by
          show (if _ then _ else _) = _
          rw [if_pos hb]
        rw [this, own_m1, show (0 : Int64).toInt = 0 from rfl] at q1
        omega
      · obtain ⟨d, d1, d2, d3, d4, d5, d6⟩ := own_nbad (by decide) hb
        have hd : d ≠ 0 := fun q => h48 (Int32.toInt_inj.mp (by rw [d4, q]; rfl))
        rw [show (0 : Int64).toInt = 0 from rfl] at d6
        have e1 : own_loop bs (k + 1) fr 0 = own_loop bs k (fr + 1) (own_nxt 0 (bs.getD fr 0)) := by
          show (if _ then _ else _) = _
          rw [if_neg hb]
        refine Or.inr ⟨?_, q2⟩
        rw [e1] at q1 ⊢
        rcases own_snoc bs k (fr + 1) (own_nxt 0 (bs.getD fr 0)) (by omega) with ⟨z1, -⟩ | ⟨z1, -⟩
        · exfalso
          rw [z1, own_m1, show (0 : Int64).toInt = 0 from rfl] at q1
          omega
        · omega
theorem own_badd {p : Int64} {c : Int32} (h1 : ¬ c < 48) (h2 : ¬ 57 < c) : own_bad p c ↔ ((922337203685477580 : Int64) < p ∨ (p = 922337203685477580 ∧ (7 : Int32) < (c - 48))) := by
  have hd : ¬ ((c - 48) < (0 : Int32) ∨ (9 : Int32) < (c - 48)) := fun q => (own_dig.mp q).elim h1 h2
  rw [not_or] at hd
  obtain ⟨g1, g2⟩ := hd
  unfold own_bad
  rw [Int32.lt_iff_toInt_lt, show (0 : Int32).toInt = 0 from rfl] at g1
  rw [Int32.lt_iff_toInt_lt, show (9 : Int32).toInt = 9 from rfl] at g2
  have e : (c - 48).toInt64.toInt = (c - 48).toInt := Int32.toInt_toInt64 _
  have em : ((9223372036854775807 : Int64) - (c - 48).toInt64).toInt = 9223372036854775807 - (c - 48).toInt := by
    rw [Int64.toInt_sub, e, show (9223372036854775807 : Int64).toInt = 9223372036854775807 from rfl]
    rw [Int.bmod_eq_of_le] <;> omega
  have ed : (((9223372036854775807 : Int64) - (c - 48).toInt64) / (10 : Int64)).toInt = (9223372036854775807 - (c - 48).toInt) / 10 := by
    rw [Int64.toInt_div, em, show (10 : Int64).toInt = 10 from rfl, Int.tdiv_eq_ediv_of_nonneg (by omega)]
    rw [Int.bmod_eq_of_le] <;> omega
  rw [Int64.lt_iff_toInt_lt, Int64.lt_iff_toInt_lt, ed, ← Int64.toInt_inj, Int32.lt_iff_toInt_lt, Int32.lt_iff_toInt_lt, Int32.lt_iff_toInt_lt, show (0 : Int32).toInt = 0 from rfl, show (9 : Int32).toInt = 9 from rfl, show (7 : Int32).toInt = 7 from rfl, show (922337203685477580 : Int64).toInt = 922337203685477580 from rfl]
  omega

theorem own_n32 {n : Nat} (hn : n ≤ 100) : (Int32.ofNat n).toNatClampNeg = n := by
  rw [Int32.toNatClampNeg, Int32.toInt_ofNat_of_lt (by omega)]; rfl
theorem own_int {n : Nat} (hn : n ≤ 100) : (Int32.ofNat n).toInt = n := Int32.toInt_ofNat_of_lt (by omega)
theorem own_one (i : Nat) : Int32.ofNat i + (1 : Int32) = Int32.ofNat (i + 1) := (Int32.ofNat_add i 1).symm
theorem own_lt {i n : Nat} (h : i < n) (hn : n ≤ 100) : Int32.ofNat i < Int32.ofNat n := by
  rw [Int32.lt_iff_toInt_lt, own_int (by omega), own_int hn]; omega
theorem own_in {i : Nat} (h : i < 21) : ¬ Int32.ofNat i < 0 ∧ Int32.ofNat i < 21 := by
  rw [Int32.lt_iff_toInt_lt, Int32.lt_iff_toInt_lt, own_int (by omega), show (0 : Int32).toInt = 0 from rfl, show (21 : Int32).toInt = 21 from rfl]; omega
theorem own_inj {i j : Nat} (hi : i ≤ 100) (hj : j ≤ 100) (h : Int32.ofNat i = Int32.ofNat j) : i = j := by
  have := congrArg Int32.toInt h
  rw [own_int hi, own_int hj] at this; omega
theorem own_at (bs : List Int32) {i : Nat} (h : i ≤ 100) : (bs.map Value.int).getD (Int32.ofNat i).toNatClampNeg (.int (0 : Int32)) = .int (bs.getD i 0) := by
  rw [own_n32 h, List.getD_eq_getElem?_getD, List.getElem?_map, List.getD_eq_getElem?_getD]
  cases bs[i]? <;> rfl
theorem own_sub {a b : Nat} (h : b ≤ a) (ha : a ≤ 100) : Int32.ofNat a - Int32.ofNat b = Int32.ofNat (a - b) := by
  apply Int32.toInt_inj.mp
  rw [Int32.toInt_sub, own_int ha, own_int (by omega), own_int (by omega), Int.bmod_eq_of_le] <;> omega
theorem own_add (a b : Nat) : Int32.ofNat a + Int32.ofNat b = Int32.ofNat (a + b) := (Int32.ofNat_add a b).symm
theorem own_mask (x : Int32) : 0 ≤ (x &&& (2147483647 : Int32)).toInt := by
  have h : (x &&& 2147483647).toBitVec.toNat ≤ 2147483647 := by
    rw [Int32.toBitVec_and, BitVec.toNat_and]; exact Nat.and_le_right
  have e : (x &&& 2147483647).toInt = ((x &&& 2147483647).toBitVec.toNat : Int) := by
    show (x &&& 2147483647).toBitVec.toInt = _
    rw [BitVec.toInt_eq_toNat_of_lt (by omega)]
  omega
theorem own_rem (x : Int32) (m : Nat) (h0 : 0 < m) (hm : m ≤ 100) : ∃ n : Nat, n < m ∧ ((x &&& (2147483647 : Int32)) % Int32.ofNat m) = Int32.ofNat n := by
  have h := own_mask x
  generalize (x &&& (2147483647 : Int32)) = y at h
  have e : (y % Int32.ofNat m).toInt = y.toInt % (m : Int) := by rw [Int32.toInt_mod, own_int hm, Int.tmod_eq_emod_of_nonneg h]
  have h1 : 0 ≤ y.toInt % (m : Int) := Int.emod_nonneg _ (by omega)
  have h2 : y.toInt % (m : Int) < m := Int.emod_lt_of_pos _ (by omega)
  refine ⟨(y.toInt % (m : Int)).toNat, by omega, Int32.toInt_inj.mp ?_⟩
  rw [e, own_int (by omega)]; omega
theorem own_rem21 (x : Int32) : ∃ n : Nat, n < 21 ∧ ((x &&& (2147483647 : Int32)) % (21 : Int32)) = Int32.ofNat n := own_rem x 21 (by decide) (by decide)
theorem own_ne0 {m : Nat} (h : 0 < m) (hm : m ≤ 100) : Int32.ofNat m ≠ 0 := fun q => by
  have := congrArg Int32.toInt q
  rw [own_int hm, show (0 : Int32).toInt = 0 from rfl] at this; omega
theorem own_mset (bs : List Int32) (i : Nat) (x : Int32) : (bs.map Value.int).set i (.int x) = (bs.set i x).map Value.int := by
  rw [List.map_set]
theorem own_tl {n : Nat} (hn : n ≤ 100) (h : (1 : Int32) < Int32.ofNat n) : 1 < n := by
  rw [Int32.lt_iff_toInt_lt, own_int hn, show (1 : Int32).toInt = 1 from rfl] at h; omega
theorem d1_0 : decode method_2_code 0 = .ok (.bipush 48, 2) := by decide +kernel
theorem d1_2 : decode method_2_code 2 = .ok (.lload_n 0, 1) := by decide +kernel
theorem d1_3 : decode method_2_code 3 = .ok (.iconst 4, 1) := by decide +kernel
theorem d1_4 : decode method_2_code 4 = .ok (.iload_n 2, 1) := by decide +kernel
theorem d1_5 : decode method_2_code 5 = .ok (.imul, 1) := by decide +kernel
theorem d1_6 : decode method_2_code 6 = .ok (.lushr, 1) := by decide +kernel
theorem d1_7 : decode method_2_code 7 = .ok (.ldc2_w 7, 3) := by decide +kernel
theorem d1_10 : decode method_2_code 10 = .ok (.land, 1) := by decide +kernel
theorem d1_11 : decode method_2_code 11 = .ok (.l2i, 1) := by decide +kernel
theorem d1_12 : decode method_2_code 12 = .ok (.bipush 10, 2) := by decide +kernel
theorem d1_14 : decode method_2_code 14 = .ok (.irem, 1) := by decide +kernel
theorem d1_15 : decode method_2_code 15 = .ok (.iadd, 1) := by decide +kernel
theorem d1_16 : decode method_2_code 16 = .ok (.i2b, 1) := by decide +kernel
theorem d1_17 : decode method_2_code 17 = .ok (.ireturn, 1) := by decide +kernel
theorem pd_0 : parseMethodDescriptor "(JI)B" = some ⟨[.long, .int], some .byte⟩ := by decide +kernel
theorem pd_1 : parseMethodDescriptor "([BII)J" = some ⟨[(.array .byte), .int, .int], some .long⟩ := by decide +kernel
theorem pn_1 : plainName "com/example/quorumstone/quorumstone/client/CheckedLineDecimalPinLaw" = true := by first | (simp [plainName, overriddenIn]; done) | decide +kernel
theorem ef_1 (m : MethodId) (q0 : Int64) (p1 : Int32) : entryFrame m #[(.long q0), (.int p1)] 3 = mkF m 0 #[.val (.long q0), .second, .val (.int p1)] [] := by first | (simp [entryFrame, mkF, argsToLocals, Value.category]; done) | rfl
def f1 (q0 : Int64) (p1 : Int32) : Int32 :=
  (nar .byte (((48 : Int32) + ((((XT.ushrL q0 ((4 : Int32) * p1)) &&& (15 : Int64)).toInt32) % (10 : Int32))).toInt8.toInt32))
abbrev Q1 (Z : State) (q0 : Int64) (p1 : Int32) (h0 : Heap) (n0 : Nat) (v : Option Value) (h : Heap) (L : List Loc) : Prop := v = some (.int (f1 q0 p1)) ∧ Fr n0 L ∧ h = h0
set_option maxRecDepth 65536 in
set_option maxHeartbeats 40000000 in
theorem rm1 (l : Launch) (Z : State) (a0 : Array Value) (hw : ∀ d ∈ tables_1, d.before a0 Z = true) (ws : List Jvm.Cond) (q0 : Int64) (p1 : Int32) (h0 : Heap) (n0 : Nat) (Z0 : n0 ≤ h0.size) :
    MetFree l (⟨"com/example/quorumstone/quorumstone/client/CheckedLineDecimalPinLaw", "dig", "(JI)B"⟩ : MethodName) (head1 (Jvm.Cond.code (⟨"com/example/quorumstone/quorumstone/client/CheckedLineDecimalPinLaw", "dig", "(JI)B"⟩ : MethodName) method_2_code 3 (some .byte) :: ws) ({ frames := 0, cells := 0, slots := 0, locals := 0 } : Room)) (fun a U => a = #[(.long q0), (.int p1)] ∧ Z.Warmed39 U.vm ∧ U.heap = h0) (fun _ _ _ _ _ => True) (fun _ U o U' => ∃ v L, o = .returned v ∧ Q1 Z q0 p1 h0 n0 v U'.heap L ∧ FrameEnd U o U' L 0 0) := by
  refine MetFree.of_bodySF (plainFor_of_name pn_1) hisR ?_
  intro p ev s m args below meth c s₁ Bd hml0 hP hK
  obtain ⟨rfl, hZ, hh⟩ := hP
  have hx := Bd.exec
  have hby := Bd.bytes
  have hml : c.maxLocals = 3 := hml0
  have hown : s.vm.findClass "com/example/quorumstone/quorumstone/client/CheckedLineDecimalPinLaw" = some m.cls := findClass_of_methodNamed Bd.named
  have hnm := (name_of_methodNamed Bd.named Bd.method).1
  have X0 : Stand p l ev ({ frames := 0, cells := 0, slots := 0, locals := 0 } : Room) s m #[(.long q0), (.int p1)] below meth c s₁ [] 0 0 := Stand.of_body Bd
  have eh0 : s₁.heap = h0 := by rw [← hh, Bd.state]; rfl
  have N0 := Fr.nil n0
  have Zs := Z0
  show Gol p ev below (FrameEnd s) (Q1 Z q0 p1 h0 n0) 0 0 (s₁.setTop (entryFrame m #[(.long q0), (.int p1)] 3))
  rw [ef_1]
  show GolF _ _ _ _ _ _ _ s₁ m 0 #[.val (.long q0), .second, .val (.int p1)] []
  refine Gol.bipush X0 hx hby d1_0 (pc' := 2) rfl (z := (48 : Int32)) rfl ?_
  refine Gol.lloadN X0 hx hby d1_2 (pc' := 3) rfl rfl ?_
  refine Gol.iconst X0 hx hby d1_3 (pc' := 4) rfl (z := (4 : Int32)) rfl ?_
  refine Gol.iloadN X0 hx hby d1_4 (pc' := 5) rfl rfl ?_
  refine Gol.imul X0 hx hby d1_5 (pc' := 6) rfl rfl ?_
  refine Gol.lushr X0 hx hby d1_6 (pc' := 7) rfl rfl ?_
  refine Gol.ldc2Long X0 hx hby hZ hown d1_7 (pc' := 10) rfl (hw _ (List.mem_of_getElem? (i := 5) rfl)) ?_
  refine Gol.land X0 hx hby d1_10 (pc' := 11) rfl rfl ?_
  refine Gol.l2i X0 hx hby d1_11 (pc' := 12) rfl rfl ?_
  refine Gol.bipush X0 hx hby d1_12 (pc' := 14) rfl (z := (10 : Int32)) rfl ?_
  refine Gol.irem X0 hx hby d1_14 (pc' := 15) rfl (by decide) ?_
  refine Gol.iadd X0 hx hby d1_15 (pc' := 16) rfl rfl ?_
  refine Gol.i2b X0 hx hby d1_16 (pc' := 17) rfl rfl ?_
  have hv1 : f1 q0 p1 = (nar .byte (((48 : Int32) + ((((XT.ushrL q0 ((4 : Int32) * p1)) &&& (15 : Int64)).toInt32) % (10 : Int32))).toInt8.toInt32)) := by
    unfold f1
    rfl
  exact Gol.retN X0 hx hby (t := .byte) Bd.returns (by simp) Bd.notSynchronized d1_17 eh0 ⟨congrArg (fun z => some (Value.int z)) (hv1.symm), N0, rfl⟩ (by decide) (by decide)
theorem d2_0 : decode prog_23_method_4_code 0 = .ok (.iload_n 1, 1) := by decide +kernel
theorem d2_1 : decode prog_23_method_4_code 1 = .ok (.iload_n 2, 1) := by decide +kernel
theorem d2_2 : decode prog_23_method_4_code 2 = .ok (.if_icmp .eq 18, 3) := by decide +kernel
theorem d2_5 : decode prog_23_method_4_code 5 = .ok (.iload_n 2, 1) := by decide +kernel
theorem d2_6 : decode prog_23_method_4_code 6 = .ok (.iload_n 1, 1) := by decide +kernel
theorem d2_7 : decode prog_23_method_4_code 7 = .ok (.isub, 1) := by decide +kernel
theorem d2_8 : decode prog_23_method_4_code 8 = .ok (.iconst 1, 1) := by decide +kernel
theorem d2_9 : decode prog_23_method_4_code 9 = .ok (.if_icmp .le 15, 3) := by decide +kernel
theorem d2_12 : decode prog_23_method_4_code 12 = .ok (.aload_n 0, 1) := by decide +kernel
theorem d2_13 : decode prog_23_method_4_code 13 = .ok (.iload_n 1, 1) := by decide +kernel
theorem d2_14 : decode prog_23_method_4_code 14 = .ok (.baload, 1) := by decide +kernel
theorem d2_15 : decode prog_23_method_4_code 15 = .ok (.bipush 48, 2) := by decide +kernel
theorem d2_17 : decode prog_23_method_4_code 17 = .ok (.if_icmp .ne 7, 3) := by decide +kernel
theorem d2_20 : decode prog_23_method_4_code 20 = .ok (.ldc2_w 61, 3) := by decide +kernel
theorem d2_23 : decode prog_23_method_4_code 23 = .ok (.lreturn, 1) := by decide +kernel
theorem d2_24 : decode prog_23_method_4_code 24 = .ok (.lconst 0, 1) := by decide +kernel
theorem d2_25 : decode prog_23_method_4_code 25 = .ok (.lstore_n 3, 1) := by decide +kernel
theorem d2_26 : decode prog_23_method_4_code 26 = .ok (.iload_n 1, 1) := by decide +kernel
theorem d2_27 : decode prog_23_method_4_code 27 = .ok (.istore 5, 2) := by decide +kernel
theorem d2_29 : decode prog_23_method_4_code 29 = .ok (.iload 5, 2) := by decide +kernel
theorem d2_31 : decode prog_23_method_4_code 31 = .ok (.iload_n 2, 1) := by decide +kernel
theorem d2_32 : decode prog_23_method_4_code 32 = .ok (.if_icmp .ge 60, 3) := by decide +kernel
theorem d2_35 : decode prog_23_method_4_code 35 = .ok (.aload_n 0, 1) := by decide +kernel
theorem d2_36 : decode prog_23_method_4_code 36 = .ok (.iload 5, 2) := by decide +kernel
theorem d2_38 : decode prog_23_method_4_code 38 = .ok (.baload, 1) := by decide +kernel
theorem d2_39 : decode prog_23_method_4_code 39 = .ok (.bipush 48, 2) := by decide +kernel
theorem d2_41 : decode prog_23_method_4_code 41 = .ok (.isub, 1) := by decide +kernel
theorem d2_42 : decode prog_23_method_4_code 42 = .ok (.istore 6, 2) := by decide +kernel
theorem d2_44 : decode prog_23_method_4_code 44 = .ok (.iload 6, 2) := by decide +kernel
theorem d2_46 : decode prog_23_method_4_code 46 = .ok (.ifCond .lt 26, 3) := by decide +kernel
theorem d2_49 : decode prog_23_method_4_code 49 = .ok (.iload 6, 2) := by decide +kernel
theorem d2_51 : decode prog_23_method_4_code 51 = .ok (.bipush 9, 2) := by decide +kernel
theorem d2_53 : decode prog_23_method_4_code 53 = .ok (.if_icmp .gt 19, 3) := by decide +kernel
theorem d2_56 : decode prog_23_method_4_code 56 = .ok (.lload_n 3, 1) := by decide +kernel
theorem d2_57 : decode prog_23_method_4_code 57 = .ok (.ldc2_w 63, 3) := by decide +kernel
theorem d2_60 : decode prog_23_method_4_code 60 = .ok (.iload 6, 2) := by decide +kernel
theorem d2_62 : decode prog_23_method_4_code 62 = .ok (.i2l, 1) := by decide +kernel
theorem d2_63 : decode prog_23_method_4_code 63 = .ok (.lsub, 1) := by decide +kernel
theorem d2_64 : decode prog_23_method_4_code 64 = .ok (.ldc2_w 65, 3) := by decide +kernel
theorem d2_67 : decode prog_23_method_4_code 67 = .ok (.ldiv, 1) := by decide +kernel
theorem d2_68 : decode prog_23_method_4_code 68 = .ok (.lcmp, 1) := by decide +kernel
theorem d2_69 : decode prog_23_method_4_code 69 = .ok (.ifCond .le 7, 3) := by decide +kernel
theorem d2_72 : decode prog_23_method_4_code 72 = .ok (.ldc2_w 61, 3) := by decide +kernel
theorem d2_75 : decode prog_23_method_4_code 75 = .ok (.lreturn, 1) := by decide +kernel
theorem d2_76 : decode prog_23_method_4_code 76 = .ok (.lload_n 3, 1) := by decide +kernel
theorem d2_77 : decode prog_23_method_4_code 77 = .ok (.ldc2_w 65, 3) := by decide +kernel
theorem d2_80 : decode prog_23_method_4_code 80 = .ok (.lmul, 1) := by decide +kernel
theorem d2_81 : decode prog_23_method_4_code 81 = .ok (.iload 6, 2) := by decide +kernel
theorem d2_83 : decode prog_23_method_4_code 83 = .ok (.i2l, 1) := by decide +kernel
theorem d2_84 : decode prog_23_method_4_code 84 = .ok (.ladd, 1) := by decide +kernel
theorem d2_85 : decode prog_23_method_4_code 85 = .ok (.lstore_n 3, 1) := by decide +kernel
theorem d2_86 : decode prog_23_method_4_code 86 = .ok (.iinc 5 1, 3) := by decide +kernel
theorem d2_89 : decode prog_23_method_4_code 89 = .ok (.goto (-60), 3) := by decide +kernel
theorem d2_92 : decode prog_23_method_4_code 92 = .ok (.lload_n 3, 1) := by decide +kernel
theorem d2_93 : decode prog_23_method_4_code 93 = .ok (.lreturn, 1) := by decide +kernel
theorem pn_2 : plainName "com/example/quorumstone/quorumstone/client/CheckedLine" = true := by first | (simp [plainName, overriddenIn]; done) | decide +kernel
theorem ef_2 (m : MethodId) (r0 : Addr) (p1 : Int32) (p2 : Int32) : entryFrame m #[(.ref r0), (.int p1), (.int p2)] 7 = mkF m 0 #[.val (.ref r0), .val (.int p1), .val (.int p2), .unset, .unset, .unset, .unset] [] := by first | (simp [entryFrame, mkF, argsToLocals, Value.category]; done) | rfl
abbrev Q2 (Z : State) (r0 : Addr) (p1 : Int32) (p2 : Int32) (kr : ClassId) (bs : List Int32) (fr : Nat) (to : Nat) (h0 : Heap) (n0 : Nat) (v : Option Value) (h : Heap) (L : List Loc) : Prop := v = some (.long (own_dec bs fr to)) ∧ Fr n0 L ∧ h = h0
set_option maxRecDepth 65536 in
set_option maxHeartbeats 40000000 in
theorem rm2 (l : Launch) (Z : State) (a0 : Array Value) (hw : ∀ d ∈ tables_1, d.before a0 Z = true) (ws : List Jvm.Cond) (r0 : Addr) (p1 : Int32) (p2 : Int32) (kr : ClassId) (bs : List Int32) (fr : Nat) (to : Nat) (h0 : Heap) (n0 : Nat) (Z0 : n0 ≤ h0.size) (hp1 : p1 = Int32.ofNat fr) (hp2 : p2 = Int32.ofNat to) (hle : fr ≤ to) (hto : to ≤ 21) (V_r0 : Arv Z h0 r0 kr .byte (21 : Int32) (bs.map Value.int) (.int (0 : Int32))) :
    MetFree l (⟨"com/example/quorumstone/quorumstone/client/CheckedLine", "decimal", "([BII)J"⟩ : MethodName) (head1 (Jvm.Cond.code (⟨"com/example/quorumstone/quorumstone/client/CheckedLine", "decimal", "([BII)J"⟩ : MethodName) prog_23_method_4_code 7 (some .long) :: ws) ({ frames := 0, cells := 0, slots := 0, locals := 0 } : Room)) (fun a U => a = #[(.ref r0), (.int p1), (.int p2)] ∧ Z.Warmed39 U.vm ∧ U.heap = h0) (fun _ _ _ _ _ => True) (fun _ U o U' => ∃ v L, o = .returned v ∧ Q2 Z r0 p1 p2 kr bs fr to h0 n0 v U'.heap L ∧ FrameEnd U o U' L 0 0) := by
  refine MetFree.of_bodySF (plainFor_of_name pn_2) hisR ?_
  intro p ev s m args below meth c s₁ Bd hml0 hP hK
  obtain ⟨rfl, hZ, hh⟩ := hP
  have hx := Bd.exec
  have hby := Bd.bytes
  have hml : c.maxLocals = 7 := hml0
  have hown : s.vm.findClass "com/example/quorumstone/quorumstone/client/CheckedLine" = some m.cls := findClass_of_methodNamed Bd.named
  have hnm := (name_of_methodNamed Bd.named Bd.method).1
  have X0 : Stand p l ev ({ frames := 0, cells := 0, slots := 0, locals := 0 } : Room) s m #[(.ref r0), (.int p1), (.int p2)] below meth c s₁ [] 0 0 := Stand.of_body Bd
  have eh0 : s₁.heap = h0 := by rw [← hh, Bd.state]; rfl
  have N0 := Fr.nil n0
  have Zs := Z0
  show Gol p ev below (FrameEnd s) (Q2 Z r0 p1 p2 kr bs fr to h0 n0) 0 0 (s₁.setTop (entryFrame m #[(.ref r0), (.int p1), (.int p2)] 7))
  rw [ef_2]
  subst hp1
  subst hp2
  have loop : ∀ (k i : Nat) (num : Int64) (dg : Int32) (T : State), i + k = to → own_loop bs k i num = own_dec bs fr to → Stand p l ev ({ frames := 0, cells := 0, slots := 0, locals := 0 } : Room) s m #[(.ref r0), (.int (Int32.ofNat fr)), (.int (Int32.ofNat to))] below meth c T [] 0 0 → T.heap = h0 →
      Gol p ev below (FrameEnd s) (Q2 Z r0 (Int32.ofNat fr) (Int32.ofNat to) kr bs fr to h0 n0) 0 0 (T.setTop (mkF m 29 #[.val (.ref r0), .val (.int (Int32.ofNat fr)), .val (.int (Int32.ofNat to)), .val (.long num), .second, .val (.int (Int32.ofNat i)), .val (.int dg)] [])) := by
    intro k
    induction k with
    | zero =>
      intro i num dg T hi hr X eT
      obtain rfl : i = to := by omega
      show GolF _ _ _ _ _ _ _ T m 29 #[.val (.ref r0), .val (.int (Int32.ofNat fr)), .val (.int (Int32.ofNat i)), .val (.long num), .second, .val (.int (Int32.ofNat i)), .val (.int dg)] []
      refine Gol.iload X hx hby d2_29 (pc' := 31) rfl rfl ?_
      refine Gol.iloadN X hx hby d2_31 (pc' := 32) rfl rfl ?_
      refine Gol.icmpYes X hx hby d2_32 (pc' := 92) (by decide) (flt Int32.lt_irrefl).2.1 ?_
      refine Gol.lloadN X hx hby d2_92 (pc' := 93) rfl rfl ?_
      exact Gol.retL X hx hby Bd.returns Bd.notSynchronized d2_93 eT ⟨by rw [← hr]; rfl, N0, rfl⟩ (by decide) (by decide)
    | succ k ih =>
      intro i num dg T hi hr X eT
      show GolF _ _ _ _ _ _ _ T m 29 #[.val (.ref r0), .val (.int (Int32.ofNat fr)), .val (.int (Int32.ofNat to)), .val (.long num), .second, .val (.int (Int32.ofNat i)), .val (.int dg)] []
      refine Gol.iload X hx hby d2_29 (pc' := 31) rfl rfl ?_
      refine Gol.iloadN X hx hby d2_31 (pc' := 32) rfl rfl ?_
      refine Gol.icmpNo X hx hby d2_32 (pc' := 35) rfl (tlt (own_lt (by omega) (by omega))).2.1 ?_
      refine Gol.aloadN X hx hby d2_35 (pc' := 36) rfl rfl rfl ?_
      refine Gol.iload X hx hby d2_36 (pc' := 38) rfl rfl ?_
      refine Gol.baload X hx hby hZ eT V_r0 d2_38 (pc' := 39) rfl (own_in (by omega)) (v := (bs.getD i 0)) (own_at bs (by omega)) ?_
      refine Gol.bipush X hx hby d2_39 (pc' := 41) rfl (z := (48 : Int32)) rfl ?_
      refine Gol.isub X hx hby d2_41 (pc' := 42) rfl rfl ?_
      refine Gol.istore X hx hby d2_42 (pc' := 44) rfl (l' := #[.val (.ref r0), .val (.int (Int32.ofNat fr)), .val (.int (Int32.ofNat to)), .val (.long num), .second, .val (.int (Int32.ofNat i)), .val (.int ((bs.getD i 0) - (48 : Int32)))]) rfl ?_
      refine Gol.iload X hx hby d2_44 (pc' := 46) rfl rfl ?_
      by_cases hc46_1 : ((bs.getD i 0) - (48 : Int32)) < (0 : Int32)
      · skip
        refine Gol.ifYes X hx hby d2_46 (pc' := 72) (by decide) ((if0 _ _).trans (tlt hc46_1).1) ?_
        refine Gol.ldc2Long X hx hby hZ hown d2_72 (pc' := 75) rfl (hw _ (List.mem_of_getElem? (i := 15) rfl)) ?_
        exact Gol.retL X hx hby Bd.returns Bd.notSynchronized d2_75 eT ⟨congrArg (fun z => some (Value.long z)) ((if_pos (Or.inl hc46_1)).symm.trans hr), N0, rfl⟩ (by decide) (by decide)
      · skip
        refine Gol.ifNo X hx hby d2_46 (pc' := 49) rfl ((if0 _ _).trans (flt hc46_1).1) ?_
        refine Gol.iload X hx hby d2_49 (pc' := 51) rfl rfl ?_
        refine Gol.bipush X hx hby d2_51 (pc' := 53) rfl (z := (9 : Int32)) rfl ?_
        by_cases hc53_2 : (9 : Int32) < ((bs.getD i 0) - (48 : Int32))
        · skip
          refine Gol.icmpYes X hx hby d2_53 (pc' := 72) (by decide) (tlt hc53_2).2.2.1 ?_
          refine Gol.ldc2Long X hx hby hZ hown d2_72 (pc' := 75) rfl (hw _ (List.mem_of_getElem? (i := 15) rfl)) ?_
          exact Gol.retL X hx hby Bd.returns Bd.notSynchronized d2_75 eT ⟨congrArg (fun z => some (Value.long z)) ((if_pos (Or.inr (Or.inl hc53_2))).symm.trans hr), N0, rfl⟩ (by decide) (by decide)
        · skip
          refine Gol.icmpNo X hx hby d2_53 (pc' := 56) rfl (flt hc53_2).2.2.1 ?_
          refine Gol.lloadN X hx hby d2_56 (pc' := 57) rfl rfl ?_
          refine Gol.ldc2Long X hx hby hZ hown d2_57 (pc' := 60) rfl (hw _ (List.mem_of_getElem? (i := 11) rfl)) ?_
          refine Gol.iload X hx hby d2_60 (pc' := 62) rfl rfl ?_
          refine Gol.i2l X hx hby d2_62 (pc' := 63) rfl rfl ?_
          refine Gol.lsub X hx hby d2_63 (pc' := 64) rfl rfl ?_
          refine Gol.ldc2Long X hx hby hZ hown d2_64 (pc' := 67) rfl (hw _ (List.mem_of_getElem? (i := 12) rfl)) ?_
          refine Gol.ldiv X hx hby d2_67 (pc' := 68) rfl (by decide) ?_
          refine Gol.lcmp X hx hby d2_68 (pc' := 69) rfl ?_
          by_cases hc69_3 : (((9223372036854775807 : Int64) - (((bs.getD i 0) - (48 : Int32)).toInt64)) / (10 : Int64)) < num
          · skip
            refine Gol.ifNo X hx hby d2_69 (pc' := 72) rfl (tgtL hc69_3).2 ?_
            refine Gol.ldc2Long X hx hby hZ hown d2_72 (pc' := 75) rfl (hw _ (List.mem_of_getElem? (i := 15) rfl)) ?_
            exact Gol.retL X hx hby Bd.returns Bd.notSynchronized d2_75 eT ⟨congrArg (fun z => some (Value.long z)) ((if_pos (Or.inr (Or.inr hc69_3))).symm.trans hr), N0, rfl⟩ (by decide) (by decide)
          · skip
            refine Gol.ifYes X hx hby d2_69 (pc' := 76) (by decide) (fgtL hc69_3).2 ?_
            refine Gol.lloadN X hx hby d2_76 (pc' := 77) rfl rfl ?_
            refine Gol.ldc2Long X hx hby hZ hown d2_77 (pc' := 80) rfl (hw _ (List.mem_of_getElem? (i := 12) rfl)) ?_
            refine Gol.lmul X hx hby d2_80 (pc' := 81) rfl rfl ?_
            refine Gol.iload X hx hby d2_81 (pc' := 83) rfl rfl ?_
            refine Gol.i2l X hx hby d2_83 (pc' := 84) rfl rfl ?_
            refine Gol.ladd X hx hby d2_84 (pc' := 85) rfl rfl ?_
            refine Gol.lstoreN X hx hby d2_85 (pc' := 86) rfl (l' := #[.val (.ref r0), .val (.int (Int32.ofNat fr)), .val (.int (Int32.ofNat to)), .val (.long ((num * (10 : Int64)) + (((bs.getD i 0) - (48 : Int32)).toInt64))), .second, .val (.int (Int32.ofNat i)), .val (.int ((bs.getD i 0) - (48 : Int32)))]) rfl ?_
            refine Gol.iinc X hx hby d2_86 (pc' := 89) rfl rfl (l' := #[.val (.ref r0), .val (.int (Int32.ofNat fr)), .val (.int (Int32.ofNat to)), .val (.long ((num * (10 : Int64)) + (((bs.getD i 0) - (48 : Int32)).toInt64))), .second, .val (.int ((Int32.ofNat i) + (1 : Int32))), .val (.int ((bs.getD i 0) - (48 : Int32)))]) rfl ?_
            refine Gol.goto X hx hby d2_89 (pc' := 29) (by decide) ?_
            rw [own_one]
            exact ih (i + 1) _ _ _ (by omega) ((if_neg (not_or.mpr ⟨hc46_1, not_or.mpr ⟨hc53_2, hc69_3⟩⟩)).symm.trans hr) X eT
  show GolF _ _ _ _ _ _ _ s₁ m 0 #[.val (.ref r0), .val (.int (Int32.ofNat fr)), .val (.int (Int32.ofNat to)), .unset, .unset, .unset, .unset] []
  refine Gol.iloadN X0 hx hby d2_0 (pc' := 1) rfl rfl ?_
  refine Gol.iloadN X0 hx hby d2_1 (pc' := 2) rfl rfl ?_
  by_cases hc2_4 : (Int32.ofNat fr) = (Int32.ofNat to)
  · skip
    refine Gol.icmpYes X0 hx hby d2_2 (pc' := 20) (by decide) (teq hc2_4).1 ?_
    refine Gol.ldc2Long X0 hx hby hZ hown d2_20 (pc' := 23) rfl (hw _ (List.mem_of_getElem? (i := 15) rfl)) ?_
    exact Gol.retL X0 hx hby Bd.returns Bd.notSynchronized d2_23 eh0 ⟨congrArg (fun z => some (Value.long z)) (by unfold own_dec; rw [if_pos (own_inj (by omega) (by omega) hc2_4)]), N0, rfl⟩ (by decide) (by decide)
  · skip
    refine Gol.icmpNo X0 hx hby d2_2 (pc' := 5) rfl (feq hc2_4).1 ?_
    refine Gol.iloadN X0 hx hby d2_5 (pc' := 6) rfl rfl ?_
    refine Gol.iloadN X0 hx hby d2_6 (pc' := 7) rfl rfl ?_
    refine Gol.isub X0 hx hby d2_7 (pc' := 8) rfl rfl ?_
    rw [own_sub hle (by omega)]
    show GolF _ _ _ _ _ _ _ s₁ m 8 #[.val (.ref r0), .val (.int (Int32.ofNat fr)), .val (.int (Int32.ofNat to)), .unset, .unset, .unset, .unset] [(.int (Int32.ofNat (to - fr)))]
    refine Gol.iconst X0 hx hby d2_8 (pc' := 9) rfl (z := (1 : Int32)) rfl ?_
    by_cases hc9_5 : (1 : Int32) < (Int32.ofNat (to - fr))
    · skip
      refine Gol.icmpNo X0 hx hby d2_9 (pc' := 12) rfl (tlt hc9_5).2.2.2 ?_
      have h12 := own_tl (by omega) hc9_5
      refine Gol.aloadN X0 hx hby d2_12 (pc' := 13) rfl rfl rfl ?_
      refine Gol.iloadN X0 hx hby d2_13 (pc' := 14) rfl rfl ?_
      refine Gol.baload X0 hx hby hZ eh0 V_r0 d2_14 (pc' := 15) rfl (own_in (by omega)) (v := (bs.getD fr 0)) (own_at bs (by omega)) ?_
      refine Gol.bipush X0 hx hby d2_15 (pc' := 17) rfl (z := (48 : Int32)) rfl ?_
      by_cases hc17_6 : (bs.getD fr 0) = (48 : Int32)
      · skip
        refine Gol.icmpNo X0 hx hby d2_17 (pc' := 20) rfl (teq hc17_6).2 ?_
        refine Gol.ldc2Long X0 hx hby hZ hown d2_20 (pc' := 23) rfl (hw _ (List.mem_of_getElem? (i := 15) rfl)) ?_
        exact Gol.retL X0 hx hby Bd.returns Bd.notSynchronized d2_23 eh0 ⟨congrArg (fun z => some (Value.long z)) (by unfold own_dec; rw [if_neg (fun q => hc2_4 (congrArg Int32.ofNat q)), if_pos ⟨own_tl (by omega) hc9_5, hc17_6⟩]), N0, rfl⟩ (by decide) (by decide)
      · skip
        refine Gol.icmpYes X0 hx hby d2_17 (pc' := 24) (by decide) (feq hc17_6).2 ?_
        have hlt : fr < to := Nat.lt_of_le_of_ne hle (fun q => hc2_4 (congrArg Int32.ofNat q))
        refine Gol.lconst X0 hx hby d2_24 (pc' := 25) rfl (z := (0 : Int64)) rfl ?_
        refine Gol.lstoreN X0 hx hby d2_25 (pc' := 26) rfl (l' := #[.val (.ref r0), .val (.int (Int32.ofNat fr)), .val (.int (Int32.ofNat to)), .val (.long (0 : Int64)), .second, .unset, .unset]) rfl ?_
        refine Gol.iloadN X0 hx hby d2_26 (pc' := 27) rfl rfl ?_
        refine Gol.istore X0 hx hby d2_27 (pc' := 29) rfl (l' := #[.val (.ref r0), .val (.int (Int32.ofNat fr)), .val (.int (Int32.ofNat to)), .val (.long (0 : Int64)), .second, .val (.int (Int32.ofNat fr)), .unset]) rfl ?_
        have hd : own_dec bs fr to = own_loop bs (to - fr) fr 0 := by
          unfold own_dec
          rw [if_neg (Nat.ne_of_lt hlt), if_neg (fun z => hc17_6 z.2)]
        refine Gol.iload X0 hx hby d2_29 (pc' := 31) rfl rfl ?_
        refine Gol.iloadN X0 hx hby d2_31 (pc' := 32) rfl rfl ?_
        refine Gol.icmpNo X0 hx hby d2_32 (pc' := 35) rfl (tlt (own_lt hlt (by omega))).2.1 ?_
        refine Gol.aloadN X0 hx hby d2_35 (pc' := 36) rfl rfl rfl ?_
        refine Gol.iload X0 hx hby d2_36 (pc' := 38) rfl rfl ?_
        refine Gol.baload X0 hx hby hZ eh0 V_r0 d2_38 (pc' := 39) rfl (own_in (by omega)) (v := (bs.getD fr 0)) (own_at bs (by omega)) ?_
        refine Gol.bipush X0 hx hby d2_39 (pc' := 41) rfl (z := (48 : Int32)) rfl ?_
        refine Gol.isub X0 hx hby d2_41 (pc' := 42) rfl rfl ?_
        refine Gol.istore X0 hx hby d2_42 (pc' := 44) rfl (l' := #[.val (.ref r0), .val (.int (Int32.ofNat fr)), .val (.int (Int32.ofNat to)), .val (.long (0 : Int64)), .second, .val (.int (Int32.ofNat fr)), .val (.int ((bs.getD fr 0) - (48 : Int32)))]) rfl ?_
        refine Gol.iload X0 hx hby d2_44 (pc' := 46) rfl rfl ?_
        by_cases hc46_7 : ((bs.getD fr 0) - (48 : Int32)) < (0 : Int32)
        · skip
          refine Gol.ifYes X0 hx hby d2_46 (pc' := 72) (by decide) ((if0 _ _).trans (tlt hc46_7).1) ?_
          refine Gol.ldc2Long X0 hx hby hZ hown d2_72 (pc' := 75) rfl (hw _ (List.mem_of_getElem? (i := 15) rfl)) ?_
          exact Gol.retL X0 hx hby Bd.returns Bd.notSynchronized d2_75 eh0 ⟨congrArg (fun z => some (Value.long z)) (by rw [hd, show to - fr = (to - fr - 1) + 1 by omega]; exact (if_pos (Or.inl hc46_7)).symm), N0, rfl⟩ (by decide) (by decide)
        · skip
          refine Gol.ifNo X0 hx hby d2_46 (pc' := 49) rfl ((if0 _ _).trans (flt hc46_7).1) ?_
          refine Gol.iload X0 hx hby d2_49 (pc' := 51) rfl rfl ?_
          refine Gol.bipush X0 hx hby d2_51 (pc' := 53) rfl (z := (9 : Int32)) rfl ?_
          by_cases hc53_8 : (9 : Int32) < ((bs.getD fr 0) - (48 : Int32))
          · skip
            refine Gol.icmpYes X0 hx hby d2_53 (pc' := 72) (by decide) (tlt hc53_8).2.2.1 ?_
            refine Gol.ldc2Long X0 hx hby hZ hown d2_72 (pc' := 75) rfl (hw _ (List.mem_of_getElem? (i := 15) rfl)) ?_
            exact Gol.retL X0 hx hby Bd.returns Bd.notSynchronized d2_75 eh0 ⟨congrArg (fun z => some (Value.long z)) (by rw [hd, show to - fr = (to - fr - 1) + 1 by omega]; exact (if_pos (Or.inr (Or.inl hc53_8))).symm), N0, rfl⟩ (by decide) (by decide)
          · skip
            refine Gol.icmpNo X0 hx hby d2_53 (pc' := 56) rfl (flt hc53_8).2.2.1 ?_
            refine Gol.lloadN X0 hx hby d2_56 (pc' := 57) rfl rfl ?_
            refine Gol.ldc2Long X0 hx hby hZ hown d2_57 (pc' := 60) rfl (hw _ (List.mem_of_getElem? (i := 11) rfl)) ?_
            refine Gol.iload X0 hx hby d2_60 (pc' := 62) rfl rfl ?_
            refine Gol.i2l X0 hx hby d2_62 (pc' := 63) rfl rfl ?_
            refine Gol.lsub X0 hx hby d2_63 (pc' := 64) rfl rfl ?_
            refine Gol.ldc2Long X0 hx hby hZ hown d2_64 (pc' := 67) rfl (hw _ (List.mem_of_getElem? (i := 12) rfl)) ?_
            refine Gol.ldiv X0 hx hby d2_67 (pc' := 68) rfl (by decide) ?_
            refine Gol.lcmp X0 hx hby d2_68 (pc' := 69) rfl ?_
            by_cases hc69_9 : (((9223372036854775807 : Int64) - (((bs.getD fr 0) - (48 : Int32)).toInt64)) / (10 : Int64)) < (0 : Int64)
            · skip
              refine Gol.ifNo X0 hx hby d2_69 (pc' := 72) rfl (tgtL hc69_9).2 ?_
              refine Gol.ldc2Long X0 hx hby hZ hown d2_72 (pc' := 75) rfl (hw _ (List.mem_of_getElem? (i := 15) rfl)) ?_
              exact Gol.retL X0 hx hby Bd.returns Bd.notSynchronized d2_75 eh0 ⟨congrArg (fun z => some (Value.long z)) (by rw [hd, show to - fr = (to - fr - 1) + 1 by omega]; exact (if_pos (Or.inr (Or.inr hc69_9))).symm), N0, rfl⟩ (by decide) (by decide)
            · skip
              refine Gol.ifYes X0 hx hby d2_69 (pc' := 76) (by decide) (fgtL hc69_9).2 ?_
              refine Gol.lloadN X0 hx hby d2_76 (pc' := 77) rfl rfl ?_
              refine Gol.ldc2Long X0 hx hby hZ hown d2_77 (pc' := 80) rfl (hw _ (List.mem_of_getElem? (i := 12) rfl)) ?_
              refine Gol.lmul X0 hx hby d2_80 (pc' := 81) rfl (z := (0 : Int64)) rfl ?_
              refine Gol.iload X0 hx hby d2_81 (pc' := 83) rfl rfl ?_
              refine Gol.i2l X0 hx hby d2_83 (pc' := 84) rfl rfl ?_
              refine Gol.ladd X0 hx hby d2_84 (pc' := 85) rfl rfl ?_
              refine Gol.lstoreN X0 hx hby d2_85 (pc' := 86) rfl (l' := #[.val (.ref r0), .val (.int (Int32.ofNat fr)), .val (.int (Int32.ofNat to)), .val (.long ((0 : Int64) + (((bs.getD fr 0) - (48 : Int32)).toInt64))), .second, .val (.int (Int32.ofNat fr)), .val (.int ((bs.getD fr 0) - (48 : Int32)))]) rfl ?_
              refine Gol.iinc X0 hx hby d2_86 (pc' := 89) rfl rfl (l' := #[.val (.ref r0), .val (.int (Int32.ofNat fr)), .val (.int (Int32.ofNat to)), .val (.long ((0 : Int64) + (((bs.getD fr 0) - (48 : Int32)).toInt64))), .second, .val (.int ((Int32.ofNat fr) + (1 : Int32))), .val (.int ((bs.getD fr 0) - (48 : Int32)))]) rfl ?_
              refine Gol.goto X0 hx hby d2_89 (pc' := 29) (by decide) ?_
              rw [own_one]
              exact loop (to - fr - 1) (fr + 1) _ _ _ (by omega) (hd.symm ▸ by rw [show to - fr = (to - fr - 1) + 1 by omega]; exact (if_neg (not_or.mpr ⟨hc46_7, not_or.mpr ⟨hc53_8, hc69_9⟩⟩)).symm) X0 eh0
    · skip
      refine Gol.icmpYes X0 hx hby d2_9 (pc' := 24) (by decide) (flt hc9_5).2.2.2 ?_
      have hlt : fr < to := Nat.lt_of_le_of_ne hle (fun q => hc2_4 (congrArg Int32.ofNat q))
      refine Gol.lconst X0 hx hby d2_24 (pc' := 25) rfl (z := (0 : Int64)) rfl ?_
      refine Gol.lstoreN X0 hx hby d2_25 (pc' := 26) rfl (l' := #[.val (.ref r0), .val (.int (Int32.ofNat fr)), .val (.int (Int32.ofNat to)), .val (.long (0 : Int64)), .second, .unset, .unset]) rfl ?_
      refine Gol.iloadN X0 hx hby d2_26 (pc' := 27) rfl rfl ?_
      refine Gol.istore X0 hx hby d2_27 (pc' := 29) rfl (l' := #[.val (.ref r0), .val (.int (Int32.ofNat fr)), .val (.int (Int32.ofNat to)), .val (.long (0 : Int64)), .second, .val (.int (Int32.ofNat fr)), .unset]) rfl ?_
      have hd : own_dec bs fr to = own_loop bs (to - fr) fr 0 := by
        unfold own_dec
        rw [if_neg (Nat.ne_of_lt hlt), if_neg (fun z => hc9_5 (own_lt z.1 (by omega)))]
      refine Gol.iload X0 hx hby d2_29 (pc' := 31) rfl rfl ?_
      refine Gol.iloadN X0 hx hby d2_31 (pc' := 32) rfl rfl ?_
      refine Gol.icmpNo X0 hx hby d2_32 (pc' := 35) rfl (tlt (own_lt hlt (by omega))).2.1 ?_
      refine Gol.aloadN X0 hx hby d2_35 (pc' := 36) rfl rfl rfl ?_
      refine Gol.iload X0 hx hby d2_36 (pc' := 38) rfl rfl ?_
      refine Gol.baload X0 hx hby hZ eh0 V_r0 d2_38 (pc' := 39) rfl (own_in (by omega)) (v := (bs.getD fr 0)) (own_at bs (by omega)) ?_
      refine Gol.bipush X0 hx hby d2_39 (pc' := 41) rfl (z := (48 : Int32)) rfl ?_
      refine Gol.isub X0 hx hby d2_41 (pc' := 42) rfl rfl ?_
      refine Gol.istore X0 hx hby d2_42 (pc' := 44) rfl (l' := #[.val (.ref r0), .val (.int (Int32.ofNat fr)), .val (.int (Int32.ofNat to)), .val (.long (0 : Int64)), .second, .val (.int (Int32.ofNat fr)), .val (.int ((bs.getD fr 0) - (48 : Int32)))]) rfl ?_
      refine Gol.iload X0 hx hby d2_44 (pc' := 46) rfl rfl ?_
      by_cases hc46_10 : ((bs.getD fr 0) - (48 : Int32)) < (0 : Int32)
      · skip
        refine Gol.ifYes X0 hx hby d2_46 (pc' := 72) (by decide) ((if0 _ _).trans (tlt hc46_10).1) ?_
        refine Gol.ldc2Long X0 hx hby hZ hown d2_72 (pc' := 75) rfl (hw _ (List.mem_of_getElem? (i := 15) rfl)) ?_
        exact Gol.retL X0 hx hby Bd.returns Bd.notSynchronized d2_75 eh0 ⟨congrArg (fun z => some (Value.long z)) (by rw [hd, show to - fr = (to - fr - 1) + 1 by omega]; exact (if_pos (Or.inl hc46_10)).symm), N0, rfl⟩ (by decide) (by decide)
      · skip
        refine Gol.ifNo X0 hx hby d2_46 (pc' := 49) rfl ((if0 _ _).trans (flt hc46_10).1) ?_
        refine Gol.iload X0 hx hby d2_49 (pc' := 51) rfl rfl ?_
        refine Gol.bipush X0 hx hby d2_51 (pc' := 53) rfl (z := (9 : Int32)) rfl ?_
        by_cases hc53_11 : (9 : Int32) < ((bs.getD fr 0) - (48 : Int32))
        · skip
          refine Gol.icmpYes X0 hx hby d2_53 (pc' := 72) (by decide) (tlt hc53_11).2.2.1 ?_
          refine Gol.ldc2Long X0 hx hby hZ hown d2_72 (pc' := 75) rfl (hw _ (List.mem_of_getElem? (i := 15) rfl)) ?_
          exact Gol.retL X0 hx hby Bd.returns Bd.notSynchronized d2_75 eh0 ⟨congrArg (fun z => some (Value.long z)) (by rw [hd, show to - fr = (to - fr - 1) + 1 by omega]; exact (if_pos (Or.inr (Or.inl hc53_11))).symm), N0, rfl⟩ (by decide) (by decide)
        · skip
          refine Gol.icmpNo X0 hx hby d2_53 (pc' := 56) rfl (flt hc53_11).2.2.1 ?_
          refine Gol.lloadN X0 hx hby d2_56 (pc' := 57) rfl rfl ?_
          refine Gol.ldc2Long X0 hx hby hZ hown d2_57 (pc' := 60) rfl (hw _ (List.mem_of_getElem? (i := 11) rfl)) ?_
          refine Gol.iload X0 hx hby d2_60 (pc' := 62) rfl rfl ?_
          refine Gol.i2l X0 hx hby d2_62 (pc' := 63) rfl rfl ?_
          refine Gol.lsub X0 hx hby d2_63 (pc' := 64) rfl rfl ?_
          refine Gol.ldc2Long X0 hx hby hZ hown d2_64 (pc' := 67) rfl (hw _ (List.mem_of_getElem? (i := 12) rfl)) ?_
          refine Gol.ldiv X0 hx hby d2_67 (pc' := 68) rfl (by decide) ?_
          refine Gol.lcmp X0 hx hby d2_68 (pc' := 69) rfl ?_
          by_cases hc69_12 : (((9223372036854775807 : Int64) - (((bs.getD fr 0) - (48 : Int32)).toInt64)) / (10 : Int64)) < (0 : Int64)
          · skip
            refine Gol.ifNo X0 hx hby d2_69 (pc' := 72) rfl (tgtL hc69_12).2 ?_
            refine Gol.ldc2Long X0 hx hby hZ hown d2_72 (pc' := 75) rfl (hw _ (List.mem_of_getElem? (i := 15) rfl)) ?_
            exact Gol.retL X0 hx hby Bd.returns Bd.notSynchronized d2_75 eh0 ⟨congrArg (fun z => some (Value.long z)) (by rw [hd, show to - fr = (to - fr - 1) + 1 by omega]; exact (if_pos (Or.inr (Or.inr hc69_12))).symm), N0, rfl⟩ (by decide) (by decide)
          · skip
            refine Gol.ifYes X0 hx hby d2_69 (pc' := 76) (by decide) (fgtL hc69_12).2 ?_
            refine Gol.lloadN X0 hx hby d2_76 (pc' := 77) rfl rfl ?_
            refine Gol.ldc2Long X0 hx hby hZ hown d2_77 (pc' := 80) rfl (hw _ (List.mem_of_getElem? (i := 12) rfl)) ?_
            refine Gol.lmul X0 hx hby d2_80 (pc' := 81) rfl (z := (0 : Int64)) rfl ?_
            refine Gol.iload X0 hx hby d2_81 (pc' := 83) rfl rfl ?_
            refine Gol.i2l X0 hx hby d2_83 (pc' := 84) rfl rfl ?_
            refine Gol.ladd X0 hx hby d2_84 (pc' := 85) rfl rfl ?_
            refine Gol.lstoreN X0 hx hby d2_85 (pc' := 86) rfl (l' := #[.val (.ref r0), .val (.int (Int32.ofNat fr)), .val (.int (Int32.ofNat to)), .val (.long ((0 : Int64) + (((bs.getD fr 0) - (48 : Int32)).toInt64))), .second, .val (.int (Int32.ofNat fr)), .val (.int ((bs.getD fr 0) - (48 : Int32)))]) rfl ?_
            refine Gol.iinc X0 hx hby d2_86 (pc' := 89) rfl rfl (l' := #[.val (.ref r0), .val (.int (Int32.ofNat fr)), .val (.int (Int32.ofNat to)), .val (.long ((0 : Int64) + (((bs.getD fr 0) - (48 : Int32)).toInt64))), .second, .val (.int ((Int32.ofNat fr) + (1 : Int32))), .val (.int ((bs.getD fr 0) - (48 : Int32)))]) rfl ?_
            refine Gol.goto X0 hx hby d2_89 (pc' := 29) (by decide) ?_
            rw [own_one]
            exact loop (to - fr - 1) (fr + 1) _ _ _ (by omega) (hd.symm ▸ by rw [show to - fr = (to - fr - 1) + 1 by omega]; exact (if_neg (not_or.mpr ⟨hc46_10, not_or.mpr ⟨hc53_11, hc69_12⟩⟩)).symm) X0 eh0
theorem own_l1 {bs : List Int32} {fr rr : Nat} (h : fr + rr ≤ 100) (q : Int32.ofNat (fr + rr) = Int32.ofNat fr) : own_dec bs fr (fr + rr) = -1 := by
  obtain rfl : rr = 0 := by have := own_inj h (by omega) q; omega
  exact (own_one1 bs fr).1
theorem own_l2 {bs : List Int32} {fr rr : Nat} (h : fr + rr ≤ 100) (q : Int32.ofNat (fr + rr) = Int32.ofNat fr) (h1 : ¬ bs.getD (fr + rr) 0 < 48) (h2 : ¬ 57 < bs.getD (fr + rr) 0) : own_dec bs fr (fr + rr + 1) = (bs.getD (fr + rr) 0 - 48).toInt64 := by
  obtain rfl : rr = 0 := by have := own_inj h (by omega) q; omega
  refine (own_one1 bs fr).2.trans ?_
  rw [if_neg]
  · show (0 : Int64) * 10 + _ = _
    rw [Int64.zero_mul, Int64.zero_add]; rfl
  · intro hb
    rcases (own_badd h1 h2).mp hb with q | q
    · exact absurd q (by decide)
    · exact absurd q.1 (by decide)
theorem own_l3 {bs : List Int32} {fr rr : Nat} (h : fr + rr ≤ 100) (q : Int32.ofNat (fr + rr) = Int32.ofNat fr) (h1 : bs.getD (fr + rr) 0 < 48 ∨ 57 < bs.getD (fr + rr) 0) : own_dec bs fr (fr + rr + 1) = -1 := by
  obtain rfl : rr = 0 := by have := own_inj h (by omega) q; omega
  refine (own_one1 bs fr).2.trans ?_
  rw [if_pos]
  rcases own_dig.mpr h1 with z | z
  · exact Or.inl z
  · exact Or.inr (Or.inl z)
theorem own_fr {fr rr : Nat} (q : ¬ Int32.ofNat (fr + rr) = Int32.ofNat fr) : fr < fr + rr := by
  rcases Nat.eq_zero_or_pos rr with rfl | z
  · exact absurd rfl q
  · omega
theorem own_l4 {bs : List Int32} {fr rr : Nat} (q : ¬ Int32.ofNat (fr + rr) = Int32.ofNat fr) (h : own_dec bs fr (fr + rr) < 0 ∨ own_dec bs fr (fr + rr) = 0) : own_dec bs fr (fr + rr + 1) = -1 := by
  rcases own_more bs fr (fr + rr) (own_fr q) with ⟨z, -⟩ | ⟨z, -⟩
  · exact z
  · exfalso
    rcases h with h | h
    · rw [Int64.lt_iff_toInt_lt, show (0 : Int64).toInt = 0 from rfl] at h; omega
    · rw [h, show (0 : Int64).toInt = 0 from rfl] at z; omega
theorem own_l5 {bs : List Int32} {fr rr : Nat} (q : ¬ Int32.ofNat (fr + rr) = Int32.ofNat fr) (h1 : bs.getD (fr + rr) 0 < 48 ∨ 57 < bs.getD (fr + rr) 0) : own_dec bs fr (fr + rr + 1) = -1 := by
  rcases own_more bs fr (fr + rr) (own_fr q) with ⟨z, -⟩ | ⟨-, z⟩
  · exact z
  · rw [z, if_pos]
    rcases own_dig.mpr h1 with z | z
    · exact Or.inl z
    · exact Or.inr (Or.inl z)
theorem own_l6 {bs : List Int32} {fr rr : Nat} (q : ¬ Int32.ofNat (fr + rr) = Int32.ofNat fr) (n1 : ¬ own_dec bs fr (fr + rr) < 0) (n2 : ¬ own_dec bs fr (fr + rr) = 0) (h1 : ¬ bs.getD (fr + rr) 0 < 48) (h2 : ¬ 57 < bs.getD (fr + rr) 0)
    (h : (922337203685477580 : Int64) < own_dec bs fr (fr + rr) ∨ (own_dec bs fr (fr + rr) = 922337203685477580 ∧ (7 : Int32) < (bs.getD (fr + rr) 0 - 48))) : own_dec bs fr (fr + rr + 1) = -1 := by
  rcases own_more bs fr (fr + rr) (own_fr q) with ⟨z, -⟩ | ⟨-, z⟩
  · exact z
  · rw [z, if_pos ((own_badd h1 h2).mpr h)]
theorem own_l7 {bs : List Int32} {fr rr : Nat} (q : ¬ Int32.ofNat (fr + rr) = Int32.ofNat fr) (n1 : ¬ own_dec bs fr (fr + rr) < 0) (n2 : ¬ own_dec bs fr (fr + rr) = 0) (h1 : ¬ bs.getD (fr + rr) 0 < 48) (h2 : ¬ 57 < bs.getD (fr + rr) 0)
    (h : ¬ ((922337203685477580 : Int64) < own_dec bs fr (fr + rr) ∨ (own_dec bs fr (fr + rr) = 922337203685477580 ∧ (7 : Int32) < (bs.getD (fr + rr) 0 - 48)))) : own_dec bs fr (fr + rr + 1) = own_dec bs fr (fr + rr) * 10 + (bs.getD (fr + rr) 0 - 48).toInt64 := by
  rcases own_more bs fr (fr + rr) (own_fr q) with ⟨-, z⟩ | ⟨-, z⟩
  · exfalso
    rcases z with z | z
    · exact n1 (by rw [z]; decide)
    · exact n2 z
  · rw [z, if_neg (fun q => h ((own_badd h1 h2).mp q))]; rfl
theorem pn_0 : plainName "com/example/quorumstone/quorumstone/client/CheckedLineDecimalPinLaw" = true := by first | (simp [plainName, overriddenIn]; done) | decide +kernel
theorem ef_0 (m : MethodId) (q0 : Int64) (q1 : Int64) (p2 : Int32) (p3 : Int32) (p4 : Int32) (p5 : Int32) : entryFrame m #[(.long q0), (.long q1), (.int p2), (.int p3), (.int p4), (.int p5)] maxLocals = mkF m 0 #[.val (.long q0), .second, .val (.long q1), .second, .val (.int p2), .val (.int p3), .val (.int p4), .val (.int p5), .unset, .unset, .unset, .unset, .unset, .unset, .unset, .unset, .unset, .unset, .unset, .unset, .unset] [] := by first | (simp [entryFrame, mkF, argsToLocals, Value.category, maxLocals]; done) | rfl
abbrev Q0 (Z : State) (q0 : Int64) (q1 : Int64) (p2 : Int32) (p3 : Int32) (p4 : Int32) (p5 : Int32) (h0 : Heap) (n0 : Nat) (v : Option Value) (h : Heap) (L : List Loc) : Prop := v = some (.int 1) ∧ Fr n0 L
set_option maxRecDepth 65536 in
set_option maxHeartbeats 40000000 in
theorem rm0 (l : Launch) (Z : State) (a0 : Array Value) (hw : ∀ d ∈ tables_1, d.before a0 Z = true) (ws : List Jvm.Cond) (q0 : Int64) (q1 : Int64) (p2 : Int32) (p3 : Int32) (p4 : Int32) (p5 : Int32) (h0 : Heap) (n0 : Nat) (Z0 : n0 ≤ h0.size) :
    MetFree l x (head1 (Jvm.Cond.code x code maxLocals ret :: ws) room_1) (fun a U => a = #[(.long q0), (.long q1), (.int p2), (.int p3), (.int p4), (.int p5)] ∧ Z.Warmed39 U.vm ∧ U.heap = h0) (fun _ _ _ _ _ => True) (fun _ U o U' => ∃ v L, o = .returned v ∧ Q0 Z q0 q1 p2 p3 p4 p5 h0 n0 v U'.heap L ∧ FrameEnd U o U' L 1 21) := by
  refine MetFree.of_bodySF (plainFor_of_name pn_0) hisR ?_
  intro p ev s m args below meth c s₁ Bd hml0 hP hK
  obtain ⟨rfl, hZ, hh⟩ := hP
  have hx := Bd.exec
  have hby := Bd.bytes
  have hml : c.maxLocals = 21 := hml0
  have hown : s.vm.findClass "com/example/quorumstone/quorumstone/client/CheckedLineDecimalPinLaw" = some m.cls := findClass_of_methodNamed Bd.named
  have hnm := (name_of_methodNamed Bd.named Bd.method).1
  have X0 : Stand p l ev room_1 s m #[(.long q0), (.long q1), (.int p2), (.int p3), (.int p4), (.int p5)] below meth c s₁ [] 0 0 := Stand.of_body Bd
  have eh0 : s₁.heap = h0 := by rw [← hh, Bd.state]; rfl
  have N0 := Fr.nil n0
  have Zs := Z0
  show Gol p ev below (FrameEnd s) (Q0 Z q0 q1 p2 p3 p4 p5 h0 n0) 1 21 (s₁.setTop (entryFrame m #[(.long q0), (.long q1), (.int p2), (.int p3), (.int p4), (.int p5)] maxLocals))
  rw [ef_0]
  show GolF _ _ _ _ _ _ _ s₁ m 0 #[.val (.long q0), .second, .val (.long q1), .second, .val (.int p2), .val (.int p3), .val (.int p4), .val (.int p5), .unset, .unset, .unset, .unset, .unset, .unset, .unset, .unset, .unset, .unset, .unset, .unset, .unset] []
  refine Gol.bipush X0 hx hby at_0 (pc' := 2) rfl (z := (21 : Int32)) rfl ?_
  refine Gol.newarr X0 hx hby hZ (hw _ (List.mem_of_getElem? (i := 0) rfl)) eh0 21 at_2 (pc' := 4) rfl (by decide) (by decide) (by decide) (by decide) (by decide) ?_
  intro T1 h1 k1 b1 g1 X1 e1 E1 A1
  have g_b1 : n0 ≤ b1 := Nat.le_trans Zs (Nat.le_of_eq g1.symm)
  have Zs := Nat.le_trans Zs E1.1
  have V_b1 : Arv Z h1 b1 k1 .byte (21 : Int32) [(.int (0 : Int32)), (.int (0 : Int32)), (.int (0 : Int32)), (.int (0 : Int32)), (.int (0 : Int32)), (.int (0 : Int32)), (.int (0 : Int32)), (.int (0 : Int32)), (.int (0 : Int32)), (.int (0 : Int32)), (.int (0 : Int32)), (.int (0 : Int32)), (.int (0 : Int32)), (.int (0 : Int32)), (.int (0 : Int32)), (.int (0 : Int32)), (.int (0 : Int32)), (.int (0 : Int32)), (.int (0 : Int32)), (.int (0 : Int32)), (.int (0 : Int32))] (.int (0 : Int32)) := A1.pad (pad_rep [] (.int (0 : Int32)) 21)
  refine Gol.dup X1 hx hby at_4 (pc' := 5) rfl rfl ?_
  refine Gol.iconst X1 hx hby at_5 (pc' := 6) rfl (z := (0 : Int32)) rfl ?_
  refine Gol.lloadN X1 hx hby at_6 (pc' := 7) rfl rfl ?_
  refine Gol.iconst X1 hx hby at_7 (pc' := 8) rfl (z := (0 : Int32)) rfl ?_
  refine Gol.callS X1 hx hby hZ hown 3 [(.long q0), (.int (0 : Int32))] (hw _ (List.mem_of_getElem? (i := 1) rfl)) (hw _ (List.mem_of_getElem? (i := 2) rfl)) (hw _ (List.mem_of_getElem? (i := 3) rfl)) (hw _ (List.mem_of_getElem? (i := 4) rfl)) (by decide) (rm1 l Z a0 hw [] q0 (0 : Int32)  h1 n0 Zs ) (by decide) (by decide) e1 (by rw [hml]; rfl) (rest := [(.int (0 : Int32)), (.ref b1), (.ref b1)]) (Nat.le_of_eq rfl) (by decide) (by decide) (lenOf pd_0 rfl) rfl at_8 (pc' := 11) rfl ?_
  intro T2 v2 L2 X2 hQ2
  obtain ⟨rfl, Nq2, eq2⟩ := hQ2
  have N2 := Fr.app N0 Nq2
  show GolF _ _ _ _ _ _ _ T2 m 11 #[.val (.long q0), .second, .val (.long q1), .second, .val (.int p2), .val (.int p3), .val (.int p4), .val (.int p5), .unset, .unset, .unset, .unset, .unset, .unset, .unset, .unset, .unset, .unset, .unset, .unset, .unset] [(.int (f1 q0 (0 : Int32) )), (.int (0 : Int32)), (.ref b1), (.ref b1)]
  refine Gol.bastore X2 hx hby hZ eq2 V_b1 at_11 (pc' := 12) rfl ⟨by decide, by decide⟩ 0 rfl (Nat.le_of_ble_eq_true rfl) ?_
  intro T3 h3 X3 e3 W3 A3
  have V_b1 : Arv Z h3 b1 k1 .byte (21 : Int32) [(.int (nar .byte (f1 q0 (0 : Int32) ))), (.int (0 : Int32)), (.int (0 : Int32)), (.int (0 : Int32)), (.int (0 : Int32)), (.int (0 : Int32)), (.int (0 : Int32)), (.int (0 : Int32)), (.int (0 : Int32)), (.int (0 : Int32)), (.int (0 : Int32)), (.int (0 : Int32)), (.int (0 : Int32)), (.int (0 : Int32)), (.int (0 : Int32)), (.int (0 : Int32)), (.int (0 : Int32)), (.int (0 : Int32)), (.int (0 : Int32)), (.int (0 : Int32)), (.int (0 : Int32))] (.int (0 : Int32)) := A3
  have Zs := Nat.le_trans Zs (Keep.of_wr W3).1
  have N3 := Fr.snoc X3 N2 g_b1
  refine Gol.dup X3 hx hby at_12 (pc' := 13) rfl rfl ?_
  refine Gol.iconst X3 hx hby at_13 (pc' := 14) rfl (z := (1 : Int32)) rfl ?_
  refine Gol.lloadN X3 hx hby at_14 (pc' := 15) rfl rfl ?_
  refine Gol.iconst X3 hx hby at_15 (pc' := 16) rfl (z := (1 : Int32)) rfl ?_
  refine Gol.callS X3 hx hby hZ hown 3 [(.long q0), (.int (1 : Int32))] (hw _ (List.mem_of_getElem? (i := 1) rfl)) (hw _ (List.mem_of_getElem? (i := 2) rfl)) (hw _ (List.mem_of_getElem? (i := 3) rfl)) (hw _ (List.mem_of_getElem? (i := 4) rfl)) (by decide) (rm1 l Z a0 hw [] q0 (1 : Int32)  h3 n0 Zs ) (by decide) (by decide) e3 (by rw [hml]; rfl) (rest := [(.int (1 : Int32)), (.ref b1), (.ref b1)]) (Nat.le_of_eq rfl) (by decide) (by decide) (lenOf pd_0 rfl) rfl at_16 (pc' := 19) rfl ?_
  intro T4 v4 L4 X4 hQ4
  obtain ⟨rfl, Nq4, eq4⟩ := hQ4
  have N4 := Fr.app N3 Nq4
  show GolF _ _ _ _ _ _ _ T4 m 19 #[.val (.long q0), .second, .val (.long q1), .second, .val (.int p2), .val (.int p3), .val (.int p4), .val (.int p5), .unset, .unset, .unset, .unset, .unset, .unset, .unset, .unset, .unset, .unset, .unset, .unset, .unset] [(.int (f1 q0 (1 : Int32) )), (.int (1 : Int32)), (.ref b1), (.ref b1)]
  refine Gol.bastore X4 hx hby hZ eq4 V_b1 at_19 (pc' := 20) rfl ⟨by decide, by decide⟩ 1 rfl (Nat.le_of_ble_eq_true rfl) ?_
  intro T5 h5 X5 e5 W5 A5
  have V_b1 : Arv Z h5 b1 k1 .byte (21 : Int32) [(.int (nar .byte (f1 q0 (0 : Int32) ))), (.int (nar .byte (f1 q0 (1 : Int32) ))), (.int (0 : Int32)), (.int (0 : Int32)), (.int (0 : Int32)), (.int (0 : Int32)), (.int (0 : Int32)), (.int (0 : Int32)), (.int (0 : Int32)), (.int (0 : Int32)), (.int (0 : Int32)), (.int (0 : Int32)), (.int (0 : Int32)), (.int (0 : Int32)), (.int (0 : Int32)), (.int (0 : Int32)), (.int (0 : Int32)), (.int (0 : Int32)), (.int (0 : Int32)), (.int (0 : Int32)), (.int (0 : Int32))] (.int (0 : Int32)) := A5
  have Zs := Nat.le_trans Zs (Keep.of_wr W5).1
  have N5 := Fr.snoc X5 N4 g_b1
  refine Gol.dup X5 hx hby at_20 (pc' := 21) rfl rfl ?_
  refine Gol.iconst X5 hx hby at_21 (pc' := 22) rfl (z := (2 : Int32)) rfl ?_
  refine Gol.lloadN X5 hx hby at_22 (pc' := 23) rfl rfl ?_
  refine Gol.iconst X5 hx hby at_23 (pc' := 24) rfl (z := (2 : Int32)) rfl ?_
  refine Gol.callS X5 hx hby hZ hown 3 [(.long q0), (.int (2 : Int32))] (hw _ (List.mem_of_getElem? (i := 1) rfl)) (hw _ (List.mem_of_getElem? (i := 2) rfl)) (hw _ (List.mem_of_getElem? (i := 3) rfl)) (hw _ (List.mem_of_getElem? (i := 4) rfl)) (by decide) (rm1 l Z a0 hw [] q0 (2 : Int32)  h5 n0 Zs ) (by decide) (by decide) e5 (by rw [hml]; rfl) (rest := [(.int (2 : Int32)), (.ref b1), (.ref b1)]) (Nat.le_of_eq rfl) (by decide) (by decide) (lenOf pd_0 rfl) rfl at_24 (pc' := 27) rfl ?_
  intro T6 v6 L6 X6 hQ6
  obtain ⟨rfl, Nq6, eq6⟩ := hQ6
  have N6 := Fr.app N5 Nq6
  show GolF _ _ _ _ _ _ _ T6 m 27 #[.val (.long q0), .second, .val (.long q1), .second, .val (.int p2), .val (.int p3), .val (.int p4), .val (.int p5), .unset, .unset, .unset, .unset, .unset, .unset, .unset, .unset, .unset, .unset, .unset, .unset, .unset] [(.int (f1 q0 (2 : Int32) )), (.int (2 : Int32)), (.ref b1), (.ref b1)]
  refine Gol.bastore X6 hx hby hZ eq6 V_b1 at_27 (pc' := 28) rfl ⟨by decide, by decide⟩ 2 rfl (Nat.le_of_ble_eq_true rfl) ?_
  intro T7 h7 X7 e7 W7 A7
  have V_b1 : Arv Z h7 b1 k1 .byte (21 : Int32) [(.int (nar .byte (f1 q0 (0 : Int32) ))), (.int (nar .byte (f1 q0 (1 : Int32) ))), (.int (nar .byte (f1 q0 (2 : Int32) ))), (.int (0 : Int32)), (.int (0 : Int32)), (.int (0 : Int32)), (.int (0 : Int32)), (.int (0 : Int32)), (.int (0 : Int32)), (.int (0 : Int32)), (.int (0 : Int32)), (.int (0 : Int32)), (.int (0 : Int32)), (.int (0 : Int32)), (.int (0 : Int32)), (.int (0 : Int32)), (.int (0 : Int32)), (.int (0 : Int32)), (.int (0 : Int32)), (.int (0 : Int32)), (.int (0 : Int32))] (.int (0 : Int32)) := A7
  have Zs := Nat.le_trans Zs (Keep.of_wr W7).1
  have N7 := Fr.snoc X7 N6 g_b1
  refine Gol.dup X7 hx hby at_28 (pc' := 29) rfl rfl ?_
  refine Gol.iconst X7 hx hby at_29 (pc' := 30) rfl (z := (3 : Int32)) rfl ?_
  refine Gol.lloadN X7 hx hby at_30 (pc' := 31) rfl rfl ?_
  refine Gol.iconst X7 hx hby at_31 (pc' := 32) rfl (z := (3 : Int32)) rfl ?_
  refine Gol.callS X7 hx hby hZ hown 3 [(.long q0), (.int (3 : Int32))] (hw _ (List.mem_of_getElem? (i := 1) rfl)) (hw _ (List.mem_of_getElem? (i := 2) rfl)) (hw _ (List.mem_of_getElem? (i := 3) rfl)) (hw _ (List.mem_of_getElem? (i := 4) rfl)) (by decide) (rm1 l Z a0 hw [] q0 (3 : Int32)  h7 n0 Zs ) (by decide) (by decide) e7 (by rw [hml]; rfl) (rest := [(.int (3 : Int32)), (.ref b1), (.ref b1)]) (Nat.le_of_eq rfl) (by decide) (by decide) (lenOf pd_0 rfl) rfl at_32 (pc' := 35) rfl ?_
  intro T8 v8 L8 X8 hQ8
  obtain ⟨rfl, Nq8, eq8⟩ := hQ8
  have N8 := Fr.app N7 Nq8
  show GolF _ _ _ _ _ _ _ T8 m 35 #[.val (.long q0), .second, .val (.long q1), .second, .val (.int p2), .val (.int p3), .val (.int p4), .val (.int p5), .unset, .unset, .unset, .unset, .unset, .unset, .unset, .unset, .unset, .unset, .unset, .unset, .unset] [(.int (f1 q0 (3 : Int32) )), (.int (3 : Int32)), (.ref b1), (.ref b1)]
  refine Gol.bastore X8 hx hby hZ eq8 V_b1 at_35 (pc' := 36) rfl ⟨by decide, by decide⟩ 3 rfl (Nat.le_of_ble_eq_true rfl) ?_
  intro T9 h9 X9 e9 W9 A9
  have V_b1 : Arv Z h9 b1 k1 .byte (21 : Int32) [(.int (nar .byte (f1 q0 (0 : Int32) ))), (.int (nar .byte (f1 q0 (1 : Int32) ))), (.int (nar .byte (f1 q0 (2 : Int32) ))), (.int (nar .byte (f1 q0 (3 : Int32) ))), (.int (0 : Int32)), (.int (0 : Int32)), (.int (0 : Int32)), (.int (0 : Int32)), (.int (0 : Int32)), (.int (0 : Int32)), (.int (0 : Int32)), (.int (0 : Int32)), (.int (0 : Int32)), (.int (0 : Int32)), (.int (0 : Int32)), (.int (0 : Int32)), (.int (0 : Int32)), (.int (0 : Int32)), (.int (0 : Int32)), (.int (0 : Int32)), (.int (0 : Int32))] (.int (0 : Int32)) := A9
  have Zs := Nat.le_trans Zs (Keep.of_wr W9).1
  have N9 := Fr.snoc X9 N8 g_b1
  refine Gol.dup X9 hx hby at_36 (pc' := 37) rfl rfl ?_
  refine Gol.iconst X9 hx hby at_37 (pc' := 38) rfl (z := (4 : Int32)) rfl ?_
  refine Gol.lloadN X9 hx hby at_38 (pc' := 39) rfl rfl ?_
  refine Gol.iconst X9 hx hby at_39 (pc' := 40) rfl (z := (4 : Int32)) rfl ?_
  refine Gol.callS X9 hx hby hZ hown 3 [(.long q0), (.int (4 : Int32))] (hw _ (List.mem_of_getElem? (i := 1) rfl)) (hw _ (List.mem_of_getElem? (i := 2) rfl)) (hw _ (List.mem_of_getElem? (i := 3) rfl)) (hw _ (List.mem_of_getElem? (i := 4) rfl)) (by decide) (rm1 l Z a0 hw [] q0 (4 : Int32)  h9 n0 Zs ) (by decide) (by decide) e9 (by rw [hml]; rfl) (rest := [(.int (4 : Int32)), (.ref b1), (.ref b1)]) (Nat.le_of_eq rfl) (by decide) (by decide) (lenOf pd_0 rfl) rfl at_40 (pc' := 43) rfl ?_
  intro T10 v10 L10 X10 hQ10
  obtain ⟨rfl, Nq10, eq10⟩ := hQ10
  have N10 := Fr.app N9 Nq10
  show GolF _ _ _ _ _ _ _ T10 m 43 #[.val (.long q0), .second, .val (.long q1), .second, .val (.int p2), .val (.int p3), .val (.int p4), .val (.int p5), .unset, .unset, .unset, .unset, .unset, .unset, .unset, .unset, .unset, .unset, .unset, .unset, .unset] [(.int (f1 q0 (4 : Int32) )), (.int (4 : Int32)), (.ref b1), (.ref b1)]
  refine Gol.bastore X10 hx hby hZ eq10 V_b1 at_43 (pc' := 44) rfl ⟨by decide, by decide⟩ 4 rfl (Nat.le_of_ble_eq_true rfl) ?_
  intro T11 h11 X11 e11 W11 A11
  have V_b1 : Arv Z h11 b1 k1 .byte (21 : Int32) [(.int (nar .byte (f1 q0 (0 : Int32) ))), (.int (nar .byte (f1 q0 (1 : Int32) ))), (.int (nar .byte (f1 q0 (2 : Int32) ))), (.int (nar .byte (f1 q0 (3 : Int32) ))), (.int (nar .byte (f1 q0 (4 : Int32) ))), (.int (0 : Int32)), (.int (0 : Int32)), (.int (0 : Int32)), (.int (0 : Int32)), (.int (0 : Int32)), (.int (0 : Int32)), (.int (0 : Int32)), (.int (0 : Int32)), (.int (0 : Int32)), (.int (0 : Int32)), (.int (0 : Int32)), (.int (0 : Int32)), (.int (0 : Int32)), (.int (0 : Int32)), (.int (0 : Int32)), (.int (0 : Int32))] (.int (0 : Int32)) := A11
  have Zs := Nat.le_trans Zs (Keep.of_wr W11).1
  have N11 := Fr.snoc X11 N10 g_b1
  refine Gol.dup X11 hx hby at_44 (pc' := 45) rfl rfl ?_
  refine Gol.iconst X11 hx hby at_45 (pc' := 46) rfl (z := (5 : Int32)) rfl ?_
  refine Gol.lloadN X11 hx hby at_46 (pc' := 47) rfl rfl ?_
  refine Gol.iconst X11 hx hby at_47 (pc' := 48) rfl (z := (5 : Int32)) rfl ?_
  refine Gol.callS X11 hx hby hZ hown 3 [(.long q0), (.int (5 : Int32))] (hw _ (List.mem_of_getElem? (i := 1) rfl)) (hw _ (List.mem_of_getElem? (i := 2) rfl)) (hw _ (List.mem_of_getElem? (i := 3) rfl)) (hw _ (List.mem_of_getElem? (i := 4) rfl)) (by decide) (rm1 l Z a0 hw [] q0 (5 : Int32)  h11 n0 Zs ) (by decide) (by decide) e11 (by rw [hml]; rfl) (rest := [(.int (5 : Int32)), (.ref b1), (.ref b1)]) (Nat.le_of_eq rfl) (by decide) (by decide) (lenOf pd_0 rfl) rfl at_48 (pc' := 51) rfl ?_
  intro T12 v12 L12 X12 hQ12
  obtain ⟨rfl, Nq12, eq12⟩ := hQ12
  have N12 := Fr.app N11 Nq12
  show GolF _ _ _ _ _ _ _ T12 m 51 #[.val (.long q0), .second, .val (.long q1), .second, .val (.int p2), .val (.int p3), .val (.int p4), .val (.int p5), .unset, .unset, .unset, .unset, .unset, .unset, .unset, .unset, .unset, .unset, .unset, .unset, .unset] [(.int (f1 q0 (5 : Int32) )), (.int (5 : Int32)), (.ref b1), (.ref b1)]
  refine Gol.bastore X12 hx hby hZ eq12 V_b1 at_51 (pc' := 52) rfl ⟨by decide, by decide⟩ 5 rfl (Nat.le_of_ble_eq_true rfl) ?_
  intro T13 h13 X13 e13 W13 A13
  have V_b1 : Arv Z h13 b1 k1 .byte (21 : Int32) [(.int (nar .byte (f1 q0 (0 : Int32) ))), (.int (nar .byte (f1 q0 (1 : Int32) ))), (.int (nar .byte (f1 q0 (2 : Int32) ))), (.int (nar .byte (f1 q0 (3 : Int32) ))), (.int (nar .byte (f1 q0 (4 : Int32) ))), (.int (nar .byte (f1 q0 (5 : Int32) ))), (.int (0 : Int32)), (.int (0 : Int32)), (.int (0 : Int32)), (.int (0 : Int32)), (.int (0 : Int32)), (.int (0 : Int32)), (.int (0 : Int32)), (.int (0 : Int32)), (.int (0 : Int32)), (.int (0 : Int32)), (.int (0 : Int32)), (.int (0 : Int32)), (.int (0 : Int32)), (.int (0 : Int32)), (.int (0 : Int32))] (.int (0 : Int32)) := A13
  have Zs := Nat.le_trans Zs (Keep.of_wr W13).1
  have N13 := Fr.snoc X13 N12 g_b1
  refine Gol.dup X13 hx hby at_52 (pc' := 53) rfl rfl ?_
  refine Gol.bipush X13 hx hby at_53 (pc' := 55) rfl (z := (6 : Int32)) rfl ?_
  refine Gol.lloadN X13 hx hby at_55 (pc' := 56) rfl rfl ?_
  refine Gol.bipush X13 hx hby at_56 (pc' := 58) rfl (z := (6 : Int32)) rfl ?_
  refine Gol.callS X13 hx hby hZ hown 3 [(.long q0), (.int (6 : Int32))] (hw _ (List.mem_of_getElem? (i := 1) rfl)) (hw _ (List.mem_of_getElem? (i := 2) rfl)) (hw _ (List.mem_of_getElem? (i := 3) rfl)) (hw _ (List.mem_of_getElem? (i := 4) rfl)) (by decide) (rm1 l Z a0 hw [] q0 (6 : Int32)  h13 n0 Zs ) (by decide) (by decide) e13 (by rw [hml]; rfl) (rest := [(.int (6 : Int32)), (.ref b1), (.ref b1)]) (Nat.le_of_eq rfl) (by decide) (by decide) (lenOf pd_0 rfl) rfl at_58 (pc' := 61) rfl ?_
  intro T14 v14 L14 X14 hQ14
  obtain ⟨rfl, Nq14, eq14⟩ := hQ14
  have N14 := Fr.app N13 Nq14
  show GolF _ _ _ _ _ _ _ T14 m 61 #[.val (.long q0), .second, .val (.long q1), .second, .val (.int p2), .val (.int p3), .val (.int p4), .val (.int p5), .unset, .unset, .unset, .unset, .unset, .unset, .unset, .unset, .unset, .unset, .unset, .unset, .unset] [(.int (f1 q0 (6 : Int32) )), (.int (6 : Int32)), (.ref b1), (.ref b1)]
  refine Gol.bastore X14 hx hby hZ eq14 V_b1 at_61 (pc' := 62) rfl ⟨by decide, by decide⟩ 6 rfl (Nat.le_of_ble_eq_true rfl) ?_
  intro T15 h15 X15 e15 W15 A15
  have V_b1 : Arv Z h15 b1 k1 .byte (21 : Int32) [(.int (nar .byte (f1 q0 (0 : Int32) ))), (.int (nar .byte (f1 q0 (1 : Int32) ))), (.int (nar .byte (f1 q0 (2 : Int32) ))), (.int (nar .byte (f1 q0 (3 : Int32) ))), (.int (nar .byte (f1 q0 (4 : Int32) ))), (.int (nar .byte (f1 q0 (5 : Int32) ))), (.int (nar .byte (f1 q0 (6 : Int32) ))), (.int (0 : Int32)), (.int (0 : Int32)), (.int (0 : Int32)), (.int (0 : Int32)), (.int (0 : Int32)), (.int (0 : Int32)), (.int (0 : Int32)), (.int (0 : Int32)), (.int (0 : Int32)), (.int (0 : Int32)), (.int (0 : Int32)), (.int (0 : Int32)), (.int (0 : Int32)), (.int (0 : Int32))] (.int (0 : Int32)) := A15
  have Zs := Nat.le_trans Zs (Keep.of_wr W15).1
  have N15 := Fr.snoc X15 N14 g_b1
  refine Gol.dup X15 hx hby at_62 (pc' := 63) rfl rfl ?_
  refine Gol.bipush X15 hx hby at_63 (pc' := 65) rfl (z := (7 : Int32)) rfl ?_
  refine Gol.lloadN X15 hx hby at_65 (pc' := 66) rfl rfl ?_
  refine Gol.bipush X15 hx hby at_66 (pc' := 68) rfl (z := (7 : Int32)) rfl ?_
  refine Gol.callS X15 hx hby hZ hown 3 [(.long q0), (.int (7 : Int32))] (hw _ (List.mem_of_getElem? (i := 1) rfl)) (hw _ (List.mem_of_getElem? (i := 2) rfl)) (hw _ (List.mem_of_getElem? (i := 3) rfl)) (hw _ (List.mem_of_getElem? (i := 4) rfl)) (by decide) (rm1 l Z a0 hw [] q0 (7 : Int32)  h15 n0 Zs ) (by decide) (by decide) e15 (by rw [hml]; rfl) (rest := [(.int (7 : Int32)), (.ref b1), (.ref b1)]) (Nat.le_of_eq rfl) (by decide) (by decide) (lenOf pd_0 rfl) rfl at_68 (pc' := 71) rfl ?_
  intro T16 v16 L16 X16 hQ16
  obtain ⟨rfl, Nq16, eq16⟩ := hQ16
  have N16 := Fr.app N15 Nq16
  show GolF _ _ _ _ _ _ _ T16 m 71 #[.val (.long q0), .second, .val (.long q1), .second, .val (.int p2), .val (.int p3), .val (.int p4), .val (.int p5), .unset, .unset, .unset, .unset, .unset, .unset, .unset, .unset, .unset, .unset, .unset, .unset, .unset] [(.int (f1 q0 (7 : Int32) )), (.int (7 : Int32)), (.ref b1), (.ref b1)]
  refine Gol.bastore X16 hx hby hZ eq16 V_b1 at_71 (pc' := 72) rfl ⟨by decide, by decide⟩ 7 rfl (Nat.le_of_ble_eq_true rfl) ?_
  intro T17 h17 X17 e17 W17 A17
  have V_b1 : Arv Z h17 b1 k1 .byte (21 : Int32) [(.int (nar .byte (f1 q0 (0 : Int32) ))), (.int (nar .byte (f1 q0 (1 : Int32) ))), (.int (nar .byte (f1 q0 (2 : Int32) ))), (.int (nar .byte (f1 q0 (3 : Int32) ))), (.int (nar .byte (f1 q0 (4 : Int32) ))), (.int (nar .byte (f1 q0 (5 : Int32) ))), (.int (nar .byte (f1 q0 (6 : Int32) ))), (.int (nar .byte (f1 q0 (7 : Int32) ))), (.int (0 : Int32)), (.int (0 : Int32)), (.int (0 : Int32)), (.int (0 : Int32)), (.int (0 : Int32)), (.int (0 : Int32)), (.int (0 : Int32)), (.int (0 : Int32)), (.int (0 : Int32)), (.int (0 : Int32)), (.int (0 : Int32)), (.int (0 : Int32)), (.int (0 : Int32))] (.int (0 : Int32)) := A17
  have Zs := Nat.le_trans Zs (Keep.of_wr W17).1
  have N17 := Fr.snoc X17 N16 g_b1
  refine Gol.dup X17 hx hby at_72 (pc' := 73) rfl rfl ?_
  refine Gol.bipush X17 hx hby at_73 (pc' := 75) rfl (z := (8 : Int32)) rfl ?_
  refine Gol.lloadN X17 hx hby at_75 (pc' := 76) rfl rfl ?_
  refine Gol.bipush X17 hx hby at_76 (pc' := 78) rfl (z := (8 : Int32)) rfl ?_
  refine Gol.callS X17 hx hby hZ hown 3 [(.long q0), (.int (8 : Int32))] (hw _ (List.mem_of_getElem? (i := 1) rfl)) (hw _ (List.mem_of_getElem? (i := 2) rfl)) (hw _ (List.mem_of_getElem? (i := 3) rfl)) (hw _ (List.mem_of_getElem? (i := 4) rfl)) (by decide) (rm1 l Z a0 hw [] q0 (8 : Int32)  h17 n0 Zs ) (by decide) (by decide) e17 (by rw [hml]; rfl) (rest := [(.int (8 : Int32)), (.ref b1), (.ref b1)]) (Nat.le_of_eq rfl) (by decide) (by decide) (lenOf pd_0 rfl) rfl at_78 (pc' := 81) rfl ?_
  intro T18 v18 L18 X18 hQ18
  obtain ⟨rfl, Nq18, eq18⟩ := hQ18
  have N18 := Fr.app N17 Nq18
  show GolF _ _ _ _ _ _ _ T18 m 81 #[.val (.long q0), .second, .val (.long q1), .second, .val (.int p2), .val (.int p3), .val (.int p4), .val (.int p5), .unset, .unset, .unset, .unset, .unset, .unset, .unset, .unset, .unset, .unset, .unset, .unset, .unset] [(.int (f1 q0 (8 : Int32) )), (.int (8 : Int32)), (.ref b1), (.ref b1)]
  refine Gol.bastore X18 hx hby hZ eq18 V_b1 at_81 (pc' := 82) rfl ⟨by decide, by decide⟩ 8 rfl (Nat.le_of_ble_eq_true rfl) ?_
  intro T19 h19 X19 e19 W19 A19
  have V_b1 : Arv Z h19 b1 k1 .byte (21 : Int32) [(.int (nar .byte (f1 q0 (0 : Int32) ))), (.int (nar .byte (f1 q0 (1 : Int32) ))), (.int (nar .byte (f1 q0 (2 : Int32) ))), (.int (nar .byte (f1 q0 (3 : Int32) ))), (.int (nar .byte (f1 q0 (4 : Int32) ))), (.int (nar .byte (f1 q0 (5 : Int32) ))), (.int (nar .byte (f1 q0 (6 : Int32) ))), (.int (nar .byte (f1 q0 (7 : Int32) ))), (.int (nar .byte (f1 q0 (8 : Int32) ))), (.int (0 : Int32)), (.int (0 : Int32)), (.int (0 : Int32)), (.int (0 : Int32)), (.int (0 : Int32)), (.int (0 : Int32)), (.int (0 : Int32)), (.int (0 : Int32)), (.int (0 : Int32)), (.int (0 : Int32)), (.int (0 : Int32)), (.int (0 : Int32))] (.int (0 : Int32)) := A19
  have Zs := Nat.le_trans Zs (Keep.of_wr W19).1
  have N19 := Fr.snoc X19 N18 g_b1
  refine Gol.dup X19 hx hby at_82 (pc' := 83) rfl rfl ?_
  refine Gol.bipush X19 hx hby at_83 (pc' := 85) rfl (z := (9 : Int32)) rfl ?_
  refine Gol.lloadN X19 hx hby at_85 (pc' := 86) rfl rfl ?_
  refine Gol.bipush X19 hx hby at_86 (pc' := 88) rfl (z := (9 : Int32)) rfl ?_
  refine Gol.callS X19 hx hby hZ hown 3 [(.long q0), (.int (9 : Int32))] (hw _ (List.mem_of_getElem? (i := 1) rfl)) (hw _ (List.mem_of_getElem? (i := 2) rfl)) (hw _ (List.mem_of_getElem? (i := 3) rfl)) (hw _ (List.mem_of_getElem? (i := 4) rfl)) (by decide) (rm1 l Z a0 hw [] q0 (9 : Int32)  h19 n0 Zs ) (by decide) (by decide) e19 (by rw [hml]; rfl) (rest := [(.int (9 : Int32)), (.ref b1), (.ref b1)]) (Nat.le_of_eq rfl) (by decide) (by decide) (lenOf pd_0 rfl) rfl at_88 (pc' := 91) rfl ?_
  intro T20 v20 L20 X20 hQ20
  obtain ⟨rfl, Nq20, eq20⟩ := hQ20
  have N20 := Fr.app N19 Nq20
  show GolF _ _ _ _ _ _ _ T20 m 91 #[.val (.long q0), .second, .val (.long q1), .second, .val (.int p2), .val (.int p3), .val (.int p4), .val (.int p5), .unset, .unset, .unset, .unset, .unset, .unset, .unset, .unset, .unset, .unset, .unset, .unset, .unset] [(.int (f1 q0 (9 : Int32) )), (.int (9 : Int32)), (.ref b1), (.ref b1)]
  refine Gol.bastore X20 hx hby hZ eq20 V_b1 at_91 (pc' := 92) rfl ⟨by decide, by decide⟩ 9 rfl (Nat.le_of_ble_eq_true rfl) ?_
  intro T21 h21 X21 e21 W21 A21
  have V_b1 : Arv Z h21 b1 k1 .byte (21 : Int32) [(.int (nar .byte (f1 q0 (0 : Int32) ))), (.int (nar .byte (f1 q0 (1 : Int32) ))), (.int (nar .byte (f1 q0 (2 : Int32) ))), (.int (nar .byte (f1 q0 (3 : Int32) ))), (.int (nar .byte (f1 q0 (4 : Int32) ))), (.int (nar .byte (f1 q0 (5 : Int32) ))), (.int (nar .byte (f1 q0 (6 : Int32) ))), (.int (nar .byte (f1 q0 (7 : Int32) ))), (.int (nar .byte (f1 q0 (8 : Int32) ))), (.int (nar .byte (f1 q0 (9 : Int32) ))), (.int (0 : Int32)), (.int (0 : Int32)), (.int (0 : Int32)), (.int (0 : Int32)), (.int (0 : Int32)), (.int (0 : Int32)), (.int (0 : Int32)), (.int (0 : Int32)), (.int (0 : Int32)), (.int (0 : Int32)), (.int (0 : Int32))] (.int (0 : Int32)) := A21
  have Zs := Nat.le_trans Zs (Keep.of_wr W21).1
  have N21 := Fr.snoc X21 N20 g_b1
  refine Gol.dup X21 hx hby at_92 (pc' := 93) rfl rfl ?_
  refine Gol.bipush X21 hx hby at_93 (pc' := 95) rfl (z := (10 : Int32)) rfl ?_
  refine Gol.lloadN X21 hx hby at_95 (pc' := 96) rfl rfl ?_
  refine Gol.bipush X21 hx hby at_96 (pc' := 98) rfl (z := (10 : Int32)) rfl ?_
  refine Gol.callS X21 hx hby hZ hown 3 [(.long q0), (.int (10 : Int32))] (hw _ (List.mem_of_getElem? (i := 1) rfl)) (hw _ (List.mem_of_getElem? (i := 2) rfl)) (hw _ (List.mem_of_getElem? (i := 3) rfl)) (hw _ (List.mem_of_getElem? (i := 4) rfl)) (by decide) (rm1 l Z a0 hw [] q0 (10 : Int32)  h21 n0 Zs ) (by decide) (by decide) e21 (by rw [hml]; rfl) (rest := [(.int (10 : Int32)), (.ref b1), (.ref b1)]) (Nat.le_of_eq rfl) (by decide) (by decide) (lenOf pd_0 rfl) rfl at_98 (pc' := 101) rfl ?_
  intro T22 v22 L22 X22 hQ22
  obtain ⟨rfl, Nq22, eq22⟩ := hQ22
  have N22 := Fr.app N21 Nq22
  show GolF _ _ _ _ _ _ _ T22 m 101 #[.val (.long q0), .second, .val (.long q1), .second, .val (.int p2), .val (.int p3), .val (.int p4), .val (.int p5), .unset, .unset, .unset, .unset, .unset, .unset, .unset, .unset, .unset, .unset, .unset, .unset, .unset] [(.int (f1 q0 (10 : Int32) )), (.int (10 : Int32)), (.ref b1), (.ref b1)]
  refine Gol.bastore X22 hx hby hZ eq22 V_b1 at_101 (pc' := 102) rfl ⟨by decide, by decide⟩ 10 rfl (Nat.le_of_ble_eq_true rfl) ?_
  intro T23 h23 X23 e23 W23 A23
  have V_b1 : Arv Z h23 b1 k1 .byte (21 : Int32) [(.int (nar .byte (f1 q0 (0 : Int32) ))), (.int (nar .byte (f1 q0 (1 : Int32) ))), (.int (nar .byte (f1 q0 (2 : Int32) ))), (.int (nar .byte (f1 q0 (3 : Int32) ))), (.int (nar .byte (f1 q0 (4 : Int32) ))), (.int (nar .byte (f1 q0 (5 : Int32) ))), (.int (nar .byte (f1 q0 (6 : Int32) ))), (.int (nar .byte (f1 q0 (7 : Int32) ))), (.int (nar .byte (f1 q0 (8 : Int32) ))), (.int (nar .byte (f1 q0 (9 : Int32) ))), (.int (nar .byte (f1 q0 (10 : Int32) ))), (.int (0 : Int32)), (.int (0 : Int32)), (.int (0 : Int32)), (.int (0 : Int32)), (.int (0 : Int32)), (.int (0 : Int32)), (.int (0 : Int32)), (.int (0 : Int32)), (.int (0 : Int32)), (.int (0 : Int32))] (.int (0 : Int32)) := A23
  have Zs := Nat.le_trans Zs (Keep.of_wr W23).1
  have N23 := Fr.snoc X23 N22 g_b1
  refine Gol.dup X23 hx hby at_102 (pc' := 103) rfl rfl ?_
  refine Gol.bipush X23 hx hby at_103 (pc' := 105) rfl (z := (11 : Int32)) rfl ?_
  refine Gol.lloadN X23 hx hby at_105 (pc' := 106) rfl rfl ?_
  refine Gol.bipush X23 hx hby at_106 (pc' := 108) rfl (z := (11 : Int32)) rfl ?_
  refine Gol.callS X23 hx hby hZ hown 3 [(.long q0), (.int (11 : Int32))] (hw _ (List.mem_of_getElem? (i := 1) rfl)) (hw _ (List.mem_of_getElem? (i := 2) rfl)) (hw _ (List.mem_of_getElem? (i := 3) rfl)) (hw _ (List.mem_of_getElem? (i := 4) rfl)) (by decide) (rm1 l Z a0 hw [] q0 (11 : Int32)  h23 n0 Zs ) (by decide) (by decide) e23 (by rw [hml]; rfl) (rest := [(.int (11 : Int32)), (.ref b1), (.ref b1)]) (Nat.le_of_eq rfl) (by decide) (by decide) (lenOf pd_0 rfl) rfl at_108 (pc' := 111) rfl ?_
  intro T24 v24 L24 X24 hQ24
  obtain ⟨rfl, Nq24, eq24⟩ := hQ24
  have N24 := Fr.app N23 Nq24
  show GolF _ _ _ _ _ _ _ T24 m 111 #[.val (.long q0), .second, .val (.long q1), .second, .val (.int p2), .val (.int p3), .val (.int p4), .val (.int p5), .unset, .unset, .unset, .unset, .unset, .unset, .unset, .unset, .unset, .unset, .unset, .unset, .unset] [(.int (f1 q0 (11 : Int32) )), (.int (11 : Int32)), (.ref b1), (.ref b1)]
  refine Gol.bastore X24 hx hby hZ eq24 V_b1 at_111 (pc' := 112) rfl ⟨by decide, by decide⟩ 11 rfl (Nat.le_of_ble_eq_true rfl) ?_
  intro T25 h25 X25 e25 W25 A25
  have V_b1 : Arv Z h25 b1 k1 .byte (21 : Int32) [(.int (nar .byte (f1 q0 (0 : Int32) ))), (.int (nar .byte (f1 q0 (1 : Int32) ))), (.int (nar .byte (f1 q0 (2 : Int32) ))), (.int (nar .byte (f1 q0 (3 : Int32) ))), (.int (nar .byte (f1 q0 (4 : Int32) ))), (.int (nar .byte (f1 q0 (5 : Int32) ))), (.int (nar .byte (f1 q0 (6 : Int32) ))), (.int (nar .byte (f1 q0 (7 : Int32) ))), (.int (nar .byte (f1 q0 (8 : Int32) ))), (.int (nar .byte (f1 q0 (9 : Int32) ))), (.int (nar .byte (f1 q0 (10 : Int32) ))), (.int (nar .byte (f1 q0 (11 : Int32) ))), (.int (0 : Int32)), (.int (0 : Int32)), (.int (0 : Int32)), (.int (0 : Int32)), (.int (0 : Int32)), (.int (0 : Int32)), (.int (0 : Int32)), (.int (0 : Int32)), (.int (0 : Int32))] (.int (0 : Int32)) := A25
  have Zs := Nat.le_trans Zs (Keep.of_wr W25).1
  have N25 := Fr.snoc X25 N24 g_b1
  refine Gol.dup X25 hx hby at_112 (pc' := 113) rfl rfl ?_
  refine Gol.bipush X25 hx hby at_113 (pc' := 115) rfl (z := (12 : Int32)) rfl ?_
  refine Gol.lloadN X25 hx hby at_115 (pc' := 116) rfl rfl ?_
  refine Gol.bipush X25 hx hby at_116 (pc' := 118) rfl (z := (12 : Int32)) rfl ?_
  refine Gol.callS X25 hx hby hZ hown 3 [(.long q0), (.int (12 : Int32))] (hw _ (List.mem_of_getElem? (i := 1) rfl)) (hw _ (List.mem_of_getElem? (i := 2) rfl)) (hw _ (List.mem_of_getElem? (i := 3) rfl)) (hw _ (List.mem_of_getElem? (i := 4) rfl)) (by decide) (rm1 l Z a0 hw [] q0 (12 : Int32)  h25 n0 Zs ) (by decide) (by decide) e25 (by rw [hml]; rfl) (rest := [(.int (12 : Int32)), (.ref b1), (.ref b1)]) (Nat.le_of_eq rfl) (by decide) (by decide) (lenOf pd_0 rfl) rfl at_118 (pc' := 121) rfl ?_
  intro T26 v26 L26 X26 hQ26
  obtain ⟨rfl, Nq26, eq26⟩ := hQ26
  have N26 := Fr.app N25 Nq26
  show GolF _ _ _ _ _ _ _ T26 m 121 #[.val (.long q0), .second, .val (.long q1), .second, .val (.int p2), .val (.int p3), .val (.int p4), .val (.int p5), .unset, .unset, .unset, .unset, .unset, .unset, .unset, .unset, .unset, .unset, .unset, .unset, .unset] [(.int (f1 q0 (12 : Int32) )), (.int (12 : Int32)), (.ref b1), (.ref b1)]
  refine Gol.bastore X26 hx hby hZ eq26 V_b1 at_121 (pc' := 122) rfl ⟨by decide, by decide⟩ 12 rfl (Nat.le_of_ble_eq_true rfl) ?_
  intro T27 h27 X27 e27 W27 A27
  have V_b1 : Arv Z h27 b1 k1 .byte (21 : Int32) [(.int (nar .byte (f1 q0 (0 : Int32) ))), (.int (nar .byte (f1 q0 (1 : Int32) ))), (.int (nar .byte (f1 q0 (2 : Int32) ))), (.int (nar .byte (f1 q0 (3 : Int32) ))), (.int (nar .byte (f1 q0 (4 : Int32) ))), (.int (nar .byte (f1 q0 (5 : Int32) ))), (.int (nar .byte (f1 q0 (6 : Int32) ))), (.int (nar .byte (f1 q0 (7 : Int32) ))), (.int (nar .byte (f1 q0 (8 : Int32) ))), (.int (nar .byte (f1 q0 (9 : Int32) ))), (.int (nar .byte (f1 q0 (10 : Int32) ))), (.int (nar .byte (f1 q0 (11 : Int32) ))), (.int (nar .byte (f1 q0 (12 : Int32) ))), (.int (0 : Int32)), (.int (0 : Int32)), (.int (0 : Int32)), (.int (0 : Int32)), (.int (0 : Int32)), (.int (0 : Int32)), (.int (0 : Int32)), (.int (0 : Int32))] (.int (0 : Int32)) := A27
  have Zs := Nat.le_trans Zs (Keep.of_wr W27).1
  have N27 := Fr.snoc X27 N26 g_b1
  refine Gol.dup X27 hx hby at_122 (pc' := 123) rfl rfl ?_
  refine Gol.bipush X27 hx hby at_123 (pc' := 125) rfl (z := (13 : Int32)) rfl ?_
  refine Gol.lloadN X27 hx hby at_125 (pc' := 126) rfl rfl ?_
  refine Gol.bipush X27 hx hby at_126 (pc' := 128) rfl (z := (13 : Int32)) rfl ?_
  refine Gol.callS X27 hx hby hZ hown 3 [(.long q0), (.int (13 : Int32))] (hw _ (List.mem_of_getElem? (i := 1) rfl)) (hw _ (List.mem_of_getElem? (i := 2) rfl)) (hw _ (List.mem_of_getElem? (i := 3) rfl)) (hw _ (List.mem_of_getElem? (i := 4) rfl)) (by decide) (rm1 l Z a0 hw [] q0 (13 : Int32)  h27 n0 Zs ) (by decide) (by decide) e27 (by rw [hml]; rfl) (rest := [(.int (13 : Int32)), (.ref b1), (.ref b1)]) (Nat.le_of_eq rfl) (by decide) (by decide) (lenOf pd_0 rfl) rfl at_128 (pc' := 131) rfl ?_
  intro T28 v28 L28 X28 hQ28
  obtain ⟨rfl, Nq28, eq28⟩ := hQ28
  have N28 := Fr.app N27 Nq28
  show GolF _ _ _ _ _ _ _ T28 m 131 #[.val (.long q0), .second, .val (.long q1), .second, .val (.int p2), .val (.int p3), .val (.int p4), .val (.int p5), .unset, .unset, .unset, .unset, .unset, .unset, .unset, .unset, .unset, .unset, .unset, .unset, .unset] [(.int (f1 q0 (13 : Int32) )), (.int (13 : Int32)), (.ref b1), (.ref b1)]
  refine Gol.bastore X28 hx hby hZ eq28 V_b1 at_131 (pc' := 132) rfl ⟨by decide, by decide⟩ 13 rfl (Nat.le_of_ble_eq_true rfl) ?_
  intro T29 h29 X29 e29 W29 A29
  have V_b1 : Arv Z h29 b1 k1 .byte (21 : Int32) [(.int (nar .byte (f1 q0 (0 : Int32) ))), (.int (nar .byte (f1 q0 (1 : Int32) ))), (.int (nar .byte (f1 q0 (2 : Int32) ))), (.int (nar .byte (f1 q0 (3 : Int32) ))), (.int (nar .byte (f1 q0 (4 : Int32) ))), (.int (nar .byte (f1 q0 (5 : Int32) ))), (.int (nar .byte (f1 q0 (6 : Int32) ))), (.int (nar .byte (f1 q0 (7 : Int32) ))), (.int (nar .byte (f1 q0 (8 : Int32) ))), (.int (nar .byte (f1 q0 (9 : Int32) ))), (.int (nar .byte (f1 q0 (10 : Int32) ))), (.int (nar .byte (f1 q0 (11 : Int32) ))), (.int (nar .byte (f1 q0 (12 : Int32) ))), (.int (nar .byte (f1 q0 (13 : Int32) ))), (.int (0 : Int32)), (.int (0 : Int32)), (.int (0 : Int32)), (.int (0 : Int32)), (.int (0 : Int32)), (.int (0 : Int32)), (.int (0 : Int32))] (.int (0 : Int32)) := A29
  have Zs := Nat.le_trans Zs (Keep.of_wr W29).1
  have N29 := Fr.snoc X29 N28 g_b1
  refine Gol.dup X29 hx hby at_132 (pc' := 133) rfl rfl ?_
  refine Gol.bipush X29 hx hby at_133 (pc' := 135) rfl (z := (14 : Int32)) rfl ?_
  refine Gol.lloadN X29 hx hby at_135 (pc' := 136) rfl rfl ?_
  refine Gol.bipush X29 hx hby at_136 (pc' := 138) rfl (z := (14 : Int32)) rfl ?_
  refine Gol.callS X29 hx hby hZ hown 3 [(.long q0), (.int (14 : Int32))] (hw _ (List.mem_of_getElem? (i := 1) rfl)) (hw _ (List.mem_of_getElem? (i := 2) rfl)) (hw _ (List.mem_of_getElem? (i := 3) rfl)) (hw _ (List.mem_of_getElem? (i := 4) rfl)) (by decide) (rm1 l Z a0 hw [] q0 (14 : Int32)  h29 n0 Zs ) (by decide) (by decide) e29 (by rw [hml]; rfl) (rest := [(.int (14 : Int32)), (.ref b1), (.ref b1)]) (Nat.le_of_eq rfl) (by decide) (by decide) (lenOf pd_0 rfl) rfl at_138 (pc' := 141) rfl ?_
  intro T30 v30 L30 X30 hQ30
  obtain ⟨rfl, Nq30, eq30⟩ := hQ30
  have N30 := Fr.app N29 Nq30
  show GolF _ _ _ _ _ _ _ T30 m 141 #[.val (.long q0), .second, .val (.long q1), .second, .val (.int p2), .val (.int p3), .val (.int p4), .val (.int p5), .unset, .unset, .unset, .unset, .unset, .unset, .unset, .unset, .unset, .unset, .unset, .unset, .unset] [(.int (f1 q0 (14 : Int32) )), (.int (14 : Int32)), (.ref b1), (.ref b1)]
  refine Gol.bastore X30 hx hby hZ eq30 V_b1 at_141 (pc' := 142) rfl ⟨by decide, by decide⟩ 14 rfl (Nat.le_of_ble_eq_true rfl) ?_
  intro T31 h31 X31 e31 W31 A31
  have V_b1 : Arv Z h31 b1 k1 .byte (21 : Int32) [(.int (nar .byte (f1 q0 (0 : Int32) ))), (.int (nar .byte (f1 q0 (1 : Int32) ))), (.int (nar .byte (f1 q0 (2 : Int32) ))), (.int (nar .byte (f1 q0 (3 : Int32) ))), (.int (nar .byte (f1 q0 (4 : Int32) ))), (.int (nar .byte (f1 q0 (5 : Int32) ))), (.int (nar .byte (f1 q0 (6 : Int32) ))), (.int (nar .byte (f1 q0 (7 : Int32) ))), (.int (nar .byte (f1 q0 (8 : Int32) ))), (.int (nar .byte (f1 q0 (9 : Int32) ))), (.int (nar .byte (f1 q0 (10 : Int32) ))), (.int (nar .byte (f1 q0 (11 : Int32) ))), (.int (nar .byte (f1 q0 (12 : Int32) ))), (.int (nar .byte (f1 q0 (13 : Int32) ))), (.int (nar .byte (f1 q0 (14 : Int32) ))), (.int (0 : Int32)), (.int (0 : Int32)), (.int (0 : Int32)), (.int (0 : Int32)), (.int (0 : Int32)), (.int (0 : Int32))] (.int (0 : Int32)) := A31
  have Zs := Nat.le_trans Zs (Keep.of_wr W31).1
  have N31 := Fr.snoc X31 N30 g_b1
  refine Gol.dup X31 hx hby at_142 (pc' := 143) rfl rfl ?_
  refine Gol.bipush X31 hx hby at_143 (pc' := 145) rfl (z := (15 : Int32)) rfl ?_
  refine Gol.lloadN X31 hx hby at_145 (pc' := 146) rfl rfl ?_
  refine Gol.bipush X31 hx hby at_146 (pc' := 148) rfl (z := (15 : Int32)) rfl ?_
  refine Gol.callS X31 hx hby hZ hown 3 [(.long q0), (.int (15 : Int32))] (hw _ (List.mem_of_getElem? (i := 1) rfl)) (hw _ (List.mem_of_getElem? (i := 2) rfl)) (hw _ (List.mem_of_getElem? (i := 3) rfl)) (hw _ (List.mem_of_getElem? (i := 4) rfl)) (by decide) (rm1 l Z a0 hw [] q0 (15 : Int32)  h31 n0 Zs ) (by decide) (by decide) e31 (by rw [hml]; rfl) (rest := [(.int (15 : Int32)), (.ref b1), (.ref b1)]) (Nat.le_of_eq rfl) (by decide) (by decide) (lenOf pd_0 rfl) rfl at_148 (pc' := 151) rfl ?_
  intro T32 v32 L32 X32 hQ32
  obtain ⟨rfl, Nq32, eq32⟩ := hQ32
  have N32 := Fr.app N31 Nq32
  show GolF _ _ _ _ _ _ _ T32 m 151 #[.val (.long q0), .second, .val (.long q1), .second, .val (.int p2), .val (.int p3), .val (.int p4), .val (.int p5), .unset, .unset, .unset, .unset, .unset, .unset, .unset, .unset, .unset, .unset, .unset, .unset, .unset] [(.int (f1 q0 (15 : Int32) )), (.int (15 : Int32)), (.ref b1), (.ref b1)]
  refine Gol.bastore X32 hx hby hZ eq32 V_b1 at_151 (pc' := 152) rfl ⟨by decide, by decide⟩ 15 rfl (Nat.le_of_ble_eq_true rfl) ?_
  intro T33 h33 X33 e33 W33 A33
  have V_b1 : Arv Z h33 b1 k1 .byte (21 : Int32) [(.int (nar .byte (f1 q0 (0 : Int32) ))), (.int (nar .byte (f1 q0 (1 : Int32) ))), (.int (nar .byte (f1 q0 (2 : Int32) ))), (.int (nar .byte (f1 q0 (3 : Int32) ))), (.int (nar .byte (f1 q0 (4 : Int32) ))), (.int (nar .byte (f1 q0 (5 : Int32) ))), (.int (nar .byte (f1 q0 (6 : Int32) ))), (.int (nar .byte (f1 q0 (7 : Int32) ))), (.int (nar .byte (f1 q0 (8 : Int32) ))), (.int (nar .byte (f1 q0 (9 : Int32) ))), (.int (nar .byte (f1 q0 (10 : Int32) ))), (.int (nar .byte (f1 q0 (11 : Int32) ))), (.int (nar .byte (f1 q0 (12 : Int32) ))), (.int (nar .byte (f1 q0 (13 : Int32) ))), (.int (nar .byte (f1 q0 (14 : Int32) ))), (.int (nar .byte (f1 q0 (15 : Int32) ))), (.int (0 : Int32)), (.int (0 : Int32)), (.int (0 : Int32)), (.int (0 : Int32)), (.int (0 : Int32))] (.int (0 : Int32)) := A33
  have Zs := Nat.le_trans Zs (Keep.of_wr W33).1
  have N33 := Fr.snoc X33 N32 g_b1
  refine Gol.dup X33 hx hby at_152 (pc' := 153) rfl rfl ?_
  refine Gol.bipush X33 hx hby at_153 (pc' := 155) rfl (z := (16 : Int32)) rfl ?_
  refine Gol.lloadN X33 hx hby at_155 (pc' := 156) rfl rfl ?_
  refine Gol.iconst X33 hx hby at_156 (pc' := 157) rfl (z := (0 : Int32)) rfl ?_
  refine Gol.callS X33 hx hby hZ hown 3 [(.long q1), (.int (0 : Int32))] (hw _ (List.mem_of_getElem? (i := 1) rfl)) (hw _ (List.mem_of_getElem? (i := 2) rfl)) (hw _ (List.mem_of_getElem? (i := 3) rfl)) (hw _ (List.mem_of_getElem? (i := 4) rfl)) (by decide) (rm1 l Z a0 hw [] q1 (0 : Int32)  h33 n0 Zs ) (by decide) (by decide) e33 (by rw [hml]; rfl) (rest := [(.int (16 : Int32)), (.ref b1), (.ref b1)]) (Nat.le_of_eq rfl) (by decide) (by decide) (lenOf pd_0 rfl) rfl at_157 (pc' := 160) rfl ?_
  intro T34 v34 L34 X34 hQ34
  obtain ⟨rfl, Nq34, eq34⟩ := hQ34
  have N34 := Fr.app N33 Nq34
  show GolF _ _ _ _ _ _ _ T34 m 160 #[.val (.long q0), .second, .val (.long q1), .second, .val (.int p2), .val (.int p3), .val (.int p4), .val (.int p5), .unset, .unset, .unset, .unset, .unset, .unset, .unset, .unset, .unset, .unset, .unset, .unset, .unset] [(.int (f1 q1 (0 : Int32) )), (.int (16 : Int32)), (.ref b1), (.ref b1)]
  refine Gol.bastore X34 hx hby hZ eq34 V_b1 at_160 (pc' := 161) rfl ⟨by decide, by decide⟩ 16 rfl (Nat.le_of_ble_eq_true rfl) ?_
  intro T35 h35 X35 e35 W35 A35
  have V_b1 : Arv Z h35 b1 k1 .byte (21 : Int32) [(.int (nar .byte (f1 q0 (0 : Int32) ))), (.int (nar .byte (f1 q0 (1 : Int32) ))), (.int (nar .byte (f1 q0 (2 : Int32) ))), (.int (nar .byte (f1 q0 (3 : Int32) ))), (.int (nar .byte (f1 q0 (4 : Int32) ))), (.int (nar .byte (f1 q0 (5 : Int32) ))), (.int (nar .byte (f1 q0 (6 : Int32) ))), (.int (nar .byte (f1 q0 (7 : Int32) ))), (.int (nar .byte (f1 q0 (8 : Int32) ))), (.int (nar .byte (f1 q0 (9 : Int32) ))), (.int (nar .byte (f1 q0 (10 : Int32) ))), (.int (nar .byte (f1 q0 (11 : Int32) ))), (.int (nar .byte (f1 q0 (12 : Int32) ))), (.int (nar .byte (f1 q0 (13 : Int32) ))), (.int (nar .byte (f1 q0 (14 : Int32) ))), (.int (nar .byte (f1 q0 (15 : Int32) ))), (.int (nar .byte (f1 q1 (0 : Int32) ))), (.int (0 : Int32)), (.int (0 : Int32)), (.int (0 : Int32)), (.int (0 : Int32))] (.int (0 : Int32)) := A35
  have Zs := Nat.le_trans Zs (Keep.of_wr W35).1
  have N35 := Fr.snoc X35 N34 g_b1
  refine Gol.dup X35 hx hby at_161 (pc' := 162) rfl rfl ?_
  refine Gol.bipush X35 hx hby at_162 (pc' := 164) rfl (z := (17 : Int32)) rfl ?_
  refine Gol.lloadN X35 hx hby at_164 (pc' := 165) rfl rfl ?_
  refine Gol.iconst X35 hx hby at_165 (pc' := 166) rfl (z := (1 : Int32)) rfl ?_
  refine Gol.callS X35 hx hby hZ hown 3 [(.long q1), (.int (1 : Int32))] (hw _ (List.mem_of_getElem? (i := 1) rfl)) (hw _ (List.mem_of_getElem? (i := 2) rfl)) (hw _ (List.mem_of_getElem? (i := 3) rfl)) (hw _ (List.mem_of_getElem? (i := 4) rfl)) (by decide) (rm1 l Z a0 hw [] q1 (1 : Int32)  h35 n0 Zs ) (by decide) (by decide) e35 (by rw [hml]; rfl) (rest := [(.int (17 : Int32)), (.ref b1), (.ref b1)]) (Nat.le_of_eq rfl) (by decide) (by decide) (lenOf pd_0 rfl) rfl at_166 (pc' := 169) rfl ?_
  intro T36 v36 L36 X36 hQ36
  obtain ⟨rfl, Nq36, eq36⟩ := hQ36
  have N36 := Fr.app N35 Nq36
  show GolF _ _ _ _ _ _ _ T36 m 169 #[.val (.long q0), .second, .val (.long q1), .second, .val (.int p2), .val (.int p3), .val (.int p4), .val (.int p5), .unset, .unset, .unset, .unset, .unset, .unset, .unset, .unset, .unset, .unset, .unset, .unset, .unset] [(.int (f1 q1 (1 : Int32) )), (.int (17 : Int32)), (.ref b1), (.ref b1)]
  refine Gol.bastore X36 hx hby hZ eq36 V_b1 at_169 (pc' := 170) rfl ⟨by decide, by decide⟩ 17 rfl (Nat.le_of_ble_eq_true rfl) ?_
  intro T37 h37 X37 e37 W37 A37
  have V_b1 : Arv Z h37 b1 k1 .byte (21 : Int32) [(.int (nar .byte (f1 q0 (0 : Int32) ))), (.int (nar .byte (f1 q0 (1 : Int32) ))), (.int (nar .byte (f1 q0 (2 : Int32) ))), (.int (nar .byte (f1 q0 (3 : Int32) ))), (.int (nar .byte (f1 q0 (4 : Int32) ))), (.int (nar .byte (f1 q0 (5 : Int32) ))), (.int (nar .byte (f1 q0 (6 : Int32) ))), (.int (nar .byte (f1 q0 (7 : Int32) ))), (.int (nar .byte (f1 q0 (8 : Int32) ))), (.int (nar .byte (f1 q0 (9 : Int32) ))), (.int (nar .byte (f1 q0 (10 : Int32) ))), (.int (nar .byte (f1 q0 (11 : Int32) ))), (.int (nar .byte (f1 q0 (12 : Int32) ))), (.int (nar .byte (f1 q0 (13 : Int32) ))), (.int (nar .byte (f1 q0 (14 : Int32) ))), (.int (nar .byte (f1 q0 (15 : Int32) ))), (.int (nar .byte (f1 q1 (0 : Int32) ))), (.int (nar .byte (f1 q1 (1 : Int32) ))), (.int (0 : Int32)), (.int (0 : Int32)), (.int (0 : Int32))] (.int (0 : Int32)) := A37
  have Zs := Nat.le_trans Zs (Keep.of_wr W37).1
  have N37 := Fr.snoc X37 N36 g_b1
  refine Gol.dup X37 hx hby at_170 (pc' := 171) rfl rfl ?_
  refine Gol.bipush X37 hx hby at_171 (pc' := 173) rfl (z := (18 : Int32)) rfl ?_
  refine Gol.lloadN X37 hx hby at_173 (pc' := 174) rfl rfl ?_
  refine Gol.iconst X37 hx hby at_174 (pc' := 175) rfl (z := (2 : Int32)) rfl ?_
  refine Gol.callS X37 hx hby hZ hown 3 [(.long q1), (.int (2 : Int32))] (hw _ (List.mem_of_getElem? (i := 1) rfl)) (hw _ (List.mem_of_getElem? (i := 2) rfl)) (hw _ (List.mem_of_getElem? (i := 3) rfl)) (hw _ (List.mem_of_getElem? (i := 4) rfl)) (by decide) (rm1 l Z a0 hw [] q1 (2 : Int32)  h37 n0 Zs ) (by decide) (by decide) e37 (by rw [hml]; rfl) (rest := [(.int (18 : Int32)), (.ref b1), (.ref b1)]) (Nat.le_of_eq rfl) (by decide) (by decide) (lenOf pd_0 rfl) rfl at_175 (pc' := 178) rfl ?_
  intro T38 v38 L38 X38 hQ38
  obtain ⟨rfl, Nq38, eq38⟩ := hQ38
  have N38 := Fr.app N37 Nq38
  show GolF _ _ _ _ _ _ _ T38 m 178 #[.val (.long q0), .second, .val (.long q1), .second, .val (.int p2), .val (.int p3), .val (.int p4), .val (.int p5), .unset, .unset, .unset, .unset, .unset, .unset, .unset, .unset, .unset, .unset, .unset, .unset, .unset] [(.int (f1 q1 (2 : Int32) )), (.int (18 : Int32)), (.ref b1), (.ref b1)]
  refine Gol.bastore X38 hx hby hZ eq38 V_b1 at_178 (pc' := 179) rfl ⟨by decide, by decide⟩ 18 rfl (Nat.le_of_ble_eq_true rfl) ?_
  intro T39 h39 X39 e39 W39 A39
  have V_b1 : Arv Z h39 b1 k1 .byte (21 : Int32) [(.int (nar .byte (f1 q0 (0 : Int32) ))), (.int (nar .byte (f1 q0 (1 : Int32) ))), (.int (nar .byte (f1 q0 (2 : Int32) ))), (.int (nar .byte (f1 q0 (3 : Int32) ))), (.int (nar .byte (f1 q0 (4 : Int32) ))), (.int (nar .byte (f1 q0 (5 : Int32) ))), (.int (nar .byte (f1 q0 (6 : Int32) ))), (.int (nar .byte (f1 q0 (7 : Int32) ))), (.int (nar .byte (f1 q0 (8 : Int32) ))), (.int (nar .byte (f1 q0 (9 : Int32) ))), (.int (nar .byte (f1 q0 (10 : Int32) ))), (.int (nar .byte (f1 q0 (11 : Int32) ))), (.int (nar .byte (f1 q0 (12 : Int32) ))), (.int (nar .byte (f1 q0 (13 : Int32) ))), (.int (nar .byte (f1 q0 (14 : Int32) ))), (.int (nar .byte (f1 q0 (15 : Int32) ))), (.int (nar .byte (f1 q1 (0 : Int32) ))), (.int (nar .byte (f1 q1 (1 : Int32) ))), (.int (nar .byte (f1 q1 (2 : Int32) ))), (.int (0 : Int32)), (.int (0 : Int32))] (.int (0 : Int32)) := A39
  have Zs := Nat.le_trans Zs (Keep.of_wr W39).1
  have N39 := Fr.snoc X39 N38 g_b1
  refine Gol.dup X39 hx hby at_179 (pc' := 180) rfl rfl ?_
  refine Gol.bipush X39 hx hby at_180 (pc' := 182) rfl (z := (19 : Int32)) rfl ?_
  refine Gol.lloadN X39 hx hby at_182 (pc' := 183) rfl rfl ?_
  refine Gol.iconst X39 hx hby at_183 (pc' := 184) rfl (z := (3 : Int32)) rfl ?_
  refine Gol.callS X39 hx hby hZ hown 3 [(.long q1), (.int (3 : Int32))] (hw _ (List.mem_of_getElem? (i := 1) rfl)) (hw _ (List.mem_of_getElem? (i := 2) rfl)) (hw _ (List.mem_of_getElem? (i := 3) rfl)) (hw _ (List.mem_of_getElem? (i := 4) rfl)) (by decide) (rm1 l Z a0 hw [] q1 (3 : Int32)  h39 n0 Zs ) (by decide) (by decide) e39 (by rw [hml]; rfl) (rest := [(.int (19 : Int32)), (.ref b1), (.ref b1)]) (Nat.le_of_eq rfl) (by decide) (by decide) (lenOf pd_0 rfl) rfl at_184 (pc' := 187) rfl ?_
  intro T40 v40 L40 X40 hQ40
  obtain ⟨rfl, Nq40, eq40⟩ := hQ40
  have N40 := Fr.app N39 Nq40
  show GolF _ _ _ _ _ _ _ T40 m 187 #[.val (.long q0), .second, .val (.long q1), .second, .val (.int p2), .val (.int p3), .val (.int p4), .val (.int p5), .unset, .unset, .unset, .unset, .unset, .unset, .unset, .unset, .unset, .unset, .unset, .unset, .unset] [(.int (f1 q1 (3 : Int32) )), (.int (19 : Int32)), (.ref b1), (.ref b1)]
  refine Gol.bastore X40 hx hby hZ eq40 V_b1 at_187 (pc' := 188) rfl ⟨by decide, by decide⟩ 19 rfl (Nat.le_of_ble_eq_true rfl) ?_
  intro T41 h41 X41 e41 W41 A41
  have V_b1 : Arv Z h41 b1 k1 .byte (21 : Int32) [(.int (nar .byte (f1 q0 (0 : Int32) ))), (.int (nar .byte (f1 q0 (1 : Int32) ))), (.int (nar .byte (f1 q0 (2 : Int32) ))), (.int (nar .byte (f1 q0 (3 : Int32) ))), (.int (nar .byte (f1 q0 (4 : Int32) ))), (.int (nar .byte (f1 q0 (5 : Int32) ))), (.int (nar .byte (f1 q0 (6 : Int32) ))), (.int (nar .byte (f1 q0 (7 : Int32) ))), (.int (nar .byte (f1 q0 (8 : Int32) ))), (.int (nar .byte (f1 q0 (9 : Int32) ))), (.int (nar .byte (f1 q0 (10 : Int32) ))), (.int (nar .byte (f1 q0 (11 : Int32) ))), (.int (nar .byte (f1 q0 (12 : Int32) ))), (.int (nar .byte (f1 q0 (13 : Int32) ))), (.int (nar .byte (f1 q0 (14 : Int32) ))), (.int (nar .byte (f1 q0 (15 : Int32) ))), (.int (nar .byte (f1 q1 (0 : Int32) ))), (.int (nar .byte (f1 q1 (1 : Int32) ))), (.int (nar .byte (f1 q1 (2 : Int32) ))), (.int (nar .byte (f1 q1 (3 : Int32) ))), (.int (0 : Int32))] (.int (0 : Int32)) := A41
  have Zs := Nat.le_trans Zs (Keep.of_wr W41).1
  have N41 := Fr.snoc X41 N40 g_b1
  refine Gol.dup X41 hx hby at_188 (pc' := 189) rfl rfl ?_
  refine Gol.bipush X41 hx hby at_189 (pc' := 191) rfl (z := (20 : Int32)) rfl ?_
  refine Gol.lloadN X41 hx hby at_191 (pc' := 192) rfl rfl ?_
  refine Gol.iconst X41 hx hby at_192 (pc' := 193) rfl (z := (4 : Int32)) rfl ?_
  refine Gol.callS X41 hx hby hZ hown 3 [(.long q1), (.int (4 : Int32))] (hw _ (List.mem_of_getElem? (i := 1) rfl)) (hw _ (List.mem_of_getElem? (i := 2) rfl)) (hw _ (List.mem_of_getElem? (i := 3) rfl)) (hw _ (List.mem_of_getElem? (i := 4) rfl)) (by decide) (rm1 l Z a0 hw [] q1 (4 : Int32)  h41 n0 Zs ) (by decide) (by decide) e41 (by rw [hml]; rfl) (rest := [(.int (20 : Int32)), (.ref b1), (.ref b1)]) (Nat.le_of_eq rfl) (by decide) (by decide) (lenOf pd_0 rfl) rfl at_193 (pc' := 196) rfl ?_
  intro T42 v42 L42 X42 hQ42
  obtain ⟨rfl, Nq42, eq42⟩ := hQ42
  have N42 := Fr.app N41 Nq42
  show GolF _ _ _ _ _ _ _ T42 m 196 #[.val (.long q0), .second, .val (.long q1), .second, .val (.int p2), .val (.int p3), .val (.int p4), .val (.int p5), .unset, .unset, .unset, .unset, .unset, .unset, .unset, .unset, .unset, .unset, .unset, .unset, .unset] [(.int (f1 q1 (4 : Int32) )), (.int (20 : Int32)), (.ref b1), (.ref b1)]
  refine Gol.bastore X42 hx hby hZ eq42 V_b1 at_196 (pc' := 197) rfl ⟨by decide, by decide⟩ 20 rfl (Nat.le_of_ble_eq_true rfl) ?_
  intro T43 h43 X43 e43 W43 A43
  have V_b1 : Arv Z h43 b1 k1 .byte (21 : Int32) [(.int (nar .byte (f1 q0 (0 : Int32) ))), (.int (nar .byte (f1 q0 (1 : Int32) ))), (.int (nar .byte (f1 q0 (2 : Int32) ))), (.int (nar .byte (f1 q0 (3 : Int32) ))), (.int (nar .byte (f1 q0 (4 : Int32) ))), (.int (nar .byte (f1 q0 (5 : Int32) ))), (.int (nar .byte (f1 q0 (6 : Int32) ))), (.int (nar .byte (f1 q0 (7 : Int32) ))), (.int (nar .byte (f1 q0 (8 : Int32) ))), (.int (nar .byte (f1 q0 (9 : Int32) ))), (.int (nar .byte (f1 q0 (10 : Int32) ))), (.int (nar .byte (f1 q0 (11 : Int32) ))), (.int (nar .byte (f1 q0 (12 : Int32) ))), (.int (nar .byte (f1 q0 (13 : Int32) ))), (.int (nar .byte (f1 q0 (14 : Int32) ))), (.int (nar .byte (f1 q0 (15 : Int32) ))), (.int (nar .byte (f1 q1 (0 : Int32) ))), (.int (nar .byte (f1 q1 (1 : Int32) ))), (.int (nar .byte (f1 q1 (2 : Int32) ))), (.int (nar .byte (f1 q1 (3 : Int32) ))), (.int (nar .byte (f1 q1 (4 : Int32) )))] (.int (0 : Int32)) := A43
  have Zs := Nat.le_trans Zs (Keep.of_wr W43).1
  have N43 := Fr.snoc X43 N42 g_b1
  refine Gol.astore X43 hx hby at_197 (pc' := 199) rfl rfl (l' := #[.val (.long q0), .second, .val (.long q1), .second, .val (.int p2), .val (.int p3), .val (.int p4), .val (.int p5), .val (.ref b1), .unset, .unset, .unset, .unset, .unset, .unset, .unset, .unset, .unset, .unset, .unset, .unset]) rfl ?_
  refine Gol.iload X43 hx hby at_199 (pc' := 201) rfl rfl ?_
  refine Gol.ldcInt X43 hx hby hZ hown at_201 (pc' := 203) rfl (hw _ (List.mem_of_getElem? (i := 6) rfl)) ?_
  refine Gol.iand X43 hx hby at_203 (pc' := 204) rfl rfl ?_
  refine Gol.bipush X43 hx hby at_204 (pc' := 206) rfl (z := (21 : Int32)) rfl ?_
  refine Gol.irem X43 hx hby at_206 (pc' := 207) rfl (by decide) ?_
  obtain ⟨ps, hps, eps⟩ := own_rem21 p3
  rw [eps]
  show GolF _ _ _ _ _ _ _ T43 m 207 #[.val (.long q0), .second, .val (.long q1), .second, .val (.int p2), .val (.int p3), .val (.int p4), .val (.int p5), .val (.ref b1), .unset, .unset, .unset, .unset, .unset, .unset, .unset, .unset, .unset, .unset, .unset, .unset] [(.int (Int32.ofNat ps))]
  refine Gol.istore X43 hx hby at_207 (pc' := 209) rfl (l' := #[.val (.long q0), .second, .val (.long q1), .second, .val (.int p2), .val (.int p3), .val (.int p4), .val (.int p5), .val (.ref b1), .val (.int (Int32.ofNat ps)), .unset, .unset, .unset, .unset, .unset, .unset, .unset, .unset, .unset, .unset, .unset]) rfl ?_
  refine Gol.aload X43 hx hby at_209 (pc' := 211) rfl rfl rfl ?_
  refine Gol.iload X43 hx hby at_211 (pc' := 213) rfl rfl ?_
  refine Gol.iload X43 hx hby at_213 (pc' := 215) rfl rfl ?_
  refine Gol.i2b X43 hx hby at_215 (pc' := 216) rfl rfl ?_
  have hvs : Arv Z h43 b1 k1 .byte (21 : Int32) (List.map Value.int [(nar .byte (f1 q0 (0 : Int32) )), (nar .byte (f1 q0 (1 : Int32) )), (nar .byte (f1 q0 (2 : Int32) )), (nar .byte (f1 q0 (3 : Int32) )), (nar .byte (f1 q0 (4 : Int32) )), (nar .byte (f1 q0 (5 : Int32) )), (nar .byte (f1 q0 (6 : Int32) )), (nar .byte (f1 q0 (7 : Int32) )), (nar .byte (f1 q0 (8 : Int32) )), (nar .byte (f1 q0 (9 : Int32) )), (nar .byte (f1 q0 (10 : Int32) )), (nar .byte (f1 q0 (11 : Int32) )), (nar .byte (f1 q0 (12 : Int32) )), (nar .byte (f1 q0 (13 : Int32) )), (nar .byte (f1 q0 (14 : Int32) )), (nar .byte (f1 q0 (15 : Int32) )), (nar .byte (f1 q1 (0 : Int32) )), (nar .byte (f1 q1 (1 : Int32) )), (nar .byte (f1 q1 (2 : Int32) )), (nar .byte (f1 q1 (3 : Int32) )), (nar .byte (f1 q1 (4 : Int32) ))]) (.int (0 : Int32)) := V_b1
  obtain ⟨bs0, hbs0⟩ : ∃ z : List Int32, z = [(nar .byte (f1 q0 (0 : Int32) )), (nar .byte (f1 q0 (1 : Int32) )), (nar .byte (f1 q0 (2 : Int32) )), (nar .byte (f1 q0 (3 : Int32) )), (nar .byte (f1 q0 (4 : Int32) )), (nar .byte (f1 q0 (5 : Int32) )), (nar .byte (f1 q0 (6 : Int32) )), (nar .byte (f1 q0 (7 : Int32) )), (nar .byte (f1 q0 (8 : Int32) )), (nar .byte (f1 q0 (9 : Int32) )), (nar .byte (f1 q0 (10 : Int32) )), (nar .byte (f1 q0 (11 : Int32) )), (nar .byte (f1 q0 (12 : Int32) )), (nar .byte (f1 q0 (13 : Int32) )), (nar .byte (f1 q0 (14 : Int32) )), (nar .byte (f1 q0 (15 : Int32) )), (nar .byte (f1 q1 (0 : Int32) )), (nar .byte (f1 q1 (1 : Int32) )), (nar .byte (f1 q1 (2 : Int32) )), (nar .byte (f1 q1 (3 : Int32) )), (nar .byte (f1 q1 (4 : Int32) ))] := ⟨_, rfl⟩
  have hl0 : bs0.length = 21 := by rw [hbs0]; rfl
  rw [← hbs0] at hvs
  have V_b1 := hvs
  refine Gol.bastore X43 hx hby hZ e43 V_b1 at_216 (pc' := 217) rfl (own_in hps) ps (own_n32 (by omega)) (by rw [List.length_map, hl0]; exact hps) ?_
  intro T44 h44 X44 e44 W44 A44
  have V_b1 : Arv Z h44 b1 k1 .byte (21 : Int32) (List.map Value.int (bs0.set ps (nar .byte (p2.toInt8.toInt32)))) (.int (0 : Int32)) := (own_mset bs0 ps (nar .byte (p2.toInt8.toInt32))) ▸ (A44)
  have Zs := Nat.le_trans Zs (Keep.of_wr W44).1
  have N44 := Fr.snoc X44 N43 g_b1
  obtain ⟨bs, hbs⟩ : ∃ z : List Int32, z = (bs0.set ps (nar .byte (p2.toInt8.toInt32))) := ⟨_, rfl⟩
  rw [← hbs] at V_b1
  refine Gol.iload X44 hx hby at_217 (pc' := 219) rfl rfl ?_
  refine Gol.ldcInt X44 hx hby hZ hown at_219 (pc' := 221) rfl (hw _ (List.mem_of_getElem? (i := 6) rfl)) ?_
  refine Gol.iand X44 hx hby at_221 (pc' := 222) rfl rfl ?_
  refine Gol.bipush X44 hx hby at_222 (pc' := 224) rfl (z := (21 : Int32)) rfl ?_
  refine Gol.irem X44 hx hby at_224 (pc' := 225) rfl (by decide) ?_
  obtain ⟨fr, hfr, efr⟩ := own_rem21 p4
  rw [efr]
  show GolF _ _ _ _ _ _ _ T44 m 225 #[.val (.long q0), .second, .val (.long q1), .second, .val (.int p2), .val (.int p3), .val (.int p4), .val (.int p5), .val (.ref b1), .val (.int (Int32.ofNat ps)), .unset, .unset, .unset, .unset, .unset, .unset, .unset, .unset, .unset, .unset, .unset] [(.int (Int32.ofNat fr))]
  refine Gol.istore X44 hx hby at_225 (pc' := 227) rfl (l' := #[.val (.long q0), .second, .val (.long q1), .second, .val (.int p2), .val (.int p3), .val (.int p4), .val (.int p5), .val (.ref b1), .val (.int (Int32.ofNat ps)), .val (.int (Int32.ofNat fr)), .unset, .unset, .unset, .unset, .unset, .unset, .unset, .unset, .unset, .unset]) rfl ?_
  refine Gol.iload X44 hx hby at_227 (pc' := 229) rfl rfl ?_
  refine Gol.iload X44 hx hby at_229 (pc' := 231) rfl rfl ?_
  refine Gol.ldcInt X44 hx hby hZ hown at_231 (pc' := 233) rfl (hw _ (List.mem_of_getElem? (i := 6) rfl)) ?_
  refine Gol.iand X44 hx hby at_233 (pc' := 234) rfl rfl ?_
  refine Gol.bipush X44 hx hby at_234 (pc' := 236) rfl (z := (21 : Int32)) rfl ?_
  refine Gol.iload X44 hx hby at_236 (pc' := 238) rfl rfl ?_
  refine Gol.isub X44 hx hby at_238 (pc' := 239) rfl rfl ?_
  rw [show (21 : Int32) - Int32.ofNat fr = Int32.ofNat (21 - fr) from own_sub (a := 21) (by omega) (by omega)]
  show GolF _ _ _ _ _ _ _ T44 m 239 #[.val (.long q0), .second, .val (.long q1), .second, .val (.int p2), .val (.int p3), .val (.int p4), .val (.int p5), .val (.ref b1), .val (.int (Int32.ofNat ps)), .val (.int (Int32.ofNat fr)), .unset, .unset, .unset, .unset, .unset, .unset, .unset, .unset, .unset, .unset] [(.int (Int32.ofNat (21 - fr))), (.int (p5 &&& (2147483647 : Int32))), (.int (Int32.ofNat fr))]
  refine Gol.irem X44 hx hby at_239 (pc' := 240) rfl (own_ne0 (by omega) (by omega)) ?_
  obtain ⟨rr, hrr, err⟩ := own_rem p5 (21 - fr) (by omega) (by omega)
  rw [err]
  show GolF _ _ _ _ _ _ _ T44 m 240 #[.val (.long q0), .second, .val (.long q1), .second, .val (.int p2), .val (.int p3), .val (.int p4), .val (.int p5), .val (.ref b1), .val (.int (Int32.ofNat ps)), .val (.int (Int32.ofNat fr)), .unset, .unset, .unset, .unset, .unset, .unset, .unset, .unset, .unset, .unset] [(.int (Int32.ofNat rr)), (.int (Int32.ofNat fr))]
  refine Gol.iadd X44 hx hby at_240 (pc' := 241) rfl rfl ?_
  rw [own_add]
  show GolF _ _ _ _ _ _ _ T44 m 241 #[.val (.long q0), .second, .val (.long q1), .second, .val (.int p2), .val (.int p3), .val (.int p4), .val (.int p5), .val (.ref b1), .val (.int (Int32.ofNat ps)), .val (.int (Int32.ofNat fr)), .unset, .unset, .unset, .unset, .unset, .unset, .unset, .unset, .unset, .unset] [(.int (Int32.ofNat (fr + rr)))]
  refine Gol.istore X44 hx hby at_241 (pc' := 243) rfl (l' := #[.val (.long q0), .second, .val (.long q1), .second, .val (.int p2), .val (.int p3), .val (.int p4), .val (.int p5), .val (.ref b1), .val (.int (Int32.ofNat ps)), .val (.int (Int32.ofNat fr)), .val (.int (Int32.ofNat (fr + rr))), .unset, .unset, .unset, .unset, .unset, .unset, .unset, .unset, .unset]) rfl ?_
  refine Gol.aload X44 hx hby at_243 (pc' := 245) rfl rfl rfl ?_
  refine Gol.iload X44 hx hby at_245 (pc' := 247) rfl rfl ?_
  refine Gol.iload X44 hx hby at_247 (pc' := 249) rfl rfl ?_
  refine Gol.callS X44 hx hby hZ hown 0 [(.ref b1), (.int (Int32.ofNat fr)), (.int (Int32.ofNat (fr + rr)))] (hw _ (List.mem_of_getElem? (i := 7) rfl)) (hw _ (List.mem_of_getElem? (i := 8) rfl)) (hw _ (List.mem_of_getElem? (i := 9) rfl)) (hw _ (List.mem_of_getElem? (i := 10) rfl)) (by decide) (rm2 l Z a0 hw [] b1 (Int32.ofNat fr) (Int32.ofNat (fr + rr)) k1 bs fr (fr + rr) h44 n0 Zs rfl rfl (by omega) (by omega) V_b1) (by decide) (by decide) e44 (by rw [hml]; rfl) (rest := []) (Nat.le_of_eq rfl) (by decide) (by decide) (lenOf pd_1 rfl) rfl at_249 (pc' := 252) rfl ?_
  intro T45 v45 L45 X45 hQ45
  obtain ⟨rfl, Nq45, eq45⟩ := hQ45
  have N45 := Fr.app N44 Nq45
  show GolF _ _ _ _ _ _ _ T45 m 252 #[.val (.long q0), .second, .val (.long q1), .second, .val (.int p2), .val (.int p3), .val (.int p4), .val (.int p5), .val (.ref b1), .val (.int (Int32.ofNat ps)), .val (.int (Int32.ofNat fr)), .val (.int (Int32.ofNat (fr + rr))), .unset, .unset, .unset, .unset, .unset, .unset, .unset, .unset, .unset] [(.long (own_dec bs fr (fr + rr)))]
  refine Gol.lstore X45 hx hby at_252 (pc' := 254) rfl (l' := #[.val (.long q0), .second, .val (.long q1), .second, .val (.int p2), .val (.int p3), .val (.int p4), .val (.int p5), .val (.ref b1), .val (.int (Int32.ofNat ps)), .val (.int (Int32.ofNat fr)), .val (.int (Int32.ofNat (fr + rr))), .val (.long (own_dec bs fr (fr + rr))), .second, .unset, .unset, .unset, .unset, .unset, .unset, .unset]) rfl ?_
  refine Gol.aload X45 hx hby at_254 (pc' := 256) rfl rfl rfl ?_
  refine Gol.iload X45 hx hby at_256 (pc' := 258) rfl rfl ?_
  refine Gol.iload X45 hx hby at_258 (pc' := 260) rfl rfl ?_
  refine Gol.iconst X45 hx hby at_260 (pc' := 261) rfl (z := (1 : Int32)) rfl ?_
  refine Gol.iadd X45 hx hby at_261 (pc' := 262) rfl rfl ?_
  rw [own_one]
  show GolF _ _ _ _ _ _ _ T45 m 262 #[.val (.long q0), .second, .val (.long q1), .second, .val (.int p2), .val (.int p3), .val (.int p4), .val (.int p5), .val (.ref b1), .val (.int (Int32.ofNat ps)), .val (.int (Int32.ofNat fr)), .val (.int (Int32.ofNat (fr + rr))), .val (.long (own_dec bs fr (fr + rr))), .second, .unset, .unset, .unset, .unset, .unset, .unset, .unset] [(.int (Int32.ofNat (fr + rr + 1))), (.int (Int32.ofNat fr)), (.ref b1)]
  refine Gol.callS X45 hx hby hZ hown 0 [(.ref b1), (.int (Int32.ofNat fr)), (.int (Int32.ofNat (fr + rr + 1)))] (hw _ (List.mem_of_getElem? (i := 7) rfl)) (hw _ (List.mem_of_getElem? (i := 8) rfl)) (hw _ (List.mem_of_getElem? (i := 9) rfl)) (hw _ (List.mem_of_getElem? (i := 10) rfl)) (by decide) (rm2 l Z a0 hw [] b1 (Int32.ofNat fr) (Int32.ofNat (fr + rr + 1)) k1 bs fr (fr + rr + 1) h44 n0 Zs rfl rfl (by omega) (by omega) V_b1) (by decide) (by decide) eq45 (by rw [hml]; rfl) (rest := []) (Nat.le_of_eq rfl) (by decide) (by decide) (lenOf pd_1 rfl) rfl at_262 (pc' := 265) rfl ?_
  intro T46 v46 L46 X46 hQ46
  obtain ⟨rfl, Nq46, eq46⟩ := hQ46
  have N46 := Fr.app N45 Nq46
  show GolF _ _ _ _ _ _ _ T46 m 265 #[.val (.long q0), .second, .val (.long q1), .second, .val (.int p2), .val (.int p3), .val (.int p4), .val (.int p5), .val (.ref b1), .val (.int (Int32.ofNat ps)), .val (.int (Int32.ofNat fr)), .val (.int (Int32.ofNat (fr + rr))), .val (.long (own_dec bs fr (fr + rr))), .second, .unset, .unset, .unset, .unset, .unset, .unset, .unset] [(.long (own_dec bs fr (fr + rr + 1)))]
  refine Gol.lstore X46 hx hby at_265 (pc' := 267) rfl (l' := #[.val (.long q0), .second, .val (.long q1), .second, .val (.int p2), .val (.int p3), .val (.int p4), .val (.int p5), .val (.ref b1), .val (.int (Int32.ofNat ps)), .val (.int (Int32.ofNat fr)), .val (.int (Int32.ofNat (fr + rr))), .val (.long (own_dec bs fr (fr + rr))), .second, .val (.long (own_dec bs fr (fr + rr + 1))), .second, .unset, .unset, .unset, .unset, .unset]) rfl ?_
  refine Gol.aload X46 hx hby at_267 (pc' := 269) rfl rfl rfl ?_
  refine Gol.iload X46 hx hby at_269 (pc' := 271) rfl rfl ?_
  refine Gol.baload X46 hx hby hZ eq46 V_b1 at_271 (pc' := 272) rfl (own_in (by omega)) (v := (bs.getD (fr + rr) 0)) (own_at bs (by omega)) ?_
  refine Gol.istore X46 hx hby at_272 (pc' := 274) rfl (l' := #[.val (.long q0), .second, .val (.long q1), .second, .val (.int p2), .val (.int p3), .val (.int p4), .val (.int p5), .val (.ref b1), .val (.int (Int32.ofNat ps)), .val (.int (Int32.ofNat fr)), .val (.int (Int32.ofNat (fr + rr))), .val (.long (own_dec bs fr (fr + rr))), .second, .val (.long (own_dec bs fr (fr + rr + 1))), .second, .val (.int (bs.getD (fr + rr) 0)), .unset, .unset, .unset, .unset]) rfl ?_
  refine Gol.iload X46 hx hby at_274 (pc' := 276) rfl rfl ?_
  refine Gol.bipush X46 hx hby at_276 (pc' := 278) rfl (z := (48 : Int32)) rfl ?_
  refine Gol.isub X46 hx hby at_278 (pc' := 279) rfl rfl ?_
  refine Gol.istore X46 hx hby at_279 (pc' := 281) rfl (l' := #[.val (.long q0), .second, .val (.long q1), .second, .val (.int p2), .val (.int p3), .val (.int p4), .val (.int p5), .val (.ref b1), .val (.int (Int32.ofNat ps)), .val (.int (Int32.ofNat fr)), .val (.int (Int32.ofNat (fr + rr))), .val (.long (own_dec bs fr (fr + rr))), .second, .val (.long (own_dec bs fr (fr + rr + 1))), .second, .val (.int (bs.getD (fr + rr) 0)), .val (.int ((bs.getD (fr + rr) 0) - (48 : Int32))), .unset, .unset, .unset]) rfl ?_
  refine Gol.iload X46 hx hby at_281 (pc' := 283) rfl rfl ?_
  refine Gol.bipush X46 hx hby at_283 (pc' := 285) rfl (z := (48 : Int32)) rfl ?_
  by_cases hc285_47 : (bs.getD (fr + rr) 0) < (48 : Int32)
  · skip
    refine Gol.icmpYes X46 hx hby at_285 (pc' := 299) (by decide) (tlt hc285_47).1 ?_
    refine Gol.iconst X46 hx hby at_299 (pc' := 300) rfl (z := (0 : Int32)) rfl ?_
    refine Gol.istore X46 hx hby at_300 (pc' := 302) rfl (l' := #[.val (.long q0), .second, .val (.long q1), .second, .val (.int p2), .val (.int p3), .val (.int p4), .val (.int p5), .val (.ref b1), .val (.int (Int32.ofNat ps)), .val (.int (Int32.ofNat fr)), .val (.int (Int32.ofNat (fr + rr))), .val (.long (own_dec bs fr (fr + rr))), .second, .val (.long (own_dec bs fr (fr + rr + 1))), .second, .val (.int (bs.getD (fr + rr) 0)), .val (.int ((bs.getD (fr + rr) 0) - (48 : Int32))), .val (.int (0 : Int32)), .unset, .unset]) rfl ?_
    refine Gol.iload X46 hx hby at_302 (pc' := 304) rfl rfl ?_
    refine Gol.iload X46 hx hby at_304 (pc' := 306) rfl rfl ?_
    by_cases hc306_48 : (Int32.ofNat (fr + rr)) = (Int32.ofNat fr)
    · skip
      refine Gol.icmpNo X46 hx hby at_306 (pc' := 309) rfl (teq hc306_48).2 ?_
      refine Gol.lload X46 hx hby at_309 (pc' := 311) rfl rfl ?_
      refine Gol.ldc2Long X46 hx hby hZ hown at_311 (pc' := 314) rfl (hw _ (List.mem_of_getElem? (i := 16) rfl)) ?_
      refine Gol.lcmp X46 hx hby at_314 (pc' := 315) rfl ?_
      refine Gol.ifNo X46 hx hby at_315 (pc' := 318) rfl (teqL (own_l1 (by omega) hc306_48)).2 ?_
      refine Gol.lload X46 hx hby at_318 (pc' := 320) rfl rfl ?_
      refine Gol.iload X46 hx hby at_320 (pc' := 322) rfl rfl ?_
      refine Gol.ifYes X46 hx hby at_322 (pc' := 331) (by decide) ((if0 _ _).trans (teq (by decide : (0 : Int32) = (0 : Int32))).1) ?_
      refine Gol.ldc2Long X46 hx hby hZ hown at_331 (pc' := 334) rfl (hw _ (List.mem_of_getElem? (i := 16) rfl)) ?_
      refine Gol.lcmp X46 hx hby at_334 (pc' := 335) rfl ?_
      refine Gol.ifNo X46 hx hby at_335 (pc' := 338) rfl (teqL (own_l3 (by omega) hc306_48 (Or.inl hc285_47))).2 ?_
      refine Gol.iconst X46 hx hby at_338 (pc' := 339) rfl (z := (1 : Int32)) rfl ?_
      refine Gol.goto X46 hx hby at_339 (pc' := 343) (by decide) ?_
      exact Gol.retN X46 hx hby (t := .boolean) Bd.returns (by simp) Bd.notSynchronized at_343 eq46 ⟨rfl, N46⟩ (by decide) (by decide)
    · skip
      refine Gol.icmpYes X46 hx hby at_306 (pc' := 344) (by decide) (feq hc306_48).2 ?_
      refine Gol.lload X46 hx hby at_344 (pc' := 346) rfl rfl ?_
      refine Gol.lconst X46 hx hby at_346 (pc' := 347) rfl (z := (0 : Int64)) rfl ?_
      refine Gol.lcmp X46 hx hby at_347 (pc' := 348) rfl ?_
      by_cases hc348_49 : (own_dec bs fr (fr + rr)) < (0 : Int64)
      · skip
        refine Gol.ifYes X46 hx hby at_348 (pc' := 363) (by decide) (tltL hc348_49).1 ?_
        refine Gol.lload X46 hx hby at_363 (pc' := 365) rfl rfl ?_
        refine Gol.ldc2Long X46 hx hby hZ hown at_365 (pc' := 368) rfl (hw _ (List.mem_of_getElem? (i := 16) rfl)) ?_
        refine Gol.lcmp X46 hx hby at_368 (pc' := 369) rfl ?_
        refine Gol.ifNo X46 hx hby at_369 (pc' := 372) rfl (teqL (own_l4 hc306_48 (Or.inl hc348_49))).2 ?_
        refine Gol.iconst X46 hx hby at_372 (pc' := 373) rfl (z := (1 : Int32)) rfl ?_
        refine Gol.goto X46 hx hby at_373 (pc' := 377) (by decide) ?_
        exact Gol.retN X46 hx hby (t := .boolean) Bd.returns (by simp) Bd.notSynchronized at_377 eq46 ⟨rfl, N46⟩ (by decide) (by decide)
      · skip
        refine Gol.ifNo X46 hx hby at_348 (pc' := 351) rfl (fltL hc348_49).1 ?_
        refine Gol.lload X46 hx hby at_351 (pc' := 353) rfl rfl ?_
        refine Gol.lconst X46 hx hby at_353 (pc' := 354) rfl (z := (0 : Int64)) rfl ?_
        refine Gol.lcmp X46 hx hby at_354 (pc' := 355) rfl ?_
        by_cases hc355_50 : (own_dec bs fr (fr + rr)) = (0 : Int64)
        · skip
          refine Gol.ifYes X46 hx hby at_355 (pc' := 363) (by decide) (teqL hc355_50).1 ?_
          refine Gol.lload X46 hx hby at_363 (pc' := 365) rfl rfl ?_
          refine Gol.ldc2Long X46 hx hby hZ hown at_365 (pc' := 368) rfl (hw _ (List.mem_of_getElem? (i := 16) rfl)) ?_
          refine Gol.lcmp X46 hx hby at_368 (pc' := 369) rfl ?_
          refine Gol.ifNo X46 hx hby at_369 (pc' := 372) rfl (teqL (own_l4 hc306_48 (Or.inr hc355_50))).2 ?_
          refine Gol.iconst X46 hx hby at_372 (pc' := 373) rfl (z := (1 : Int32)) rfl ?_
          refine Gol.goto X46 hx hby at_373 (pc' := 377) (by decide) ?_
          exact Gol.retN X46 hx hby (t := .boolean) Bd.returns (by simp) Bd.notSynchronized at_377 eq46 ⟨rfl, N46⟩ (by decide) (by decide)
        · skip
          refine Gol.ifNo X46 hx hby at_355 (pc' := 358) rfl (feqL hc355_50).1 ?_
          refine Gol.iload X46 hx hby at_358 (pc' := 360) rfl rfl ?_
          refine Gol.ifNo X46 hx hby at_360 (pc' := 363) rfl ((if0 _ _).trans (teq (by decide : (0 : Int32) = (0 : Int32))).2) ?_
          refine Gol.lload X46 hx hby at_363 (pc' := 365) rfl rfl ?_
          refine Gol.ldc2Long X46 hx hby hZ hown at_365 (pc' := 368) rfl (hw _ (List.mem_of_getElem? (i := 16) rfl)) ?_
          refine Gol.lcmp X46 hx hby at_368 (pc' := 369) rfl ?_
          refine Gol.ifNo X46 hx hby at_369 (pc' := 372) rfl (teqL (own_l5 hc306_48 (Or.inl hc285_47))).2 ?_
          refine Gol.iconst X46 hx hby at_372 (pc' := 373) rfl (z := (1 : Int32)) rfl ?_
          refine Gol.goto X46 hx hby at_373 (pc' := 377) (by decide) ?_
          exact Gol.retN X46 hx hby (t := .boolean) Bd.returns (by simp) Bd.notSynchronized at_377 eq46 ⟨rfl, N46⟩ (by decide) (by decide)
  · skip
    refine Gol.icmpNo X46 hx hby at_285 (pc' := 288) rfl (flt hc285_47).1 ?_
    refine Gol.iload X46 hx hby at_288 (pc' := 290) rfl rfl ?_
    refine Gol.bipush X46 hx hby at_290 (pc' := 292) rfl (z := (57 : Int32)) rfl ?_
    by_cases hc292_51 : (57 : Int32) < (bs.getD (fr + rr) 0)
    · skip
      refine Gol.icmpYes X46 hx hby at_292 (pc' := 299) (by decide) (tlt hc292_51).2.2.1 ?_
      refine Gol.iconst X46 hx hby at_299 (pc' := 300) rfl (z := (0 : Int32)) rfl ?_
      refine Gol.istore X46 hx hby at_300 (pc' := 302) rfl (l' := #[.val (.long q0), .second, .val (.long q1), .second, .val (.int p2), .val (.int p3), .val (.int p4), .val (.int p5), .val (.ref b1), .val (.int (Int32.ofNat ps)), .val (.int (Int32.ofNat fr)), .val (.int (Int32.ofNat (fr + rr))), .val (.long (own_dec bs fr (fr + rr))), .second, .val (.long (own_dec bs fr (fr + rr + 1))), .second, .val (.int (bs.getD (fr + rr) 0)), .val (.int ((bs.getD (fr + rr) 0) - (48 : Int32))), .val (.int (0 : Int32)), .unset, .unset]) rfl ?_
      refine Gol.iload X46 hx hby at_302 (pc' := 304) rfl rfl ?_
      refine Gol.iload X46 hx hby at_304 (pc' := 306) rfl rfl ?_
      by_cases hc306_52 : (Int32.ofNat (fr + rr)) = (Int32.ofNat fr)
      · skip
        refine Gol.icmpNo X46 hx hby at_306 (pc' := 309) rfl (teq hc306_52).2 ?_
        refine Gol.lload X46 hx hby at_309 (pc' := 311) rfl rfl ?_
        refine Gol.ldc2Long X46 hx hby hZ hown at_311 (pc' := 314) rfl (hw _ (List.mem_of_getElem? (i := 16) rfl)) ?_
        refine Gol.lcmp X46 hx hby at_314 (pc' := 315) rfl ?_
        refine Gol.ifNo X46 hx hby at_315 (pc' := 318) rfl (teqL (own_l1 (by omega) hc306_52)).2 ?_
        refine Gol.lload X46 hx hby at_318 (pc' := 320) rfl rfl ?_
        refine Gol.iload X46 hx hby at_320 (pc' := 322) rfl rfl ?_
        refine Gol.ifYes X46 hx hby at_322 (pc' := 331) (by decide) ((if0 _ _).trans (teq (by decide : (0 : Int32) = (0 : Int32))).1) ?_
        refine Gol.ldc2Long X46 hx hby hZ hown at_331 (pc' := 334) rfl (hw _ (List.mem_of_getElem? (i := 16) rfl)) ?_
        refine Gol.lcmp X46 hx hby at_334 (pc' := 335) rfl ?_
        refine Gol.ifNo X46 hx hby at_335 (pc' := 338) rfl (teqL (own_l3 (by omega) hc306_52 (Or.inr hc292_51))).2 ?_
        refine Gol.iconst X46 hx hby at_338 (pc' := 339) rfl (z := (1 : Int32)) rfl ?_
        refine Gol.goto X46 hx hby at_339 (pc' := 343) (by decide) ?_
        exact Gol.retN X46 hx hby (t := .boolean) Bd.returns (by simp) Bd.notSynchronized at_343 eq46 ⟨rfl, N46⟩ (by decide) (by decide)
      · skip
        refine Gol.icmpYes X46 hx hby at_306 (pc' := 344) (by decide) (feq hc306_52).2 ?_
        refine Gol.lload X46 hx hby at_344 (pc' := 346) rfl rfl ?_
        refine Gol.lconst X46 hx hby at_346 (pc' := 347) rfl (z := (0 : Int64)) rfl ?_
        refine Gol.lcmp X46 hx hby at_347 (pc' := 348) rfl ?_
        by_cases hc348_53 : (own_dec bs fr (fr + rr)) < (0 : Int64)
        · skip
          refine Gol.ifYes X46 hx hby at_348 (pc' := 363) (by decide) (tltL hc348_53).1 ?_
          refine Gol.lload X46 hx hby at_363 (pc' := 365) rfl rfl ?_
          refine Gol.ldc2Long X46 hx hby hZ hown at_365 (pc' := 368) rfl (hw _ (List.mem_of_getElem? (i := 16) rfl)) ?_
          refine Gol.lcmp X46 hx hby at_368 (pc' := 369) rfl ?_
          refine Gol.ifNo X46 hx hby at_369 (pc' := 372) rfl (teqL (own_l4 hc306_52 (Or.inl hc348_53))).2 ?_
          refine Gol.iconst X46 hx hby at_372 (pc' := 373) rfl (z := (1 : Int32)) rfl ?_
          refine Gol.goto X46 hx hby at_373 (pc' := 377) (by decide) ?_
          exact Gol.retN X46 hx hby (t := .boolean) Bd.returns (by simp) Bd.notSynchronized at_377 eq46 ⟨rfl, N46⟩ (by decide) (by decide)
        · skip
          refine Gol.ifNo X46 hx hby at_348 (pc' := 351) rfl (fltL hc348_53).1 ?_
          refine Gol.lload X46 hx hby at_351 (pc' := 353) rfl rfl ?_
          refine Gol.lconst X46 hx hby at_353 (pc' := 354) rfl (z := (0 : Int64)) rfl ?_
          refine Gol.lcmp X46 hx hby at_354 (pc' := 355) rfl ?_
          by_cases hc355_54 : (own_dec bs fr (fr + rr)) = (0 : Int64)
          · skip
            refine Gol.ifYes X46 hx hby at_355 (pc' := 363) (by decide) (teqL hc355_54).1 ?_
            refine Gol.lload X46 hx hby at_363 (pc' := 365) rfl rfl ?_
            refine Gol.ldc2Long X46 hx hby hZ hown at_365 (pc' := 368) rfl (hw _ (List.mem_of_getElem? (i := 16) rfl)) ?_
            refine Gol.lcmp X46 hx hby at_368 (pc' := 369) rfl ?_
            refine Gol.ifNo X46 hx hby at_369 (pc' := 372) rfl (teqL (own_l4 hc306_52 (Or.inr hc355_54))).2 ?_
            refine Gol.iconst X46 hx hby at_372 (pc' := 373) rfl (z := (1 : Int32)) rfl ?_
            refine Gol.goto X46 hx hby at_373 (pc' := 377) (by decide) ?_
            exact Gol.retN X46 hx hby (t := .boolean) Bd.returns (by simp) Bd.notSynchronized at_377 eq46 ⟨rfl, N46⟩ (by decide) (by decide)
          · skip
            refine Gol.ifNo X46 hx hby at_355 (pc' := 358) rfl (feqL hc355_54).1 ?_
            refine Gol.iload X46 hx hby at_358 (pc' := 360) rfl rfl ?_
            refine Gol.ifNo X46 hx hby at_360 (pc' := 363) rfl ((if0 _ _).trans (teq (by decide : (0 : Int32) = (0 : Int32))).2) ?_
            refine Gol.lload X46 hx hby at_363 (pc' := 365) rfl rfl ?_
            refine Gol.ldc2Long X46 hx hby hZ hown at_365 (pc' := 368) rfl (hw _ (List.mem_of_getElem? (i := 16) rfl)) ?_
            refine Gol.lcmp X46 hx hby at_368 (pc' := 369) rfl ?_
            refine Gol.ifNo X46 hx hby at_369 (pc' := 372) rfl (teqL (own_l5 hc306_52 (Or.inr hc292_51))).2 ?_
            refine Gol.iconst X46 hx hby at_372 (pc' := 373) rfl (z := (1 : Int32)) rfl ?_
            refine Gol.goto X46 hx hby at_373 (pc' := 377) (by decide) ?_
            exact Gol.retN X46 hx hby (t := .boolean) Bd.returns (by simp) Bd.notSynchronized at_377 eq46 ⟨rfl, N46⟩ (by decide) (by decide)
    · skip
      refine Gol.icmpNo X46 hx hby at_292 (pc' := 295) rfl (flt hc292_51).2.2.1 ?_
      refine Gol.iconst X46 hx hby at_295 (pc' := 296) rfl (z := (1 : Int32)) rfl ?_
      refine Gol.goto X46 hx hby at_296 (pc' := 300) (by decide) ?_
      refine Gol.istore X46 hx hby at_300 (pc' := 302) rfl (l' := #[.val (.long q0), .second, .val (.long q1), .second, .val (.int p2), .val (.int p3), .val (.int p4), .val (.int p5), .val (.ref b1), .val (.int (Int32.ofNat ps)), .val (.int (Int32.ofNat fr)), .val (.int (Int32.ofNat (fr + rr))), .val (.long (own_dec bs fr (fr + rr))), .second, .val (.long (own_dec bs fr (fr + rr + 1))), .second, .val (.int (bs.getD (fr + rr) 0)), .val (.int ((bs.getD (fr + rr) 0) - (48 : Int32))), .val (.int (1 : Int32)), .unset, .unset]) rfl ?_
      refine Gol.iload X46 hx hby at_302 (pc' := 304) rfl rfl ?_
      refine Gol.iload X46 hx hby at_304 (pc' := 306) rfl rfl ?_
      by_cases hc306_55 : (Int32.ofNat (fr + rr)) = (Int32.ofNat fr)
      · skip
        refine Gol.icmpNo X46 hx hby at_306 (pc' := 309) rfl (teq hc306_55).2 ?_
        refine Gol.lload X46 hx hby at_309 (pc' := 311) rfl rfl ?_
        refine Gol.ldc2Long X46 hx hby hZ hown at_311 (pc' := 314) rfl (hw _ (List.mem_of_getElem? (i := 16) rfl)) ?_
        refine Gol.lcmp X46 hx hby at_314 (pc' := 315) rfl ?_
        refine Gol.ifNo X46 hx hby at_315 (pc' := 318) rfl (teqL (own_l1 (by omega) hc306_55)).2 ?_
        refine Gol.lload X46 hx hby at_318 (pc' := 320) rfl rfl ?_
        refine Gol.iload X46 hx hby at_320 (pc' := 322) rfl rfl ?_
        refine Gol.ifNo X46 hx hby at_322 (pc' := 325) rfl ((if0 _ _).trans (feq (by decide : ¬ ((1 : Int32) = (0 : Int32)))).1) ?_
        refine Gol.iload X46 hx hby at_325 (pc' := 327) rfl rfl ?_
        refine Gol.i2l X46 hx hby at_327 (pc' := 328) rfl rfl ?_
        refine Gol.goto X46 hx hby at_328 (pc' := 334) (by decide) ?_
        refine Gol.lcmp X46 hx hby at_334 (pc' := 335) rfl ?_
        refine Gol.ifNo X46 hx hby at_335 (pc' := 338) rfl (teqL (own_l2 (by omega) hc306_55 hc285_47 hc292_51)).2 ?_
        refine Gol.iconst X46 hx hby at_338 (pc' := 339) rfl (z := (1 : Int32)) rfl ?_
        refine Gol.goto X46 hx hby at_339 (pc' := 343) (by decide) ?_
        exact Gol.retN X46 hx hby (t := .boolean) Bd.returns (by simp) Bd.notSynchronized at_343 eq46 ⟨rfl, N46⟩ (by decide) (by decide)
      · skip
        refine Gol.icmpYes X46 hx hby at_306 (pc' := 344) (by decide) (feq hc306_55).2 ?_
        refine Gol.lload X46 hx hby at_344 (pc' := 346) rfl rfl ?_
        refine Gol.lconst X46 hx hby at_346 (pc' := 347) rfl (z := (0 : Int64)) rfl ?_
        refine Gol.lcmp X46 hx hby at_347 (pc' := 348) rfl ?_
        by_cases hc348_56 : (own_dec bs fr (fr + rr)) < (0 : Int64)
        · skip
          refine Gol.ifYes X46 hx hby at_348 (pc' := 363) (by decide) (tltL hc348_56).1 ?_
          refine Gol.lload X46 hx hby at_363 (pc' := 365) rfl rfl ?_
          refine Gol.ldc2Long X46 hx hby hZ hown at_365 (pc' := 368) rfl (hw _ (List.mem_of_getElem? (i := 16) rfl)) ?_
          refine Gol.lcmp X46 hx hby at_368 (pc' := 369) rfl ?_
          refine Gol.ifNo X46 hx hby at_369 (pc' := 372) rfl (teqL (own_l4 hc306_55 (Or.inl hc348_56))).2 ?_
          refine Gol.iconst X46 hx hby at_372 (pc' := 373) rfl (z := (1 : Int32)) rfl ?_
          refine Gol.goto X46 hx hby at_373 (pc' := 377) (by decide) ?_
          exact Gol.retN X46 hx hby (t := .boolean) Bd.returns (by simp) Bd.notSynchronized at_377 eq46 ⟨rfl, N46⟩ (by decide) (by decide)
        · skip
          refine Gol.ifNo X46 hx hby at_348 (pc' := 351) rfl (fltL hc348_56).1 ?_
          refine Gol.lload X46 hx hby at_351 (pc' := 353) rfl rfl ?_
          refine Gol.lconst X46 hx hby at_353 (pc' := 354) rfl (z := (0 : Int64)) rfl ?_
          refine Gol.lcmp X46 hx hby at_354 (pc' := 355) rfl ?_
          by_cases hc355_57 : (own_dec bs fr (fr + rr)) = (0 : Int64)
          · skip
            refine Gol.ifYes X46 hx hby at_355 (pc' := 363) (by decide) (teqL hc355_57).1 ?_
            refine Gol.lload X46 hx hby at_363 (pc' := 365) rfl rfl ?_
            refine Gol.ldc2Long X46 hx hby hZ hown at_365 (pc' := 368) rfl (hw _ (List.mem_of_getElem? (i := 16) rfl)) ?_
            refine Gol.lcmp X46 hx hby at_368 (pc' := 369) rfl ?_
            refine Gol.ifNo X46 hx hby at_369 (pc' := 372) rfl (teqL (own_l4 hc306_55 (Or.inr hc355_57))).2 ?_
            refine Gol.iconst X46 hx hby at_372 (pc' := 373) rfl (z := (1 : Int32)) rfl ?_
            refine Gol.goto X46 hx hby at_373 (pc' := 377) (by decide) ?_
            exact Gol.retN X46 hx hby (t := .boolean) Bd.returns (by simp) Bd.notSynchronized at_377 eq46 ⟨rfl, N46⟩ (by decide) (by decide)
          · skip
            refine Gol.ifNo X46 hx hby at_355 (pc' := 358) rfl (feqL hc355_57).1 ?_
            refine Gol.iload X46 hx hby at_358 (pc' := 360) rfl rfl ?_
            refine Gol.ifYes X46 hx hby at_360 (pc' := 378) (by decide) ((if0 _ _).trans (feq (by decide : ¬ ((1 : Int32) = (0 : Int32)))).2) ?_
            refine Gol.lload X46 hx hby at_378 (pc' := 380) rfl rfl ?_
            refine Gol.ldc2Long X46 hx hby hZ hown at_380 (pc' := 383) rfl (hw _ (List.mem_of_getElem? (i := 13) rfl)) ?_
            refine Gol.lcmp X46 hx hby at_383 (pc' := 384) rfl ?_
            by_cases hc384_58 : (922337203685477580 : Int64) < (own_dec bs fr (fr + rr))
            · skip
              refine Gol.ifYes X46 hx hby at_384 (pc' := 403) (by decide) (tgtL hc384_58).1 ?_
              refine Gol.ldc2Long X46 hx hby hZ hown at_403 (pc' := 406) rfl (hw _ (List.mem_of_getElem? (i := 16) rfl)) ?_
              refine Gol.lstore X46 hx hby at_406 (pc' := 408) rfl (l' := #[.val (.long q0), .second, .val (.long q1), .second, .val (.int p2), .val (.int p3), .val (.int p4), .val (.int p5), .val (.ref b1), .val (.int (Int32.ofNat ps)), .val (.int (Int32.ofNat fr)), .val (.int (Int32.ofNat (fr + rr))), .val (.long (own_dec bs fr (fr + rr))), .second, .val (.long (own_dec bs fr (fr + rr + 1))), .second, .val (.int (bs.getD (fr + rr) 0)), .val (.int ((bs.getD (fr + rr) 0) - (48 : Int32))), .val (.int (1 : Int32)), .val (.long (-1 : Int64)), .second]) rfl ?_
              refine Gol.goto X46 hx hby at_408 (pc' := 423) (by decide) ?_
              refine Gol.lload X46 hx hby at_423 (pc' := 425) rfl rfl ?_
              refine Gol.lload X46 hx hby at_425 (pc' := 427) rfl rfl ?_
              refine Gol.lcmp X46 hx hby at_427 (pc' := 428) rfl ?_
              refine Gol.ifNo X46 hx hby at_428 (pc' := 431) rfl (teqL (own_l6 hc306_55 hc348_56 hc355_57 hc285_47 hc292_51 (Or.inl hc384_58))).2 ?_
              refine Gol.iconst X46 hx hby at_431 (pc' := 432) rfl (z := (1 : Int32)) rfl ?_
              refine Gol.goto X46 hx hby at_432 (pc' := 436) (by decide) ?_
              exact Gol.retN X46 hx hby (t := .boolean) Bd.returns (by simp) Bd.notSynchronized at_436 eq46 ⟨rfl, N46⟩ (by decide) (by decide)
            · skip
              refine Gol.ifNo X46 hx hby at_384 (pc' := 387) rfl (fgtL hc384_58).1 ?_
              refine Gol.lload X46 hx hby at_387 (pc' := 389) rfl rfl ?_
              refine Gol.ldc2Long X46 hx hby hZ hown at_389 (pc' := 392) rfl (hw _ (List.mem_of_getElem? (i := 13) rfl)) ?_
              refine Gol.lcmp X46 hx hby at_392 (pc' := 393) rfl ?_
              by_cases hc393_59 : (own_dec bs fr (fr + rr)) = (922337203685477580 : Int64)
              · skip
                refine Gol.ifNo X46 hx hby at_393 (pc' := 396) rfl (teqL hc393_59).2 ?_
                refine Gol.iload X46 hx hby at_396 (pc' := 398) rfl rfl ?_
                refine Gol.bipush X46 hx hby at_398 (pc' := 400) rfl (z := (7 : Int32)) rfl ?_
                by_cases hc400_60 : (7 : Int32) < ((bs.getD (fr + rr) 0) - (48 : Int32))
                · skip
                  refine Gol.icmpNo X46 hx hby at_400 (pc' := 403) rfl (tlt hc400_60).2.2.2 ?_
                  refine Gol.ldc2Long X46 hx hby hZ hown at_403 (pc' := 406) rfl (hw _ (List.mem_of_getElem? (i := 16) rfl)) ?_
                  refine Gol.lstore X46 hx hby at_406 (pc' := 408) rfl (l' := #[.val (.long q0), .second, .val (.long q1), .second, .val (.int p2), .val (.int p3), .val (.int p4), .val (.int p5), .val (.ref b1), .val (.int (Int32.ofNat ps)), .val (.int (Int32.ofNat fr)), .val (.int (Int32.ofNat (fr + rr))), .val (.long (own_dec bs fr (fr + rr))), .second, .val (.long (own_dec bs fr (fr + rr + 1))), .second, .val (.int (bs.getD (fr + rr) 0)), .val (.int ((bs.getD (fr + rr) 0) - (48 : Int32))), .val (.int (1 : Int32)), .val (.long (-1 : Int64)), .second]) rfl ?_
                  refine Gol.goto X46 hx hby at_408 (pc' := 423) (by decide) ?_
                  refine Gol.lload X46 hx hby at_423 (pc' := 425) rfl rfl ?_
                  refine Gol.lload X46 hx hby at_425 (pc' := 427) rfl rfl ?_
                  refine Gol.lcmp X46 hx hby at_427 (pc' := 428) rfl ?_
                  refine Gol.ifNo X46 hx hby at_428 (pc' := 431) rfl (teqL (own_l6 hc306_55 hc348_56 hc355_57 hc285_47 hc292_51 (Or.inr ⟨hc393_59, hc400_60⟩))).2 ?_
                  refine Gol.iconst X46 hx hby at_431 (pc' := 432) rfl (z := (1 : Int32)) rfl ?_
                  refine Gol.goto X46 hx hby at_432 (pc' := 436) (by decide) ?_
                  exact Gol.retN X46 hx hby (t := .boolean) Bd.returns (by simp) Bd.notSynchronized at_436 eq46 ⟨rfl, N46⟩ (by decide) (by decide)
                · skip
                  refine Gol.icmpYes X46 hx hby at_400 (pc' := 411) (by decide) (flt hc400_60).2.2.2 ?_
                  refine Gol.lload X46 hx hby at_411 (pc' := 413) rfl rfl ?_
                  refine Gol.ldc2Long X46 hx hby hZ hown at_413 (pc' := 416) rfl (hw _ (List.mem_of_getElem? (i := 14) rfl)) ?_
                  refine Gol.lmul X46 hx hby at_416 (pc' := 417) rfl rfl ?_
                  refine Gol.iload X46 hx hby at_417 (pc' := 419) rfl rfl ?_
                  refine Gol.i2l X46 hx hby at_419 (pc' := 420) rfl rfl ?_
                  refine Gol.ladd X46 hx hby at_420 (pc' := 421) rfl rfl ?_
                  refine Gol.lstore X46 hx hby at_421 (pc' := 423) rfl (l' := #[.val (.long q0), .second, .val (.long q1), .second, .val (.int p2), .val (.int p3), .val (.int p4), .val (.int p5), .val (.ref b1), .val (.int (Int32.ofNat ps)), .val (.int (Int32.ofNat fr)), .val (.int (Int32.ofNat (fr + rr))), .val (.long (own_dec bs fr (fr + rr))), .second, .val (.long (own_dec bs fr (fr + rr + 1))), .second, .val (.int (bs.getD (fr + rr) 0)), .val (.int ((bs.getD (fr + rr) 0) - (48 : Int32))), .val (.int (1 : Int32)), .val (.long (((own_dec bs fr (fr + rr)) * (10 : Int64)) + (((bs.getD (fr + rr) 0) - (48 : Int32)).toInt64))), .second]) rfl ?_
                  refine Gol.lload X46 hx hby at_423 (pc' := 425) rfl rfl ?_
                  refine Gol.lload X46 hx hby at_425 (pc' := 427) rfl rfl ?_
                  refine Gol.lcmp X46 hx hby at_427 (pc' := 428) rfl ?_
                  refine Gol.ifNo X46 hx hby at_428 (pc' := 431) rfl (teqL (own_l7 hc306_55 hc348_56 hc355_57 hc285_47 hc292_51 (not_or.mpr ⟨hc384_58, fun z => hc400_60 z.2⟩))).2 ?_
                  refine Gol.iconst X46 hx hby at_431 (pc' := 432) rfl (z := (1 : Int32)) rfl ?_
                  refine Gol.goto X46 hx hby at_432 (pc' := 436) (by decide) ?_
                  exact Gol.retN X46 hx hby (t := .boolean) Bd.returns (by simp) Bd.notSynchronized at_436 eq46 ⟨rfl, N46⟩ (by decide) (by decide)
              · skip
                refine Gol.ifYes X46 hx hby at_393 (pc' := 411) (by decide) (feqL hc393_59).2 ?_
                refine Gol.lload X46 hx hby at_411 (pc' := 413) rfl rfl ?_
                refine Gol.ldc2Long X46 hx hby hZ hown at_413 (pc' := 416) rfl (hw _ (List.mem_of_getElem? (i := 14) rfl)) ?_
                refine Gol.lmul X46 hx hby at_416 (pc' := 417) rfl rfl ?_
                refine Gol.iload X46 hx hby at_417 (pc' := 419) rfl rfl ?_
                refine Gol.i2l X46 hx hby at_419 (pc' := 420) rfl rfl ?_
                refine Gol.ladd X46 hx hby at_420 (pc' := 421) rfl rfl ?_
                refine Gol.lstore X46 hx hby at_421 (pc' := 423) rfl (l' := #[.val (.long q0), .second, .val (.long q1), .second, .val (.int p2), .val (.int p3), .val (.int p4), .val (.int p5), .val (.ref b1), .val (.int (Int32.ofNat ps)), .val (.int (Int32.ofNat fr)), .val (.int (Int32.ofNat (fr + rr))), .val (.long (own_dec bs fr (fr + rr))), .second, .val (.long (own_dec bs fr (fr + rr + 1))), .second, .val (.int (bs.getD (fr + rr) 0)), .val (.int ((bs.getD (fr + rr) 0) - (48 : Int32))), .val (.int (1 : Int32)), .val (.long (((own_dec bs fr (fr + rr)) * (10 : Int64)) + (((bs.getD (fr + rr) 0) - (48 : Int32)).toInt64))), .second]) rfl ?_
                refine Gol.lload X46 hx hby at_423 (pc' := 425) rfl rfl ?_
                refine Gol.lload X46 hx hby at_425 (pc' := 427) rfl rfl ?_
                refine Gol.lcmp X46 hx hby at_427 (pc' := 428) rfl ?_
                refine Gol.ifNo X46 hx hby at_428 (pc' := 431) rfl (teqL (own_l7 hc306_55 hc348_56 hc355_57 hc285_47 hc292_51 (not_or.mpr ⟨hc384_58, fun z => hc393_59 z.1⟩))).2 ?_
                refine Gol.iconst X46 hx hby at_431 (pc' := 432) rfl (z := (1 : Int32)) rfl ?_
                refine Gol.goto X46 hx hby at_432 (pc' := 436) (by decide) ?_
                exact Gol.retN X46 hx hby (t := .boolean) Bd.returns (by simp) Bd.notSynchronized at_436 eq46 ⟨rfl, N46⟩ (by decide) (by decide)
set_option maxRecDepth 65536 in
set_option maxHeartbeats 40000000 in
theorem comes_1 {Post : Tables → Env → Array Value → State → Outcome → State → Prop} (hpost : ∀ tb e args s v u, (limb_1_1.after args s (.returned v) u = true ∧ limb_1_2.after args s (.returned v) u = true ∧ True) → FrameEnd s (.returned v) u (Jvm.fieldLocs frame_1_writes args s ++ Jvm.arrayLocs frame_1_arrays args s ++ Jvm.staticLocs frame_1_statics s) 16 128 → Post tb e args s (.returned v) u) :
    ArmFor flags0 classFile x code maxLocals ret World_1 tables_1 room_1 Calls_1 rest_1 Pre_1 Post := by
  intro l hfl _ _ p e ha hc hk s m args below hf hA hF happ hP
  obtain ⟨hcalls, hrest, hpre⟩ := hP
  obtain ⟨-, -, -, hnamed, -, -, -, hat⟩ := (Spec.applies_iff hf).mp happ
  obtain ⟨hg, hn⟩ := and_e (Cond.before_iff.mp (show (Jvm.Cond.and given_1 narrow_1).before args s = true from hpre))
  obtain ⟨gc, gr0⟩ := and_e hg
  obtain ⟨gk0, gr1⟩ := and_e gr0
  obtain ⟨gk1, gr2⟩ := and_e gr1
  obtain ⟨gk2, gr3⟩ := and_e gr2
  obtain ⟨gk3, gr4⟩ := and_e gr3
  obtain ⟨gk4, gr5⟩ := and_e gr4
  obtain ⟨w0, w1, w2, w3, w4, w5, rfl⟩ : ∃ w0 w1 w2 w3 w4 w5 : Value, args = #[w0, w1, w2, w3, w4, w5] := by
    have hs : args.size = 6 := by simpa [Cond.value, given_1] using gc
    obtain ⟨L⟩ := args
    match L, hs with
    | [w0, w1, w2, w3, w4, w5], _ => exact ⟨w0, w1, w2, w3, w4, w5, rfl⟩
  have hw := fun d (hd : d ∈ tables_1) => atoms_spec (ws := Jvm.Cond.code x code maxLocals ret :: tables_1) hat d (List.mem_cons_of_mem _ hd)
  have hfit : Fit s := fun {y c} hc i hi => by
    obtain ⟨ha, rfl⟩ := Array.getElem?_eq_some_iff.mp hc
    have q := List.all_eq_true.mp ((Array.all_eq_true_iff_forall_mem.mp hF) _ (Array.getElem_mem ha)) i (List.mem_range.mpr hi)
    simpa [Array.getElem?_eq_getElem hi] using q
  obtain ⟨i0, ei0⟩ := isL_v gk0
  obtain rfl : w0 = (.long i0) := Option.some.inj ei0
  obtain ⟨i1, ei1⟩ := isL_v gk1
  obtain rfl : w1 = (.long i1) := Option.some.inj ei1
  obtain ⟨i2, ei2⟩ := is_v gk2
  obtain rfl : w2 = (.int i2) := Option.some.inj ei2
  obtain ⟨i3, ei3⟩ := is_v gk3
  obtain rfl : w3 = (.int i3) := Option.some.inj ei3
  obtain ⟨i4, ei4⟩ := is_v gk4
  obtain rfl : w4 = (.int i4) := Option.some.inj ei4
  obtain ⟨i5, ei5⟩ := is_v gr5
  obtain rfl : w5 = (.int i5) := Option.some.inj ei5
  obtain ⟨n, o, h1, h2, h3, _, L, rfl, ⟨rfl, N⟩, hq⟩ := rm0 l s _ hw tables_1 i0 i1 i2 i3 i4 i5  s.heap s.heap.size (Nat.le_refl _)  p e ha hc hk s m _ below hf ((Spec.applies_iff_loose hf).mp happ).1 ⟨rfl, State.Warmed39.refl s, rfl⟩ trivial
  refine ⟨n, _, h1, h2, h3, hpost _ _ _ _ _ _ ⟨Cond.after_iff.mpr rfl, Cond.after_iff.mpr (eq_i res_at (Term.int_eval (1)) rfl), trivial⟩ ⟨hq.1, hq.2.1, (hq.2.2.sift fun y hy => Or.inr (N y hy)).mono (by decide) (by decide)⟩⟩
theorem main_1_1 : Claimed_1_1 := comes_1 fun _ _ _ _ _ _ h hF => ⟨h.1, hF⟩
theorem main_1_2 : Claimed_1_2 := comes_1 fun _ _ _ _ _ _ h hF => ⟨h.2.1, hF⟩
end Jvm.Pilot.@@N@@
namespace Jvm.Pilot.@@N@@
open Jvm Jvm.ClassFile Sem Op Lib Jvm.Free Jvm.Stand Jvm.Pilot.@@N@@.Jvm.D
/-! MADE BY PROGRAM (witnessworld.py) out of the Statement's table words and the real class files: 7 classes; the members and pool entries that the words name. The judged class is class 1, her method 2. -/
namespace start1
open Jvm.ClassFile
def u (s : String) : CpInfo := .utf8 (stringToUtf16 s)
/-- a pool by its gaps: so many unusable entries, then the entry; so many at the end -/
def gap : Nat → List CpInfo → List CpInfo
  | 0, r => r
  | n + 1, r => .unusable :: gap n r
def poolList (es : List (Nat × CpInfo)) (last : Nat) : List CpInfo := es.foldr (fun e r => gap e.1 (e.2 :: r)) (gap last [])
def pool (es : List (Nat × CpInfo)) (last : Nat) : Array CpInfo := ⟨poolList es last⟩
def fileOf (pool : Array CpInfo) (this : Nat) (attrs : Array Attribute := #[]) (ms : Array MethodInfo := #[]) (fl : Nat := 33) (sup : Nat := 0) (ifs : Array Nat := #[]) (fds : Array FieldInfo := #[]) : ClassFile where
  minorVersion := 0
  majorVersion := 65
  constantPool := pool
  accessFlags := fl
  thisClass := this
  superClass := sup
  interfaces := ifs
  fields := fds
  methods := ms
  attributes := attrs
def plain (name : String) (sup : Option ClassId) : Class where
  name := name
  kind := .ordinary
  loader := none
  accessFlags := 33
  super := sup
  interfaces := #[]
  cf := none
  fields := #[]
  methods := #[]
  instanceTypes := #[]
  staticTypes := #[]
  resolved := #[]
  callSites := []
  init := .initialized
  statics := none
  mirror := none

def pool0 : Array CpInfo := pool [(5, u "<init>"), (0, u "()V"), (1, .class_ 10), (1, u "java/lang/Object")] 113

def k0m0 : Method := { name := "<init>", desc := "()V", sig := { parameters := [], returnType := none }, accessFlags := 1, code := none }
/-- java/lang/Object -/
def k0 : Class := { plain "java/lang/Object" none with
  accessFlags := 33
  interfaces := #[]
  cf := some (fileOf pool0 8 #[] #[{ accessFlags := 1, nameIndex := 5, descriptorIndex := 6, attributes := #[] }] 33 0 #[] #[])
  fields := #[]
  methods := #[k0m0]
  instanceTypes := #[]
  staticTypes := #[]
  resolved := Array.replicate 124 none
  statics := none }

def pool1 : Array CpInfo := pool [(2, .class_ 4), (1, u "java/lang/Object"), (0, u "<init>"), (0, u "()V"), (0, .long 15), (1, .methodref 10 11), (0, .class_ 12), (0, .nameAndType 13 14), (0, u "com/example/quorumstone/quorumstone/client/CheckedLineDecimalPinLaw"), (0, u "dig"), (0, u "(JI)B"), (0, .integer 2147483647), (0, .methodref 17 18), (0, .class_ 19), (0, .nameAndType 20 21), (0, u "com/example/quorumstone/quorumstone/client/CheckedLine"), (0, u "decimal"), (0, u "([BII)J"), (0, .long 18446744073709551615), (1, .long 922337203685477580), (1, .long 10), (3, u "law"), (0, u "(JJIIII)Z")] 5

def k1m0 : Method := { name := "<init>", desc := "()V", sig := { parameters := [], returnType := none }, accessFlags := 2, code := none }
def k1c1 : Code := { maxStack := 5, maxLocals := 3, code := method_2_code, exceptionTable := #[], attributes := #[] }
def k1m1 : Method := { name := "dig", desc := "(JI)B", sig := { parameters := [.long, .int], returnType := some .byte }, accessFlags := 10, code := some k1c1 }
def k1c2 : Code := { maxStack := 6, maxLocals := 21, code := code, exceptionTable := #[], attributes := #[] }
def k1m2 : Method := { name := "law", desc := "(JJIIII)Z", sig := { parameters := [.long, .long, .int, .int, .int, .int], returnType := some .boolean }, accessFlags := 9, code := some k1c2 }
/-- com/example/quorumstone/quorumstone/client/CheckedLineDecimalPinLaw -/
def k1 : Class := { plain "com/example/quorumstone/quorumstone/client/CheckedLineDecimalPinLaw" (some 0) with
  accessFlags := 49
  interfaces := #[]
  cf := some (fileOf pool1 10 #[] #[{ accessFlags := 2, nameIndex := 5, descriptorIndex := 6, attributes := #[] }, { accessFlags := 10, nameIndex := 13, descriptorIndex := 14, attributes := #[] }, { accessFlags := 9, nameIndex := 30, descriptorIndex := 31, attributes := #[] }] 49 2 #[] #[])
  fields := #[]
  methods := #[k1m0, k1m1, k1m2]
  instanceTypes := #[]
  staticTypes := #[]
  resolved := Array.replicate 37 none
  statics := none }

def pool2 : Array CpInfo := pool [(2, .class_ 4), (1, u "java/lang/Object"), (0, u "<init>"), (0, u "()V"), (45, .class_ 53), (0, u "com/example/quorumstone/quorumstone/client/CheckedLine"), (7, .long 18446744073709551615), (1, .long 9223372036854775807), (1, .long 10), (1, u "CHECKSUM_DIGITS"), (0, u "I"), (9, u "decimal"), (0, u "([BII)J")] 17

def k2m0 : Method := { name := "<init>", desc := "()V", sig := { parameters := [], returnType := none }, accessFlags := 2, code := none }
def k2c1 : Code := { maxStack := 6, maxLocals := 7, code := prog_23_method_4_code, exceptionTable := #[], attributes := #[] }
def k2m1 : Method := { name := "decimal", desc := "([BII)J", sig := { parameters := [(.array .byte), .int, .int], returnType := some .long }, accessFlags := 8, code := some k2c1 }
/-- com/example/quorumstone/quorumstone/client/CheckedLine -/
def k2 : Class := { plain "com/example/quorumstone/quorumstone/client/CheckedLine" (some 0) with
  accessFlags := 48
  interfaces := #[]
  cf := some (fileOf pool2 52 #[] #[{ accessFlags := 2, nameIndex := 5, descriptorIndex := 6, attributes := #[] }, { accessFlags := 8, nameIndex := 78, descriptorIndex := 79, attributes := #[] }] 48 2 #[] #[{ accessFlags := 26, nameIndex := 67, descriptorIndex := 68, attributes := #[] }])
  fields := #[{ name := "CHECKSUM_DIGITS", type := .int, accessFlags := 26, slot := 0, constantValue := 0 }]
  methods := #[k2m0, k2m1]
  instanceTypes := #[]
  staticTypes := #[.int]
  resolved := Array.replicate 97 none
  statics := none }

def pool3 : Array CpInfo := pool [(1, u "java/lang/Cloneable"), (0, .class_ 1), (0, u "java/lang/Object"), (0, .class_ 3)] 3

/-- java/lang/Cloneable -/
def k3 : Class := { plain "java/lang/Cloneable" (some 0) with
  accessFlags := 1537
  interfaces := #[]
  cf := some (fileOf pool3 2 #[] #[] 1537 4 #[] #[])
  fields := #[]
  methods := #[]
  instanceTypes := #[]
  staticTypes := #[]
  resolved := Array.replicate 8 none
  statics := none }

def pool4 : Array CpInfo := pool [(1, u "java/io/Serializable"), (0, .class_ 1), (0, u "java/lang/Object"), (0, .class_ 3)] 3

/-- java/io/Serializable -/
def k4 : Class := { plain "java/io/Serializable" (some 0) with
  accessFlags := 1537
  interfaces := #[]
  cf := some (fileOf pool4 2 #[] #[] 1537 4 #[] #[])
  fields := #[]
  methods := #[]
  instanceTypes := #[]
  staticTypes := #[]
  resolved := Array.replicate 8 none
  statics := none }

/-- the primitive byte -/
def k5 : Class := { plain "byte" none with kind := .primitive 'B', accessFlags := 0x411 }
/-- [B -/
def k6 : Class := { plain "[B" (some 0) with kind := .array 5 .byte, interfaces := #[3, 4], accessFlags := 1041 }

def heap : Heap := #[]
def classes : Array Class := #[k0, k1, k2, k3, k4, k5, k6]
def interned : List (Array UInt16 × Addr) := []
def slotsUsed : Nat := 0
def theMethod : MethodId := ⟨1, 2⟩
def args0 : Array Value := #[.long 1234, .long 5, .int 49, .int 3, .int 2, .int 4]
def aboutOver (below : List Frame) : State where
  vm := { classes := classes, interned := interned.toArray }
  heap := heap
  slotsUsed := slotsUsed
  threads := #[{ frames := .invoking theMethod args0 :: below }]
def below0 : List Frame := [.native { method := ⟨0, 0⟩, args := #[] }]
def about1 : State := aboutOver below0
def p0 : Program := .bare "" "" ""
def e0 : Env := launch0.env 0 0 0
theorem w_frames : about1.frames = Frame.invoking theMethod args0 :: below0 := rfl
set_option maxRecDepth 65536 in
theorem w_args : argsFit about1.vm theMethod args0 = true := by decide +kernel
set_option maxRecDepth 65536 in
theorem w_heap : heapFits about1 = true := by decide +kernel
set_option maxRecDepth 65536 in
theorem w_runnable : about1.curStatus? = some .runnable := by decide +kernel
set_option maxRecDepth 65536 in
theorem w_alone : about1.alone = true := by decide +kernel
set_option maxRecDepth 65536 in
theorem w_named : about1.methodNamed? x = some theMethod := by decide +kernel
set_option maxRecDepth 65536 in
theorem w_hears : about1.hears theMethod below0 = true := by decide +kernel
set_option maxRecDepth 65536 in
theorem w_ripe : about1.ripe theMethod args0 below0 = true := by decide +kernel
theorem w_running : about1.status = .running := rfl
set_option maxRecDepth 65536 in
theorem w_room : about1.hasRoom e0.platform room_1 = true :=
  launch0.hasRoom_least _ room_1 (by decide +kernel) (by decide +kernel) (by decide +kernel) (by decide +kernel) (by decide +kernel) (by decide +kernel)
theorem allAtoms_all (ts : List Jvm.Cond) (a : Array Jvm.Value) (st : Jvm.State) : (allAtoms ts).before a st = ts.all (fun c => c.before a st) := by
  induction ts with
  | nil => rfl
  | cons c t ih =>
    show (Jvm.Cond.and c (allAtoms t)).before a st = _
    rw [Jvm.Cond.before_and, ih, List.all_cons]
def words1 : List Jvm.Cond := Jvm.Cond.code x code maxLocals ret :: tables_1
/-- a 'code' word, met by the world's own term for the bytes: nothing is compared byte by byte -/
theorem code_word {y : MethodName} {bytes : ByteArray} {mx : Nat} {rt : Option FieldType} {a : Array Value} {s : State} {m : MethodId} {meth : Method} {c : Code} (h1 : s.methodNamed? y = some m) (h2 : s.vm.method? m = some meth) (h3 : meth.code = some c) (h4 : c.code = bytes)
    (h5 : (c.maxLocals == mx && c.exceptionTable.isEmpty && decide (c.maxStack ≤ mostOperands) && decide (meth.sig.returnType = rt) && !meth.locks && decide (parseMethodDescriptor y.desc = some meth.sig)) = true) : (Jvm.Cond.code y bytes mx rt).before a s = true := by
  simp only [Bool.and_eq_true, beq_iff_eq, Bool.not_eq_true', decide_eq_true_eq] at h5
  obtain ⟨⟨⟨⟨⟨g1, g2⟩, g3⟩, g4⟩, g5⟩, g6⟩ := h5
  simp [Cond.before, Cond.holds, Cond.value, h1, h2, h3, h4, g1, g2, g3, g4, g5, g6]
def isCode : Jvm.Cond → Bool
  | .code _ _ _ _ => true
  | _ => false
theorem all_split {L : List Jvm.Cond} {P : Jvm.Cond → Bool} (h1 : L.all (fun c => isCode c || P c) = true) (h2 : ∀ c ∈ L.filter isCode, P c = true) : L.all P = true := by
  refine List.all_eq_true.mpr fun c hc => ?_
  have h := List.all_eq_true.mp h1 c hc
  rcases Bool.eq_false_or_eq_true (isCode c) with hi | hi
  · exact h2 c (List.mem_filter.mpr ⟨hc, hi⟩)
  · simpa [hi] using h
set_option maxRecDepth 65536 in
theorem w_c0 : (Jvm.Cond.code x code maxLocals ret).before args0 about1 = true := code_word (m := ⟨1, 2⟩) (meth := k1m2) (c := k1c2) (by decide +kernel) rfl rfl rfl (by decide +kernel)
set_option maxRecDepth 65536 in
theorem w_c1 : (Jvm.Cond.code ({ cls := "com/example/quorumstone/quorumstone/client/CheckedLineDecimalPinLaw", name := "dig", desc := "(JI)B" } : Jvm.MethodName) method_2_code (3 : Nat) (Option.some Jvm.ClassFile.FieldType.byte)).before args0 about1 = true := code_word (m := ⟨1, 1⟩) (meth := k1m1) (c := k1c1) (by decide +kernel) rfl rfl rfl (by decide +kernel)
set_option maxRecDepth 65536 in
theorem w_c2 : (Jvm.Cond.code ({ cls := "com/example/quorumstone/quorumstone/client/CheckedLine", name := "decimal", desc := "([BII)J" } : Jvm.MethodName) prog_23_method_4_code (7 : Nat) (Option.some Jvm.ClassFile.FieldType.long)).before args0 about1 = true := code_word (m := ⟨2, 1⟩) (meth := k2m1) (c := k2c1) (by decide +kernel) rfl rfl rfl (by decide +kernel)
def codes1 : List Jvm.Cond := [Jvm.Cond.code x code maxLocals ret, Jvm.Cond.code ({ cls := "com/example/quorumstone/quorumstone/client/CheckedLineDecimalPinLaw", name := "dig", desc := "(JI)B" } : Jvm.MethodName) method_2_code (3 : Nat) (Option.some Jvm.ClassFile.FieldType.byte), Jvm.Cond.code ({ cls := "com/example/quorumstone/quorumstone/client/CheckedLine", name := "decimal", desc := "([BII)J" } : Jvm.MethodName) prog_23_method_4_code (7 : Nat) (Option.some Jvm.ClassFile.FieldType.long)]
set_option maxRecDepth 65536 in
theorem codes_eq : words1.filter isCode = codes1 := rfl
theorem w_codes : ∀ c ∈ words1.filter isCode, c.before args0 about1 = true := by
  rw [codes_eq]
  intro c hc
  simp only [codes1, List.mem_cons, List.not_mem_nil, or_false] at hc
  rcases hc with rfl | rfl | rfl
  · exact w_c0
  · exact w_c1
  · exact w_c2
set_option maxRecDepth 65536 in
theorem w_t1 : words1.all (fun c => isCode c || c.before args0 about1) = true := by decide +kernel
theorem w_tables : (allAtoms (Jvm.Cond.code x code maxLocals ret :: tables_1)).before args0 about1 = true := by
  rw [allAtoms_all]
  show words1.all (fun c => c.before args0 about1) = true
  refine all_split ?_ w_codes
  rw [w_t1]
set_option maxRecDepth 65536 in
theorem w_case : (Jvm.Cond.and given_1 narrow_1).before args0 about1 = true := by decide +kernel
theorem w_applies : (headSpec (Jvm.Cond.code x code maxLocals ret :: tables_1) room_1).applies x e0.platform about1 = true :=
  (Spec.applies_iff w_frames).mpr ⟨w_running, w_runnable, w_alone, w_named, w_hears, w_ripe, w_room, w_tables⟩
theorem atStart : AtStart classFile x code maxLocals ret World_1 tables_1 room_1 Calls_1 rest_1 Pre_1 launch0 p0 e0 about1 theMethod args0 below0 :=
  ⟨lists_1, trivial, launch0.admits_env _ _ _, launch0.least_env, fairChoices_fair.cas, fairChoices_fair.clock, w_frames, w_args, w_heap, w_applies, trivial, trivial, w_case⟩
end start1
theorem witness_1 : WitnessClaimed_1 := ⟨start1.p0, start1.e0, start1.about1, start1.theMethod, start1.args0, start1.below0, start1.atStart⟩
end Jvm.Pilot.@@N@@
