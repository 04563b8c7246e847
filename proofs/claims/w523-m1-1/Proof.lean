import JvmDerived
import JvmDerived.Pilot.@@N@@Statement
import JvmDerived.Pilot.@@N@@Code
set_option linter.unusedVariables false
set_option linter.unusedSimpArgs false
namespace Jvm.RoadKit
open Sem ClassFile Op Lib Jvm.Stand Jvm.Free Jvm.LawKit
section Own
variable {p : Program} {l : Launch} {e : Env} {R : Room} {s : State} {m : MethodId} {args : Array Value} {below : List Frame} {meth : Method} {c : Code} {T : State} {locs : List Loc} {cells slots : Nat} {Fe : Outcome → State → List Loc → Nat → Nat → Prop} {Qf : Option Value → Heap → List Loc → Prop} {kc ks : Nat} {code : ByteArray} {pc pc' : Nat} {Ls l' : Array Slot} {rest : List Value} {Z : State} {a0 : Array Value} {h : Heap}
/-- from the state S the call ends well: it returns, what is returned and the heap at the end meet Qf, and the frame is kept -/
def Gol (p : Program) (e : Env) (below : List Frame) (Fe : Outcome → State → List Loc → Nat → Nat → Prop) (Qf : Option Value → Heap → List Loc → Prop) (kc ks : Nat) (S : State) : Prop :=
  ∃ s₂ o, Steps p.tables e below S s₂ ∧ s₂.status = .running ∧ Ended s₂ below o ∧ ∃ v L, o = .returned v ∧ Qf v s₂.heap L ∧ Fe o s₂ L kc ks
theorem Gol.step {S S' : State} (st : ∀ t, Steps p.tables e below S' t → Steps p.tables e below S t) (k : Gol p e below Fe Qf kc ks S') : Gol p e below Fe Qf kc ks S := by
  obtain ⟨s₂, o, h, r⟩ := k
  exact ⟨s₂, o, st _ h, r⟩
theorem Gol.dia {S S' : State} (h1 : Gol p e below Fe Qf kc ks S' → Gol p e below Fe Qf kc ks S) (h2 : Gol p e below Fe Qf kc ks S') : Gol p e below Fe Qf kc ks S := h1 h2
theorem Gol.all {A : Type} {B : A → Prop} {S : State} {S' : A → State} (h2 : ∀ a, B a → Gol p e below Fe Qf kc ks (S' a)) (h1 : (∀ a, B a → Gol p e below Fe Qf kc ks (S' a)) → Gol p e below Fe Qf kc ks S) : Gol p e below Fe Qf kc ks S := h1 h2
/-- the run stands at pc -/
abbrev GolF (p : Program) (e : Env) (below : List Frame) (Fe : Outcome → State → List Loc → Nat → Nat → Prop) (Qf : Option Value → Heap → List Loc → Prop) (kc ks : Nat) (T : State) (m : MethodId) (pc : Nat) (Ls : Array Slot) (st : List Value) : Prop := Gol p e below Fe Qf kc ks (T.setTop (mkF m pc Ls st))
theorem Gol.fin (X : Stand p l e R s m args below meth c T locs cells slots) {v : Option Value} (hv : meth.sig.returnType = none → v = none) (hlk : meth.locks = false) {S : State} (eT : T.heap = h) (hq : Qf v h locs) (hc : cells ≤ kc) (hs : slots ≤ ks)
    (st : ∀ fs, (∀ (f : JFrame) (acts : List Action), f.method = m → f.locked = none → f.entered = [] → (doReturn e (T.setTop f) acts v).1 = T.setFrames fs) → Steps p.tables e below S (T.setFrames fs)) : Gol p e below (FrameEnd s) Qf kc ks S := by
  obtain ⟨fs, hr, hrun, hended, hW, hsame⟩ := X.leave (v := v) hv hlk
  refine ⟨_, _, st fs hr, hrun, hended, _, _, rfl, ?_, ⟨_, rfl⟩, hW, hsame.mono hc hs⟩
  show Qf v T.heap locs
  rw [eT]; exact hq
theorem Gol.finW {vm₁ : Vm} (X : Stand p l e R (s.setVm vm₁) m args below meth c T locs cells slots) {n : Nat} (hS : s.Since vm₁ n) (hn : n ≤ T.heap.size) {v : Option Value} (hv : meth.sig.returnType = none → v = none) (hlk : meth.locks = false) {S : State} (eT : T.heap = h) (hq : Qf v h locs) (hc : cells ≤ kc) (hs : slots ≤ ks)
    (st : ∀ fs, (∀ (f : JFrame) (acts : List Action), f.method = m → f.locked = none → f.entered = [] → (doReturn e (T.setTop f) acts v).1 = T.setFrames fs) → Steps p.tables e below S (T.setFrames fs)) : Gol p e below (ReturnedEndW s) Qf kc ks S := by
  obtain ⟨fs, hr, hrun, hended, h1, h2, h3, h4⟩ := X.leaveW hS hn (v := v) hv hlk
  refine ⟨_, _, st fs hr, hrun, hended, _, _, rfl, ?_, h1, h2, h3, h4.mono hc hs⟩
  show Qf v T.heap locs
  rw [eT]; exact hq
theorem Gol.aloadN (X : Stand p l e R s m args below meth c T locs cells slots) (hx : p.tables.exec = Jvm.exec) (hby : c.code = code) {k : Fin 4} {v : Value} (hd : decode code pc = .ok (.aload_n k, 1)) (hp : pc + 1 = pc') (hl : Ls[k.val]? = some (.val v)) (hv : v.isRef = true) (k : GolF p e below Fe Qf kc ks T m pc' Ls (v :: rest)) : GolF p e below Fe Qf kc ks T m pc Ls rest := by
  subst hp
  exact Gol.step (fun _ k => XS.aloadN X.here hx rfl (hb hby hd) hl hv k) k
theorem Gol.aload (X : Stand p l e R s m args below meth c T locs cells slots) (hx : p.tables.exec = Jvm.exec) (hby : c.code = code) {k : Nat} {v : Value} (hd : decode code pc = .ok (.aload k, 2)) (hp : pc + 2 = pc') (hl : Ls[k]? = some (.val v)) (hv : v.isRef = true) (k : GolF p e below Fe Qf kc ks T m pc' Ls (v :: rest)) : GolF p e below Fe Qf kc ks T m pc Ls rest := by
  subst hp
  exact Gol.step (fun _ k => XS.aload X.here hx rfl (hb hby hd) hl hv k) k
theorem Gol.iloadN (X : Stand p l e R s m args below meth c T locs cells slots) (hx : p.tables.exec = Jvm.exec) (hby : c.code = code) {k : Fin 4} {v : Int32} (hd : decode code pc = .ok (.iload_n k, 1)) (hp : pc + 1 = pc') (hl : Ls[k.val]? = some (.val (.int v))) (k : GolF p e below Fe Qf kc ks T m pc' Ls (.int v :: rest)) : GolF p e below Fe Qf kc ks T m pc Ls rest := by
  subst hp
  exact Gol.step (fun _ k => XS.iloadN X.here hx rfl (hb hby hd) hl k) k
theorem Gol.iload (X : Stand p l e R s m args below meth c T locs cells slots) (hx : p.tables.exec = Jvm.exec) (hby : c.code = code) {k : Nat} {v : Int32} (hd : decode code pc = .ok (.iload k, 2)) (hp : pc + 2 = pc') (hl : Ls[k]? = some (.val (.int v))) (k : GolF p e below Fe Qf kc ks T m pc' Ls (.int v :: rest)) : GolF p e below Fe Qf kc ks T m pc Ls rest := by
  subst hp
  exact Gol.step (fun _ k => XS.iload X.here hx rfl (hb hby hd) hl k) k
theorem Gol.istoreN (X : Stand p l e R s m args below meth c T locs cells slots) (hx : p.tables.exec = Jvm.exec) (hby : c.code = code) {k : Fin 4} {x : Int32} (hd : decode code pc = .ok (.istore_n k, 1)) (hp : pc + 1 = pc') (hl : storeLocals Ls k.val (.int x) = some l') (k : GolF p e below Fe Qf kc ks T m pc' l' rest) : GolF p e below Fe Qf kc ks T m pc Ls (.int x :: rest) := by
  subst hp
  exact Gol.step (fun _ k => XS.istoreN X.here hx rfl (hb hby hd) rfl hl k) k
theorem Gol.istore (X : Stand p l e R s m args below meth c T locs cells slots) (hx : p.tables.exec = Jvm.exec) (hby : c.code = code) {k : Nat} {x : Int32} (hd : decode code pc = .ok (.istore k, 2)) (hp : pc + 2 = pc') (hl : storeLocals Ls k (.int x) = some l') (k : GolF p e below Fe Qf kc ks T m pc' l' rest) : GolF p e below Fe Qf kc ks T m pc Ls (.int x :: rest) := by
  subst hp
  exact Gol.step (fun _ k => XS.istore X.here hx rfl (hb hby hd) rfl hl k) k
theorem Gol.lloadN (X : Stand p l e R s m args below meth c T locs cells slots) (hx : p.tables.exec = Jvm.exec) (hby : c.code = code) {k : Fin 4} {v : Int64} (hd : decode code pc = .ok (.lload_n k, 1)) (hp : pc + 1 = pc') (hl : Ls[k.val]? = some (.val (.long v))) (k : GolF p e below Fe Qf kc ks T m pc' Ls (.long v :: rest)) : GolF p e below Fe Qf kc ks T m pc Ls rest := by
  subst hp
  exact Gol.step (fun _ k => XT.lloadN X.here hx rfl (hb hby hd) hl k) k
theorem Gol.lload (X : Stand p l e R s m args below meth c T locs cells slots) (hx : p.tables.exec = Jvm.exec) (hby : c.code = code) {k : Nat} {v : Int64} (hd : decode code pc = .ok (.lload k, 2)) (hp : pc + 2 = pc') (hl : Ls[k]? = some (.val (.long v))) (k : GolF p e below Fe Qf kc ks T m pc' Ls (.long v :: rest)) : GolF p e below Fe Qf kc ks T m pc Ls rest := by
  subst hp
  exact Gol.step (fun _ k => XT.lload X.here hx rfl (hb hby hd) hl k) k
theorem Gol.lstoreN (X : Stand p l e R s m args below meth c T locs cells slots) (hx : p.tables.exec = Jvm.exec) (hby : c.code = code) {k : Fin 4} {x : Int64} (hd : decode code pc = .ok (.lstore_n k, 1)) (hp : pc + 1 = pc') (hl : storeLocals Ls k.val (.long x) = some l') (k : GolF p e below Fe Qf kc ks T m pc' l' rest) : GolF p e below Fe Qf kc ks T m pc Ls (.long x :: rest) := by
  subst hp
  exact Gol.step (fun _ k => XT.lstoreN X.here hx rfl (hb hby hd) rfl hl k) k
theorem Gol.lstore (X : Stand p l e R s m args below meth c T locs cells slots) (hx : p.tables.exec = Jvm.exec) (hby : c.code = code) {k : Nat} {x : Int64} (hd : decode code pc = .ok (.lstore k, 2)) (hp : pc + 2 = pc') (hl : storeLocals Ls k (.long x) = some l') (k : GolF p e below Fe Qf kc ks T m pc' l' rest) : GolF p e below Fe Qf kc ks T m pc Ls (.long x :: rest) := by
  subst hp
  exact Gol.step (fun _ k => XT.lstore X.here hx rfl (hb hby hd) rfl hl k) k
theorem Gol.astoreN (X : Stand p l e R s m args below meth c T locs cells slots) (hx : p.tables.exec = Jvm.exec) (hby : c.code = code) {k : Fin 4} {x : Value} (hd : decode code pc = .ok (.astore_n k, 1)) (hp : pc + 1 = pc') (hv : x.isRef = true) (hl : storeLocals Ls k.val x = some l') (k : GolF p e below Fe Qf kc ks T m pc' l' rest) : GolF p e below Fe Qf kc ks T m pc Ls (x :: rest) := by
  subst hp
  exact Gol.step (fun _ k => XS.astoreN X.here hx rfl (hb hby hd) rfl hv hl k) k
theorem Gol.astore (X : Stand p l e R s m args below meth c T locs cells slots) (hx : p.tables.exec = Jvm.exec) (hby : c.code = code) {k : Nat} {x : Value} (hd : decode code pc = .ok (.astore k, 2)) (hp : pc + 2 = pc') (hv : x.isRef = true) (hl : storeLocals Ls k x = some l') (k : GolF p e below Fe Qf kc ks T m pc' l' rest) : GolF p e below Fe Qf kc ks T m pc Ls (x :: rest) := by
  subst hp
  exact Gol.step (fun _ k => XS.astore X.here hx rfl (hb hby hd) rfl hv hl k) k
theorem Gol.iconst (X : Stand p l e R s m args below meth c T locs cells slots) (hx : p.tables.exec = Jvm.exec) (hby : c.code = code) {i : Int} {z : Int32} (hd : decode code pc = .ok (.iconst i, 1)) (hp : pc + 1 = pc') (hz : Int32.ofInt i = z) (k : GolF p e below Fe Qf kc ks T m pc' Ls (.int z :: rest)) : GolF p e below Fe Qf kc ks T m pc Ls rest := by
  subst hp hz
  exact Gol.step (fun _ k => XS.iconst X.here hx rfl (hb hby hd) k) k
theorem Gol.bipush (X : Stand p l e R s m args below meth c T locs cells slots) (hx : p.tables.exec = Jvm.exec) (hby : c.code = code) {i : Int} {z : Int32} (hd : decode code pc = .ok (.bipush i, 2)) (hp : pc + 2 = pc') (hz : (Int8.ofInt i).toInt32 = z) (k : GolF p e below Fe Qf kc ks T m pc' Ls (.int z :: rest)) : GolF p e below Fe Qf kc ks T m pc Ls rest := by
  subst hp hz
  exact Gol.step (fun _ k => XS.bipush X.here hx rfl (hb hby hd) k) k
theorem Gol.sipush (X : Stand p l e R s m args below meth c T locs cells slots) (hx : p.tables.exec = Jvm.exec) (hby : c.code = code) {i : Int} {z : Int32} (hd : decode code pc = .ok (.sipush i, 3)) (hp : pc + 3 = pc') (hz : (Int16.ofInt i).toInt32 = z) (k : GolF p e below Fe Qf kc ks T m pc' Ls (.int z :: rest)) : GolF p e below Fe Qf kc ks T m pc Ls rest := by
  subst hp hz
  exact Gol.step (fun _ k => XS.sipush X.here hx rfl (hb hby hd) k) k
theorem Gol.lconst (X : Stand p l e R s m args below meth c T locs cells slots) (hx : p.tables.exec = Jvm.exec) (hby : c.code = code) {i : Fin 2} {z : Int64} (hd : decode code pc = .ok (.lconst i, 1)) (hp : pc + 1 = pc') (hz : Int64.ofNat i = z) (k : GolF p e below Fe Qf kc ks T m pc' Ls (.long z :: rest)) : GolF p e below Fe Qf kc ks T m pc Ls rest := by
  subst hp hz
  exact Gol.step (fun _ k => XT.lconst X.here hx rfl (hb hby hd) k) k
theorem Gol.aconstNull (X : Stand p l e R s m args below meth c T locs cells slots) (hx : p.tables.exec = Jvm.exec) (hby : c.code = code) (hd : decode code pc = .ok (.aconst_null, 1)) (hp : pc + 1 = pc') (k : GolF p e below Fe Qf kc ks T m pc' Ls (.null :: rest)) : GolF p e below Fe Qf kc ks T m pc Ls rest := by
  subst hp
  exact Gol.step (fun _ k => XS.aconstNull X.here hx rfl (hb hby hd) k) k
theorem Gol.iadd (X : Stand p l e R s m args below meth c T locs cells slots) (hx : p.tables.exec = Jvm.exec) (hby : c.code = code) {x y z : Int32} (hd : decode code pc = .ok (.iadd, 1)) (hp : pc + 1 = pc') (hz : x + y = z) (k : GolF p e below Fe Qf kc ks T m pc' Ls (.int z :: rest)) : GolF p e below Fe Qf kc ks T m pc Ls (.int y :: .int x :: rest) := by
  subst hp hz
  exact Gol.step (fun _ k => XS.iadd X.here hx rfl (hb hby hd) rfl k) k
theorem Gol.ladd (X : Stand p l e R s m args below meth c T locs cells slots) (hx : p.tables.exec = Jvm.exec) (hby : c.code = code) {x y z : Int64} (hd : decode code pc = .ok (.ladd, 1)) (hp : pc + 1 = pc') (hz : x + y = z) (k : GolF p e below Fe Qf kc ks T m pc' Ls (.long z :: rest)) : GolF p e below Fe Qf kc ks T m pc Ls (.long y :: .long x :: rest) := by
  subst hp hz
  exact Gol.step (fun _ k => XT.ladd X.here hx rfl (hb hby hd) rfl k) k
theorem Gol.isub (X : Stand p l e R s m args below meth c T locs cells slots) (hx : p.tables.exec = Jvm.exec) (hby : c.code = code) {x y z : Int32} (hd : decode code pc = .ok (.isub, 1)) (hp : pc + 1 = pc') (hz : x - y = z) (k : GolF p e below Fe Qf kc ks T m pc' Ls (.int z :: rest)) : GolF p e below Fe Qf kc ks T m pc Ls (.int y :: .int x :: rest) := by
  subst hp hz
  exact Gol.step (fun _ k => XS.isub X.here hx rfl (hb hby hd) rfl k) k
theorem Gol.lsub (X : Stand p l e R s m args below meth c T locs cells slots) (hx : p.tables.exec = Jvm.exec) (hby : c.code = code) {x y z : Int64} (hd : decode code pc = .ok (.lsub, 1)) (hp : pc + 1 = pc') (hz : x - y = z) (k : GolF p e below Fe Qf kc ks T m pc' Ls (.long z :: rest)) : GolF p e below Fe Qf kc ks T m pc Ls (.long y :: .long x :: rest) := by
  subst hp hz
  exact Gol.step (fun _ k => XT.lsub X.here hx rfl (hb hby hd) rfl k) k
theorem Gol.imul (X : Stand p l e R s m args below meth c T locs cells slots) (hx : p.tables.exec = Jvm.exec) (hby : c.code = code) {x y z : Int32} (hd : decode code pc = .ok (.imul, 1)) (hp : pc + 1 = pc') (hz : x * y = z) (k : GolF p e below Fe Qf kc ks T m pc' Ls (.int z :: rest)) : GolF p e below Fe Qf kc ks T m pc Ls (.int y :: .int x :: rest) := by
  subst hp hz
  exact Gol.step (fun _ k => XS.imul X.here hx rfl (hb hby hd) rfl k) k
theorem Gol.lmul (X : Stand p l e R s m args below meth c T locs cells slots) (hx : p.tables.exec = Jvm.exec) (hby : c.code = code) {x y z : Int64} (hd : decode code pc = .ok (.lmul, 1)) (hp : pc + 1 = pc') (hz : x * y = z) (k : GolF p e below Fe Qf kc ks T m pc' Ls (.long z :: rest)) : GolF p e below Fe Qf kc ks T m pc Ls (.long y :: .long x :: rest) := by
  subst hp hz
  exact Gol.step (fun _ k => XT.lmul X.here hx rfl (hb hby hd) rfl k) k
theorem Gol.iand (X : Stand p l e R s m args below meth c T locs cells slots) (hx : p.tables.exec = Jvm.exec) (hby : c.code = code) {x y z : Int32} (hd : decode code pc = .ok (.iand, 1)) (hp : pc + 1 = pc') (hz : x &&& y = z) (k : GolF p e below Fe Qf kc ks T m pc' Ls (.int z :: rest)) : GolF p e below Fe Qf kc ks T m pc Ls (.int y :: .int x :: rest) := by
  subst hp hz
  exact Gol.step (fun _ k => XS.iand X.here hx rfl (hb hby hd) rfl k) k
theorem Gol.land (X : Stand p l e R s m args below meth c T locs cells slots) (hx : p.tables.exec = Jvm.exec) (hby : c.code = code) {x y z : Int64} (hd : decode code pc = .ok (.land, 1)) (hp : pc + 1 = pc') (hz : x &&& y = z) (k : GolF p e below Fe Qf kc ks T m pc' Ls (.long z :: rest)) : GolF p e below Fe Qf kc ks T m pc Ls (.long y :: .long x :: rest) := by
  subst hp hz
  exact Gol.step (fun _ k => XT.land X.here hx rfl (hb hby hd) rfl k) k
theorem Gol.ior (X : Stand p l e R s m args below meth c T locs cells slots) (hx : p.tables.exec = Jvm.exec) (hby : c.code = code) {x y z : Int32} (hd : decode code pc = .ok (.ior, 1)) (hp : pc + 1 = pc') (hz : x ||| y = z) (k : GolF p e below Fe Qf kc ks T m pc' Ls (.int z :: rest)) : GolF p e below Fe Qf kc ks T m pc Ls (.int y :: .int x :: rest) := by
  subst hp hz
  exact Gol.step (fun _ k => XT.ior X.here hx rfl (hb hby hd) rfl k) k
theorem Gol.lor (X : Stand p l e R s m args below meth c T locs cells slots) (hx : p.tables.exec = Jvm.exec) (hby : c.code = code) {x y z : Int64} (hd : decode code pc = .ok (.lor, 1)) (hp : pc + 1 = pc') (hz : x ||| y = z) (k : GolF p e below Fe Qf kc ks T m pc' Ls (.long z :: rest)) : GolF p e below Fe Qf kc ks T m pc Ls (.long y :: .long x :: rest) := by
  subst hp hz
  exact Gol.step (fun _ k => XT.lor X.here hx rfl (hb hby hd) rfl k) k
theorem Gol.ixor (X : Stand p l e R s m args below meth c T locs cells slots) (hx : p.tables.exec = Jvm.exec) (hby : c.code = code) {x y z : Int32} (hd : decode code pc = .ok (.ixor, 1)) (hp : pc + 1 = pc') (hz : x ^^^ y = z) (k : GolF p e below Fe Qf kc ks T m pc' Ls (.int z :: rest)) : GolF p e below Fe Qf kc ks T m pc Ls (.int y :: .int x :: rest) := by
  subst hp hz
  exact Gol.step (fun _ k => XT.ixor X.here hx rfl (hb hby hd) rfl k) k
theorem Gol.lxor (X : Stand p l e R s m args below meth c T locs cells slots) (hx : p.tables.exec = Jvm.exec) (hby : c.code = code) {x y z : Int64} (hd : decode code pc = .ok (.lxor, 1)) (hp : pc + 1 = pc') (hz : x ^^^ y = z) (k : GolF p e below Fe Qf kc ks T m pc' Ls (.long z :: rest)) : GolF p e below Fe Qf kc ks T m pc Ls (.long y :: .long x :: rest) := by
  subst hp hz
  exact Gol.step (fun _ k => XT.lxor X.here hx rfl (hb hby hd) rfl k) k
theorem Gol.ishl (X : Stand p l e R s m args below meth c T locs cells slots) (hx : p.tables.exec = Jvm.exec) (hby : c.code = code) {x y z : Int32} (hd : decode code pc = .ok (.ishl, 1)) (hp : pc + 1 = pc') (hz : x <<< (y &&& 31) = z) (k : GolF p e below Fe Qf kc ks T m pc' Ls (.int z :: rest)) : GolF p e below Fe Qf kc ks T m pc Ls (.int y :: .int x :: rest) := by
  subst hp hz
  exact Gol.step (fun _ k => XT.ishl X.here hx rfl (hb hby hd) rfl k) k
theorem Gol.ishr (X : Stand p l e R s m args below meth c T locs cells slots) (hx : p.tables.exec = Jvm.exec) (hby : c.code = code) {x y z : Int32} (hd : decode code pc = .ok (.ishr, 1)) (hp : pc + 1 = pc') (hz : x >>> (y &&& 31) = z) (k : GolF p e below Fe Qf kc ks T m pc' Ls (.int z :: rest)) : GolF p e below Fe Qf kc ks T m pc Ls (.int y :: .int x :: rest) := by
  subst hp hz
  exact Gol.step (fun _ k => XT.ishr X.here hx rfl (hb hby hd) rfl k) k
theorem Gol.iushr (X : Stand p l e R s m args below meth c T locs cells slots) (hx : p.tables.exec = Jvm.exec) (hby : c.code = code) {x y z : Int32} (hd : decode code pc = .ok (.iushr, 1)) (hp : pc + 1 = pc') (hz : XT.ushr x y = z) (k : GolF p e below Fe Qf kc ks T m pc' Ls (.int z :: rest)) : GolF p e below Fe Qf kc ks T m pc Ls (.int y :: .int x :: rest) := by
  subst hp hz
  exact Gol.step (fun _ k => XT.iushr X.here hx rfl (hb hby hd) rfl k) k
theorem Gol.lshl (X : Stand p l e R s m args below meth c T locs cells slots) (hx : p.tables.exec = Jvm.exec) (hby : c.code = code) {x z : Int64} {y : Int32} (hd : decode code pc = .ok (.lshl, 1)) (hp : pc + 1 = pc') (hz : x <<< (y.toInt64 &&& 63) = z) (k : GolF p e below Fe Qf kc ks T m pc' Ls (.long z :: rest)) : GolF p e below Fe Qf kc ks T m pc Ls (.int y :: .long x :: rest) := by
  subst hp hz
  exact Gol.step (fun _ k => XT.lshl X.here hx rfl (hb hby hd) rfl k) k
theorem Gol.lshr (X : Stand p l e R s m args below meth c T locs cells slots) (hx : p.tables.exec = Jvm.exec) (hby : c.code = code) {x z : Int64} {y : Int32} (hd : decode code pc = .ok (.lshr, 1)) (hp : pc + 1 = pc') (hz : x >>> (y.toInt64 &&& 63) = z) (k : GolF p e below Fe Qf kc ks T m pc' Ls (.long z :: rest)) : GolF p e below Fe Qf kc ks T m pc Ls (.int y :: .long x :: rest) := by
  subst hp hz
  exact Gol.step (fun _ k => XT.lshr X.here hx rfl (hb hby hd) rfl k) k
theorem Gol.lushr (X : Stand p l e R s m args below meth c T locs cells slots) (hx : p.tables.exec = Jvm.exec) (hby : c.code = code) {x z : Int64} {y : Int32} (hd : decode code pc = .ok (.lushr, 1)) (hp : pc + 1 = pc') (hz : XT.ushrL x y = z) (k : GolF p e below Fe Qf kc ks T m pc' Ls (.long z :: rest)) : GolF p e below Fe Qf kc ks T m pc Ls (.int y :: .long x :: rest) := by
  subst hp hz
  exact Gol.step (fun _ k => XT.lushr X.here hx rfl (hb hby hd) rfl k) k
theorem Gol.lcmp (X : Stand p l e R s m args below meth c T locs cells slots) (hx : p.tables.exec = Jvm.exec) (hby : c.code = code) {x y : Int64} (hd : decode code pc = .ok (.lcmp, 1)) (hp : pc + 1 = pc') (k : GolF p e below Fe Qf kc ks T m pc' Ls (.int (XT.cmpL x y) :: rest)) : GolF p e below Fe Qf kc ks T m pc Ls (.long y :: .long x :: rest) := by
  subst hp
  exact Gol.step (fun _ k => XT.lcmp X.here hx rfl (hb hby hd) rfl k) k
theorem Gol.ineg (X : Stand p l e R s m args below meth c T locs cells slots) (hx : p.tables.exec = Jvm.exec) (hby : c.code = code) {x : Int32} {z : Int32} (hd : decode code pc = .ok (.ineg, 1)) (hp : pc + 1 = pc') (hz : -x = z) (k : GolF p e below Fe Qf kc ks T m pc' Ls (.int z :: rest)) : GolF p e below Fe Qf kc ks T m pc Ls (.int x :: rest) := by
  subst hp hz
  exact Gol.step (fun _ k => XS.ineg X.here hx rfl (hb hby hd) rfl k) k
theorem Gol.lneg (X : Stand p l e R s m args below meth c T locs cells slots) (hx : p.tables.exec = Jvm.exec) (hby : c.code = code) {x : Int64} {z : Int64} (hd : decode code pc = .ok (.lneg, 1)) (hp : pc + 1 = pc') (hz : -x = z) (k : GolF p e below Fe Qf kc ks T m pc' Ls (.long z :: rest)) : GolF p e below Fe Qf kc ks T m pc Ls (.long x :: rest) := by
  subst hp hz
  exact Gol.step (fun _ k => XT.lneg X.here hx rfl (hb hby hd) rfl k) k
theorem Gol.i2l (X : Stand p l e R s m args below meth c T locs cells slots) (hx : p.tables.exec = Jvm.exec) (hby : c.code = code) {x : Int32} {z : Int64} (hd : decode code pc = .ok (.i2l, 1)) (hp : pc + 1 = pc') (hz : x.toInt64 = z) (k : GolF p e below Fe Qf kc ks T m pc' Ls (.long z :: rest)) : GolF p e below Fe Qf kc ks T m pc Ls (.int x :: rest) := by
  subst hp hz
  exact Gol.step (fun _ k => XT.i2l X.here hx rfl (hb hby hd) rfl k) k
theorem Gol.l2i (X : Stand p l e R s m args below meth c T locs cells slots) (hx : p.tables.exec = Jvm.exec) (hby : c.code = code) {x : Int64} {z : Int32} (hd : decode code pc = .ok (.l2i, 1)) (hp : pc + 1 = pc') (hz : x.toInt32 = z) (k : GolF p e below Fe Qf kc ks T m pc' Ls (.int z :: rest)) : GolF p e below Fe Qf kc ks T m pc Ls (.long x :: rest) := by
  subst hp hz
  exact Gol.step (fun _ k => XT.l2i X.here hx rfl (hb hby hd) rfl k) k
theorem Gol.i2b (X : Stand p l e R s m args below meth c T locs cells slots) (hx : p.tables.exec = Jvm.exec) (hby : c.code = code) {x : Int32} {z : Int32} (hd : decode code pc = .ok (.i2b, 1)) (hp : pc + 1 = pc') (hz : x.toInt8.toInt32 = z) (k : GolF p e below Fe Qf kc ks T m pc' Ls (.int z :: rest)) : GolF p e below Fe Qf kc ks T m pc Ls (.int x :: rest) := by
  subst hp hz
  exact Gol.step (fun _ k => XT.i2b X.here hx rfl (hb hby hd) rfl k) k
theorem Gol.i2s (X : Stand p l e R s m args below meth c T locs cells slots) (hx : p.tables.exec = Jvm.exec) (hby : c.code = code) {x : Int32} {z : Int32} (hd : decode code pc = .ok (.i2s, 1)) (hp : pc + 1 = pc') (hz : x.toInt16.toInt32 = z) (k : GolF p e below Fe Qf kc ks T m pc' Ls (.int z :: rest)) : GolF p e below Fe Qf kc ks T m pc Ls (.int x :: rest) := by
  subst hp hz
  exact Gol.step (fun _ k => XT.i2s X.here hx rfl (hb hby hd) rfl k) k
theorem Gol.i2c (X : Stand p l e R s m args below meth c T locs cells slots) (hx : p.tables.exec = Jvm.exec) (hby : c.code = code) {x : Int32} {z : Int32} (hd : decode code pc = .ok (.i2c, 1)) (hp : pc + 1 = pc') (hz : x.toUInt32.toUInt16.toUInt32.toInt32 = z) (k : GolF p e below Fe Qf kc ks T m pc' Ls (.int z :: rest)) : GolF p e below Fe Qf kc ks T m pc Ls (.int x :: rest) := by
  subst hp hz
  exact Gol.step (fun _ k => XT.i2c X.here hx rfl (hb hby hd) rfl k) k
theorem Gol.idiv (X : Stand p l e R s m args below meth c T locs cells slots) (hx : p.tables.exec = Jvm.exec) (hby : c.code = code) {x y : Int32} (hd : decode code pc = .ok (.idiv, 1)) (hp : pc + 1 = pc') (hy : y ≠ 0) (k : GolF p e below Fe Qf kc ks T m pc' Ls (.int (x / y) :: rest)) : GolF p e below Fe Qf kc ks T m pc Ls (.int y :: .int x :: rest) := by
  subst hp
  exact Gol.step (fun _ k => XS.idiv X.here hx rfl (hb hby hd) rfl hy k) k
theorem Gol.irem (X : Stand p l e R s m args below meth c T locs cells slots) (hx : p.tables.exec = Jvm.exec) (hby : c.code = code) {x y : Int32} (hd : decode code pc = .ok (.irem, 1)) (hp : pc + 1 = pc') (hy : y ≠ 0) (k : GolF p e below Fe Qf kc ks T m pc' Ls (.int (x % y) :: rest)) : GolF p e below Fe Qf kc ks T m pc Ls (.int y :: .int x :: rest) := by
  subst hp
  exact Gol.step (fun _ k => Jvm.RoadKit.iremM X hx rfl (hb hby hd) rfl hy k) k
theorem Gol.ldiv (X : Stand p l e R s m args below meth c T locs cells slots) (hx : p.tables.exec = Jvm.exec) (hby : c.code = code) {x y : Int64} (hd : decode code pc = .ok (.ldiv, 1)) (hp : pc + 1 = pc') (hy : y ≠ 0) (k : GolF p e below Fe Qf kc ks T m pc' Ls (.long (x / y) :: rest)) : GolF p e below Fe Qf kc ks T m pc Ls (.long y :: .long x :: rest) := by
  subst hp
  exact Gol.step (fun _ k => XT.ldiv X.here hx rfl (hb hby hd) rfl hy k) k
theorem Gol.lrem (X : Stand p l e R s m args below meth c T locs cells slots) (hx : p.tables.exec = Jvm.exec) (hby : c.code = code) {x y : Int64} (hd : decode code pc = .ok (.lrem, 1)) (hp : pc + 1 = pc') (hy : y ≠ 0) (k : GolF p e below Fe Qf kc ks T m pc' Ls (.long (x - (x / y) * y) :: rest)) : GolF p e below Fe Qf kc ks T m pc Ls (.long y :: .long x :: rest) := by
  subst hp
  exact Gol.step (fun _ k => XT.lrem X.here hx rfl (hb hby hd) rfl hy k) k
theorem Gol.iinc (X : Stand p l e R s m args below meth c T locs cells slots) (hx : p.tables.exec = Jvm.exec) (hby : c.code = code) {k : Nat} {cst : Int} {x : Int32} (hd : decode code pc = .ok (.iinc k cst, 3)) (hp : pc + 3 = pc') (hl : Ls[k]? = some (.val (.int x))) (hl' : storeLocals Ls k (.int (x + Int32.ofInt cst)) = some l') (k : GolF p e below Fe Qf kc ks T m pc' l' rest) : GolF p e below Fe Qf kc ks T m pc Ls rest := by
  subst hp
  exact Gol.step (fun _ k => XS.iinc X.here hx rfl (hb hby hd) hl hl' k) k
theorem Gol.dup (X : Stand p l e R s m args below meth c T locs cells slots) (hx : p.tables.exec = Jvm.exec) (hby : c.code = code) {x : Value} (hd : decode code pc = .ok (.dup, 1)) (hp : pc + 1 = pc') (hc : x.category = 1) (k : GolF p e below Fe Qf kc ks T m pc' Ls (x :: x :: rest)) : GolF p e below Fe Qf kc ks T m pc Ls (x :: rest) := by
  subst hp
  exact Gol.step (fun _ k => XS.dup X.here hx rfl (hb hby hd) rfl hc k) k
theorem Gol.pop (X : Stand p l e R s m args below meth c T locs cells slots) (hx : p.tables.exec = Jvm.exec) (hby : c.code = code) {x : Value} (hd : decode code pc = .ok (.pop, 1)) (hp : pc + 1 = pc') (hc : x.category = 1) (k : GolF p e below Fe Qf kc ks T m pc' Ls rest) : GolF p e below Fe Qf kc ks T m pc Ls (x :: rest) := by
  subst hp
  exact Gol.step (fun _ k => XT.pop X.here hx rfl (hb hby hd) rfl hc k) k
theorem Gol.dupX1 (X : Stand p l e R s m args below meth c T locs cells slots) (hx : p.tables.exec = Jvm.exec) (hby : c.code = code) {x y : Value} (hd : decode code pc = .ok (.dup_x1, 1)) (hp : pc + 1 = pc') (hc : x.category = 1) (hc' : y.category = 1) (k : GolF p e below Fe Qf kc ks T m pc' Ls (x :: y :: x :: rest)) : GolF p e below Fe Qf kc ks T m pc Ls (x :: y :: rest) := by
  subst hp
  exact Gol.step (fun _ k => XT.dupX1 X.here hx rfl (hb hby hd) rfl hc hc' k) k
theorem Gol.dup2 (X : Stand p l e R s m args below meth c T locs cells slots) (hx : p.tables.exec = Jvm.exec) (hby : c.code = code) {x y : Value} (hd : decode code pc = .ok (.dup2, 1)) (hp : pc + 1 = pc') (hc : x.category = 1) (hc' : y.category = 1) (k : GolF p e below Fe Qf kc ks T m pc' Ls (x :: y :: x :: y :: rest)) : GolF p e below Fe Qf kc ks T m pc Ls (x :: y :: rest) := by
  subst hp
  exact Gol.step (fun _ k => XT.dup2 X.here hx rfl (hb hby hd) rfl hc hc' k) k
theorem Gol.dup2L (X : Stand p l e R s m args below meth c T locs cells slots) (hx : p.tables.exec = Jvm.exec) (hby : c.code = code) {x : Int64} (hd : decode code pc = .ok (.dup2, 1)) (hp : pc + 1 = pc') (k : GolF p e below Fe Qf kc ks T m pc' Ls (.long x :: .long x :: rest)) : GolF p e below Fe Qf kc ks T m pc Ls (.long x :: rest) := by
  subst hp
  exact Gol.step (fun _ k => XT.dup2L X.here hx rfl (hb hby hd) rfl k) k
theorem Gol.goto (X : Stand p l e R s m args below meth c T locs cells slots) (hx : p.tables.exec = Jvm.exec) (hby : c.code = code) {o : Int} (hd : decode code pc = .ok (.goto o, 3)) (hp : (pc : Int) + o = (pc' : Int)) (k : GolF p e below Fe Qf kc ks T m pc' Ls rest) : GolF p e below Fe Qf kc ks T m pc Ls rest :=
  Gol.step (fun _ k => XS.goto X.here hx rfl (pc0 := pc) rfl (hb hby hd) (by rw [hp]; exact Int.natCast_nonneg _) (by rw [hp]; rfl) k) k
theorem Gol.ifYes (X : Stand p l e R s m args below meth c T locs cells slots) (hx : p.tables.exec = Jvm.exec) (hby : c.code = code) {o : Int} {cd : ClassFile.Cond} {x : Int32} (hd : decode code pc = .ok (.ifCond cd o, 3)) (hp : (pc : Int) + o = (pc' : Int)) (hc : ifCond.holds cd x = true) (k : GolF p e below Fe Qf kc ks T m pc' Ls rest) : GolF p e below Fe Qf kc ks T m pc Ls (.int x :: rest) :=
  Gol.step (fun _ k => XS.ifYes X.here hx rfl (pc0 := pc) rfl (hb hby hd) rfl hc (by rw [hp]; exact Int.natCast_nonneg _) (by rw [hp]; rfl) k) k
theorem Gol.icmpYes (X : Stand p l e R s m args below meth c T locs cells slots) (hx : p.tables.exec = Jvm.exec) (hby : c.code = code) {o : Int} {cd : ClassFile.Cond} {x y : Int32} (hd : decode code pc = .ok (.if_icmp cd o, 3)) (hp : (pc : Int) + o = (pc' : Int)) (hc : if_icmp.holds cd x y = true) (k : GolF p e below Fe Qf kc ks T m pc' Ls rest) : GolF p e below Fe Qf kc ks T m pc Ls (.int y :: .int x :: rest) :=
  Gol.step (fun _ k => XS.icmpYes X.here hx rfl (pc0 := pc) rfl (hb hby hd) rfl hc (by rw [hp]; exact Int.natCast_nonneg _) (by rw [hp]; rfl) k) k
theorem Gol.ifNo (X : Stand p l e R s m args below meth c T locs cells slots) (hx : p.tables.exec = Jvm.exec) (hby : c.code = code) {o : Int} {cd : ClassFile.Cond} {x : Int32} (hd : decode code pc = .ok (.ifCond cd o, 3)) (hp : pc + 3 = pc') (hc : ifCond.holds cd x = false) (k : GolF p e below Fe Qf kc ks T m pc' Ls rest) : GolF p e below Fe Qf kc ks T m pc Ls (.int x :: rest) := by
  subst hp
  exact Gol.step (fun _ k => XS.ifNo X.here hx rfl (hb hby hd) rfl hc k) k
theorem Gol.icmpNo (X : Stand p l e R s m args below meth c T locs cells slots) (hx : p.tables.exec = Jvm.exec) (hby : c.code = code) {o : Int} {cd : ClassFile.Cond} {x y : Int32} (hd : decode code pc = .ok (.if_icmp cd o, 3)) (hp : pc + 3 = pc') (hc : if_icmp.holds cd x y = false) (k : GolF p e below Fe Qf kc ks T m pc' Ls rest) : GolF p e below Fe Qf kc ks T m pc Ls (.int y :: .int x :: rest) := by
  subst hp
  exact Gol.step (fun _ k => XS.icmpNo X.here hx rfl (hb hby hd) rfl hc k) k
theorem Gol.ifnullYes (X : Stand p l e R s m args below meth c T locs cells slots) (hx : p.tables.exec = Jvm.exec) (hby : c.code = code) {o : Int} (hd : decode code pc = .ok (.ifnull o, 3)) (hp : (pc : Int) + o = (pc' : Int)) (k : GolF p e below Fe Qf kc ks T m pc' Ls rest) : GolF p e below Fe Qf kc ks T m pc Ls (.null :: rest) :=
  Gol.step (fun _ k => XS.ifnullYes X.here hx rfl (pc0 := pc) rfl (hb hby hd) rfl (by rw [hp]; exact Int.natCast_nonneg _) (by rw [hp]; rfl) k) k
theorem Gol.ifnullNo (X : Stand p l e R s m args below meth c T locs cells slots) (hx : p.tables.exec = Jvm.exec) (hby : c.code = code) {o : Int} {b : Addr} (hd : decode code pc = .ok (.ifnull o, 3)) (hp : pc + 3 = pc') (k : GolF p e below Fe Qf kc ks T m pc' Ls rest) : GolF p e below Fe Qf kc ks T m pc Ls (.ref b :: rest) := by
  subst hp
  exact Gol.step (fun _ k => XS.ifnullNo X.here hx rfl (hb hby hd) rfl k) k
theorem Gol.ifnonnullYes (X : Stand p l e R s m args below meth c T locs cells slots) (hx : p.tables.exec = Jvm.exec) (hby : c.code = code) {o : Int} {b : Addr} (hd : decode code pc = .ok (.ifnonnull o, 3)) (hp : (pc : Int) + o = (pc' : Int)) (k : GolF p e below Fe Qf kc ks T m pc' Ls rest) : GolF p e below Fe Qf kc ks T m pc Ls (.ref b :: rest) :=
  Gol.step (fun _ k => XT.ifnonnullYes X.here hx rfl (pc0 := pc) rfl (hb hby hd) rfl (by rw [hp]; exact Int.natCast_nonneg _) (by rw [hp]; rfl) k) k
theorem Gol.ifnonnullNo (X : Stand p l e R s m args below meth c T locs cells slots) (hx : p.tables.exec = Jvm.exec) (hby : c.code = code) {o : Int} (hd : decode code pc = .ok (.ifnonnull o, 3)) (hp : pc + 3 = pc') (k : GolF p e below Fe Qf kc ks T m pc' Ls rest) : GolF p e below Fe Qf kc ks T m pc Ls (.null :: rest) := by
  subst hp
  exact Gol.step (fun _ k => XT.ifnonnullNo X.here hx rfl (hb hby hd) rfl k) k
theorem Gol.acmp (X : Stand p l e R s m args below meth c T locs cells slots) (hx : p.tables.exec = Jvm.exec) (hby : c.code = code) {cd : ACond} {o : Int} {x y : Value} (same : Bool) (hd : decode code pc = .ok (.if_acmp cd o, 3)) (h1 : x.isRef = true) (h2 : y.isRef = true) (hq : decide (x = y) = same) (ho : 0 ≤ (pc : Int) + o) (hp : pc' = if acV cd same = true then ((pc : Int) + o).toNat else pc + 3) (k : GolF p e below Fe Qf kc ks T m pc' Ls rest) : GolF p e below Fe Qf kc ks T m pc Ls (y :: x :: rest) :=
  Gol.step (fun _ k => Jvm.RoadKit.acmp (g := mkF m pc Ls (y :: x :: rest)) X hx rfl h1 h2 (pc0 := pc) (pc' := pc') rfl (hb hby hd) rfl hq ho hp k) k
theorem Gol.ldcInt (X : Stand p l e R s m args below meth c T locs cells slots) (hx : p.tables.exec = Jvm.exec) (hby : c.code = code) (hZ : Z.Warmed39 s.vm) {own : String} (hown : s.vm.findClass own = some m.cls) {index : Nat} {v : Int32} (hd : decode code pc = .ok (.ldc index, 2)) (hp : pc + 2 = pc') (w : (Cond.constant own index v).before a0 Z = true) (k : GolF p e below Fe Qf kc ks T m pc' Ls (.int v :: rest)) : GolF p e below Fe Qf kc ks T m pc Ls rest := by
  subst hp
  exact Gol.step (fun _ k => X.ldcInt hx hown (mvT hZ w) (g := mkF m pc Ls rest) rfl (hb hby hd) _ k) k
theorem Gol.ldcwInt (X : Stand p l e R s m args below meth c T locs cells slots) (hx : p.tables.exec = Jvm.exec) (hby : c.code = code) (hZ : Z.Warmed39 s.vm) {own : String} (hown : s.vm.findClass own = some m.cls) {index : Nat} {v : Int32} (hd : decode code pc = .ok (.ldc_w index, 3)) (hp : pc + 3 = pc') (w : (Cond.constant own index v).before a0 Z = true) (k : GolF p e below Fe Qf kc ks T m pc' Ls (.int v :: rest)) : GolF p e below Fe Qf kc ks T m pc Ls rest := by
  subst hp
  exact Gol.step (fun _ k => X.ldcwInt hx hown (mvT hZ w) (g := mkF m pc Ls rest) rfl (hb hby hd) _ k) k
theorem Gol.ldc2Long (X : Stand p l e R s m args below meth c T locs cells slots) (hx : p.tables.exec = Jvm.exec) (hby : c.code = code) (hZ : Z.Warmed39 s.vm) {own : String} (hown : s.vm.findClass own = some m.cls) {index : Nat} {v : Int64} (hd : decode code pc = .ok (.ldc2_w index, 3)) (hp : pc + 3 = pc') (w : (Cond.constantLong own index v).before a0 Z = true) (k : GolF p e below Fe Qf kc ks T m pc' Ls (.long v :: rest)) : GolF p e below Fe Qf kc ks T m pc Ls rest := by
  subst hp
  exact Gol.step (fun _ k => X.ldc2Long hx hown (mvT hZ w) (g := mkF m pc Ls rest) rfl (hb hby hd) _ k) k
theorem Gol.iaload (X : Stand p l e R s m args below meth c T locs cells slots) (hx : p.tables.exec = Jvm.exec) (hby : c.code = code) (hZ : Z.Warmed39 s.vm) (eT : T.heap = h) {a : Addr} {ka : ClassId} {z j : Int32} {vs : List Value} {dv : Value} {v : Int32} (A : Arv Z h a ka .int z vs dv) (hd : decode code pc = .ok (.iaload, 1)) (hp : pc + 1 = pc') (hj : ¬ j < 0 ∧ j < z) (hv : vs.getD j.toNatClampNeg dv = .int v) (k : GolF p e below Fe Qf kc ks T m pc' Ls (.int v :: rest)) : GolF p e below Fe Qf kc ks T m pc Ls (.int j :: .ref a :: rest) := by
  subst hp
  obtain ⟨cl, Ar, -, S, -, Hs, -⟩ := A
  have hin := inb_of S hj
  exact Gol.step (fun _ k => X.iaload hx (by rw [eT]; exact Ar.1) (State.isArrayOf_alike hZ.alike Ar.2.1) Ar.2.2 hin (Has.at Hs hin hv) (g := mkF m pc Ls (.int j :: .ref a :: rest)) rfl rfl (hb hby hd) _ k) k
theorem Gol.baload (X : Stand p l e R s m args below meth c T locs cells slots) (hx : p.tables.exec = Jvm.exec) (hby : c.code = code) (hZ : Z.Warmed39 s.vm) (eT : T.heap = h) {a : Addr} {ka : ClassId} {z j : Int32} {vs : List Value} {dv : Value} {v : Int32} (A : Arv Z h a ka .byte z vs dv) (hd : decode code pc = .ok (.baload, 1)) (hp : pc + 1 = pc') (hj : ¬ j < 0 ∧ j < z) (hv : vs.getD j.toNatClampNeg dv = .int v) (k : GolF p e below Fe Qf kc ks T m pc' Ls (.int v :: rest)) : GolF p e below Fe Qf kc ks T m pc Ls (.int j :: .ref a :: rest) := by
  subst hp
  obtain ⟨cl, Ar, -, S, -, Hs, -⟩ := A
  have hin := inb_of S hj
  exact Gol.step (fun _ k => X.baloadBytes hx (by rw [eT]; exact Ar.1) (State.isArrayOf_alike hZ.alike Ar.2.1) Ar.2.2 hin (Has.at Hs hin hv) (g := mkF m pc Ls (.int j :: .ref a :: rest)) rfl rfl (hb hby hd) _ k) k
theorem Gol.caload (X : Stand p l e R s m args below meth c T locs cells slots) (hx : p.tables.exec = Jvm.exec) (hby : c.code = code) (hZ : Z.Warmed39 s.vm) (eT : T.heap = h) {a : Addr} {ka : ClassId} {z j : Int32} {vs : List Value} {dv : Value} {v : Int32} (A : Arv Z h a ka .char z vs dv) (hd : decode code pc = .ok (.caload, 1)) (hp : pc + 1 = pc') (hj : ¬ j < 0 ∧ j < z) (hv : vs.getD j.toNatClampNeg dv = .int v) (k : GolF p e below Fe Qf kc ks T m pc' Ls (.int v :: rest)) : GolF p e below Fe Qf kc ks T m pc Ls (.int j :: .ref a :: rest) := by
  subst hp
  obtain ⟨cl, Ar, -, S, -, Hs, -⟩ := A
  have hin := inb_of S hj
  exact Gol.step (fun _ k => X.caload hx (by rw [eT]; exact Ar.1) (State.isArrayOf_alike hZ.alike Ar.2.1) Ar.2.2 hin (Has.at Hs hin hv) (g := mkF m pc Ls (.int j :: .ref a :: rest)) rfl rfl (hb hby hd) _ k) k
theorem Gol.laload (X : Stand p l e R s m args below meth c T locs cells slots) (hx : p.tables.exec = Jvm.exec) (hby : c.code = code) (hZ : Z.Warmed39 s.vm) (eT : T.heap = h) {a : Addr} {ka : ClassId} {z j : Int32} {vs : List Value} {dv : Value} {v : Int64} (A : Arv Z h a ka .long z vs dv) (hd : decode code pc = .ok (.laload, 1)) (hp : pc + 1 = pc') (hj : ¬ j < 0 ∧ j < z) (hv : vs.getD j.toNatClampNeg dv = .long v) (k : GolF p e below Fe Qf kc ks T m pc' Ls (.long v :: rest)) : GolF p e below Fe Qf kc ks T m pc Ls (.int j :: .ref a :: rest) := by
  subst hp
  obtain ⟨cl, Ar, -, S, -, Hs, -⟩ := A
  have hin := inb_of S hj
  exact Gol.step (fun _ k => X.laload hx (by rw [eT]; exact Ar.1) (State.isArrayOf_alike hZ.alike Ar.2.1) Ar.2.2 hin (Has.at Hs hin hv) (g := mkF m pc Ls (.int j :: .ref a :: rest)) rfl rfl (hb hby hd) _ k) k
theorem Gol.aaload (X : Stand p l e R s m args below meth c T locs cells slots) (hx : p.tables.exec = Jvm.exec) (hby : c.code = code) (hZ : Z.Warmed39 s.vm) (eT : T.heap = h) {a : Addr} {ka : ClassId} {ty : FieldType} {z j : Int32} {vs : List Value} {dv v : Value} (A : Arv Z h a ka ty z vs dv) (hd : decode code pc = .ok (.aaload, 1)) (hp : pc + 1 = pc') (ht : ty.isReference = true) (hj : ¬ j < 0 ∧ j < z) (hv : vs.getD j.toNatClampNeg dv = v) (k : GolF p e below Fe Qf kc ks T m pc' Ls (v :: rest)) : GolF p e below Fe Qf kc ks T m pc Ls (.int j :: .ref a :: rest) := by
  subst hp
  obtain ⟨cl, Ar, -, S, -, Hs, -⟩ := A
  have hin := inb_of S hj
  exact Gol.step (fun _ k => X.aaload hx (by rw [eT]; exact Ar.1) (State.isArrayOf_alike hZ.alike Ar.2.1) ht Ar.2.2 hin (Has.at Hs hin hv) (g := mkF m pc Ls (.int j :: .ref a :: rest)) rfl rfl (hb hby hd) _ k) k
theorem Gol.alen (X : Stand p l e R s m args below meth c T locs cells slots) (hx : p.tables.exec = Jvm.exec) (hby : c.code = code) (hZ : Z.Warmed39 s.vm) (eT : T.heap = h) {a : Addr} {ka : ClassId} {ty : FieldType} {z : Int32} {vs : List Value} {dv : Value} (A : Arv Z h a ka ty z vs dv) (hd : decode code pc = .ok (.arraylength, 1)) (hp : pc + 1 = pc') (k : GolF p e below Fe Qf kc ks T m pc' Ls (.int z :: rest)) : GolF p e below Fe Qf kc ks T m pc Ls (.ref a :: rest) := by
  subst hp
  obtain ⟨cl, Ar, -, S, M, -, -⟩ := A
  rw [← len_of S M] at k
  exact Gol.step (fun _ k => X.arraylength hx (by rw [eT]; exact Ar.1) (State.isArrayOf_alike hZ.alike Ar.2.1) (g := mkF m pc Ls (.ref a :: rest)) rfl rfl (hb hby hd) _ k) k
theorem Gol.iastore (X : Stand p l e R s m args below meth c T locs cells slots) (hx : p.tables.exec = Jvm.exec) (hby : c.code = code) (hZ : Z.Warmed39 s.vm) (eT : T.heap = h) {a : Addr} {ka : ClassId} {z j : Int32} {x : Int32} {vs : List Value} {dv : Value} (A : Arv Z h a ka .int z vs dv) (hd : decode code pc = .ok (.iastore, 1)) (hp : pc + 1 = pc') (hj : ¬ j < 0 ∧ j < z) (i : Nat) (hi : j.toNatClampNeg = i) (hl : i < vs.length)
    (k : ∀ (T' : State) (h' : Heap), Stand p l e R s m args below meth c T' (locs ++ [⟨a, j.toNatClampNeg⟩]) cells slots → T'.heap = h' → Wr h h' a j.toNatClampNeg (.int x) → Arv Z h' a ka .int z (vs.set i (.int x)) dv → GolF p e below Fe Qf kc ks T' m pc' Ls rest) : GolF p e below Fe Qf kc ks T m pc Ls (.int x :: .int j :: .ref a :: rest) := by
  subst hp
  obtain ⟨cl, Ar, q, S, M, Hs, G⟩ := A
  have hin := inb_of S hj
  obtain ⟨T', h', X', e', W, st⟩ := stI X hx hZ eT Ar (j := j) hin (g := mkF m pc Ls (.int x :: .int j :: .ref a :: rest)) rfl rfl (hb hby hd)
  exact Gol.step st (k T' h' X' e' W (Arv.set Ar q S M Hs G rfl W i hi hl))
theorem Gol.lastore (X : Stand p l e R s m args below meth c T locs cells slots) (hx : p.tables.exec = Jvm.exec) (hby : c.code = code) (hZ : Z.Warmed39 s.vm) (eT : T.heap = h) {a : Addr} {ka : ClassId} {z j : Int32} {x : Int64} {vs : List Value} {dv : Value} (A : Arv Z h a ka .long z vs dv) (hd : decode code pc = .ok (.lastore, 1)) (hp : pc + 1 = pc') (hj : ¬ j < 0 ∧ j < z) (i : Nat) (hi : j.toNatClampNeg = i) (hl : i < vs.length)
    (k : ∀ (T' : State) (h' : Heap), Stand p l e R s m args below meth c T' (locs ++ [⟨a, j.toNatClampNeg⟩]) cells slots → T'.heap = h' → Wr h h' a j.toNatClampNeg (.long x) → Arv Z h' a ka .long z (vs.set i (.long x)) dv → GolF p e below Fe Qf kc ks T' m pc' Ls rest) : GolF p e below Fe Qf kc ks T m pc Ls (.long x :: .int j :: .ref a :: rest) := by
  subst hp
  obtain ⟨cl, Ar, q, S, M, Hs, G⟩ := A
  have hin := inb_of S hj
  obtain ⟨T', h', X', e', W, st⟩ := stJ X hx hZ eT Ar (j := j) hin (g := mkF m pc Ls (.long x :: .int j :: .ref a :: rest)) rfl rfl (hb hby hd)
  exact Gol.step st (k T' h' X' e' W (Arv.set Ar q S M Hs G rfl W i hi hl))
theorem Gol.bastore (X : Stand p l e R s m args below meth c T locs cells slots) (hx : p.tables.exec = Jvm.exec) (hby : c.code = code) (hZ : Z.Warmed39 s.vm) (eT : T.heap = h) {a : Addr} {ka : ClassId} {z j : Int32} {x : Int32} {vs : List Value} {dv : Value} (A : Arv Z h a ka .byte z vs dv) (hd : decode code pc = .ok (.bastore, 1)) (hp : pc + 1 = pc') (hj : ¬ j < 0 ∧ j < z) (i : Nat) (hi : j.toNatClampNeg = i) (hl : i < vs.length)
    (k : ∀ (T' : State) (h' : Heap), Stand p l e R s m args below meth c T' (locs ++ [⟨a, j.toNatClampNeg⟩]) cells slots → T'.heap = h' → Wr h h' a j.toNatClampNeg (.int (nar .byte x)) → Arv Z h' a ka .byte z (vs.set i (.int (nar .byte x))) dv → GolF p e below Fe Qf kc ks T' m pc' Ls rest) : GolF p e below Fe Qf kc ks T m pc Ls (.int x :: .int j :: .ref a :: rest) := by
  subst hp
  obtain ⟨cl, Ar, q, S, M, Hs, G⟩ := A
  have hin := inb_of S hj
  obtain ⟨T', h', X', e', W, st⟩ := stB X hx hZ eT Ar (j := j) hin (g := mkF m pc Ls (.int x :: .int j :: .ref a :: rest)) rfl rfl (hb hby hd)
  exact Gol.step st (k T' h' X' e' W (Arv.set Ar q S M Hs G (fits_nar_byte _) W i hi hl))
theorem Gol.castore (X : Stand p l e R s m args below meth c T locs cells slots) (hx : p.tables.exec = Jvm.exec) (hby : c.code = code) (hZ : Z.Warmed39 s.vm) (eT : T.heap = h) {a : Addr} {ka : ClassId} {z j : Int32} {x : Int32} {vs : List Value} {dv : Value} (A : Arv Z h a ka .char z vs dv) (hd : decode code pc = .ok (.castore, 1)) (hp : pc + 1 = pc') (hj : ¬ j < 0 ∧ j < z) (i : Nat) (hi : j.toNatClampNeg = i) (hl : i < vs.length)
    (k : ∀ (T' : State) (h' : Heap), Stand p l e R s m args below meth c T' (locs ++ [⟨a, j.toNatClampNeg⟩]) cells slots → T'.heap = h' → Wr h h' a j.toNatClampNeg (.int (nar .char x)) → Arv Z h' a ka .char z (vs.set i (.int (nar .char x))) dv → GolF p e below Fe Qf kc ks T' m pc' Ls rest) : GolF p e below Fe Qf kc ks T m pc Ls (.int x :: .int j :: .ref a :: rest) := by
  subst hp
  obtain ⟨cl, Ar, q, S, M, Hs, G⟩ := A
  have hin := inb_of S hj
  obtain ⟨T', h', X', e', W, st⟩ := stC X hx hZ eT Ar (j := j) hin (g := mkF m pc Ls (.int x :: .int j :: .ref a :: rest)) rfl rfl (hb hby hd)
  exact Gol.step st (k T' h' X' e' W (Arv.set Ar q S M Hs G (fits_nar_char _) W i hi hl))
theorem Gol.aastore (X : Stand p l e R s m args below meth c T locs cells slots) (hx : p.tables.exec = Jvm.exec) (hby : c.code = code) (hZ : Z.Warmed39 s.vm) (eT : T.heap = h) {a : Addr} {ka : ClassId} {z j : Int32} {x : Value} {ty : FieldType} {vs : List Value} {dv : Value} (A : Arv Z h a ka ty z vs dv) (hd : decode code pc = .ok (.aastore, 1)) (hp : pc + 1 = pc') (hj : ¬ j < 0 ∧ j < z) (i : Nat) (hi : j.toNatClampNeg = i) (hl : i < vs.length) (ht : ty.isReference = true) (hf : fits ty x = true) (so : ∀ cl : Cell, Arr Z h a cl ty → cl.cls = ka → Sto Z h a x)
    (k : ∀ (T' : State) (h' : Heap), Stand p l e R s m args below meth c T' (locs ++ [⟨a, j.toNatClampNeg⟩]) cells slots → T'.heap = h' → Wr h h' a j.toNatClampNeg x → Arv Z h' a ka ty z (vs.set i x) dv → GolF p e below Fe Qf kc ks T' m pc' Ls rest) : GolF p e below Fe Qf kc ks T m pc Ls (x :: .int j :: .ref a :: rest) := by
  subst hp
  obtain ⟨cl, Ar, q, S, M, Hs, G⟩ := A
  have hin := inb_of S hj
  obtain ⟨T', h', X', e', W, st⟩ := stR X hx hZ eT Ar (j := j) hin ht (so cl Ar q) (g := mkF m pc Ls (x :: .int j :: .ref a :: rest)) rfl rfl (hb hby hd)
  exact Gol.step st (k T' h' X' e' W (Arv.set Ar q S M Hs G hf W i hi hl))
theorem Gol.newarr (X : Stand p l e R s m args below meth c T locs cells slots) (hx : p.tables.exec = Jvm.exec) (hby : c.code = code) (hZ : Z.Warmed39 s.vm) {aty : ArrayType} (w : (Cond.arrayClass (newarray.typeOf aty)).before a0 Z = true) (eT : T.heap = h) {n : Int32} (cap : Nat) (hd : decode code pc = .ok (.newarray aty, 2)) (hp : pc + 2 = pc') (hn : ¬ n < 0) (hcap : n.toNatClampNeg ≤ cap) (hb8 : cap * 8 ≤ 536870912) (hc : cells + 1 ≤ R.cells) (hl : slots + cap ≤ R.slots)
    (k : ∀ (T' : State) (h' : Heap) (ka : ClassId) (b : Addr), b = h.size → Stand p l e R s m args below meth c T' locs (cells + 1) (slots + cap) → T'.heap = h' → Ext h h' → Arv Z h' b ka (newarray.typeOf aty) n [] (defaultValue (newarray.typeOf aty)) → GolF p e below Fe Qf kc ks T' m pc' Ls (.ref b :: rest)) : GolF p e below Fe Qf kc ks T m pc Ls (.int n :: rest) := by
  subst hp
  obtain ⟨T', h', ka, X', e', E, A, st⟩ := newP X hx hZ w eT (g := mkF m pc Ls (.int n :: rest)) rfl (hb hby hd) rfl hn (cap := cap) hcap hb8 hc hl
  exact Gol.step st (k T' h' ka _ rfl X' e' E (Arv.new A hn))
theorem Gol.newref (X : Stand p l e R s m args below meth c T locs cells slots) (hx : p.tables.exec = Jvm.exec) (hby : c.code = code) (hZ : Z.Warmed39 s.vm) {own : String} (hown : s.vm.findClass own = some m.cls) {C : String} {index : Nat} (w1 : (Cond.classLink own index C).before a0 Z = true) (w2 : (Cond.arrayOver (.object C)).before a0 Z = true) (eT : T.heap = h) {n : Int32} (cap : Nat) (hd : decode code pc = .ok (.anewarray index, 3)) (hp : pc + 3 = pc') (hn : ¬ n < 0) (hcap : n.toNatClampNeg ≤ cap) (hb8 : cap * 8 ≤ 536870912) (hc : cells + 1 ≤ R.cells) (hl : slots + cap ≤ R.slots)
    (k : ∀ (T' : State) (h' : Heap) (ka : ClassId) (b : Addr), b = h.size → Stand p l e R s m args below meth c T' locs (cells + 1) (slots + cap) → T'.heap = h' → Ext h h' → Arv Z h' b ka (.object C) n [] .null → Ovr Z ka C → GolF p e below Fe Qf kc ks T' m pc' Ls (.ref b :: rest)) : GolF p e below Fe Qf kc ks T m pc Ls (.int n :: rest) := by
  subst hp
  obtain ⟨T', h', ka, X', e', E, A, O, st⟩ := newR X hx hZ hown w1 w2 eT (g := mkF m pc Ls (.int n :: rest)) rfl (hb hby hd) rfl hn (cap := cap) hcap hb8 hc hl
  exact Gol.step st (k T' h' ka _ rfl X' e' E (Arv.new A hn) O)
theorem Gol.getF (X : Stand p l e R s m args below meth c T locs cells slots) (hx : p.tables.exec = Jvm.exec) (hby : c.code = code) (hZ : Z.Warmed39 s.vm) {own : String} (hown : s.vm.findClass own = some m.cls) {R0 O n d host : String} {index : Nat} (w : (Cond.fieldLink own index R0 n d).before a0 Z = true ∨ (Cond.fieldLinkNest own index R0 n d host).before a0 Z = true) (via : Via Z R0 O n d) (eT : T.heap = h) {a : Addr} {v : Value} (F : Fld Z h a O n d v) (hd : decode code pc = .ok (.getfield index, 3)) (hp : pc + 3 = pc')
    (k : ∀ T' : State, Stand p l e R s m args below meth c T' locs cells slots → T'.heap = h → GolF p e below Fe Qf kc ks T' m pc' Ls (v :: rest)) : GolF p e below Fe Qf kc ks T m pc Ls (.ref a :: rest) := by
  subst hp
  obtain ⟨T', X', e', st⟩ := getF X hx hZ hown (host := host) w via eT F (g := mkF m pc Ls (.ref a :: rest)) rfl rfl (hb hby hd)
  exact Gol.step st (k T' X' e')
theorem Gol.getS (X : Stand p l e R s m args below meth c T locs cells slots) (hx : p.tables.exec = Jvm.exec) (hby : c.code = code) (hZ : Z.Warmed39 s.vm) {own : String} (hown : s.vm.findClass own = some m.cls) {R0 O n d host : String} {index : Nat} (w : (Cond.fieldLink own index R0 n d).before a0 Z = true ∨ (Cond.fieldLinkNest own index R0 n d host).before a0 Z = true) (via : Via Z R0 O n d) (eT : T.heap = h) {v : Value} (F : Sta Z h O n d v) (hd : decode code pc = .ok (.getstatic index, 3)) (hp : pc + 3 = pc')
    (k : ∀ T' : State, Stand p l e R s m args below meth c T' locs cells slots → T'.heap = h → GolF p e below Fe Qf kc ks T' m pc' Ls (v :: rest)) : GolF p e below Fe Qf kc ks T m pc Ls rest := by
  subst hp
  obtain ⟨T', X', e', st⟩ := getS2 X hx hZ hown (host := host) w via eT F (g := mkF m pc Ls rest) rfl (hb hby hd)
  exact Gol.step st (k T' X' e')
theorem Gol.putF (X : Stand p l e R s m args below meth c T locs cells slots) (hx : p.tables.exec = Jvm.exec) (hby : c.code = code) (hZ : Z.Warmed39 s.vm) {own : String} (hown : s.vm.findClass own = some m.cls) {R0 O n d host : String} {index : Nat} (w : (Cond.fieldLink own index R0 n d).before a0 Z = true ∨ (Cond.fieldLinkNest own index R0 n d host).before a0 Z = true) (via : Via Z R0 O n d) (eT : T.heap = h) {C : String} {kk : Nat} {ty : FieldType} {a : Addr} {v old : Value} (F : Fld Z h a O n d old) (E : Exa Z h a C) (L : (Cond.lays C O n d).before a0 Z = true ∨ ((Cond.laysFinal C O n d).before a0 Z = true ∧ own = O ∧ meth.name = "<init>")) (wi : (Cond.instantiable C kk).before a0 Z = true) (hty : parseFieldDescriptor d = some ty) (hn : narrow ty v = v) (hf : fits ty v = true) (hd : decode code pc = .ok (.putfield index, 3)) (hp : pc + 3 = pc')
    (k : ∀ (T' : State) (h' : Heap), Stand p l e R s m args below meth c T' (locs ++ [⟨a, slotOf Z O n d⟩]) cells slots → T'.heap = h' → Wr h h' a (slotOf Z O n d) v → GolF p e below Fe Qf kc ks T' m pc' Ls rest) : GolF p e below Fe Qf kc ks T m pc Ls (v :: .ref a :: rest) := by
  subst hp
  obtain ⟨T', h', X', e', W, st⟩ := putF X hx hZ hown (host := host) w via eT F E L wi hty hn hf (g := mkF m pc Ls (v :: .ref a :: rest)) rfl rfl (hb hby hd)
  exact Gol.step st (k T' h' X' e' W)
theorem Gol.putFN (X : Stand p l e R s m args below meth c T locs cells slots) (hx : p.tables.exec = Jvm.exec) (hby : c.code = code) (hZ : Z.Warmed39 s.vm) {own : String} (hown : s.vm.findClass own = some m.cls) {R0 O n d : String} {index : Nat} (w : (Cond.fieldLink own index R0 n d).before a0 Z = true) (via : Via Z R0 O n d) (eT : T.heap = h) {C : String} {kk : Nat} {ty : FieldType} {a : Addr} {v v' old : Value} (F : Fld Z h a O n d old) (E : Exa Z h a C) (L : (Cond.lays C O n d).before a0 Z = true ∨ ((Cond.laysFinal C O n d).before a0 Z = true ∧ own = O ∧ meth.name = "<init>")) (wi : (Cond.instantiable C kk).before a0 Z = true) (hty : parseFieldDescriptor d = some ty) (hn : narrow ty v = v') (hf : fits ty v' = true) (hd : decode code pc = .ok (.putfield index, 3)) (hp : pc + 3 = pc')
    (k : ∀ (T' : State) (h' : Heap), Stand p l e R s m args below meth c T' (locs ++ [⟨a, slotOf Z O n d⟩]) cells slots → T'.heap = h' → Wr h h' a (slotOf Z O n d) v' → GolF p e below Fe Qf kc ks T' m pc' Ls rest) : GolF p e below Fe Qf kc ks T m pc Ls (v :: .ref a :: rest) := by
  subst hp
  obtain ⟨T', h', X', e', W, st⟩ := putFN X hx hZ hown w via eT F E L wi hty hn hf (g := mkF m pc Ls (v :: .ref a :: rest)) rfl rfl (hb hby hd)
  exact Gol.step st (k T' h' X' e' W)
theorem Gol.newO (X : Stand p l e R s m args below meth c T locs cells slots) (hx : p.tables.exec = Jvm.exec) (hby : c.code = code) (hZ : Z.Warmed39 s.vm) {own : String} (hown : s.vm.findClass own = some m.cls) {C : String} {index n : Nat} (w : (Cond.classLink own index C).before a0 Z = true) (wi : (Cond.instantiable C n).before a0 Z = true) (wz : (Cond.initialized C).before a0 Z = true) (eT : T.heap = h) (hd : decode code pc = .ok (.new index, 3)) (hp : pc + 3 = pc') (hc : cells + 1 ≤ R.cells) (hl : slots + n ≤ R.slots)
    (k : ∀ (T' : State) (h' : Heap) (b : Addr), b = h.size → Stand p l e R s m args below meth c T' locs (cells + 1) (slots + n) → T'.heap = h' → Ext h h' → Exa Z h' b C → (∀ {O nm d : String} {ty : FieldType}, Laid Z a0 C O nm d → parseFieldDescriptor d = some ty → Fld Z h' b O nm d (defaultValue ty)) → GolF p e below Fe Qf kc ks T' m pc' Ls (.ref b :: rest)) : GolF p e below Fe Qf kc ks T m pc Ls rest := by
  subst hp
  obtain ⟨T', h', X', e', E, A, D, -, st⟩ := newO X hx hZ hown w wi wz eT (g := mkF m pc Ls rest) rfl (hb hby hd) hc hl
  exact Gol.step st (k T' h' _ rfl X' e' E A D)
theorem Gol.initO (X : Stand p l e R s m args below meth c T locs cells slots) (hx : p.tables.exec = Jvm.exec) (hby : c.code = code) (hZ : Z.Warmed39 s.vm) {own : String} (hown : s.vm.findClass own = some m.cls) {index : Nat} (w1 : (Cond.methodLink own index Lib.objectInit).before a0 Z = true) (w2 : (Cond.instanceMethod Lib.objectInit).before a0 Z = true) (w3 : (Cond.code Lib.objectInit ⟨#[0xb1]⟩ 1 none).before a0 Z = true) (eT : T.heap = h) (W : Nat) {a : Addr} (hd : decode code pc = .ok (.invokespecial index, 3)) (hp : pc + 3 = pc') (hsz : Ls.size = c.maxLocals) (hf : 1 ≤ R.frames) (hW : (rest.map fun v => v.category).sum ≤ W) (hl : W + 12 ≤ R.locals)
    (k : ∀ T' : State, Stand p l e R s m args below meth c T' locs cells slots → T'.heap = h → GolF p e below Fe Qf kc ks T' m pc' Ls rest) : GolF p e below Fe Qf kc ks T m pc Ls (.ref a :: rest) := by
  subst hp
  obtain ⟨T', X', e', st⟩ := initO X hx hZ hown w1 w2 w3 eT (g := mkF m pc Ls (.ref a :: rest)) rfl hsz rfl (hb hby hd) hf (W := W) (by show 2 * 0 + _ ≤ _; rw [Nat.mul_zero, Nat.zero_add]; exact hW) hl
  exact Gol.step st (k T' X' e')
theorem Gol.castY (X : Stand p l e R s m args below meth c T locs cells slots) (hx : p.tables.exec = Jvm.exec) (hby : c.code = code) (hZ : Z.Warmed39 s.vm) {own : String} (hown : s.vm.findClass own = some m.cls) {K : String} {index : Nat} (w : (Cond.classLink own index K).before a0 Z = true) (eT : T.heap = h) {a : Addr} (F : Ins Z h a K true) (hd : decode code pc = .ok (.checkcast index, 3)) (hp : pc + 3 = pc')
    (k : ∀ T' : State, Stand p l e R s m args below meth c T' locs cells slots → T'.heap = h → GolF p e below Fe Qf kc ks T' m pc' Ls (.ref a :: rest)) : GolF p e below Fe Qf kc ks T m pc Ls (.ref a :: rest) := by
  subst hp
  obtain ⟨T', X', e', st⟩ := castY X hx hZ hown w eT F (g := mkF m pc Ls (.ref a :: rest)) rfl rfl (hb hby hd)
  exact Gol.step st (k T' X' e')
theorem Gol.instY (X : Stand p l e R s m args below meth c T locs cells slots) (hx : p.tables.exec = Jvm.exec) (hby : c.code = code) (hZ : Z.Warmed39 s.vm) {own : String} (hown : s.vm.findClass own = some m.cls) {K : String} {index : Nat} (w : (Cond.classLink own index K).before a0 Z = true) (eT : T.heap = h) {a : Addr} (F : Ins Z h a K true) (hd : decode code pc = .ok (.instanceof index, 3)) (hp : pc + 3 = pc')
    (k : ∀ T' : State, Stand p l e R s m args below meth c T' locs cells slots → T'.heap = h → GolF p e below Fe Qf kc ks T' m pc' Ls (.int 1 :: rest)) : GolF p e below Fe Qf kc ks T m pc Ls (.ref a :: rest) := by
  subst hp
  obtain ⟨T', X', e', st⟩ := instY X hx hZ hown w eT F (g := mkF m pc Ls (.ref a :: rest)) rfl rfl (hb hby hd)
  exact Gol.step st (k T' X' e')
theorem Gol.callS (X : Stand p l e R s m args below meth c T locs cells slots) (hx : p.tables.exec = Jvm.exec) (hby : c.code = code) (hZ : Z.Warmed39 s.vm) {own : String} (hown : s.vm.findClass own = some m.cls) {index : Nat} {y : MethodName} {bytes : ByteArray} {maxL : Nat} {ret : Option FieldType} {rm : Room} {Q : Option Value → Heap → List Loc → Prop} (W : Nat) (argsL : List Value) (wl : (Cond.methodLink own index y).before a0 Z = true) (ws : (Cond.static y).before a0 Z = true) (wz : (Cond.initialized y.cls).before a0 Z = true) (wc : (Cond.code y bytes maxL ret).before a0 Z = true) (hy : y.cls ≠ "java/lang/invoke/MethodHandle" ∧ y.cls ≠ "java/lang/invoke/VarHandle") (hM : MetFree l y (head1 [Cond.code y bytes maxL ret] rm) (fun aa U => aa = argsL.toArray ∧ Z.Warmed39 U.vm ∧ U.heap = h) (fun _ _ _ _ _ => True) (fun _ U o U' => ∃ v L, o = .returned v ∧ Q v U'.heap L ∧ FrameEnd U o U' L rm.cells rm.slots)) (hf : rm.frames + 1 ≤ R.frames) (hl : W + (maxL + 11) + rm.locals ≤ R.locals) (eT : T.heap = h) {st : List Value} (hsz : Ls.size = c.maxLocals) (hW : (rest.map fun v => v.category).sum ≤ W) (hc : cells + rm.cells ≤ R.cells) (hs : slots + rm.slots ≤ R.slots) (hlen : ∀ sig, parseMethodDescriptor y.desc = some sig → argsL.length = sig.parameters.length) (hst : st = argsL.reverse ++ rest) (hd : decode code pc = .ok (.invokestatic index, 3)) (hp : pc + 3 = pc')
    (k : ∀ (T' : State) (v : Option Value) (L : List Loc), Stand p l e R s m args below meth c T' (locs ++ L) (cells + rm.cells) (slots + rm.slots) → Q v T'.heap L → GolF p e below Fe Qf kc ks T' m pc' Ls (v.toList ++ rest)) : GolF p e below Fe Qf kc ks T m pc Ls st := by
  subst hp
  obtain ⟨v, _, ⟨T', L1, k1, n1⟩, -, X', ⟨Lc, hQ, l1, y1, z1⟩, st1⟩ := Jvm.LawKit.callS X hx hown (mvT hZ wl) (mvT hZ ws) (mvT hZ wz) (mvT hZ wc) hy (backOf (W := W) hM hZ wc wz hf hl) (g := mkF m pc Ls st) rfl hsz hlen hst (by show 2 * 0 + _ ≤ _; rw [Nat.mul_zero, Nat.zero_add]; exact hW) (hb hby hd) (fun _ _ => ⟨rfl, eT, hc, hs⟩)
  dsimp only [Pt.U, Pt.locs, Pt.cells, Pt.slots] at X' l1 y1 z1 st1 hQ
  subst l1 y1 z1
  exact Gol.step st1 (k T' v Lc X' hQ)
theorem Gol.callI (X : Stand p l e R s m args below meth c T locs cells slots) (hx : p.tables.exec = Jvm.exec) (hby : c.code = code) (hZ : Z.Warmed39 s.vm) {own : String} (hown : s.vm.findClass own = some m.cls) {index : Nat} {y : MethodName} {bytes : ByteArray} {maxL : Nat} {ret : Option FieldType} {rm : Room} {Q : Option Value → Heap → List Loc → Prop} (W : Nat) (argsL : List Value) {a : Addr} (wl : (Cond.methodLink own index y).before a0 Z = true) (wi : (Cond.instanceMethod y).before a0 Z = true) (wz : (Cond.initialized y.cls).before a0 Z = true) (hrt : ret = none) (wc : (Cond.code y bytes maxL ret).before a0 Z = true) (hn : y.name = "<init>") (hy : y.cls ≠ "java/lang/invoke/MethodHandle" ∧ y.cls ≠ "java/lang/invoke/VarHandle") (hM : MetFree l y (head1 [Cond.code y bytes maxL ret] rm) (fun aa U => aa = (.ref a :: argsL).toArray ∧ Z.Warmed39 U.vm ∧ U.heap = h) (fun _ _ _ _ _ => True) (fun _ U o U' => ∃ v L, o = .returned v ∧ Q v U'.heap L ∧ FrameEnd U o U' L rm.cells rm.slots)) (hf : rm.frames + 1 ≤ R.frames) (hl : W + (maxL + 11) + rm.locals ≤ R.locals) (eT : T.heap = h) {st : List Value} (hsz : Ls.size = c.maxLocals) (hW : (rest.map fun v => v.category).sum ≤ W) (hc : cells + rm.cells ≤ R.cells) (hs : slots + rm.slots ≤ R.slots) (hlen : ∀ sig, parseMethodDescriptor y.desc = some sig → argsL.length = sig.parameters.length) (hst : st = argsL.reverse ++ .ref a :: rest) (hd : decode code pc = .ok (.invokespecial index, 3)) (hp : pc + 3 = pc')
    (k : ∀ (T' : State) (v : Option Value) (L : List Loc), Stand p l e R s m args below meth c T' (locs ++ L) (cells + rm.cells) (slots + rm.slots) → Q v T'.heap L → GolF p e below Fe Qf kc ks T' m pc' Ls (v.toList ++ rest)) : GolF p e below Fe Qf kc ks T m pc Ls st := by
  subst hp hrt
  obtain ⟨v, _, ⟨T', L1, k1, n1⟩, -, X', ⟨Lc, hQ, l1, y1, z1⟩, st1⟩ := X.specialBack hx hn hown (mvT hZ wl) (mvT hZ wi) (mvT hZ wc) hy (backOf (W := W) hM hZ wc wz hf hl) (g := mkF m pc Ls st) rfl hsz (Steps.refl _) (a := a) hlen hst (by show 2 * 0 + _ ≤ _; rw [Nat.mul_zero, Nat.zero_add]; exact hW) (hb hby hd) (fun _ _ => ⟨rfl, eT, hc, hs⟩)
  dsimp only [Pt.U, Pt.locs, Pt.cells, Pt.slots] at X' l1 y1 z1 st1 hQ
  subst l1 y1 z1
  exact Gol.step (fun _ k => st1.trans k) (k T' v Lc X' hQ)
theorem Gol.callV (X : Stand p l e R s m args below meth c T locs cells slots) (hx : p.tables.exec = Jvm.exec) (hby : c.code = code) (hZ : Z.Warmed39 s.vm) {own : String} (hown : s.vm.findClass own = some m.cls) {index : Nat} {y z : MethodName} {C : String} {bytes : ByteArray} {maxL : Nat} {ret : Option FieldType} {rm : Room} {Q : Option Value → Heap → List Loc → Prop} (W : Nat) (argsL : List Value) {a : Addr} (wl : (Cond.methodLink own index y).before a0 Z = true) (wd : (Cond.declares y).before a0 Z = true) (nf : NotFace s y) (wse : (Cond.selects C y z).before a0 Z = true) (wi : (Cond.instanceMethod z).before a0 Z = true) (wz : (Cond.initialized z.cls).before a0 Z = true) (wc : (Cond.code z bytes maxL ret).before a0 Z = true) (hy : y.cls ≠ "java/lang/invoke/MethodHandle" ∧ y.cls ≠ "java/lang/invoke/VarHandle") (E : Exa Z h a C) (hM : MetFree l z (head1 [Cond.code z bytes maxL ret] rm) (fun aa U => aa = (.ref a :: argsL).toArray ∧ Z.Warmed39 U.vm ∧ U.heap = h) (fun _ _ _ _ _ => True) (fun _ U o U' => ∃ v L, o = .returned v ∧ Q v U'.heap L ∧ FrameEnd U o U' L rm.cells rm.slots)) (hf : rm.frames + 1 ≤ R.frames) (hl : W + (maxL + 11) + rm.locals ≤ R.locals) (eT : T.heap = h) {st : List Value} (hsz : Ls.size = c.maxLocals) (hW : (rest.map fun v => v.category).sum ≤ W) (hc : cells + rm.cells ≤ R.cells) (hs : slots + rm.slots ≤ R.slots) (hlen : ∀ sig, parseMethodDescriptor y.desc = some sig → argsL.length = sig.parameters.length) (hst : st = argsL.reverse ++ .ref a :: rest) (hd : decode code pc = .ok (.invokevirtual index, 3)) (hp : pc + 3 = pc')
    (k : ∀ (T' : State) (v : Option Value) (L : List Loc), Stand p l e R s m args below meth c T' (locs ++ L) (cells + rm.cells) (slots + rm.slots) → Q v T'.heap L → GolF p e below Fe Qf kc ks T' m pc' Ls (v.toList ++ rest)) : GolF p e below Fe Qf kc ks T m pc Ls st := by
  subst hp
  obtain ⟨cq, kq, qa, qb, qc⟩ := isOf hZ eT E
  obtain ⟨v, _, ⟨T', L1, k1, n1⟩, -, X', ⟨Lc, hQ, l1, y1, z1⟩, st1⟩ := X.virtualBack hx hown (mvT hZ wl) (mvT hZ wd) nf (mvT hZ wse) (mvT hZ wi) hy (backOf (W := W) hM hZ wc wz hf hl) qa qc (g := mkF m pc Ls st) rfl hsz (Steps.refl _) hlen hst (by show 2 * 0 + _ ≤ _; rw [Nat.mul_zero, Nat.zero_add]; exact hW) (hb hby hd) (fun _ _ => ⟨rfl, eT, hc, hs⟩)
  dsimp only [Pt.U, Pt.locs, Pt.cells, Pt.slots] at X' l1 y1 z1 st1 hQ
  subst l1 y1 z1
  exact Gol.step (fun _ k => st1.trans k) (k T' v Lc X' hQ)
theorem Gol.callF (X : Stand p l e R s m args below meth c T locs cells slots) (hx : p.tables.exec = Jvm.exec) (hby : c.code = code) (hZ : Z.Warmed39 s.vm) {own : String} (hown : s.vm.findClass own = some m.cls) {index count : Nat} {y z : MethodName} {C : String} {bytes : ByteArray} {maxL : Nat} {ret : Option FieldType} {rm : Room} {Q : Option Value → Heap → List Loc → Prop} (W : Nat) (argsL : List Value) {a : Addr} (wl : (Cond.methodLink own index y).before a0 Z = true) (wd : (Cond.declares y).before a0 Z = true) (wf : (Cond.interfaceMethod y.cls y.cls y.name y.desc).before args s = true) (wse : (Cond.selects C y z).before a0 Z = true) (wi : (Cond.instanceMethod z).before a0 Z = true) (wp : (Cond.publicMethod z).before a0 Z = true) (wu : (Cond.unhidden C y.name y.desc).before a0 Z = true) (wt : (Cond.castable C y.cls).before a0 Z = true) (wz : (Cond.initialized z.cls).before a0 Z = true) (wc : (Cond.code z bytes maxL ret).before a0 Z = true) (hy : y.cls ≠ "java/lang/invoke/MethodHandle" ∧ y.cls ≠ "java/lang/invoke/VarHandle") (E : Exa Z h a C) (hM : MetFree l z (head1 [Cond.code z bytes maxL ret] rm) (fun aa U => aa = (.ref a :: argsL).toArray ∧ Z.Warmed39 U.vm ∧ U.heap = h) (fun _ _ _ _ _ => True) (fun _ U o U' => ∃ v L, o = .returned v ∧ Q v U'.heap L ∧ FrameEnd U o U' L rm.cells rm.slots)) (hf : rm.frames + 1 ≤ R.frames) (hl : W + (maxL + 11) + rm.locals ≤ R.locals) (eT : T.heap = h) {st : List Value} (hsz : Ls.size = c.maxLocals) (hW : (rest.map fun v => v.category).sum ≤ W) (hc : cells + rm.cells ≤ R.cells) (hs : slots + rm.slots ≤ R.slots) (hlen : ∀ sig, parseMethodDescriptor y.desc = some sig → argsL.length = sig.parameters.length) (hst : st = argsL.reverse ++ .ref a :: rest) (hd : decode code pc = .ok (.invokeinterface index count, 5)) (hp : pc + 5 = pc')
    (k : ∀ (T' : State) (v : Option Value) (L : List Loc), Stand p l e R s m args below meth c T' (locs ++ L) (cells + rm.cells) (slots + rm.slots) → Q v T'.heap L → GolF p e below Fe Qf kc ks T' m pc' Ls (v.toList ++ rest)) : GolF p e below Fe Qf kc ks T m pc Ls st := by
  subst hp
  obtain ⟨cq, kq, qa, qb, qc⟩ := isOf hZ eT E
  obtain ⟨v, _, ⟨T', L1, k1, n1⟩, -, X', ⟨Lc, hQ, l1, y1, z1⟩, st1⟩ := X.interfaceBack hx hown (mvT hZ wl) (mvT hZ wd) wf (mvT hZ wse) (mvT hZ wi) (mvT hZ wp) (mvT hZ wu) (mvT hZ wt) hy (backOf (W := W) hM hZ wc wz hf hl) qa qb qc (g := mkF m pc Ls st) rfl hsz (Steps.refl _) hlen hst (by show 2 * 0 + _ ≤ _; rw [Nat.mul_zero, Nat.zero_add]; exact hW) (hb hby hd) (fun _ _ => ⟨rfl, eT, hc, hs⟩)
  dsimp only [Pt.U, Pt.locs, Pt.cells, Pt.slots] at X' l1 y1 z1 st1 hQ
  subst l1 y1 z1
  exact Gol.step (fun _ k => st1.trans k) (k T' v Lc X' hQ)
theorem Gol.callP (X : Stand p l e R s m args below meth c T locs cells slots) (hx : p.tables.exec = Jvm.exec) (hby : c.code = code) (hZ : Z.Warmed39 s.vm) {own : String} (hown : s.vm.findClass own = some m.cls) {index : Nat} {y : MethodName} {C : String} {bytes : ByteArray} {maxL : Nat} {ret : Option FieldType} {rm : Room} {Q : Option Value → Heap → List Loc → Prop} (W : Nat) (argsL : List Value) {a : Addr} (wl : (Cond.methodLink own index y).before a0 Z = true) (wi : (Cond.instanceMethod y).before a0 Z = true) (wse : (Cond.selects y.cls y y).before a0 Z = true) (wp : (Cond.privateMethod y).before a0 Z = true) (wz : (Cond.initialized y.cls).before a0 Z = true) (wc : (Cond.code y bytes maxL ret).before a0 Z = true) (hy : y.cls ≠ "java/lang/invoke/MethodHandle" ∧ y.cls ≠ "java/lang/invoke/VarHandle") (E : Exa Z h a C) (hM : MetFree l y (head1 [Cond.code y bytes maxL ret] rm) (fun aa U => aa = (.ref a :: argsL).toArray ∧ Z.Warmed39 U.vm ∧ U.heap = h) (fun _ _ _ _ _ => True) (fun _ U o U' => ∃ v L, o = .returned v ∧ Q v U'.heap L ∧ FrameEnd U o U' L rm.cells rm.slots)) (hf : rm.frames + 1 ≤ R.frames) (hl : W + (maxL + 11) + rm.locals ≤ R.locals) (eT : T.heap = h) {st : List Value} (hsz : Ls.size = c.maxLocals) (hW : (rest.map fun v => v.category).sum ≤ W) (hc : cells + rm.cells ≤ R.cells) (hs : slots + rm.slots ≤ R.slots) (hlen : ∀ sig, parseMethodDescriptor y.desc = some sig → argsL.length = sig.parameters.length) (hst : st = argsL.reverse ++ .ref a :: rest) (hd : decode code pc = .ok (.invokevirtual index, 3)) (hp : pc + 3 = pc')
    (k : ∀ (T' : State) (v : Option Value) (L : List Loc), Stand p l e R s m args below meth c T' (locs ++ L) (cells + rm.cells) (slots + rm.slots) → Q v T'.heap L → GolF p e below Fe Qf kc ks T' m pc' Ls (v.toList ++ rest)) : GolF p e below Fe Qf kc ks T m pc Ls st := by
  subst hp
  obtain ⟨cq, qa, qb⟩ := E.cell
  obtain ⟨v, _, ⟨T', L1, k1, n1⟩, -, X', ⟨Lc, hQ, l1, y1, z1⟩, st1⟩ := X.privateBack hx hown (mvT hZ wl) (mvT hZ wi) (mvT hZ wse) (Cond.privateMethod_at (mvP hZ wp (args := #[]))) (mvT hZ wc) hy (backOf (W := W) hM hZ wc wz hf hl) (g := mkF m pc Ls st) rfl hsz (Steps.refl _) (a := a) (by rw [eT]; exact qa) qb hlen hst (by show 2 * 0 + _ ≤ _; rw [Nat.mul_zero, Nat.zero_add]; exact hW) (hb hby hd) (fun _ _ => ⟨rfl, eT, hc, hs⟩)
  dsimp only [Pt.U, Pt.locs, Pt.cells, Pt.slots] at X' l1 y1 z1 st1 hQ
  subst l1 y1 z1
  exact Gol.step (fun _ k => st1.trans k) (k T' v Lc X' hQ)
theorem Gol.callB (X : Stand p l e R s m args below meth c T locs cells slots) (hx : p.tables.exec = Jvm.exec) (hby : c.code = code) (hZ : Z.Warmed39 s.vm) {own : String} (hown : s.vm.findClass own = some m.cls) {index : Nat} {y : MethodName} {bytes : ByteArray} {maxL : Nat} {Q : Option Value → Heap → List Loc → Prop} (W : Nat) (argsL : List Value) {a : Addr} {ck cn : Nat} (wl : (Cond.methodLink own index y).before a0 Z = true) (wi : (Cond.instanceMethod y).before a0 Z = true) (wc : (Cond.code y bytes maxL none).before a0 Z = true) (hn : y.name = "<init>") (hy : y.cls ≠ "java/lang/invoke/MethodHandle" ∧ y.cls ≠ "java/lang/invoke/VarHandle")
    (hK : Back l R p e below s args y 3 W (fun A aa => aa = (.ref a :: argsL).toArray ∧ A.U.heap = h ∧ A.cells + ck ≤ R.cells ∧ A.slots + cn ≤ R.slots) (fun A _ v B => ∃ L, Q v B.U.heap L ∧ B.locs = A.locs ++ L ∧ B.cells = A.cells + ck ∧ B.slots = A.slots + cn)) (eT : T.heap = h) {st : List Value} (hsz : Ls.size = c.maxLocals) (hW : (rest.map fun v => v.category).sum ≤ W) (hc : cells + ck ≤ R.cells) (hs : slots + cn ≤ R.slots) (hlen : ∀ sig, parseMethodDescriptor y.desc = some sig → argsL.length = sig.parameters.length) (hst : st = argsL.reverse ++ .ref a :: rest) (hd : decode code pc = .ok (.invokespecial index, 3)) (hp : pc + 3 = pc')
    (k : ∀ (T' : State) (v : Option Value) (L : List Loc), Stand p l e R s m args below meth c T' (locs ++ L) (cells + ck) (slots + cn) → Q v T'.heap L → GolF p e below Fe Qf kc ks T' m pc' Ls (v.toList ++ rest)) : GolF p e below Fe Qf kc ks T m pc Ls st := by
  subst hp
  obtain ⟨v, _, ⟨T', L1, k1, n1⟩, -, X', ⟨Lc, hQ, l1, y1, z1⟩, st1⟩ := X.specialBack hx hn hown (mvT hZ wl) (mvT hZ wi) (mvT hZ wc) hy hK (g := mkF m pc Ls st) rfl hsz (Steps.refl _) (a := a) hlen hst (by show 2 * 0 + _ ≤ _; rw [Nat.mul_zero, Nat.zero_add]; exact hW) (hb hby hd) (fun _ _ => ⟨rfl, eT, hc, hs⟩)
  dsimp only [Pt.U, Pt.locs, Pt.cells, Pt.slots] at X' l1 y1 z1 st1 hQ
  subst l1 y1 z1
  exact Gol.step (fun _ k => st1.trans k) (k T' v Lc X' hQ)
theorem Gol.retN (X : Stand p l e R s m args below meth c T locs cells slots) (hx : p.tables.exec = Jvm.exec) (hby : c.code = code) {z : Int32} {t : FieldType} (hret : meth.sig.returnType = some t) (ht : t = .boolean ∨ t = .byte ∨ t = .char ∨ t = .short) (hlk : meth.locks = false) (hd : decode code pc = .ok (.ireturn, 1)) (eT : T.heap = h) (hq : Qf (some (.int (nar t z))) h locs) (hc : cells ≤ kc) (hs : slots ≤ ks) : GolF p e below (FrameEnd s) Qf kc ks T m pc Ls (.int z :: rest) :=
  Gol.fin X (fun h => by rw [hret] at h; cases h) hlk eT hq hc hs fun fs hr => Jvm.RoadKit.retN X hx hret ht (hb hby hd) hr
theorem Gol.retI (X : Stand p l e R s m args below meth c T locs cells slots) (hx : p.tables.exec = Jvm.exec) (hby : c.code = code) {z : Int32} (hret : meth.sig.returnType = some .int) (hlk : meth.locks = false) (hd : decode code pc = .ok (.ireturn, 1)) (eT : T.heap = h) (hq : Qf (some (.int z)) h locs) (hc : cells ≤ kc) (hs : slots ≤ ks) : GolF p e below (FrameEnd s) Qf kc ks T m pc Ls (.int z :: rest) :=
  Gol.fin X (fun h => by rw [hret] at h; cases h) hlk eT hq hc hs fun fs hr => Jvm.RoadKit.retOut X hx hret rfl (Or.inl ⟨rfl, Or.inl rfl, _, rfl⟩) (hb hby hd) hr
theorem Gol.retL (X : Stand p l e R s m args below meth c T locs cells slots) (hx : p.tables.exec = Jvm.exec) (hby : c.code = code) {z : Int64} (hret : meth.sig.returnType = some .long) (hlk : meth.locks = false) (hd : decode code pc = .ok (.lreturn, 1)) (eT : T.heap = h) (hq : Qf (some (.long z)) h locs) (hc : cells ≤ kc) (hs : slots ≤ ks) : GolF p e below (FrameEnd s) Qf kc ks T m pc Ls (.long z :: rest) :=
  Gol.fin X (fun h => by rw [hret] at h; cases h) hlk eT hq hc hs fun fs hr => Jvm.RoadKit.retOut X hx hret rfl (Or.inr (Or.inl ⟨rfl, rfl, _, rfl⟩)) (hb hby hd) hr
theorem Gol.retA (X : Stand p l e R s m args below meth c T locs cells slots) (hx : p.tables.exec = Jvm.exec) (hby : c.code = code) {w : Value} {t : FieldType} (hret : meth.sig.returnType = some t) (ht : t.isReference = true) (hw : w.isRef = true) (hlk : meth.locks = false) (hd : decode code pc = .ok (.areturn, 1)) (eT : T.heap = h) (hq : Qf (some w) h locs) (hc : cells ≤ kc) (hs : slots ≤ ks) : GolF p e below (FrameEnd s) Qf kc ks T m pc Ls (w :: rest) :=
  Gol.fin X (fun h => by rw [hret] at h; cases h) hlk eT hq hc hs fun fs hr => Jvm.RoadKit.retOut X hx hret (by rcases ref_cases hw with rfl | ⟨a, rfl⟩ <;> cases t <;> first | rfl | (simp [FieldType.isReference] at ht)) (Or.inr (Or.inr (Or.inr (Or.inr ⟨rfl, ht, hw⟩)))) (hb hby hd) hr
theorem Gol.ret0 (X : Stand p l e R s m args below meth c T locs cells slots) (hx : p.tables.exec = Jvm.exec) (hby : c.code = code) (hret : meth.sig.returnType = none) (hlk : meth.locks = false) (hd : decode code pc = .ok (.return_, 1)) (eT : T.heap = h) (hq : Qf none h locs) (hc : cells ≤ kc) (hs : slots ≤ ks) : GolF p e below (FrameEnd s) Qf kc ks T m pc Ls [] :=
  Gol.fin X (fun _ => rfl) hlk eT hq hc hs fun fs hr => X.returnOut hx hret (hb hby hd) hr
theorem Gol.retNW {vm₁ : Vm} (X : Stand p l e R (s.setVm vm₁) m args below meth c T locs cells slots) (hx : p.tables.exec = Jvm.exec) (hby : c.code = code) {n : Nat} (hS : s.Since vm₁ n) (hn : n ≤ h.size) {z : Int32} {t : FieldType} (hret : meth.sig.returnType = some t) (ht : t = .boolean ∨ t = .byte ∨ t = .char ∨ t = .short) (hlk : meth.locks = false) (hd : decode code pc = .ok (.ireturn, 1)) (eT : T.heap = h) (hq : Qf (some (.int (nar t z))) h locs) (hc : cells ≤ kc) (hs : slots ≤ ks) : GolF p e below (ReturnedEndW s) Qf kc ks T m pc Ls (.int z :: rest) :=
  Gol.finW X hS (eT ▸ hn) (fun h => by rw [hret] at h; cases h) hlk eT hq hc hs fun fs hr => Jvm.RoadKit.retN X hx hret ht (hb hby hd) hr
theorem Gol.ldcStr {vm₁ : Vm} (X : Stand p l e R (s.setVm vm₁) m args below meth c T locs cells slots) (hx : p.tables.exec = Jvm.exec) (hby : c.code = code) {own text : String} {index : Nat} (hZ : Z.Warmed39 vm₁) (hown : vm₁.findClass own = some m.cls) (w : (Cond.stringLink own index text).before a0 Z = true) (wS : ∀ a ∈ Bundle.stringAtoms, a.before a0 Z = true) (eT : T.heap = h) {k0 : Nat} (hS : s.Since vm₁ k0) (hk : k0 ≤ h.size) (n : Nat) (hd : decode code pc = .ok (.ldc index, 2)) (hp : pc + 2 = pc') (hn : 4 * text.toList.length ≤ n) (hbig : n ≤ 536870912) (hc : cells + 2 ≤ R.cells) (hl : slots + (n + 4) ≤ R.slots)
    (k : ∀ (a : Addr) (T' : State) (h' : Heap) (k1 : Nat), Stand p l e R (s.setVm T'.vm) m args below meth c T' locs (cells + 2) (slots + (n + 4)) → T'.heap = h' → Ext h h' → s.Since T'.vm k1 → k1 ≤ h'.size → Z.Warmed39 (s.setVm T'.vm).vm → (s.setVm T'.vm).vm.findClass own = some m.cls → GolF p e below Fe Qf kc ks T' m pc' Ls (.ref a :: rest)) : GolF p e below Fe Qf kc ks T m pc Ls rest := by
  subst hp
  obtain ⟨a, T', h', k1, X', e', E, S', K', Z', O', st⟩ := ldcS X hx hZ hown w wS eT hS hk (g := mkF m pc Ls rest) rfl (hb hby hd) (n := n) hn hbig hc hl
  exact Gol.step st (k a T' h' k1 X' e' E S' K' Z' O')
theorem nar_ite {P : Prop} [Decidable P] {a b : Int32} (ha : nar .boolean a = a) (hb : nar .boolean b = b) : nar .boolean (if P then a else b) = (if P then a else b) := by
  split <;> assumption
theorem tltL {x y : Int64} (h : x < y) : ifCond.holds .lt (XT.cmpL x y) = true ∧ ifCond.holds .ge (XT.cmpL x y) = false := by
  have h1 : ¬ y < x := fun q => Int64.lt_irrefl (Int64.lt_trans h q)
  have h2 : ¬ x = y := fun q => Int64.lt_irrefl (q ▸ h)
  simp [XT.cmpL, h1, h2, ifCond.holds]
theorem fltL {x y : Int64} (h : ¬ x < y) : ifCond.holds .lt (XT.cmpL x y) = false ∧ ifCond.holds .ge (XT.cmpL x y) = true := by
  by_cases h1 : y < x
  · simp [XT.cmpL, h1, ifCond.holds]
  · have h2 : x = y := Int64.le_antisymm (Int64.not_lt.mp h1) (Int64.not_lt.mp h)
    simp [XT.cmpL, h2, ifCond.holds, Int64.lt_irrefl]
theorem tgtL {x y : Int64} (h : y < x) : ifCond.holds .gt (XT.cmpL x y) = true ∧ ifCond.holds .le (XT.cmpL x y) = false := by
  simp [XT.cmpL, h, ifCond.holds]
theorem fgtL {x y : Int64} (h : ¬ y < x) : ifCond.holds .gt (XT.cmpL x y) = false ∧ ifCond.holds .le (XT.cmpL x y) = true := by
  by_cases h2 : x = y <;> simp [XT.cmpL, h, h2, ifCond.holds, Int64.lt_irrefl]
theorem teqL {x y : Int64} (h : x = y) : ifCond.holds .eq (XT.cmpL x y) = true ∧ ifCond.holds .ne (XT.cmpL x y) = false := by
  subst h; simp [XT.cmpL, Int64.lt_irrefl, ifCond.holds]
theorem feqL {x y : Int64} (h : ¬ x = y) : ifCond.holds .eq (XT.cmpL x y) = false ∧ ifCond.holds .ne (XT.cmpL x y) = true := by
  by_cases h1 : y < x <;> simp [XT.cmpL, h, h1, ifCond.holds]
end Own
end Jvm.RoadKit
namespace Jvm.Pilot.@@N@@
open Jvm Jvm.ClassFile Sem Op Lib Jvm.Free Jvm.Stand Jvm.LawKit Jvm.RoadKit Bundle Jvm.Pilot.@@N@@.Jvm.D

theorem own_n32 {n : Nat} (hn : n ≤ 100) : (Int32.ofNat n).toNatClampNeg = n := by
  rw [Int32.toNatClampNeg, Int32.toInt_ofNat_of_lt (by omega)]; rfl
theorem own_int {n : Nat} (hn : n ≤ 100) : (Int32.ofNat n).toInt = n := Int32.toInt_ofNat_of_lt (by omega)
theorem own_addk (a k : Nat) : Int32.ofNat a + Int32.ofNat k = Int32.ofNat (a + k) := (Int32.ofNat_add a k).symm
theorem own_in {i : Nat} (h : i < 12) : ¬ Int32.ofNat i < 0 ∧ Int32.ofNat i < 12 := by
  rw [Int32.lt_iff_toInt_lt, Int32.lt_iff_toInt_lt, own_int (by omega), show (0 : Int32).toInt = 0 from rfl, show (12 : Int32).toInt = 12 from rfl]; omega
theorem own_inj {i j : Nat} (hi : i ≤ 100) (hj : j ≤ 100) (h : Int32.ofNat i = Int32.ofNat j) : i = j := by
  have := congrArg Int32.toInt h
  rw [own_int hi, own_int hj] at this; omega
theorem own_at (bs : List Int32) {i : Nat} (h : i ≤ 100) : (bs.map Value.int).getD (Int32.ofNat i).toNatClampNeg (.int (0 : Int32)) = .int (bs.getD i 0) := by
  rw [own_n32 h, List.getD_eq_getElem?_getD, List.getElem?_map, List.getD_eq_getElem?_getD]
  cases bs[i]? <;> rfl
theorem own_mask (x : Int32) : 0 ≤ (x &&& (2147483647 : Int32)).toInt := by
  have h : (x &&& 2147483647).toBitVec.toNat ≤ 2147483647 := by
    rw [Int32.toBitVec_and, BitVec.toNat_and]; exact Nat.and_le_right
  have e : (x &&& 2147483647).toInt = ((x &&& 2147483647).toBitVec.toNat : Int) := by
    show (x &&& 2147483647).toBitVec.toInt = _
    rw [BitVec.toInt_eq_toNat_of_lt (by omega)]
  omega
theorem own_rem3 (x : Int32) : ∃ n : Nat, n < 3 ∧ ((x &&& (2147483647 : Int32)) % (3 : Int32)) = Int32.ofNat n := by
  have h := own_mask x
  generalize (x &&& (2147483647 : Int32)) = y at h
  have e : (y % (3 : Int32)).toInt = y.toInt % 3 := by rw [Int32.toInt_mod, show (3 : Int32).toInt = 3 from rfl, Int.tmod_eq_emod_of_nonneg h]
  refine ⟨(y.toInt % 3).toNat, by omega, Int32.toInt_inj.mp ?_⟩
  rw [e, own_int (by omega)]; omega
theorem own_mset (bs : List Int32) (i : Nat) (x : Int32) : (bs.map Value.int).set i (.int x) = (bs.set i x).map Value.int := by
  rw [List.map_set]
abbrev In (Z : State) (h : Heap) (a : Addr) (v0 : Value) (v1 : Value) (v2 : Value) : Prop := Exa Z h a "com/example/interleaved_tables/interleavedtables/storage/DataFile$Input" ∧ Fld Z h a "com/example/interleaved_tables/interleavedtables/storage/DataFile$Input" "bytes" "[B" v0 ∧ Fld Z h a "com/example/interleaved_tables/interleavedtables/storage/DataFile$Input" "position" "I" v1 ∧ Fld Z h a "com/example/interleaved_tables/interleavedtables/storage/DataFile$Input" "end" "I" v2
theorem d1_0 : decode method_3_code 0 = .ok (.iload_n 2, 1) := by decide +kernel
theorem d1_1 : decode method_3_code 1 = .ok (.iload_n 3, 1) := by decide +kernel
theorem d1_2 : decode method_3_code 2 = .ok (.if_icmp .ge 18, 3) := by decide +kernel
theorem d1_5 : decode method_3_code 5 = .ok (.aload_n 0, 1) := by decide +kernel
theorem d1_6 : decode method_3_code 6 = .ok (.iload_n 1, 1) := by decide +kernel
theorem d1_7 : decode method_3_code 7 = .ok (.iload_n 2, 1) := by decide +kernel
theorem d1_8 : decode method_3_code 8 = .ok (.iadd, 1) := by decide +kernel
theorem d1_9 : decode method_3_code 9 = .ok (.aload_n 0, 1) := by decide +kernel
theorem d1_10 : decode method_3_code 10 = .ok (.iload_n 1, 1) := by decide +kernel
theorem d1_11 : decode method_3_code 11 = .ok (.iload_n 2, 1) := by decide +kernel
theorem d1_12 : decode method_3_code 12 = .ok (.iadd, 1) := by decide +kernel
theorem d1_13 : decode method_3_code 13 = .ok (.baload, 1) := by decide +kernel
theorem d1_14 : decode method_3_code 14 = .ok (.sipush 128, 3) := by decide +kernel
theorem d1_17 : decode method_3_code 17 = .ok (.ior, 1) := by decide +kernel
theorem d1_18 : decode method_3_code 18 = .ok (.i2b, 1) := by decide +kernel
theorem d1_19 : decode method_3_code 19 = .ok (.bastore, 1) := by decide +kernel
theorem d1_20 : decode method_3_code 20 = .ok (.return_, 1) := by decide +kernel
theorem pd_0 : parseMethodDescriptor "([BIII)V" = some ⟨[(.array .byte), .int, .int, .int], none⟩ := by decide +kernel
theorem pd_1 : parseMethodDescriptor "([BI)I" = some ⟨[(.array .byte), .int], some .int⟩ := by decide +kernel
theorem pd_2 : parseMethodDescriptor "(II)I" = some ⟨[.int, .int], some .int⟩ := by decide +kernel
theorem pd_3 : parseMethodDescriptor "([BII)V" = some ⟨[(.array .byte), .int, .int], none⟩ := by decide +kernel
theorem pd_4 : parseMethodDescriptor "()J" = some ⟨[], some .long⟩ := by decide +kernel
theorem pd_5 : parseMethodDescriptor "()I" = some ⟨[], some .int⟩ := by decide +kernel
theorem pd_6 : parseMethodDescriptor "([BIII)J" = some ⟨[(.array .byte), .int, .int, .int], some .long⟩ := by decide +kernel
theorem pn_1 : plainName "com/example/interleaved_tables/interleavedtables/storage/InputReadNumberPinLaw" = true := by first | (simp [plainName, overriddenIn]; done) | decide +kernel
theorem ef_1 (m : MethodId) (r0 : Addr) (p1 : Int32) (p2 : Int32) (p3 : Int32) : entryFrame m #[(.ref r0), (.int p1), (.int p2), (.int p3)] 4 = mkF m 0 #[.val (.ref r0), .val (.int p1), .val (.int p2), .val (.int p3)] [] := by first | (simp [entryFrame, mkF, argsToLocals, Value.category]; done) | rfl
abbrev Q1 (Z : State) (r0 : Addr) (p1 : Int32) (p2 : Int32) (p3 : Int32) (kr : ClassId) (bs : List Int32) (ix : Nat) (h0 : Heap) (n0 : Nat) (v : Option Value) (h : Heap) (L : List Loc) : Prop := v = none ∧ Fr n0 L ∧ Keep h0 h [r0] ∧ ∃ bs' : List Int32, bs'.length = 12 ∧ Arv Z h r0 kr .byte (12 : Int32) (List.map Value.int bs') (.int (0 : Int32))
set_option maxRecDepth 65536 in
set_option maxHeartbeats 40000000 in
theorem rm1 (l : Launch) (Z : State) (a0 : Array Value) (hw : ∀ d ∈ tables_1, d.before a0 Z = true) (ws : List Jvm.Cond) (r0 : Addr) (p1 : Int32) (p2 : Int32) (p3 : Int32) (kr : ClassId) (bs : List Int32) (ix : Nat) (h0 : Heap) (n0 : Nat) (Z0 : n0 ≤ h0.size) (hix : p1 + p2 = Int32.ofNat ix) (hlt : ix < 12) (hln : bs.length = 12) (g_r0 : n0 ≤ r0) (V_r0 : Arv Z h0 r0 kr .byte (12 : Int32) (List.map Value.int bs) (.int (0 : Int32))) :
    MetFree l (⟨"com/example/interleaved_tables/interleavedtables/storage/InputReadNumberPinLaw", "setHigh", "([BIII)V"⟩ : MethodName) (head1 (Jvm.Cond.code (⟨"com/example/interleaved_tables/interleavedtables/storage/InputReadNumberPinLaw", "setHigh", "([BIII)V"⟩ : MethodName) method_3_code 4 none :: ws) ({ frames := 0, cells := 0, slots := 0, locals := 0 } : Room)) (fun a U => a = #[(.ref r0), (.int p1), (.int p2), (.int p3)] ∧ Z.Warmed39 U.vm ∧ U.heap = h0) (fun _ _ _ _ _ => True) (fun _ U o U' => ∃ v L, o = .returned v ∧ Q1 Z r0 p1 p2 p3 kr bs ix h0 n0 v U'.heap L ∧ FrameEnd U o U' L 0 0) := by
  refine MetFree.of_bodySF (plainFor_of_name pn_1) hisR ?_
  intro p ev s m args below meth c s₁ Bd hml0 hP hK
  obtain ⟨rfl, hZ, hh⟩ := hP
  have hx := Bd.exec
  have hby := Bd.bytes
  have hml : c.maxLocals = 4 := hml0
  have hown : s.vm.findClass "com/example/interleaved_tables/interleavedtables/storage/InputReadNumberPinLaw" = some m.cls := findClass_of_methodNamed Bd.named
  have hnm := (name_of_methodNamed Bd.named Bd.method).1
  have X0 : Stand p l ev ({ frames := 0, cells := 0, slots := 0, locals := 0 } : Room) s m #[(.ref r0), (.int p1), (.int p2), (.int p3)] below meth c s₁ [] 0 0 := Stand.of_body Bd
  have eh0 : s₁.heap = h0 := by rw [← hh, Bd.state]; rfl
  have N0 := Fr.nil n0
  have Zs := Z0
  show Gol p ev below (FrameEnd s) (Q1 Z r0 p1 p2 p3 kr bs ix h0 n0) 0 0 (s₁.setTop (entryFrame m #[(.ref r0), (.int p1), (.int p2), (.int p3)] 4))
  rw [ef_1]
  have K := Keep.refl h0 [r0]
  show GolF _ _ _ _ _ _ _ s₁ m 0 #[.val (.ref r0), .val (.int p1), .val (.int p2), .val (.int p3)] []
  refine Gol.iloadN X0 hx hby d1_0 (pc' := 1) rfl rfl ?_
  refine Gol.iloadN X0 hx hby d1_1 (pc' := 2) rfl rfl ?_
  by_cases hc2_1 : p2 < p3
  · skip
    refine Gol.icmpNo X0 hx hby d1_2 (pc' := 5) rfl (tlt hc2_1).2.1 ?_
    refine Gol.aloadN X0 hx hby d1_5 (pc' := 6) rfl rfl rfl ?_
    refine Gol.iloadN X0 hx hby d1_6 (pc' := 7) rfl rfl ?_
    refine Gol.iloadN X0 hx hby d1_7 (pc' := 8) rfl rfl ?_
    refine Gol.iadd X0 hx hby d1_8 (pc' := 9) rfl rfl ?_
    rw [hix]
    show GolF _ _ _ _ _ _ _ s₁ m 9 #[.val (.ref r0), .val (.int p1), .val (.int p2), .val (.int p3)] [(.int (Int32.ofNat ix)), (.ref r0)]
    refine Gol.aloadN X0 hx hby d1_9 (pc' := 10) rfl rfl rfl ?_
    refine Gol.iloadN X0 hx hby d1_10 (pc' := 11) rfl rfl ?_
    refine Gol.iloadN X0 hx hby d1_11 (pc' := 12) rfl rfl ?_
    refine Gol.iadd X0 hx hby d1_12 (pc' := 13) rfl rfl ?_
    rw [hix]
    show GolF _ _ _ _ _ _ _ s₁ m 13 #[.val (.ref r0), .val (.int p1), .val (.int p2), .val (.int p3)] [(.int (Int32.ofNat ix)), (.ref r0), (.int (Int32.ofNat ix)), (.ref r0)]
    refine Gol.baload X0 hx hby hZ eh0 V_r0 d1_13 (pc' := 14) rfl (own_in (by omega)) (v := (bs.getD ix 0)) (own_at bs (by omega)) ?_
    refine Gol.sipush X0 hx hby d1_14 (pc' := 17) rfl (z := (128 : Int32)) rfl ?_
    refine Gol.ior X0 hx hby d1_17 (pc' := 18) rfl rfl ?_
    refine Gol.i2b X0 hx hby d1_18 (pc' := 19) rfl rfl ?_
    refine Gol.bastore X0 hx hby hZ eh0 V_r0 d1_19 (pc' := 20) rfl (own_in hlt) ix (own_n32 (by omega)) (by rw [List.length_map, hln]; exact hlt) ?_
    intro T2 h2 X2 e2 W2 A2
    have V_r0 : Arv Z h2 r0 kr .byte (12 : Int32) (List.map Value.int (bs.set ix (nar .byte (((bs.getD ix 0) ||| (128 : Int32)).toInt8.toInt32)))) (.int (0 : Int32)) := (own_mset bs ix (nar .byte (((bs.getD ix 0) ||| (128 : Int32)).toInt8.toInt32))) ▸ (A2)
    have K := K.wr W2 (Or.inl (List.mem_of_getElem? (i := 0) rfl))
    have Zs := Nat.le_trans Zs (Keep.of_wr W2).1
    have N2 := Fr.snoc X2 N0 g_r0
    exact Gol.ret0 X2 hx hby Bd.returns Bd.notSynchronized d1_20 e2 ⟨rfl, N2, K, (bs.set ix (nar .byte (((bs.getD ix 0) ||| (128 : Int32)).toInt8.toInt32))), (by rw [List.length_set]; exact hln), V_r0⟩ (by decide) (by decide)
  · skip
    refine Gol.icmpYes X0 hx hby d1_2 (pc' := 20) (by decide) (flt hc2_1).2.1 ?_
    exact Gol.ret0 X0 hx hby Bd.returns Bd.notSynchronized d1_20 eh0 ⟨rfl, N0, K, bs, hln, V_r0⟩ (by decide) (by decide)
theorem d2_0 : decode method_4_code 0 = .ok (.aload_n 0, 1) := by decide +kernel
theorem d2_1 : decode method_4_code 1 = .ok (.iload_n 1, 1) := by decide +kernel
theorem d2_2 : decode method_4_code 2 = .ok (.baload, 1) := by decide +kernel
theorem d2_3 : decode method_4_code 3 = .ok (.sipush 128, 3) := by decide +kernel
theorem d2_6 : decode method_4_code 6 = .ok (.iand, 1) := by decide +kernel
theorem d2_7 : decode method_4_code 7 = .ok (.ifCond .ne 5, 3) := by decide +kernel
theorem d2_10 : decode method_4_code 10 = .ok (.iconst 1, 1) := by decide +kernel
theorem d2_11 : decode method_4_code 11 = .ok (.ireturn, 1) := by decide +kernel
theorem d2_12 : decode method_4_code 12 = .ok (.aload_n 0, 1) := by decide +kernel
theorem d2_13 : decode method_4_code 13 = .ok (.iload_n 1, 1) := by decide +kernel
theorem d2_14 : decode method_4_code 14 = .ok (.iconst 1, 1) := by decide +kernel
theorem d2_15 : decode method_4_code 15 = .ok (.iadd, 1) := by decide +kernel
theorem d2_16 : decode method_4_code 16 = .ok (.baload, 1) := by decide +kernel
theorem d2_17 : decode method_4_code 17 = .ok (.sipush 128, 3) := by decide +kernel
theorem d2_20 : decode method_4_code 20 = .ok (.iand, 1) := by decide +kernel
theorem d2_21 : decode method_4_code 21 = .ok (.ifCond .ne 5, 3) := by decide +kernel
theorem d2_24 : decode method_4_code 24 = .ok (.iconst 2, 1) := by decide +kernel
theorem d2_25 : decode method_4_code 25 = .ok (.ireturn, 1) := by decide +kernel
theorem d2_26 : decode method_4_code 26 = .ok (.aload_n 0, 1) := by decide +kernel
theorem d2_27 : decode method_4_code 27 = .ok (.iload_n 1, 1) := by decide +kernel
theorem d2_28 : decode method_4_code 28 = .ok (.iconst 2, 1) := by decide +kernel
theorem d2_29 : decode method_4_code 29 = .ok (.iadd, 1) := by decide +kernel
theorem d2_30 : decode method_4_code 30 = .ok (.baload, 1) := by decide +kernel
theorem d2_31 : decode method_4_code 31 = .ok (.sipush 128, 3) := by decide +kernel
theorem d2_34 : decode method_4_code 34 = .ok (.iand, 1) := by decide +kernel
theorem d2_35 : decode method_4_code 35 = .ok (.ifCond .ne 5, 3) := by decide +kernel
theorem d2_38 : decode method_4_code 38 = .ok (.iconst 3, 1) := by decide +kernel
theorem d2_39 : decode method_4_code 39 = .ok (.ireturn, 1) := by decide +kernel
theorem d2_40 : decode method_4_code 40 = .ok (.aload_n 0, 1) := by decide +kernel
theorem d2_41 : decode method_4_code 41 = .ok (.iload_n 1, 1) := by decide +kernel
theorem d2_42 : decode method_4_code 42 = .ok (.iconst 3, 1) := by decide +kernel
theorem d2_43 : decode method_4_code 43 = .ok (.iadd, 1) := by decide +kernel
theorem d2_44 : decode method_4_code 44 = .ok (.baload, 1) := by decide +kernel
theorem d2_45 : decode method_4_code 45 = .ok (.sipush 128, 3) := by decide +kernel
theorem d2_48 : decode method_4_code 48 = .ok (.iand, 1) := by decide +kernel
theorem d2_49 : decode method_4_code 49 = .ok (.ifCond .ne 5, 3) := by decide +kernel
theorem d2_52 : decode method_4_code 52 = .ok (.iconst 4, 1) := by decide +kernel
theorem d2_53 : decode method_4_code 53 = .ok (.ireturn, 1) := by decide +kernel
theorem d2_54 : decode method_4_code 54 = .ok (.aload_n 0, 1) := by decide +kernel
theorem d2_55 : decode method_4_code 55 = .ok (.iload_n 1, 1) := by decide +kernel
theorem d2_56 : decode method_4_code 56 = .ok (.iconst 4, 1) := by decide +kernel
theorem d2_57 : decode method_4_code 57 = .ok (.iadd, 1) := by decide +kernel
theorem d2_58 : decode method_4_code 58 = .ok (.baload, 1) := by decide +kernel
theorem d2_59 : decode method_4_code 59 = .ok (.sipush 128, 3) := by decide +kernel
theorem d2_62 : decode method_4_code 62 = .ok (.iand, 1) := by decide +kernel
theorem d2_63 : decode method_4_code 63 = .ok (.ifCond .ne 5, 3) := by decide +kernel
theorem d2_66 : decode method_4_code 66 = .ok (.iconst 5, 1) := by decide +kernel
theorem d2_67 : decode method_4_code 67 = .ok (.ireturn, 1) := by decide +kernel
theorem d2_68 : decode method_4_code 68 = .ok (.aload_n 0, 1) := by decide +kernel
theorem d2_69 : decode method_4_code 69 = .ok (.iload_n 1, 1) := by decide +kernel
theorem d2_70 : decode method_4_code 70 = .ok (.iconst 5, 1) := by decide +kernel
theorem d2_71 : decode method_4_code 71 = .ok (.iadd, 1) := by decide +kernel
theorem d2_72 : decode method_4_code 72 = .ok (.baload, 1) := by decide +kernel
theorem d2_73 : decode method_4_code 73 = .ok (.sipush 128, 3) := by decide +kernel
theorem d2_76 : decode method_4_code 76 = .ok (.iand, 1) := by decide +kernel
theorem d2_77 : decode method_4_code 77 = .ok (.ifCond .ne 6, 3) := by decide +kernel
theorem d2_80 : decode method_4_code 80 = .ok (.bipush 6, 2) := by decide +kernel
theorem d2_82 : decode method_4_code 82 = .ok (.ireturn, 1) := by decide +kernel
theorem d2_83 : decode method_4_code 83 = .ok (.aload_n 0, 1) := by decide +kernel
theorem d2_84 : decode method_4_code 84 = .ok (.iload_n 1, 1) := by decide +kernel
theorem d2_85 : decode method_4_code 85 = .ok (.bipush 6, 2) := by decide +kernel
theorem d2_87 : decode method_4_code 87 = .ok (.iadd, 1) := by decide +kernel
theorem d2_88 : decode method_4_code 88 = .ok (.baload, 1) := by decide +kernel
theorem d2_89 : decode method_4_code 89 = .ok (.sipush 128, 3) := by decide +kernel
theorem d2_92 : decode method_4_code 92 = .ok (.iand, 1) := by decide +kernel
theorem d2_93 : decode method_4_code 93 = .ok (.ifCond .ne 6, 3) := by decide +kernel
theorem d2_96 : decode method_4_code 96 = .ok (.bipush 7, 2) := by decide +kernel
theorem d2_98 : decode method_4_code 98 = .ok (.ireturn, 1) := by decide +kernel
theorem d2_99 : decode method_4_code 99 = .ok (.aload_n 0, 1) := by decide +kernel
theorem d2_100 : decode method_4_code 100 = .ok (.iload_n 1, 1) := by decide +kernel
theorem d2_101 : decode method_4_code 101 = .ok (.bipush 7, 2) := by decide +kernel
theorem d2_103 : decode method_4_code 103 = .ok (.iadd, 1) := by decide +kernel
theorem d2_104 : decode method_4_code 104 = .ok (.baload, 1) := by decide +kernel
theorem d2_105 : decode method_4_code 105 = .ok (.sipush 128, 3) := by decide +kernel
theorem d2_108 : decode method_4_code 108 = .ok (.iand, 1) := by decide +kernel
theorem d2_109 : decode method_4_code 109 = .ok (.ifCond .ne 6, 3) := by decide +kernel
theorem d2_112 : decode method_4_code 112 = .ok (.bipush 8, 2) := by decide +kernel
theorem d2_114 : decode method_4_code 114 = .ok (.ireturn, 1) := by decide +kernel
theorem d2_115 : decode method_4_code 115 = .ok (.aload_n 0, 1) := by decide +kernel
theorem d2_116 : decode method_4_code 116 = .ok (.iload_n 1, 1) := by decide +kernel
theorem d2_117 : decode method_4_code 117 = .ok (.bipush 8, 2) := by decide +kernel
theorem d2_119 : decode method_4_code 119 = .ok (.iadd, 1) := by decide +kernel
theorem d2_120 : decode method_4_code 120 = .ok (.baload, 1) := by decide +kernel
theorem d2_121 : decode method_4_code 121 = .ok (.sipush 128, 3) := by decide +kernel
theorem d2_124 : decode method_4_code 124 = .ok (.iand, 1) := by decide +kernel
theorem d2_125 : decode method_4_code 125 = .ok (.ifCond .ne 6, 3) := by decide +kernel
theorem d2_128 : decode method_4_code 128 = .ok (.bipush 9, 2) := by decide +kernel
theorem d2_130 : decode method_4_code 130 = .ok (.ireturn, 1) := by decide +kernel
theorem d2_131 : decode method_4_code 131 = .ok (.aload_n 0, 1) := by decide +kernel
theorem d2_132 : decode method_4_code 132 = .ok (.iload_n 1, 1) := by decide +kernel
theorem d2_133 : decode method_4_code 133 = .ok (.bipush 9, 2) := by decide +kernel
theorem d2_135 : decode method_4_code 135 = .ok (.iadd, 1) := by decide +kernel
theorem d2_136 : decode method_4_code 136 = .ok (.baload, 1) := by decide +kernel
theorem d2_137 : decode method_4_code 137 = .ok (.sipush 128, 3) := by decide +kernel
theorem d2_140 : decode method_4_code 140 = .ok (.iand, 1) := by decide +kernel
theorem d2_141 : decode method_4_code 141 = .ok (.ifCond .ne 6, 3) := by decide +kernel
theorem d2_144 : decode method_4_code 144 = .ok (.bipush 10, 2) := by decide +kernel
theorem d2_146 : decode method_4_code 146 = .ok (.ireturn, 1) := by decide +kernel
theorem d2_147 : decode method_4_code 147 = .ok (.bipush 11, 2) := by decide +kernel
theorem d2_149 : decode method_4_code 149 = .ok (.ireturn, 1) := by decide +kernel
theorem pn_2 : plainName "com/example/interleaved_tables/interleavedtables/storage/InputReadNumberPinLaw" = true := by first | (simp [plainName, overriddenIn]; done) | decide +kernel
theorem ef_2 (m : MethodId) (r0 : Addr) (p1 : Int32) : entryFrame m #[(.ref r0), (.int p1)] 2 = mkF m 0 #[.val (.ref r0), .val (.int p1)] [] := by first | (simp [entryFrame, mkF, argsToLocals, Value.category]; done) | rfl
def own_fc (bs : List Int32) (ps : Nat) : Int32 :=
  if ((bs.getD ps 0) &&& (128 : Int32)) = (0 : Int32) then
    (1 : Int32)
  else
    if ((bs.getD (ps + 1) 0) &&& (128 : Int32)) = (0 : Int32) then
      (2 : Int32)
    else
      if ((bs.getD (ps + 2) 0) &&& (128 : Int32)) = (0 : Int32) then
        (3 : Int32)
      else
        if ((bs.getD (ps + 3) 0) &&& (128 : Int32)) = (0 : Int32) then
          (4 : Int32)
        else
          if ((bs.getD (ps + 4) 0) &&& (128 : Int32)) = (0 : Int32) then
            (5 : Int32)
          else
            if ((bs.getD (ps + 5) 0) &&& (128 : Int32)) = (0 : Int32) then
              (6 : Int32)
            else
              if ((bs.getD (ps + 6) 0) &&& (128 : Int32)) = (0 : Int32) then
                (7 : Int32)
              else
                if ((bs.getD (ps + 7) 0) &&& (128 : Int32)) = (0 : Int32) then
                  (8 : Int32)
                else
                  if ((bs.getD (ps + 8) 0) &&& (128 : Int32)) = (0 : Int32) then
                    (9 : Int32)
                  else
                    if ((bs.getD (ps + 9) 0) &&& (128 : Int32)) = (0 : Int32) then
                      (10 : Int32)
                    else
                      (11 : Int32)
abbrev Q2 (Z : State) (r0 : Addr) (p1 : Int32) (kr : ClassId) (bs : List Int32) (ps : Nat) (h0 : Heap) (n0 : Nat) (v : Option Value) (h : Heap) (L : List Loc) : Prop := v = some (.int (own_fc bs ps)) ∧ Fr n0 L ∧ h = h0
set_option maxRecDepth 65536 in
set_option maxHeartbeats 40000000 in
theorem rm2 (l : Launch) (Z : State) (a0 : Array Value) (hw : ∀ d ∈ tables_1, d.before a0 Z = true) (ws : List Jvm.Cond) (r0 : Addr) (p1 : Int32) (kr : ClassId) (bs : List Int32) (ps : Nat) (h0 : Heap) (n0 : Nat) (Z0 : n0 ≤ h0.size) (hp : p1 = Int32.ofNat ps) (hps : ps < 3) (V_r0 : Arv Z h0 r0 kr .byte (12 : Int32) (List.map Value.int bs) (.int (0 : Int32))) :
    MetFree l (⟨"com/example/interleaved_tables/interleavedtables/storage/InputReadNumberPinLaw", "firstClear", "([BI)I"⟩ : MethodName) (head1 (Jvm.Cond.code (⟨"com/example/interleaved_tables/interleavedtables/storage/InputReadNumberPinLaw", "firstClear", "([BI)I"⟩ : MethodName) method_4_code 2 (some .int) :: ws) ({ frames := 0, cells := 0, slots := 0, locals := 0 } : Room)) (fun a U => a = #[(.ref r0), (.int p1)] ∧ Z.Warmed39 U.vm ∧ U.heap = h0) (fun _ _ _ _ _ => True) (fun _ U o U' => ∃ v L, o = .returned v ∧ Q2 Z r0 p1 kr bs ps h0 n0 v U'.heap L ∧ FrameEnd U o U' L 0 0) := by
  refine MetFree.of_bodySF (plainFor_of_name pn_2) hisR ?_
  intro p ev s m args below meth c s₁ Bd hml0 hP hK
  obtain ⟨rfl, hZ, hh⟩ := hP
  have hx := Bd.exec
  have hby := Bd.bytes
  have hml : c.maxLocals = 2 := hml0
  have hown : s.vm.findClass "com/example/interleaved_tables/interleavedtables/storage/InputReadNumberPinLaw" = some m.cls := findClass_of_methodNamed Bd.named
  have hnm := (name_of_methodNamed Bd.named Bd.method).1
  have X0 : Stand p l ev ({ frames := 0, cells := 0, slots := 0, locals := 0 } : Room) s m #[(.ref r0), (.int p1)] below meth c s₁ [] 0 0 := Stand.of_body Bd
  have eh0 : s₁.heap = h0 := by rw [← hh, Bd.state]; rfl
  have N0 := Fr.nil n0
  have Zs := Z0
  show Gol p ev below (FrameEnd s) (Q2 Z r0 p1 kr bs ps h0 n0) 0 0 (s₁.setTop (entryFrame m #[(.ref r0), (.int p1)] 2))
  rw [ef_2]
  subst hp
  show GolF _ _ _ _ _ _ _ s₁ m 0 #[.val (.ref r0), .val (.int (Int32.ofNat ps))] []
  refine Gol.aloadN X0 hx hby d2_0 (pc' := 1) rfl rfl rfl ?_
  refine Gol.iloadN X0 hx hby d2_1 (pc' := 2) rfl rfl ?_
  refine Gol.baload X0 hx hby hZ eh0 V_r0 d2_2 (pc' := 3) rfl (own_in (by omega)) (v := (bs.getD ps 0)) (own_at bs (by omega)) ?_
  refine Gol.sipush X0 hx hby d2_3 (pc' := 6) rfl (z := (128 : Int32)) rfl ?_
  refine Gol.iand X0 hx hby d2_6 (pc' := 7) rfl rfl ?_
  by_cases hc7_1 : ((bs.getD ps 0) &&& (128 : Int32)) = (0 : Int32)
  · skip
    refine Gol.ifNo X0 hx hby d2_7 (pc' := 10) rfl ((if0 _ _).trans (teq hc7_1).2) ?_
    refine Gol.iconst X0 hx hby d2_10 (pc' := 11) rfl (z := (1 : Int32)) rfl ?_
    have hv2 : own_fc bs ps = (1 : Int32) := by
      unfold own_fc
      rw [if_pos hc7_1]
    exact Gol.retI X0 hx hby Bd.returns Bd.notSynchronized d2_11 eh0 ⟨congrArg (fun z => some (Value.int z)) (hv2.symm), N0, rfl⟩ (by decide) (by decide)
  · skip
    refine Gol.ifYes X0 hx hby d2_7 (pc' := 12) (by decide) ((if0 _ _).trans (feq hc7_1).2) ?_
    refine Gol.aloadN X0 hx hby d2_12 (pc' := 13) rfl rfl rfl ?_
    refine Gol.iloadN X0 hx hby d2_13 (pc' := 14) rfl rfl ?_
    refine Gol.iconst X0 hx hby d2_14 (pc' := 15) rfl (z := (1 : Int32)) rfl ?_
    refine Gol.iadd X0 hx hby d2_15 (pc' := 16) rfl rfl ?_
    rw [show Int32.ofNat ps + (1 : Int32) = Int32.ofNat (ps + 1) from own_addk ps 1]
    show GolF _ _ _ _ _ _ _ s₁ m 16 #[.val (.ref r0), .val (.int (Int32.ofNat ps))] [(.int (Int32.ofNat (ps + 1))), (.ref r0)]
    refine Gol.baload X0 hx hby hZ eh0 V_r0 d2_16 (pc' := 17) rfl (own_in (by omega)) (v := (bs.getD (ps + 1) 0)) (own_at bs (by omega)) ?_
    refine Gol.sipush X0 hx hby d2_17 (pc' := 20) rfl (z := (128 : Int32)) rfl ?_
    refine Gol.iand X0 hx hby d2_20 (pc' := 21) rfl rfl ?_
    by_cases hc21_3 : ((bs.getD (ps + 1) 0) &&& (128 : Int32)) = (0 : Int32)
    · skip
      refine Gol.ifNo X0 hx hby d2_21 (pc' := 24) rfl ((if0 _ _).trans (teq hc21_3).2) ?_
      refine Gol.iconst X0 hx hby d2_24 (pc' := 25) rfl (z := (2 : Int32)) rfl ?_
      have hv4 : own_fc bs ps = (2 : Int32) := by
        unfold own_fc
        rw [if_neg hc7_1, if_pos hc21_3]
      exact Gol.retI X0 hx hby Bd.returns Bd.notSynchronized d2_25 eh0 ⟨congrArg (fun z => some (Value.int z)) (hv4.symm), N0, rfl⟩ (by decide) (by decide)
    · skip
      refine Gol.ifYes X0 hx hby d2_21 (pc' := 26) (by decide) ((if0 _ _).trans (feq hc21_3).2) ?_
      refine Gol.aloadN X0 hx hby d2_26 (pc' := 27) rfl rfl rfl ?_
      refine Gol.iloadN X0 hx hby d2_27 (pc' := 28) rfl rfl ?_
      refine Gol.iconst X0 hx hby d2_28 (pc' := 29) rfl (z := (2 : Int32)) rfl ?_
      refine Gol.iadd X0 hx hby d2_29 (pc' := 30) rfl rfl ?_
      rw [show Int32.ofNat ps + (2 : Int32) = Int32.ofNat (ps + 2) from own_addk ps 2]
      show GolF _ _ _ _ _ _ _ s₁ m 30 #[.val (.ref r0), .val (.int (Int32.ofNat ps))] [(.int (Int32.ofNat (ps + 2))), (.ref r0)]
      refine Gol.baload X0 hx hby hZ eh0 V_r0 d2_30 (pc' := 31) rfl (own_in (by omega)) (v := (bs.getD (ps + 2) 0)) (own_at bs (by omega)) ?_
      refine Gol.sipush X0 hx hby d2_31 (pc' := 34) rfl (z := (128 : Int32)) rfl ?_
      refine Gol.iand X0 hx hby d2_34 (pc' := 35) rfl rfl ?_
      by_cases hc35_5 : ((bs.getD (ps + 2) 0) &&& (128 : Int32)) = (0 : Int32)
      · skip
        refine Gol.ifNo X0 hx hby d2_35 (pc' := 38) rfl ((if0 _ _).trans (teq hc35_5).2) ?_
        refine Gol.iconst X0 hx hby d2_38 (pc' := 39) rfl (z := (3 : Int32)) rfl ?_
        have hv6 : own_fc bs ps = (3 : Int32) := by
          unfold own_fc
          rw [if_neg hc7_1, if_neg hc21_3, if_pos hc35_5]
        exact Gol.retI X0 hx hby Bd.returns Bd.notSynchronized d2_39 eh0 ⟨congrArg (fun z => some (Value.int z)) (hv6.symm), N0, rfl⟩ (by decide) (by decide)
      · skip
        refine Gol.ifYes X0 hx hby d2_35 (pc' := 40) (by decide) ((if0 _ _).trans (feq hc35_5).2) ?_
        refine Gol.aloadN X0 hx hby d2_40 (pc' := 41) rfl rfl rfl ?_
        refine Gol.iloadN X0 hx hby d2_41 (pc' := 42) rfl rfl ?_
        refine Gol.iconst X0 hx hby d2_42 (pc' := 43) rfl (z := (3 : Int32)) rfl ?_
        refine Gol.iadd X0 hx hby d2_43 (pc' := 44) rfl rfl ?_
        rw [show Int32.ofNat ps + (3 : Int32) = Int32.ofNat (ps + 3) from own_addk ps 3]
        show GolF _ _ _ _ _ _ _ s₁ m 44 #[.val (.ref r0), .val (.int (Int32.ofNat ps))] [(.int (Int32.ofNat (ps + 3))), (.ref r0)]
        refine Gol.baload X0 hx hby hZ eh0 V_r0 d2_44 (pc' := 45) rfl (own_in (by omega)) (v := (bs.getD (ps + 3) 0)) (own_at bs (by omega)) ?_
        refine Gol.sipush X0 hx hby d2_45 (pc' := 48) rfl (z := (128 : Int32)) rfl ?_
        refine Gol.iand X0 hx hby d2_48 (pc' := 49) rfl rfl ?_
        by_cases hc49_7 : ((bs.getD (ps + 3) 0) &&& (128 : Int32)) = (0 : Int32)
        · skip
          refine Gol.ifNo X0 hx hby d2_49 (pc' := 52) rfl ((if0 _ _).trans (teq hc49_7).2) ?_
          refine Gol.iconst X0 hx hby d2_52 (pc' := 53) rfl (z := (4 : Int32)) rfl ?_
          have hv8 : own_fc bs ps = (4 : Int32) := by
            unfold own_fc
            rw [if_neg hc7_1, if_neg hc21_3, if_neg hc35_5, if_pos hc49_7]
          exact Gol.retI X0 hx hby Bd.returns Bd.notSynchronized d2_53 eh0 ⟨congrArg (fun z => some (Value.int z)) (hv8.symm), N0, rfl⟩ (by decide) (by decide)
        · skip
          refine Gol.ifYes X0 hx hby d2_49 (pc' := 54) (by decide) ((if0 _ _).trans (feq hc49_7).2) ?_
          refine Gol.aloadN X0 hx hby d2_54 (pc' := 55) rfl rfl rfl ?_
          refine Gol.iloadN X0 hx hby d2_55 (pc' := 56) rfl rfl ?_
          refine Gol.iconst X0 hx hby d2_56 (pc' := 57) rfl (z := (4 : Int32)) rfl ?_
          refine Gol.iadd X0 hx hby d2_57 (pc' := 58) rfl rfl ?_
          rw [show Int32.ofNat ps + (4 : Int32) = Int32.ofNat (ps + 4) from own_addk ps 4]
          show GolF _ _ _ _ _ _ _ s₁ m 58 #[.val (.ref r0), .val (.int (Int32.ofNat ps))] [(.int (Int32.ofNat (ps + 4))), (.ref r0)]
          refine Gol.baload X0 hx hby hZ eh0 V_r0 d2_58 (pc' := 59) rfl (own_in (by omega)) (v := (bs.getD (ps + 4) 0)) (own_at bs (by omega)) ?_
          refine Gol.sipush X0 hx hby d2_59 (pc' := 62) rfl (z := (128 : Int32)) rfl ?_
          refine Gol.iand X0 hx hby d2_62 (pc' := 63) rfl rfl ?_
          by_cases hc63_9 : ((bs.getD (ps + 4) 0) &&& (128 : Int32)) = (0 : Int32)
          · skip
            refine Gol.ifNo X0 hx hby d2_63 (pc' := 66) rfl ((if0 _ _).trans (teq hc63_9).2) ?_
            refine Gol.iconst X0 hx hby d2_66 (pc' := 67) rfl (z := (5 : Int32)) rfl ?_
            have hv10 : own_fc bs ps = (5 : Int32) := by
              unfold own_fc
              rw [if_neg hc7_1, if_neg hc21_3, if_neg hc35_5, if_neg hc49_7, if_pos hc63_9]
            exact Gol.retI X0 hx hby Bd.returns Bd.notSynchronized d2_67 eh0 ⟨congrArg (fun z => some (Value.int z)) (hv10.symm), N0, rfl⟩ (by decide) (by decide)
          · skip
            refine Gol.ifYes X0 hx hby d2_63 (pc' := 68) (by decide) ((if0 _ _).trans (feq hc63_9).2) ?_
            refine Gol.aloadN X0 hx hby d2_68 (pc' := 69) rfl rfl rfl ?_
            refine Gol.iloadN X0 hx hby d2_69 (pc' := 70) rfl rfl ?_
            refine Gol.iconst X0 hx hby d2_70 (pc' := 71) rfl (z := (5 : Int32)) rfl ?_
            refine Gol.iadd X0 hx hby d2_71 (pc' := 72) rfl rfl ?_
            rw [show Int32.ofNat ps + (5 : Int32) = Int32.ofNat (ps + 5) from own_addk ps 5]
            show GolF _ _ _ _ _ _ _ s₁ m 72 #[.val (.ref r0), .val (.int (Int32.ofNat ps))] [(.int (Int32.ofNat (ps + 5))), (.ref r0)]
            refine Gol.baload X0 hx hby hZ eh0 V_r0 d2_72 (pc' := 73) rfl (own_in (by omega)) (v := (bs.getD (ps + 5) 0)) (own_at bs (by omega)) ?_
            refine Gol.sipush X0 hx hby d2_73 (pc' := 76) rfl (z := (128 : Int32)) rfl ?_
            refine Gol.iand X0 hx hby d2_76 (pc' := 77) rfl rfl ?_
            by_cases hc77_11 : ((bs.getD (ps + 5) 0) &&& (128 : Int32)) = (0 : Int32)
            · skip
              refine Gol.ifNo X0 hx hby d2_77 (pc' := 80) rfl ((if0 _ _).trans (teq hc77_11).2) ?_
              refine Gol.bipush X0 hx hby d2_80 (pc' := 82) rfl (z := (6 : Int32)) rfl ?_
              have hv12 : own_fc bs ps = (6 : Int32) := by
                unfold own_fc
                rw [if_neg hc7_1, if_neg hc21_3, if_neg hc35_5, if_neg hc49_7, if_neg hc63_9, if_pos hc77_11]
              exact Gol.retI X0 hx hby Bd.returns Bd.notSynchronized d2_82 eh0 ⟨congrArg (fun z => some (Value.int z)) (hv12.symm), N0, rfl⟩ (by decide) (by decide)
            · skip
              refine Gol.ifYes X0 hx hby d2_77 (pc' := 83) (by decide) ((if0 _ _).trans (feq hc77_11).2) ?_
              refine Gol.aloadN X0 hx hby d2_83 (pc' := 84) rfl rfl rfl ?_
              refine Gol.iloadN X0 hx hby d2_84 (pc' := 85) rfl rfl ?_
              refine Gol.bipush X0 hx hby d2_85 (pc' := 87) rfl (z := (6 : Int32)) rfl ?_
              refine Gol.iadd X0 hx hby d2_87 (pc' := 88) rfl rfl ?_
              rw [show Int32.ofNat ps + (6 : Int32) = Int32.ofNat (ps + 6) from own_addk ps 6]
              show GolF _ _ _ _ _ _ _ s₁ m 88 #[.val (.ref r0), .val (.int (Int32.ofNat ps))] [(.int (Int32.ofNat (ps + 6))), (.ref r0)]
              refine Gol.baload X0 hx hby hZ eh0 V_r0 d2_88 (pc' := 89) rfl (own_in (by omega)) (v := (bs.getD (ps + 6) 0)) (own_at bs (by omega)) ?_
              refine Gol.sipush X0 hx hby d2_89 (pc' := 92) rfl (z := (128 : Int32)) rfl ?_
              refine Gol.iand X0 hx hby d2_92 (pc' := 93) rfl rfl ?_
              by_cases hc93_13 : ((bs.getD (ps + 6) 0) &&& (128 : Int32)) = (0 : Int32)
              · skip
                refine Gol.ifNo X0 hx hby d2_93 (pc' := 96) rfl ((if0 _ _).trans (teq hc93_13).2) ?_
                refine Gol.bipush X0 hx hby d2_96 (pc' := 98) rfl (z := (7 : Int32)) rfl ?_
                have hv14 : own_fc bs ps = (7 : Int32) := by
                  unfold own_fc
                  rw [if_neg hc7_1, if_neg hc21_3, if_neg hc35_5, if_neg hc49_7, if_neg hc63_9, if_neg hc77_11, if_pos hc93_13]
                exact Gol.retI X0 hx hby Bd.returns Bd.notSynchronized d2_98 eh0 ⟨congrArg (fun z => some (Value.int z)) (hv14.symm), N0, rfl⟩ (by decide) (by decide)
              · skip
                refine Gol.ifYes X0 hx hby d2_93 (pc' := 99) (by decide) ((if0 _ _).trans (feq hc93_13).2) ?_
                refine Gol.aloadN X0 hx hby d2_99 (pc' := 100) rfl rfl rfl ?_
                refine Gol.iloadN X0 hx hby d2_100 (pc' := 101) rfl rfl ?_
                refine Gol.bipush X0 hx hby d2_101 (pc' := 103) rfl (z := (7 : Int32)) rfl ?_
                refine Gol.iadd X0 hx hby d2_103 (pc' := 104) rfl rfl ?_
                rw [show Int32.ofNat ps + (7 : Int32) = Int32.ofNat (ps + 7) from own_addk ps 7]
                show GolF _ _ _ _ _ _ _ s₁ m 104 #[.val (.ref r0), .val (.int (Int32.ofNat ps))] [(.int (Int32.ofNat (ps + 7))), (.ref r0)]
                refine Gol.baload X0 hx hby hZ eh0 V_r0 d2_104 (pc' := 105) rfl (own_in (by omega)) (v := (bs.getD (ps + 7) 0)) (own_at bs (by omega)) ?_
                refine Gol.sipush X0 hx hby d2_105 (pc' := 108) rfl (z := (128 : Int32)) rfl ?_
                refine Gol.iand X0 hx hby d2_108 (pc' := 109) rfl rfl ?_
                by_cases hc109_15 : ((bs.getD (ps + 7) 0) &&& (128 : Int32)) = (0 : Int32)
                · skip
                  refine Gol.ifNo X0 hx hby d2_109 (pc' := 112) rfl ((if0 _ _).trans (teq hc109_15).2) ?_
                  refine Gol.bipush X0 hx hby d2_112 (pc' := 114) rfl (z := (8 : Int32)) rfl ?_
                  have hv16 : own_fc bs ps = (8 : Int32) := by
                    unfold own_fc
                    rw [if_neg hc7_1, if_neg hc21_3, if_neg hc35_5, if_neg hc49_7, if_neg hc63_9, if_neg hc77_11, if_neg hc93_13, if_pos hc109_15]
                  exact Gol.retI X0 hx hby Bd.returns Bd.notSynchronized d2_114 eh0 ⟨congrArg (fun z => some (Value.int z)) (hv16.symm), N0, rfl⟩ (by decide) (by decide)
                · skip
                  refine Gol.ifYes X0 hx hby d2_109 (pc' := 115) (by decide) ((if0 _ _).trans (feq hc109_15).2) ?_
                  refine Gol.aloadN X0 hx hby d2_115 (pc' := 116) rfl rfl rfl ?_
                  refine Gol.iloadN X0 hx hby d2_116 (pc' := 117) rfl rfl ?_
                  refine Gol.bipush X0 hx hby d2_117 (pc' := 119) rfl (z := (8 : Int32)) rfl ?_
                  refine Gol.iadd X0 hx hby d2_119 (pc' := 120) rfl rfl ?_
                  rw [show Int32.ofNat ps + (8 : Int32) = Int32.ofNat (ps + 8) from own_addk ps 8]
                  show GolF _ _ _ _ _ _ _ s₁ m 120 #[.val (.ref r0), .val (.int (Int32.ofNat ps))] [(.int (Int32.ofNat (ps + 8))), (.ref r0)]
                  refine Gol.baload X0 hx hby hZ eh0 V_r0 d2_120 (pc' := 121) rfl (own_in (by omega)) (v := (bs.getD (ps + 8) 0)) (own_at bs (by omega)) ?_
                  refine Gol.sipush X0 hx hby d2_121 (pc' := 124) rfl (z := (128 : Int32)) rfl ?_
                  refine Gol.iand X0 hx hby d2_124 (pc' := 125) rfl rfl ?_
                  by_cases hc125_17 : ((bs.getD (ps + 8) 0) &&& (128 : Int32)) = (0 : Int32)
                  · skip
                    refine Gol.ifNo X0 hx hby d2_125 (pc' := 128) rfl ((if0 _ _).trans (teq hc125_17).2) ?_
                    refine Gol.bipush X0 hx hby d2_128 (pc' := 130) rfl (z := (9 : Int32)) rfl ?_
                    have hv18 : own_fc bs ps = (9 : Int32) := by
                      unfold own_fc
                      rw [if_neg hc7_1, if_neg hc21_3, if_neg hc35_5, if_neg hc49_7, if_neg hc63_9, if_neg hc77_11, if_neg hc93_13, if_neg hc109_15, if_pos hc125_17]
                    exact Gol.retI X0 hx hby Bd.returns Bd.notSynchronized d2_130 eh0 ⟨congrArg (fun z => some (Value.int z)) (hv18.symm), N0, rfl⟩ (by decide) (by decide)
                  · skip
                    refine Gol.ifYes X0 hx hby d2_125 (pc' := 131) (by decide) ((if0 _ _).trans (feq hc125_17).2) ?_
                    refine Gol.aloadN X0 hx hby d2_131 (pc' := 132) rfl rfl rfl ?_
                    refine Gol.iloadN X0 hx hby d2_132 (pc' := 133) rfl rfl ?_
                    refine Gol.bipush X0 hx hby d2_133 (pc' := 135) rfl (z := (9 : Int32)) rfl ?_
                    refine Gol.iadd X0 hx hby d2_135 (pc' := 136) rfl rfl ?_
                    rw [show Int32.ofNat ps + (9 : Int32) = Int32.ofNat (ps + 9) from own_addk ps 9]
                    show GolF _ _ _ _ _ _ _ s₁ m 136 #[.val (.ref r0), .val (.int (Int32.ofNat ps))] [(.int (Int32.ofNat (ps + 9))), (.ref r0)]
                    refine Gol.baload X0 hx hby hZ eh0 V_r0 d2_136 (pc' := 137) rfl (own_in (by omega)) (v := (bs.getD (ps + 9) 0)) (own_at bs (by omega)) ?_
                    refine Gol.sipush X0 hx hby d2_137 (pc' := 140) rfl (z := (128 : Int32)) rfl ?_
                    refine Gol.iand X0 hx hby d2_140 (pc' := 141) rfl rfl ?_
                    by_cases hc141_19 : ((bs.getD (ps + 9) 0) &&& (128 : Int32)) = (0 : Int32)
                    · skip
                      refine Gol.ifNo X0 hx hby d2_141 (pc' := 144) rfl ((if0 _ _).trans (teq hc141_19).2) ?_
                      refine Gol.bipush X0 hx hby d2_144 (pc' := 146) rfl (z := (10 : Int32)) rfl ?_
                      have hv20 : own_fc bs ps = (10 : Int32) := by
                        unfold own_fc
                        rw [if_neg hc7_1, if_neg hc21_3, if_neg hc35_5, if_neg hc49_7, if_neg hc63_9, if_neg hc77_11, if_neg hc93_13, if_neg hc109_15, if_neg hc125_17, if_pos hc141_19]
                      exact Gol.retI X0 hx hby Bd.returns Bd.notSynchronized d2_146 eh0 ⟨congrArg (fun z => some (Value.int z)) (hv20.symm), N0, rfl⟩ (by decide) (by decide)
                    · skip
                      refine Gol.ifYes X0 hx hby d2_141 (pc' := 147) (by decide) ((if0 _ _).trans (feq hc141_19).2) ?_
                      refine Gol.bipush X0 hx hby d2_147 (pc' := 149) rfl (z := (11 : Int32)) rfl ?_
                      have hv21 : own_fc bs ps = (11 : Int32) := by
                        unfold own_fc
                        rw [if_neg hc7_1, if_neg hc21_3, if_neg hc35_5, if_neg hc49_7, if_neg hc63_9, if_neg hc77_11, if_neg hc93_13, if_neg hc109_15, if_neg hc125_17, if_neg hc141_19]
                      exact Gol.retI X0 hx hby Bd.returns Bd.notSynchronized d2_149 eh0 ⟨congrArg (fun z => some (Value.int z)) (hv21.symm), N0, rfl⟩ (by decide) (by decide)
def own_tm (x i n : Int32) : Int64 := if i < n then ((x &&& (127 : Int32)).toInt64 <<< ((((7 : Int32) * i).toInt64) &&& 63)) else (0 : Int64)
theorem d3_0 : decode method_5_code 0 = .ok (.iload_n 2, 1) := by decide +kernel
theorem d3_1 : decode method_5_code 1 = .ok (.iload_n 3, 1) := by decide +kernel
theorem d3_2 : decode method_5_code 2 = .ok (.if_icmp .ge 20, 3) := by decide +kernel
theorem d3_5 : decode method_5_code 5 = .ok (.aload_n 0, 1) := by decide +kernel
theorem d3_6 : decode method_5_code 6 = .ok (.iload_n 1, 1) := by decide +kernel
theorem d3_7 : decode method_5_code 7 = .ok (.iload_n 2, 1) := by decide +kernel
theorem d3_8 : decode method_5_code 8 = .ok (.iadd, 1) := by decide +kernel
theorem d3_9 : decode method_5_code 9 = .ok (.baload, 1) := by decide +kernel
theorem d3_10 : decode method_5_code 10 = .ok (.bipush 127, 2) := by decide +kernel
theorem d3_12 : decode method_5_code 12 = .ok (.iand, 1) := by decide +kernel
theorem d3_13 : decode method_5_code 13 = .ok (.i2l, 1) := by decide +kernel
theorem d3_14 : decode method_5_code 14 = .ok (.bipush 7, 2) := by decide +kernel
theorem d3_16 : decode method_5_code 16 = .ok (.iload_n 2, 1) := by decide +kernel
theorem d3_17 : decode method_5_code 17 = .ok (.imul, 1) := by decide +kernel
theorem d3_18 : decode method_5_code 18 = .ok (.lshl, 1) := by decide +kernel
theorem d3_19 : decode method_5_code 19 = .ok (.goto 4, 3) := by decide +kernel
theorem d3_22 : decode method_5_code 22 = .ok (.lconst 0, 1) := by decide +kernel
theorem d3_23 : decode method_5_code 23 = .ok (.lreturn, 1) := by decide +kernel
theorem pn_3 : plainName "com/example/interleaved_tables/interleavedtables/storage/InputReadNumberPinLaw" = true := by first | (simp [plainName, overriddenIn]; done) | decide +kernel
theorem ef_3 (m : MethodId) (r0 : Addr) (p1 : Int32) (p2 : Int32) (p3 : Int32) : entryFrame m #[(.ref r0), (.int p1), (.int p2), (.int p3)] 4 = mkF m 0 #[.val (.ref r0), .val (.int p1), .val (.int p2), .val (.int p3)] [] := by first | (simp [entryFrame, mkF, argsToLocals, Value.category]; done) | rfl
abbrev Q3 (Z : State) (r0 : Addr) (p1 : Int32) (p2 : Int32) (p3 : Int32) (kr : ClassId) (bs : List Int32) (ix : Nat) (h0 : Heap) (n0 : Nat) (v : Option Value) (h : Heap) (L : List Loc) : Prop := v = some (.long (own_tm (bs.getD ix 0) p2 p3)) ∧ Fr n0 L ∧ h = h0
set_option maxRecDepth 65536 in
set_option maxHeartbeats 40000000 in
theorem rm3 (l : Launch) (Z : State) (a0 : Array Value) (hw : ∀ d ∈ tables_1, d.before a0 Z = true) (ws : List Jvm.Cond) (r0 : Addr) (p1 : Int32) (p2 : Int32) (p3 : Int32) (kr : ClassId) (bs : List Int32) (ix : Nat) (h0 : Heap) (n0 : Nat) (Z0 : n0 ≤ h0.size) (hix : p1 + p2 = Int32.ofNat ix) (hlt : ix < 12) (V_r0 : Arv Z h0 r0 kr .byte (12 : Int32) (List.map Value.int bs) (.int (0 : Int32))) :
    MetFree l (⟨"com/example/interleaved_tables/interleavedtables/storage/InputReadNumberPinLaw", "term", "([BIII)J"⟩ : MethodName) (head1 (Jvm.Cond.code (⟨"com/example/interleaved_tables/interleavedtables/storage/InputReadNumberPinLaw", "term", "([BIII)J"⟩ : MethodName) method_5_code 4 (some .long) :: ws) ({ frames := 0, cells := 0, slots := 0, locals := 0 } : Room)) (fun a U => a = #[(.ref r0), (.int p1), (.int p2), (.int p3)] ∧ Z.Warmed39 U.vm ∧ U.heap = h0) (fun _ _ _ _ _ => True) (fun _ U o U' => ∃ v L, o = .returned v ∧ Q3 Z r0 p1 p2 p3 kr bs ix h0 n0 v U'.heap L ∧ FrameEnd U o U' L 0 0) := by
  refine MetFree.of_bodySF (plainFor_of_name pn_3) hisR ?_
  intro p ev s m args below meth c s₁ Bd hml0 hP hK
  obtain ⟨rfl, hZ, hh⟩ := hP
  have hx := Bd.exec
  have hby := Bd.bytes
  have hml : c.maxLocals = 4 := hml0
  have hown : s.vm.findClass "com/example/interleaved_tables/interleavedtables/storage/InputReadNumberPinLaw" = some m.cls := findClass_of_methodNamed Bd.named
  have hnm := (name_of_methodNamed Bd.named Bd.method).1
  have X0 : Stand p l ev ({ frames := 0, cells := 0, slots := 0, locals := 0 } : Room) s m #[(.ref r0), (.int p1), (.int p2), (.int p3)] below meth c s₁ [] 0 0 := Stand.of_body Bd
  have eh0 : s₁.heap = h0 := by rw [← hh, Bd.state]; rfl
  have N0 := Fr.nil n0
  have Zs := Z0
  show Gol p ev below (FrameEnd s) (Q3 Z r0 p1 p2 p3 kr bs ix h0 n0) 0 0 (s₁.setTop (entryFrame m #[(.ref r0), (.int p1), (.int p2), (.int p3)] 4))
  rw [ef_3]
  show GolF _ _ _ _ _ _ _ s₁ m 0 #[.val (.ref r0), .val (.int p1), .val (.int p2), .val (.int p3)] []
  refine Gol.iloadN X0 hx hby d3_0 (pc' := 1) rfl rfl ?_
  refine Gol.iloadN X0 hx hby d3_1 (pc' := 2) rfl rfl ?_
  by_cases hc2_1 : p2 < p3
  · skip
    refine Gol.icmpNo X0 hx hby d3_2 (pc' := 5) rfl (tlt hc2_1).2.1 ?_
    refine Gol.aloadN X0 hx hby d3_5 (pc' := 6) rfl rfl rfl ?_
    refine Gol.iloadN X0 hx hby d3_6 (pc' := 7) rfl rfl ?_
    refine Gol.iloadN X0 hx hby d3_7 (pc' := 8) rfl rfl ?_
    refine Gol.iadd X0 hx hby d3_8 (pc' := 9) rfl rfl ?_
    rw [hix]
    show GolF _ _ _ _ _ _ _ s₁ m 9 #[.val (.ref r0), .val (.int p1), .val (.int p2), .val (.int p3)] [(.int (Int32.ofNat ix)), (.ref r0)]
    refine Gol.baload X0 hx hby hZ eh0 V_r0 d3_9 (pc' := 10) rfl (own_in (by omega)) (v := (bs.getD ix 0)) (own_at bs (by omega)) ?_
    refine Gol.bipush X0 hx hby d3_10 (pc' := 12) rfl (z := (127 : Int32)) rfl ?_
    refine Gol.iand X0 hx hby d3_12 (pc' := 13) rfl rfl ?_
    refine Gol.i2l X0 hx hby d3_13 (pc' := 14) rfl rfl ?_
    refine Gol.bipush X0 hx hby d3_14 (pc' := 16) rfl (z := (7 : Int32)) rfl ?_
    refine Gol.iloadN X0 hx hby d3_16 (pc' := 17) rfl rfl ?_
    refine Gol.imul X0 hx hby d3_17 (pc' := 18) rfl rfl ?_
    refine Gol.lshl X0 hx hby d3_18 (pc' := 19) rfl rfl ?_
    refine Gol.goto X0 hx hby d3_19 (pc' := 23) (by decide) ?_
    have hv : own_tm (bs.getD ix 0) p2 p3 = ((((bs.getD ix 0) &&& (127 : Int32)).toInt64) <<< (((7 : Int32) * p2).toInt64 &&& 63)) := if_pos hc2_1
    exact Gol.retL X0 hx hby Bd.returns Bd.notSynchronized d3_23 eh0 ⟨congrArg (fun z => some (Value.long z)) hv.symm, N0, rfl⟩ (by decide) (by decide)
  · skip
    refine Gol.icmpYes X0 hx hby d3_2 (pc' := 22) (by decide) (flt hc2_1).2.1 ?_
    refine Gol.lconst X0 hx hby d3_22 (pc' := 23) rfl (z := (0 : Int64)) rfl ?_
    have hv : own_tm (bs.getD ix 0) p2 p3 = (0 : Int64) := if_neg hc2_1
    exact Gol.retL X0 hx hby Bd.returns Bd.notSynchronized d3_23 eh0 ⟨congrArg (fun z => some (Value.long z)) hv.symm, N0, rfl⟩ (by decide) (by decide)
theorem d4_0 : decode jdk_29_method_69_code 0 = .ok (.iload_n 0, 1) := by decide +kernel
theorem d4_1 : decode jdk_29_method_69_code 1 = .ok (.iload_n 1, 1) := by decide +kernel
theorem d4_2 : decode jdk_29_method_69_code 2 = .ok (.if_icmp .gt 7, 3) := by decide +kernel
theorem d4_5 : decode jdk_29_method_69_code 5 = .ok (.iload_n 0, 1) := by decide +kernel
theorem d4_6 : decode jdk_29_method_69_code 6 = .ok (.goto 4, 3) := by decide +kernel
theorem d4_9 : decode jdk_29_method_69_code 9 = .ok (.iload_n 1, 1) := by decide +kernel
theorem d4_10 : decode jdk_29_method_69_code 10 = .ok (.ireturn, 1) := by decide +kernel
theorem ef_4 (m : MethodId) (p0 : Int32) (p1 : Int32) : entryFrame m #[(.int p0), (.int p1)] 2 = mkF m 0 #[.val (.int p0), .val (.int p1)] [] := by first | (simp [entryFrame, mkF, argsToLocals, Value.category]; done) | rfl
def f4 (p0 : Int32) (p1 : Int32) : Int32 :=
  if p1 < p0 then
    p1
  else
    p0
abbrev Q4 (Z : State) (p0 : Int32) (p1 : Int32) (h0 : Heap) (n0 : Nat) (v : Option Value) (h : Heap) (L : List Loc) : Prop := v = some (.int (f4 p0 p1)) ∧ Fr n0 L ∧ h = h0
set_option maxRecDepth 65536 in
set_option maxHeartbeats 40000000 in
theorem rm4 (l : Launch) (Z : State) (a0 : Array Value) (hw : ∀ d ∈ tables_1, d.before a0 Z = true) (ws : List Jvm.Cond) (p0 : Int32) (p1 : Int32) (h0 : Heap) (n0 : Nat) (Z0 : n0 ≤ h0.size) :
    MetFree l (⟨"java/lang/Math", "min", "(II)I"⟩ : MethodName) (head1 (Jvm.Cond.code (⟨"java/lang/Math", "min", "(II)I"⟩ : MethodName) jdk_29_method_69_code 2 (some .int) :: ws) ({ frames := 0, cells := 0, slots := 0, locals := 0 } : Room)) (fun a U => a = #[(.int p0), (.int p1)] ∧ Z.Warmed39 U.vm ∧ U.heap = h0) (fun _ _ _ _ _ => True) (fun _ U o U' => ∃ v L, o = .returned v ∧ Q4 Z p0 p1 h0 n0 v U'.heap L ∧ FrameEnd U o U' L 0 0) := by
  refine MetFree.of_bodySF (Jvm.Free.JP.mathPlain rfl (by decide +kernel)) hisR ?_
  intro p ev s m args below meth c s₁ Bd hml0 hP hK
  obtain ⟨rfl, hZ, hh⟩ := hP
  have hx := Bd.exec
  have hby := Bd.bytes
  have hml : c.maxLocals = 2 := hml0
  have hown : s.vm.findClass "java/lang/Math" = some m.cls := findClass_of_methodNamed Bd.named
  have hnm := (name_of_methodNamed Bd.named Bd.method).1
  have X0 : Stand p l ev ({ frames := 0, cells := 0, slots := 0, locals := 0 } : Room) s m #[(.int p0), (.int p1)] below meth c s₁ [] 0 0 := Stand.of_body Bd
  have eh0 : s₁.heap = h0 := by rw [← hh, Bd.state]; rfl
  have N0 := Fr.nil n0
  have Zs := Z0
  show Gol p ev below (FrameEnd s) (Q4 Z p0 p1 h0 n0) 0 0 (s₁.setTop (entryFrame m #[(.int p0), (.int p1)] 2))
  rw [ef_4]
  show GolF _ _ _ _ _ _ _ s₁ m 0 #[.val (.int p0), .val (.int p1)] []
  refine Gol.iloadN X0 hx hby d4_0 (pc' := 1) rfl rfl ?_
  refine Gol.iloadN X0 hx hby d4_1 (pc' := 2) rfl rfl ?_
  by_cases hc2_1 : p1 < p0
  · skip
    refine Gol.icmpYes X0 hx hby d4_2 (pc' := 9) (by decide) (tlt hc2_1).2.2.1 ?_
    refine Gol.iloadN X0 hx hby d4_9 (pc' := 10) rfl rfl ?_
    have hv2 : f4 p0 p1 = p1 := by
      unfold f4
      rw [if_pos hc2_1]
    exact Gol.retI X0 hx hby Bd.returns Bd.notSynchronized d4_10 eh0 ⟨congrArg (fun z => some (Value.int z)) (hv2.symm), N0, rfl⟩ (by decide) (by decide)
  · skip
    refine Gol.icmpNo X0 hx hby d4_2 (pc' := 5) rfl (flt hc2_1).2.2.1 ?_
    refine Gol.iloadN X0 hx hby d4_5 (pc' := 6) rfl rfl ?_
    refine Gol.goto X0 hx hby d4_6 (pc' := 10) (by decide) ?_
    have hv3 : f4 p0 p1 = p0 := by
      unfold f4
      rw [if_neg hc2_1]
    exact Gol.retI X0 hx hby Bd.returns Bd.notSynchronized d4_10 eh0 ⟨congrArg (fun z => some (Value.int z)) (hv3.symm), N0, rfl⟩ (by decide) (by decide)
theorem d5_0 : decode prog_70_method_1_code 0 = .ok (.aload_n 0, 1) := by decide +kernel
theorem d5_1 : decode prog_70_method_1_code 1 = .ok (.invokespecial 1, 3) := by decide +kernel
theorem d5_4 : decode prog_70_method_1_code 4 = .ok (.aload_n 0, 1) := by decide +kernel
theorem d5_5 : decode prog_70_method_1_code 5 = .ok (.aload_n 1, 1) := by decide +kernel
theorem d5_6 : decode prog_70_method_1_code 6 = .ok (.putfield 7, 3) := by decide +kernel
theorem d5_9 : decode prog_70_method_1_code 9 = .ok (.aload_n 0, 1) := by decide +kernel
theorem d5_10 : decode prog_70_method_1_code 10 = .ok (.iload_n 2, 1) := by decide +kernel
theorem d5_11 : decode prog_70_method_1_code 11 = .ok (.putfield 13, 3) := by decide +kernel
theorem d5_14 : decode prog_70_method_1_code 14 = .ok (.aload_n 0, 1) := by decide +kernel
theorem d5_15 : decode prog_70_method_1_code 15 = .ok (.iload_n 3, 1) := by decide +kernel
theorem d5_16 : decode prog_70_method_1_code 16 = .ok (.putfield 17, 3) := by decide +kernel
theorem d5_19 : decode prog_70_method_1_code 19 = .ok (.return_, 1) := by decide +kernel
theorem pn_5 : plainName "com/example/interleaved_tables/interleavedtables/storage/DataFile$Input" = true := by first | (simp [plainName, overriddenIn]; done) | decide +kernel
theorem ef_5 (m : MethodId) (r0 : Addr) (r1 : Addr) (p2 : Int32) (p3 : Int32) : entryFrame m #[(.ref r0), (.ref r1), (.int p2), (.int p3)] 4 = mkF m 0 #[.val (.ref r0), .val (.ref r1), .val (.int p2), .val (.int p3)] [] := by first | (simp [entryFrame, mkF, argsToLocals, Value.category]; done) | rfl
abbrev Q5 (Z : State) (r0 : Addr) (r1 : Addr) (p2 : Int32) (p3 : Int32) (h0 : Heap) (n0 : Nat) (v : Option Value) (h : Heap) (L : List Loc) : Prop := v = none ∧ Fr n0 L ∧ Keep h0 h [r0] ∧ In Z h r0 (.ref r1) (.int p2) (.int p3)
set_option maxRecDepth 65536 in
set_option maxHeartbeats 40000000 in
theorem rm5 (l : Launch) (Z : State) (a0 : Array Value) (hw : ∀ d ∈ tables_1, d.before a0 Z = true) (ws : List Jvm.Cond) (r0 : Addr) (r1 : Addr) (p2 : Int32) (p3 : Int32) (h0 : Heap) (n0 : Nat) (Z0 : n0 ≤ h0.size) (O0 : In Z h0 r0 .null (.int (0 : Int32)) (.int (0 : Int32))) (g_r0 : n0 ≤ r0) :
    MetFree l (⟨"com/example/interleaved_tables/interleavedtables/storage/DataFile$Input", "<init>", "([BII)V"⟩ : MethodName) (head1 (Jvm.Cond.code (⟨"com/example/interleaved_tables/interleavedtables/storage/DataFile$Input", "<init>", "([BII)V"⟩ : MethodName) prog_70_method_1_code 4 none :: ws) ({ frames := 1, cells := 0, slots := 0, locals := 12 } : Room)) (fun a U => a = #[(.ref r0), (.ref r1), (.int p2), (.int p3)] ∧ Z.Warmed39 U.vm ∧ U.heap = h0) (fun _ _ _ _ _ => True) (fun _ U o U' => ∃ v L, o = .returned v ∧ Q5 Z r0 r1 p2 p3 h0 n0 v U'.heap L ∧ FrameEnd U o U' L 0 0) := by
  refine MetFree.of_bodySF (plainFor_of_name pn_5) hisR ?_
  intro p ev s m args below meth c s₁ Bd hml0 hP hK
  obtain ⟨rfl, hZ, hh⟩ := hP
  have hx := Bd.exec
  have hby := Bd.bytes
  have hml : c.maxLocals = 4 := hml0
  have hown : s.vm.findClass "com/example/interleaved_tables/interleavedtables/storage/DataFile$Input" = some m.cls := findClass_of_methodNamed Bd.named
  have hnm := (name_of_methodNamed Bd.named Bd.method).1
  have X0 : Stand p l ev ({ frames := 1, cells := 0, slots := 0, locals := 12 } : Room) s m #[(.ref r0), (.ref r1), (.int p2), (.int p3)] below meth c s₁ [] 0 0 := Stand.of_body Bd
  have eh0 : s₁.heap = h0 := by rw [← hh, Bd.state]; rfl
  have N0 := Fr.nil n0
  have Zs := Z0
  show Gol p ev below (FrameEnd s) (Q5 Z r0 r1 p2 p3 h0 n0) 0 0 (s₁.setTop (entryFrame m #[(.ref r0), (.ref r1), (.int p2), (.int p3)] 4))
  rw [ef_5]
  obtain ⟨E_r0, F_r0_bytes, F_r0_position, F_r0_end⟩ := O0
  have K := Keep.refl h0 [r0]
  show GolF _ _ _ _ _ _ _ s₁ m 0 #[.val (.ref r0), .val (.ref r1), .val (.int p2), .val (.int p3)] []
  refine Gol.aloadN X0 hx hby d5_0 (pc' := 1) rfl rfl rfl ?_
  refine Gol.initO X0 hx hby hZ hown (hw _ (List.mem_of_getElem? (i := 22) rfl)) (hw _ (List.mem_of_getElem? (i := 23) rfl)) (hw _ (List.mem_of_getElem? (i := 24) rfl)) eh0 0 d5_1 (pc' := 4) rfl (by rw [hml]; rfl) (by decide) (Nat.le_of_eq rfl) (by decide) ?_
  intro T1 X1 e1
  refine Gol.aloadN X1 hx hby d5_4 (pc' := 5) rfl rfl rfl ?_
  refine Gol.aloadN X1 hx hby d5_5 (pc' := 6) rfl rfl rfl ?_
  refine Gol.putF X1 hx hby hZ hown (host := "") (Or.inl (hw _ (List.mem_of_getElem? (i := 25) rfl))) Via.refl e1 F_r0_bytes E_r0 (Or.inr ⟨(hw _ (List.mem_of_getElem? (i := 26) rfl)), rfl, hnm⟩) (hw _ (List.mem_of_getElem? (i := 17) rfl)) (ty := (.array .byte)) (by decide) rfl rfl d5_6 (pc' := 9) rfl ?_
  intro T2 h2 X2 e2 W2
  have E_r0 := E_r0.wr W2
  have F_r0_bytes := F_r0_bytes.same W2
  have F_r0_position := F_r0_position.other W2 (Or.inr (slot_ne (Or.inl (hw _ (List.mem_of_getElem? (i := 28) rfl))) (Or.inr (hw _ (List.mem_of_getElem? (i := 26) rfl))) (by decide) (t := .int) (t' := (.array .byte)) (by decide) (by decide)))
  have F_r0_end := F_r0_end.other W2 (Or.inr (slot_ne (Or.inr (hw _ (List.mem_of_getElem? (i := 30) rfl))) (Or.inr (hw _ (List.mem_of_getElem? (i := 26) rfl))) (by decide) (t := .int) (t' := (.array .byte)) (by decide) (by decide)))
  have K := K.wr W2 (Or.inl (List.mem_of_getElem? (i := 0) rfl))
  have Zs := Nat.le_trans Zs (Keep.of_wr W2).1
  have N2 := Fr.snoc X2 N0 g_r0
  refine Gol.aloadN X2 hx hby d5_9 (pc' := 10) rfl rfl rfl ?_
  refine Gol.iloadN X2 hx hby d5_10 (pc' := 11) rfl rfl ?_
  refine Gol.putF X2 hx hby hZ hown (host := "") (Or.inl (hw _ (List.mem_of_getElem? (i := 27) rfl))) Via.refl e2 F_r0_position E_r0 (Or.inl (hw _ (List.mem_of_getElem? (i := 28) rfl))) (hw _ (List.mem_of_getElem? (i := 17) rfl)) (ty := .int) (by decide) rfl rfl d5_11 (pc' := 14) rfl ?_
  intro T3 h3 X3 e3 W3
  have E_r0 := E_r0.wr W3
  have F_r0_bytes := F_r0_bytes.other W3 (Or.inr (slot_ne (Or.inr (hw _ (List.mem_of_getElem? (i := 26) rfl))) (Or.inl (hw _ (List.mem_of_getElem? (i := 28) rfl))) (by decide) (t := (.array .byte)) (t' := .int) (by decide) (by decide)))
  have F_r0_position := F_r0_position.same W3
  have F_r0_end := F_r0_end.other W3 (Or.inr (slot_ne (Or.inr (hw _ (List.mem_of_getElem? (i := 30) rfl))) (Or.inl (hw _ (List.mem_of_getElem? (i := 28) rfl))) (by decide) (t := .int) (t' := .int) (by decide) (by decide)))
  have K := K.wr W3 (Or.inl (List.mem_of_getElem? (i := 0) rfl))
  have Zs := Nat.le_trans Zs (Keep.of_wr W3).1
  have N3 := Fr.snoc X3 N2 g_r0
  refine Gol.aloadN X3 hx hby d5_14 (pc' := 15) rfl rfl rfl ?_
  refine Gol.iloadN X3 hx hby d5_15 (pc' := 16) rfl rfl ?_
  refine Gol.putF X3 hx hby hZ hown (host := "") (Or.inl (hw _ (List.mem_of_getElem? (i := 29) rfl))) Via.refl e3 F_r0_end E_r0 (Or.inr ⟨(hw _ (List.mem_of_getElem? (i := 30) rfl)), rfl, hnm⟩) (hw _ (List.mem_of_getElem? (i := 17) rfl)) (ty := .int) (by decide) rfl rfl d5_16 (pc' := 19) rfl ?_
  intro T4 h4 X4 e4 W4
  have E_r0 := E_r0.wr W4
  have F_r0_bytes := F_r0_bytes.other W4 (Or.inr (slot_ne (Or.inr (hw _ (List.mem_of_getElem? (i := 26) rfl))) (Or.inr (hw _ (List.mem_of_getElem? (i := 30) rfl))) (by decide) (t := (.array .byte)) (t' := .int) (by decide) (by decide)))
  have F_r0_position := F_r0_position.other W4 (Or.inr (slot_ne (Or.inl (hw _ (List.mem_of_getElem? (i := 28) rfl))) (Or.inr (hw _ (List.mem_of_getElem? (i := 30) rfl))) (by decide) (t := .int) (t' := .int) (by decide) (by decide)))
  have F_r0_end := F_r0_end.same W4
  have K := K.wr W4 (Or.inl (List.mem_of_getElem? (i := 0) rfl))
  have Zs := Nat.le_trans Zs (Keep.of_wr W4).1
  have N4 := Fr.snoc X4 N3 g_r0
  exact Gol.ret0 X4 hx hby Bd.returns Bd.notSynchronized d5_19 e4 ⟨rfl, N4, K, ⟨E_r0, F_r0_bytes, F_r0_position, F_r0_end⟩⟩ (by decide) (by decide)
def own_rn (bs : List Int32) (ps : Nat) : Int64 :=
  if (((bs.getD ps 0) &&& (255 : Int32)) &&& (128 : Int32)) = (0 : Int32) then
    ((0 : Int64) ||| (((((bs.getD ps 0) &&& (255 : Int32)) &&& (127 : Int32)).toInt64) <<< ((0 : Int32).toInt64 &&& 63)))
  else
    if (((bs.getD (ps + 1) 0) &&& (255 : Int32)) &&& (128 : Int32)) = (0 : Int32) then
      (((0 : Int64) ||| (((((bs.getD ps 0) &&& (255 : Int32)) &&& (127 : Int32)).toInt64) <<< ((0 : Int32).toInt64 &&& 63))) ||| (((((bs.getD (ps + 1) 0) &&& (255 : Int32)) &&& (127 : Int32)).toInt64) <<< ((7 : Int32).toInt64 &&& 63)))
    else
      if (((bs.getD (ps + 2) 0) &&& (255 : Int32)) &&& (128 : Int32)) = (0 : Int32) then
        ((((0 : Int64) ||| (((((bs.getD ps 0) &&& (255 : Int32)) &&& (127 : Int32)).toInt64) <<< ((0 : Int32).toInt64 &&& 63))) ||| (((((bs.getD (ps + 1) 0) &&& (255 : Int32)) &&& (127 : Int32)).toInt64) <<< ((7 : Int32).toInt64 &&& 63))) ||| (((((bs.getD (ps + 2) 0) &&& (255 : Int32)) &&& (127 : Int32)).toInt64) <<< ((14 : Int32).toInt64 &&& 63)))
      else
        if (((bs.getD (ps + 3) 0) &&& (255 : Int32)) &&& (128 : Int32)) = (0 : Int32) then
          (((((0 : Int64) ||| (((((bs.getD ps 0) &&& (255 : Int32)) &&& (127 : Int32)).toInt64) <<< ((0 : Int32).toInt64 &&& 63))) ||| (((((bs.getD (ps + 1) 0) &&& (255 : Int32)) &&& (127 : Int32)).toInt64) <<< ((7 : Int32).toInt64 &&& 63))) ||| (((((bs.getD (ps + 2) 0) &&& (255 : Int32)) &&& (127 : Int32)).toInt64) <<< ((14 : Int32).toInt64 &&& 63))) ||| (((((bs.getD (ps + 3) 0) &&& (255 : Int32)) &&& (127 : Int32)).toInt64) <<< ((21 : Int32).toInt64 &&& 63)))
        else
          if (((bs.getD (ps + 4) 0) &&& (255 : Int32)) &&& (128 : Int32)) = (0 : Int32) then
            ((((((0 : Int64) ||| (((((bs.getD ps 0) &&& (255 : Int32)) &&& (127 : Int32)).toInt64) <<< ((0 : Int32).toInt64 &&& 63))) ||| (((((bs.getD (ps + 1) 0) &&& (255 : Int32)) &&& (127 : Int32)).toInt64) <<< ((7 : Int32).toInt64 &&& 63))) ||| (((((bs.getD (ps + 2) 0) &&& (255 : Int32)) &&& (127 : Int32)).toInt64) <<< ((14 : Int32).toInt64 &&& 63))) ||| (((((bs.getD (ps + 3) 0) &&& (255 : Int32)) &&& (127 : Int32)).toInt64) <<< ((21 : Int32).toInt64 &&& 63))) ||| (((((bs.getD (ps + 4) 0) &&& (255 : Int32)) &&& (127 : Int32)).toInt64) <<< ((28 : Int32).toInt64 &&& 63)))
          else
            if (((bs.getD (ps + 5) 0) &&& (255 : Int32)) &&& (128 : Int32)) = (0 : Int32) then
              (((((((0 : Int64) ||| (((((bs.getD ps 0) &&& (255 : Int32)) &&& (127 : Int32)).toInt64) <<< ((0 : Int32).toInt64 &&& 63))) ||| (((((bs.getD (ps + 1) 0) &&& (255 : Int32)) &&& (127 : Int32)).toInt64) <<< ((7 : Int32).toInt64 &&& 63))) ||| (((((bs.getD (ps + 2) 0) &&& (255 : Int32)) &&& (127 : Int32)).toInt64) <<< ((14 : Int32).toInt64 &&& 63))) ||| (((((bs.getD (ps + 3) 0) &&& (255 : Int32)) &&& (127 : Int32)).toInt64) <<< ((21 : Int32).toInt64 &&& 63))) ||| (((((bs.getD (ps + 4) 0) &&& (255 : Int32)) &&& (127 : Int32)).toInt64) <<< ((28 : Int32).toInt64 &&& 63))) ||| (((((bs.getD (ps + 5) 0) &&& (255 : Int32)) &&& (127 : Int32)).toInt64) <<< ((35 : Int32).toInt64 &&& 63)))
            else
              if (((bs.getD (ps + 6) 0) &&& (255 : Int32)) &&& (128 : Int32)) = (0 : Int32) then
                ((((((((0 : Int64) ||| (((((bs.getD ps 0) &&& (255 : Int32)) &&& (127 : Int32)).toInt64) <<< ((0 : Int32).toInt64 &&& 63))) ||| (((((bs.getD (ps + 1) 0) &&& (255 : Int32)) &&& (127 : Int32)).toInt64) <<< ((7 : Int32).toInt64 &&& 63))) ||| (((((bs.getD (ps + 2) 0) &&& (255 : Int32)) &&& (127 : Int32)).toInt64) <<< ((14 : Int32).toInt64 &&& 63))) ||| (((((bs.getD (ps + 3) 0) &&& (255 : Int32)) &&& (127 : Int32)).toInt64) <<< ((21 : Int32).toInt64 &&& 63))) ||| (((((bs.getD (ps + 4) 0) &&& (255 : Int32)) &&& (127 : Int32)).toInt64) <<< ((28 : Int32).toInt64 &&& 63))) ||| (((((bs.getD (ps + 5) 0) &&& (255 : Int32)) &&& (127 : Int32)).toInt64) <<< ((35 : Int32).toInt64 &&& 63))) ||| (((((bs.getD (ps + 6) 0) &&& (255 : Int32)) &&& (127 : Int32)).toInt64) <<< ((42 : Int32).toInt64 &&& 63)))
              else
                if (((bs.getD (ps + 7) 0) &&& (255 : Int32)) &&& (128 : Int32)) = (0 : Int32) then
                  (((((((((0 : Int64) ||| (((((bs.getD ps 0) &&& (255 : Int32)) &&& (127 : Int32)).toInt64) <<< ((0 : Int32).toInt64 &&& 63))) ||| (((((bs.getD (ps + 1) 0) &&& (255 : Int32)) &&& (127 : Int32)).toInt64) <<< ((7 : Int32).toInt64 &&& 63))) ||| (((((bs.getD (ps + 2) 0) &&& (255 : Int32)) &&& (127 : Int32)).toInt64) <<< ((14 : Int32).toInt64 &&& 63))) ||| (((((bs.getD (ps + 3) 0) &&& (255 : Int32)) &&& (127 : Int32)).toInt64) <<< ((21 : Int32).toInt64 &&& 63))) ||| (((((bs.getD (ps + 4) 0) &&& (255 : Int32)) &&& (127 : Int32)).toInt64) <<< ((28 : Int32).toInt64 &&& 63))) ||| (((((bs.getD (ps + 5) 0) &&& (255 : Int32)) &&& (127 : Int32)).toInt64) <<< ((35 : Int32).toInt64 &&& 63))) ||| (((((bs.getD (ps + 6) 0) &&& (255 : Int32)) &&& (127 : Int32)).toInt64) <<< ((42 : Int32).toInt64 &&& 63))) ||| (((((bs.getD (ps + 7) 0) &&& (255 : Int32)) &&& (127 : Int32)).toInt64) <<< ((49 : Int32).toInt64 &&& 63)))
                else
                  if (((bs.getD (ps + 8) 0) &&& (255 : Int32)) &&& (128 : Int32)) = (0 : Int32) then
                    ((((((((((0 : Int64) ||| (((((bs.getD ps 0) &&& (255 : Int32)) &&& (127 : Int32)).toInt64) <<< ((0 : Int32).toInt64 &&& 63))) ||| (((((bs.getD (ps + 1) 0) &&& (255 : Int32)) &&& (127 : Int32)).toInt64) <<< ((7 : Int32).toInt64 &&& 63))) ||| (((((bs.getD (ps + 2) 0) &&& (255 : Int32)) &&& (127 : Int32)).toInt64) <<< ((14 : Int32).toInt64 &&& 63))) ||| (((((bs.getD (ps + 3) 0) &&& (255 : Int32)) &&& (127 : Int32)).toInt64) <<< ((21 : Int32).toInt64 &&& 63))) ||| (((((bs.getD (ps + 4) 0) &&& (255 : Int32)) &&& (127 : Int32)).toInt64) <<< ((28 : Int32).toInt64 &&& 63))) ||| (((((bs.getD (ps + 5) 0) &&& (255 : Int32)) &&& (127 : Int32)).toInt64) <<< ((35 : Int32).toInt64 &&& 63))) ||| (((((bs.getD (ps + 6) 0) &&& (255 : Int32)) &&& (127 : Int32)).toInt64) <<< ((42 : Int32).toInt64 &&& 63))) ||| (((((bs.getD (ps + 7) 0) &&& (255 : Int32)) &&& (127 : Int32)).toInt64) <<< ((49 : Int32).toInt64 &&& 63))) ||| (((((bs.getD (ps + 8) 0) &&& (255 : Int32)) &&& (127 : Int32)).toInt64) <<< ((56 : Int32).toInt64 &&& 63)))
                  else
                    if (((bs.getD (ps + 9) 0) &&& (255 : Int32)) &&& (128 : Int32)) = (0 : Int32) then
                      if ((bs.getD (ps + 9) 0) &&& (255 : Int32)) = (0 : Int32) then
                        (((((((((((0 : Int64) ||| (((((bs.getD ps 0) &&& (255 : Int32)) &&& (127 : Int32)).toInt64) <<< ((0 : Int32).toInt64 &&& 63))) ||| (((((bs.getD (ps + 1) 0) &&& (255 : Int32)) &&& (127 : Int32)).toInt64) <<< ((7 : Int32).toInt64 &&& 63))) ||| (((((bs.getD (ps + 2) 0) &&& (255 : Int32)) &&& (127 : Int32)).toInt64) <<< ((14 : Int32).toInt64 &&& 63))) ||| (((((bs.getD (ps + 3) 0) &&& (255 : Int32)) &&& (127 : Int32)).toInt64) <<< ((21 : Int32).toInt64 &&& 63))) ||| (((((bs.getD (ps + 4) 0) &&& (255 : Int32)) &&& (127 : Int32)).toInt64) <<< ((28 : Int32).toInt64 &&& 63))) ||| (((((bs.getD (ps + 5) 0) &&& (255 : Int32)) &&& (127 : Int32)).toInt64) <<< ((35 : Int32).toInt64 &&& 63))) ||| (((((bs.getD (ps + 6) 0) &&& (255 : Int32)) &&& (127 : Int32)).toInt64) <<< ((42 : Int32).toInt64 &&& 63))) ||| (((((bs.getD (ps + 7) 0) &&& (255 : Int32)) &&& (127 : Int32)).toInt64) <<< ((49 : Int32).toInt64 &&& 63))) ||| (((((bs.getD (ps + 8) 0) &&& (255 : Int32)) &&& (127 : Int32)).toInt64) <<< ((56 : Int32).toInt64 &&& 63))) ||| (((((bs.getD (ps + 9) 0) &&& (255 : Int32)) &&& (127 : Int32)).toInt64) <<< ((63 : Int32).toInt64 &&& 63)))
                      else
                        (-1 : Int64)
                    else
                      (-1 : Int64)
def own_cn (bs : List Int32) (ps : Nat) : Nat :=
  if (((bs.getD ps 0) &&& (255 : Int32)) &&& (128 : Int32)) = (0 : Int32) then
    1
  else
    if (((bs.getD (ps + 1) 0) &&& (255 : Int32)) &&& (128 : Int32)) = (0 : Int32) then
      2
    else
      if (((bs.getD (ps + 2) 0) &&& (255 : Int32)) &&& (128 : Int32)) = (0 : Int32) then
        3
      else
        if (((bs.getD (ps + 3) 0) &&& (255 : Int32)) &&& (128 : Int32)) = (0 : Int32) then
          4
        else
          if (((bs.getD (ps + 4) 0) &&& (255 : Int32)) &&& (128 : Int32)) = (0 : Int32) then
            5
          else
            if (((bs.getD (ps + 5) 0) &&& (255 : Int32)) &&& (128 : Int32)) = (0 : Int32) then
              6
            else
              if (((bs.getD (ps + 6) 0) &&& (255 : Int32)) &&& (128 : Int32)) = (0 : Int32) then
                7
              else
                if (((bs.getD (ps + 7) 0) &&& (255 : Int32)) &&& (128 : Int32)) = (0 : Int32) then
                  8
                else
                  if (((bs.getD (ps + 8) 0) &&& (255 : Int32)) &&& (128 : Int32)) = (0 : Int32) then
                    9
                  else
                    if (((bs.getD (ps + 9) 0) &&& (255 : Int32)) &&& (128 : Int32)) = (0 : Int32) then
                      if ((bs.getD (ps + 9) 0) &&& (255 : Int32)) = (0 : Int32) then
                        10
                      else
                        10
                    else
                      10
theorem d7_0 : decode prog_70_method_2_code 0 = .ok (.lconst 0, 1) := by decide +kernel
theorem d7_1 : decode prog_70_method_2_code 1 = .ok (.lstore_n 1, 1) := by decide +kernel
theorem d7_2 : decode prog_70_method_2_code 2 = .ok (.iconst 0, 1) := by decide +kernel
theorem d7_3 : decode prog_70_method_2_code 3 = .ok (.istore_n 3, 1) := by decide +kernel
theorem d7_4 : decode prog_70_method_2_code 4 = .ok (.iload_n 3, 1) := by decide +kernel
theorem d7_5 : decode prog_70_method_2_code 5 = .ok (.bipush 64, 2) := by decide +kernel
theorem d7_7 : decode prog_70_method_2_code 7 = .ok (.if_icmp .ge 89, 3) := by decide +kernel
theorem d7_10 : decode prog_70_method_2_code 10 = .ok (.aload_n 0, 1) := by decide +kernel
theorem d7_11 : decode prog_70_method_2_code 11 = .ok (.getfield 13, 3) := by decide +kernel
theorem d7_14 : decode prog_70_method_2_code 14 = .ok (.aload_n 0, 1) := by decide +kernel
theorem d7_15 : decode prog_70_method_2_code 15 = .ok (.getfield 17, 3) := by decide +kernel
theorem d7_18 : decode prog_70_method_2_code 18 = .ok (.if_icmp .ne 11, 3) := by decide +kernel
theorem d7_29 : decode prog_70_method_2_code 29 = .ok (.aload_n 0, 1) := by decide +kernel
theorem d7_30 : decode prog_70_method_2_code 30 = .ok (.getfield 7, 3) := by decide +kernel
theorem d7_33 : decode prog_70_method_2_code 33 = .ok (.aload_n 0, 1) := by decide +kernel
theorem d7_34 : decode prog_70_method_2_code 34 = .ok (.dup, 1) := by decide +kernel
theorem d7_35 : decode prog_70_method_2_code 35 = .ok (.getfield 13, 3) := by decide +kernel
theorem d7_38 : decode prog_70_method_2_code 38 = .ok (.dup_x1, 1) := by decide +kernel
theorem d7_39 : decode prog_70_method_2_code 39 = .ok (.iconst 1, 1) := by decide +kernel
theorem d7_40 : decode prog_70_method_2_code 40 = .ok (.iadd, 1) := by decide +kernel
theorem d7_41 : decode prog_70_method_2_code 41 = .ok (.putfield 13, 3) := by decide +kernel
theorem d7_44 : decode prog_70_method_2_code 44 = .ok (.baload, 1) := by decide +kernel
theorem d7_45 : decode prog_70_method_2_code 45 = .ok (.sipush 255, 3) := by decide +kernel
theorem d7_48 : decode prog_70_method_2_code 48 = .ok (.iand, 1) := by decide +kernel
theorem d7_49 : decode prog_70_method_2_code 49 = .ok (.istore 4, 2) := by decide +kernel
theorem d7_51 : decode prog_70_method_2_code 51 = .ok (.lload_n 1, 1) := by decide +kernel
theorem d7_52 : decode prog_70_method_2_code 52 = .ok (.iload 4, 2) := by decide +kernel
theorem d7_54 : decode prog_70_method_2_code 54 = .ok (.bipush 127, 2) := by decide +kernel
theorem d7_56 : decode prog_70_method_2_code 56 = .ok (.iand, 1) := by decide +kernel
theorem d7_57 : decode prog_70_method_2_code 57 = .ok (.i2l, 1) := by decide +kernel
theorem d7_58 : decode prog_70_method_2_code 58 = .ok (.iload_n 3, 1) := by decide +kernel
theorem d7_59 : decode prog_70_method_2_code 59 = .ok (.lshl, 1) := by decide +kernel
theorem d7_60 : decode prog_70_method_2_code 60 = .ok (.lor, 1) := by decide +kernel
theorem d7_61 : decode prog_70_method_2_code 61 = .ok (.lstore_n 1, 1) := by decide +kernel
theorem d7_62 : decode prog_70_method_2_code 62 = .ok (.iload 4, 2) := by decide +kernel
theorem d7_64 : decode prog_70_method_2_code 64 = .ok (.sipush 128, 3) := by decide +kernel
theorem d7_67 : decode prog_70_method_2_code 67 = .ok (.iand, 1) := by decide +kernel
theorem d7_68 : decode prog_70_method_2_code 68 = .ok (.ifCond .ne 22, 3) := by decide +kernel
theorem d7_71 : decode prog_70_method_2_code 71 = .ok (.iload_n 3, 1) := by decide +kernel
theorem d7_72 : decode prog_70_method_2_code 72 = .ok (.bipush 63, 2) := by decide +kernel
theorem d7_74 : decode prog_70_method_2_code 74 = .ok (.if_icmp .ne 14, 3) := by decide +kernel
theorem d7_77 : decode prog_70_method_2_code 77 = .ok (.iload 4, 2) := by decide +kernel
theorem d7_79 : decode prog_70_method_2_code 79 = .ok (.ifCond .eq 9, 3) := by decide +kernel
theorem d7_82 : decode prog_70_method_2_code 82 = .ok (.ldc2_w 25, 3) := by decide +kernel
theorem d7_85 : decode prog_70_method_2_code 85 = .ok (.goto 4, 3) := by decide +kernel
theorem d7_88 : decode prog_70_method_2_code 88 = .ok (.lload_n 1, 1) := by decide +kernel
theorem d7_89 : decode prog_70_method_2_code 89 = .ok (.lreturn, 1) := by decide +kernel
theorem d7_90 : decode prog_70_method_2_code 90 = .ok (.iinc 3 7, 3) := by decide +kernel
theorem d7_93 : decode prog_70_method_2_code 93 = .ok (.goto (-89), 3) := by decide +kernel
theorem d7_96 : decode prog_70_method_2_code 96 = .ok (.ldc2_w 25, 3) := by decide +kernel
theorem d7_99 : decode prog_70_method_2_code 99 = .ok (.lreturn, 1) := by decide +kernel
theorem pn_7 : plainName "com/example/interleaved_tables/interleavedtables/storage/DataFile$Input" = true := by first | (simp [plainName, overriddenIn]; done) | decide +kernel
theorem ef_7 (m : MethodId) (r0 : Addr) : entryFrame m #[(.ref r0)] 5 = mkF m 0 #[.val (.ref r0), .unset, .unset, .unset, .unset] [] := by first | (simp [entryFrame, mkF, argsToLocals, Value.category]; done) | rfl
abbrev Q7 (Z : State) (r0 : Addr) (r9 : Addr) (kr : ClassId) (bs : List Int32) (ps : Nat) (en : Nat) (h0 : Heap) (n0 : Nat) (v : Option Value) (h : Heap) (L : List Loc) : Prop := v = some (.long (own_rn bs ps)) ∧ Fr n0 L ∧ Keep h0 h [r0] ∧ In Z h r0 (.ref r9) (.int (Int32.ofNat (ps + own_cn bs ps))) (.int (Int32.ofNat en))
set_option maxRecDepth 65536 in
set_option maxHeartbeats 40000000 in
theorem rm7 (l : Launch) (Z : State) (a0 : Array Value) (hw : ∀ d ∈ tables_1, d.before a0 Z = true) (ws : List Jvm.Cond) (r0 : Addr) (r9 : Addr) (kr : ClassId) (bs : List Int32) (ps : Nat) (en : Nat) (h0 : Heap) (n0 : Nat) (Z0 : n0 ≤ h0.size) (hps : ps < 3) (he1 : ps + 10 ≤ en) (he2 : en ≤ 12) (g_r0 : n0 ≤ r0) (ne_r0_r9 : r0 ≠ r9) (O0 : In Z h0 r0 (.ref r9) (.int (Int32.ofNat ps)) (.int (Int32.ofNat en))) (V_r9 : Arv Z h0 r9 kr .byte (12 : Int32) (List.map Value.int bs) (.int (0 : Int32))) :
    MetFree l (⟨"com/example/interleaved_tables/interleavedtables/storage/DataFile$Input", "readNumber", "()J"⟩ : MethodName) (head1 (Jvm.Cond.code (⟨"com/example/interleaved_tables/interleavedtables/storage/DataFile$Input", "readNumber", "()J"⟩ : MethodName) prog_70_method_2_code 5 (some .long) :: ws) ({ frames := 0, cells := 0, slots := 0, locals := 0 } : Room)) (fun a U => a = #[(.ref r0)] ∧ Z.Warmed39 U.vm ∧ U.heap = h0) (fun _ _ _ _ _ => True) (fun _ U o U' => ∃ v L, o = .returned v ∧ Q7 Z r0 r9 kr bs ps en h0 n0 v U'.heap L ∧ FrameEnd U o U' L 0 0) := by
  refine MetFree.of_bodySF (plainFor_of_name pn_7) hisR ?_
  intro p ev s m args below meth c s₁ Bd hml0 hP hK
  obtain ⟨rfl, hZ, hh⟩ := hP
  have hx := Bd.exec
  have hby := Bd.bytes
  have hml : c.maxLocals = 5 := hml0
  have hown : s.vm.findClass "com/example/interleaved_tables/interleavedtables/storage/DataFile$Input" = some m.cls := findClass_of_methodNamed Bd.named
  have hnm := (name_of_methodNamed Bd.named Bd.method).1
  have X0 : Stand p l ev ({ frames := 0, cells := 0, slots := 0, locals := 0 } : Room) s m #[(.ref r0)] below meth c s₁ [] 0 0 := Stand.of_body Bd
  have eh0 : s₁.heap = h0 := by rw [← hh, Bd.state]; rfl
  have N0 := Fr.nil n0
  have Zs := Z0
  show Gol p ev below (FrameEnd s) (Q7 Z r0 r9 kr bs ps en h0 n0) 0 0 (s₁.setTop (entryFrame m #[(.ref r0)] 5))
  rw [ef_7]
  obtain ⟨E_r0, F_r0_bytes, F_r0_position, F_r0_end⟩ := O0
  have K := Keep.refl h0 [r0]
  show GolF _ _ _ _ _ _ _ s₁ m 0 #[.val (.ref r0), .unset, .unset, .unset, .unset] []
  refine Gol.lconst X0 hx hby d7_0 (pc' := 1) rfl (z := (0 : Int64)) rfl ?_
  refine Gol.lstoreN X0 hx hby d7_1 (pc' := 2) rfl (l' := #[.val (.ref r0), .val (.long (0 : Int64)), .second, .unset, .unset]) rfl ?_
  refine Gol.iconst X0 hx hby d7_2 (pc' := 3) rfl (z := (0 : Int32)) rfl ?_
  refine Gol.istoreN X0 hx hby d7_3 (pc' := 4) rfl (l' := #[.val (.ref r0), .val (.long (0 : Int64)), .second, .val (.int (0 : Int32)), .unset]) rfl ?_
  refine Gol.iloadN X0 hx hby d7_4 (pc' := 5) rfl rfl ?_
  refine Gol.bipush X0 hx hby d7_5 (pc' := 7) rfl (z := (64 : Int32)) rfl ?_
  refine Gol.icmpNo X0 hx hby d7_7 (pc' := 10) rfl (tlt (by decide : (0 : Int32) < (64 : Int32))).2.1 ?_
  refine Gol.aloadN X0 hx hby d7_10 (pc' := 11) rfl rfl rfl ?_
  refine Gol.getF X0 hx hby hZ hown (host := "") (Or.inl (hw _ (List.mem_of_getElem? (i := 27) rfl))) Via.refl eh0 F_r0_position d7_11 (pc' := 14) rfl ?_
  intro T1 X1 e1
  refine Gol.aloadN X1 hx hby d7_14 (pc' := 15) rfl rfl rfl ?_
  refine Gol.getF X1 hx hby hZ hown (host := "") (Or.inl (hw _ (List.mem_of_getElem? (i := 29) rfl))) Via.refl e1 F_r0_end d7_15 (pc' := 18) rfl ?_
  intro T2 X2 e2
  refine Gol.icmpYes X2 hx hby d7_18 (pc' := 29) (by decide) (feq (fun q => absurd (own_inj (by omega) (by omega) q) (by omega))).2 ?_
  refine Gol.aloadN X2 hx hby d7_29 (pc' := 30) rfl rfl rfl ?_
  refine Gol.getF X2 hx hby hZ hown (host := "") (Or.inl (hw _ (List.mem_of_getElem? (i := 25) rfl))) Via.refl e2 F_r0_bytes d7_30 (pc' := 33) rfl ?_
  intro T3 X3 e3
  refine Gol.aloadN X3 hx hby d7_33 (pc' := 34) rfl rfl rfl ?_
  refine Gol.dup X3 hx hby d7_34 (pc' := 35) rfl rfl ?_
  refine Gol.getF X3 hx hby hZ hown (host := "") (Or.inl (hw _ (List.mem_of_getElem? (i := 27) rfl))) Via.refl e3 F_r0_position d7_35 (pc' := 38) rfl ?_
  intro T4 X4 e4
  refine Gol.dupX1 X4 hx hby d7_38 (pc' := 39) rfl rfl rfl ?_
  refine Gol.iconst X4 hx hby d7_39 (pc' := 40) rfl (z := (1 : Int32)) rfl ?_
  refine Gol.iadd X4 hx hby d7_40 (pc' := 41) rfl rfl ?_
  rw [show Int32.ofNat ps + (1 : Int32) = Int32.ofNat (ps + 1) from own_addk _ 1]
  show GolF _ _ _ _ _ _ _ T4 m 41 #[.val (.ref r0), .val (.long (0 : Int64)), .second, .val (.int (0 : Int32)), .unset] [(.int (Int32.ofNat (ps + 1))), (.ref r0), (.int (Int32.ofNat ps)), (.ref r9)]
  refine Gol.putF X4 hx hby hZ hown (host := "") (Or.inl (hw _ (List.mem_of_getElem? (i := 27) rfl))) Via.refl e4 F_r0_position E_r0 (Or.inl (hw _ (List.mem_of_getElem? (i := 28) rfl))) (hw _ (List.mem_of_getElem? (i := 17) rfl)) (ty := .int) (by decide) rfl rfl d7_41 (pc' := 44) rfl ?_
  intro T5 h5 X5 e5 W5
  have E_r0 := E_r0.wr W5
  have F_r0_bytes := F_r0_bytes.other W5 (Or.inr (slot_ne (Or.inr (hw _ (List.mem_of_getElem? (i := 26) rfl))) (Or.inl (hw _ (List.mem_of_getElem? (i := 28) rfl))) (by decide) (t := (.array .byte)) (t' := .int) (by decide) (by decide)))
  have F_r0_position := F_r0_position.same W5
  have F_r0_end := F_r0_end.other W5 (Or.inr (slot_ne (Or.inr (hw _ (List.mem_of_getElem? (i := 30) rfl))) (Or.inl (hw _ (List.mem_of_getElem? (i := 28) rfl))) (by decide) (t := .int) (t' := .int) (by decide) (by decide)))
  have V_r9 := V_r9.other W5 ne_r0_r9.symm
  have K := K.wr W5 (Or.inl (List.mem_of_getElem? (i := 0) rfl))
  have Zs := Nat.le_trans Zs (Keep.of_wr W5).1
  have N5 := Fr.snoc X5 N0 g_r0
  refine Gol.baload X5 hx hby hZ e5 V_r9 d7_44 (pc' := 45) rfl (own_in (by omega)) (v := (bs.getD ps 0)) (own_at bs (by omega)) ?_
  refine Gol.sipush X5 hx hby d7_45 (pc' := 48) rfl (z := (255 : Int32)) rfl ?_
  refine Gol.iand X5 hx hby d7_48 (pc' := 49) rfl rfl ?_
  refine Gol.istore X5 hx hby d7_49 (pc' := 51) rfl (l' := #[.val (.ref r0), .val (.long (0 : Int64)), .second, .val (.int (0 : Int32)), .val (.int ((bs.getD ps 0) &&& (255 : Int32)))]) rfl ?_
  refine Gol.lloadN X5 hx hby d7_51 (pc' := 52) rfl rfl ?_
  refine Gol.iload X5 hx hby d7_52 (pc' := 54) rfl rfl ?_
  refine Gol.bipush X5 hx hby d7_54 (pc' := 56) rfl (z := (127 : Int32)) rfl ?_
  refine Gol.iand X5 hx hby d7_56 (pc' := 57) rfl rfl ?_
  refine Gol.i2l X5 hx hby d7_57 (pc' := 58) rfl rfl ?_
  refine Gol.iloadN X5 hx hby d7_58 (pc' := 59) rfl rfl ?_
  refine Gol.lshl X5 hx hby d7_59 (pc' := 60) rfl rfl ?_
  refine Gol.lor X5 hx hby d7_60 (pc' := 61) rfl rfl ?_
  refine Gol.lstoreN X5 hx hby d7_61 (pc' := 62) rfl (l' := #[.val (.ref r0), .val (.long ((0 : Int64) ||| (((((bs.getD ps 0) &&& (255 : Int32)) &&& (127 : Int32)).toInt64) <<< ((0 : Int32).toInt64 &&& 63)))), .second, .val (.int (0 : Int32)), .val (.int ((bs.getD ps 0) &&& (255 : Int32)))]) rfl ?_
  refine Gol.iload X5 hx hby d7_62 (pc' := 64) rfl rfl ?_
  refine Gol.sipush X5 hx hby d7_64 (pc' := 67) rfl (z := (128 : Int32)) rfl ?_
  refine Gol.iand X5 hx hby d7_67 (pc' := 68) rfl rfl ?_
  by_cases hc68_6 : (((bs.getD ps 0) &&& (255 : Int32)) &&& (128 : Int32)) = (0 : Int32)
  · skip
    refine Gol.ifNo X5 hx hby d7_68 (pc' := 71) rfl ((if0 _ _).trans (teq hc68_6).2) ?_
    refine Gol.iloadN X5 hx hby d7_71 (pc' := 72) rfl rfl ?_
    refine Gol.bipush X5 hx hby d7_72 (pc' := 74) rfl (z := (63 : Int32)) rfl ?_
    refine Gol.icmpYes X5 hx hby d7_74 (pc' := 88) (by decide) (feq (by decide : ¬ ((0 : Int32) = (63 : Int32)))).2 ?_
    refine Gol.lloadN X5 hx hby d7_88 (pc' := 89) rfl rfl ?_
    have hv : own_rn bs ps = ((0 : Int64) ||| (((((bs.getD ps 0) &&& (255 : Int32)) &&& (127 : Int32)).toInt64) <<< ((0 : Int32).toInt64 &&& 63))) := by
      unfold own_rn
      rw [if_pos hc68_6]
    have hu : own_cn bs ps = 1 := by
      unfold own_cn
      rw [if_pos hc68_6]
    exact Gol.retL X5 hx hby Bd.returns Bd.notSynchronized d7_89 e5 (by unfold Q7; rw [hv, hu]; exact ⟨rfl, N5, K, ⟨E_r0, F_r0_bytes, F_r0_position, F_r0_end⟩⟩) (by decide) (by decide)
  · skip
    refine Gol.ifYes X5 hx hby d7_68 (pc' := 90) (by decide) ((if0 _ _).trans (feq hc68_6).2) ?_
    refine Gol.iinc X5 hx hby d7_90 (pc' := 93) rfl rfl (l' := #[.val (.ref r0), .val (.long ((0 : Int64) ||| (((((bs.getD ps 0) &&& (255 : Int32)) &&& (127 : Int32)).toInt64) <<< ((0 : Int32).toInt64 &&& 63)))), .second, .val (.int (7 : Int32)), .val (.int ((bs.getD ps 0) &&& (255 : Int32)))]) rfl ?_
    refine Gol.goto X5 hx hby d7_93 (pc' := 4) (by decide) ?_
    refine Gol.iloadN X5 hx hby d7_4 (pc' := 5) rfl rfl ?_
    refine Gol.bipush X5 hx hby d7_5 (pc' := 7) rfl (z := (64 : Int32)) rfl ?_
    refine Gol.icmpNo X5 hx hby d7_7 (pc' := 10) rfl (tlt (by decide : (7 : Int32) < (64 : Int32))).2.1 ?_
    refine Gol.aloadN X5 hx hby d7_10 (pc' := 11) rfl rfl rfl ?_
    refine Gol.getF X5 hx hby hZ hown (host := "") (Or.inl (hw _ (List.mem_of_getElem? (i := 27) rfl))) Via.refl e5 F_r0_position d7_11 (pc' := 14) rfl ?_
    intro T7 X7 e7
    refine Gol.aloadN X7 hx hby d7_14 (pc' := 15) rfl rfl rfl ?_
    refine Gol.getF X7 hx hby hZ hown (host := "") (Or.inl (hw _ (List.mem_of_getElem? (i := 29) rfl))) Via.refl e7 F_r0_end d7_15 (pc' := 18) rfl ?_
    intro T8 X8 e8
    refine Gol.icmpYes X8 hx hby d7_18 (pc' := 29) (by decide) (feq (fun q => absurd (own_inj (by omega) (by omega) q) (by omega))).2 ?_
    refine Gol.aloadN X8 hx hby d7_29 (pc' := 30) rfl rfl rfl ?_
    refine Gol.getF X8 hx hby hZ hown (host := "") (Or.inl (hw _ (List.mem_of_getElem? (i := 25) rfl))) Via.refl e8 F_r0_bytes d7_30 (pc' := 33) rfl ?_
    intro T9 X9 e9
    refine Gol.aloadN X9 hx hby d7_33 (pc' := 34) rfl rfl rfl ?_
    refine Gol.dup X9 hx hby d7_34 (pc' := 35) rfl rfl ?_
    refine Gol.getF X9 hx hby hZ hown (host := "") (Or.inl (hw _ (List.mem_of_getElem? (i := 27) rfl))) Via.refl e9 F_r0_position d7_35 (pc' := 38) rfl ?_
    intro T10 X10 e10
    refine Gol.dupX1 X10 hx hby d7_38 (pc' := 39) rfl rfl rfl ?_
    refine Gol.iconst X10 hx hby d7_39 (pc' := 40) rfl (z := (1 : Int32)) rfl ?_
    refine Gol.iadd X10 hx hby d7_40 (pc' := 41) rfl rfl ?_
    rw [show Int32.ofNat (ps + 1) + (1 : Int32) = Int32.ofNat (ps + 2) from own_addk _ 1]
    show GolF _ _ _ _ _ _ _ T10 m 41 #[.val (.ref r0), .val (.long ((0 : Int64) ||| (((((bs.getD ps 0) &&& (255 : Int32)) &&& (127 : Int32)).toInt64) <<< ((0 : Int32).toInt64 &&& 63)))), .second, .val (.int (7 : Int32)), .val (.int ((bs.getD ps 0) &&& (255 : Int32)))] [(.int (Int32.ofNat (ps + 2))), (.ref r0), (.int (Int32.ofNat (ps + 1))), (.ref r9)]
    refine Gol.putF X10 hx hby hZ hown (host := "") (Or.inl (hw _ (List.mem_of_getElem? (i := 27) rfl))) Via.refl e10 F_r0_position E_r0 (Or.inl (hw _ (List.mem_of_getElem? (i := 28) rfl))) (hw _ (List.mem_of_getElem? (i := 17) rfl)) (ty := .int) (by decide) rfl rfl d7_41 (pc' := 44) rfl ?_
    intro T11 h11 X11 e11 W11
    have E_r0 := E_r0.wr W11
    have F_r0_bytes := F_r0_bytes.other W11 (Or.inr (slot_ne (Or.inr (hw _ (List.mem_of_getElem? (i := 26) rfl))) (Or.inl (hw _ (List.mem_of_getElem? (i := 28) rfl))) (by decide) (t := (.array .byte)) (t' := .int) (by decide) (by decide)))
    have F_r0_position := F_r0_position.same W11
    have F_r0_end := F_r0_end.other W11 (Or.inr (slot_ne (Or.inr (hw _ (List.mem_of_getElem? (i := 30) rfl))) (Or.inl (hw _ (List.mem_of_getElem? (i := 28) rfl))) (by decide) (t := .int) (t' := .int) (by decide) (by decide)))
    have V_r9 := V_r9.other W11 ne_r0_r9.symm
    have K := K.wr W11 (Or.inl (List.mem_of_getElem? (i := 0) rfl))
    have Zs := Nat.le_trans Zs (Keep.of_wr W11).1
    have N11 := Fr.snoc X11 N5 g_r0
    refine Gol.baload X11 hx hby hZ e11 V_r9 d7_44 (pc' := 45) rfl (own_in (by omega)) (v := (bs.getD (ps + 1) 0)) (own_at bs (by omega)) ?_
    refine Gol.sipush X11 hx hby d7_45 (pc' := 48) rfl (z := (255 : Int32)) rfl ?_
    refine Gol.iand X11 hx hby d7_48 (pc' := 49) rfl rfl ?_
    refine Gol.istore X11 hx hby d7_49 (pc' := 51) rfl (l' := #[.val (.ref r0), .val (.long ((0 : Int64) ||| (((((bs.getD ps 0) &&& (255 : Int32)) &&& (127 : Int32)).toInt64) <<< ((0 : Int32).toInt64 &&& 63)))), .second, .val (.int (7 : Int32)), .val (.int ((bs.getD (ps + 1) 0) &&& (255 : Int32)))]) rfl ?_
    refine Gol.lloadN X11 hx hby d7_51 (pc' := 52) rfl rfl ?_
    refine Gol.iload X11 hx hby d7_52 (pc' := 54) rfl rfl ?_
    refine Gol.bipush X11 hx hby d7_54 (pc' := 56) rfl (z := (127 : Int32)) rfl ?_
    refine Gol.iand X11 hx hby d7_56 (pc' := 57) rfl rfl ?_
    refine Gol.i2l X11 hx hby d7_57 (pc' := 58) rfl rfl ?_
    refine Gol.iloadN X11 hx hby d7_58 (pc' := 59) rfl rfl ?_
    refine Gol.lshl X11 hx hby d7_59 (pc' := 60) rfl rfl ?_
    refine Gol.lor X11 hx hby d7_60 (pc' := 61) rfl rfl ?_
    refine Gol.lstoreN X11 hx hby d7_61 (pc' := 62) rfl (l' := #[.val (.ref r0), .val (.long (((0 : Int64) ||| (((((bs.getD ps 0) &&& (255 : Int32)) &&& (127 : Int32)).toInt64) <<< ((0 : Int32).toInt64 &&& 63))) ||| (((((bs.getD (ps + 1) 0) &&& (255 : Int32)) &&& (127 : Int32)).toInt64) <<< ((7 : Int32).toInt64 &&& 63)))), .second, .val (.int (7 : Int32)), .val (.int ((bs.getD (ps + 1) 0) &&& (255 : Int32)))]) rfl ?_
    refine Gol.iload X11 hx hby d7_62 (pc' := 64) rfl rfl ?_
    refine Gol.sipush X11 hx hby d7_64 (pc' := 67) rfl (z := (128 : Int32)) rfl ?_
    refine Gol.iand X11 hx hby d7_67 (pc' := 68) rfl rfl ?_
    by_cases hc68_12 : (((bs.getD (ps + 1) 0) &&& (255 : Int32)) &&& (128 : Int32)) = (0 : Int32)
    · skip
      refine Gol.ifNo X11 hx hby d7_68 (pc' := 71) rfl ((if0 _ _).trans (teq hc68_12).2) ?_
      refine Gol.iloadN X11 hx hby d7_71 (pc' := 72) rfl rfl ?_
      refine Gol.bipush X11 hx hby d7_72 (pc' := 74) rfl (z := (63 : Int32)) rfl ?_
      refine Gol.icmpYes X11 hx hby d7_74 (pc' := 88) (by decide) (feq (by decide : ¬ ((7 : Int32) = (63 : Int32)))).2 ?_
      refine Gol.lloadN X11 hx hby d7_88 (pc' := 89) rfl rfl ?_
      have hv : own_rn bs ps = (((0 : Int64) ||| (((((bs.getD ps 0) &&& (255 : Int32)) &&& (127 : Int32)).toInt64) <<< ((0 : Int32).toInt64 &&& 63))) ||| (((((bs.getD (ps + 1) 0) &&& (255 : Int32)) &&& (127 : Int32)).toInt64) <<< ((7 : Int32).toInt64 &&& 63))) := by
        unfold own_rn
        rw [if_neg hc68_6, if_pos hc68_12]
      have hu : own_cn bs ps = 2 := by
        unfold own_cn
        rw [if_neg hc68_6, if_pos hc68_12]
      exact Gol.retL X11 hx hby Bd.returns Bd.notSynchronized d7_89 e11 (by unfold Q7; rw [hv, hu]; exact ⟨rfl, N11, K, ⟨E_r0, F_r0_bytes, F_r0_position, F_r0_end⟩⟩) (by decide) (by decide)
    · skip
      refine Gol.ifYes X11 hx hby d7_68 (pc' := 90) (by decide) ((if0 _ _).trans (feq hc68_12).2) ?_
      refine Gol.iinc X11 hx hby d7_90 (pc' := 93) rfl rfl (l' := #[.val (.ref r0), .val (.long (((0 : Int64) ||| (((((bs.getD ps 0) &&& (255 : Int32)) &&& (127 : Int32)).toInt64) <<< ((0 : Int32).toInt64 &&& 63))) ||| (((((bs.getD (ps + 1) 0) &&& (255 : Int32)) &&& (127 : Int32)).toInt64) <<< ((7 : Int32).toInt64 &&& 63)))), .second, .val (.int (14 : Int32)), .val (.int ((bs.getD (ps + 1) 0) &&& (255 : Int32)))]) rfl ?_
      refine Gol.goto X11 hx hby d7_93 (pc' := 4) (by decide) ?_
      refine Gol.iloadN X11 hx hby d7_4 (pc' := 5) rfl rfl ?_
      refine Gol.bipush X11 hx hby d7_5 (pc' := 7) rfl (z := (64 : Int32)) rfl ?_
      refine Gol.icmpNo X11 hx hby d7_7 (pc' := 10) rfl (tlt (by decide : (14 : Int32) < (64 : Int32))).2.1 ?_
      refine Gol.aloadN X11 hx hby d7_10 (pc' := 11) rfl rfl rfl ?_
      refine Gol.getF X11 hx hby hZ hown (host := "") (Or.inl (hw _ (List.mem_of_getElem? (i := 27) rfl))) Via.refl e11 F_r0_position d7_11 (pc' := 14) rfl ?_
      intro T13 X13 e13
      refine Gol.aloadN X13 hx hby d7_14 (pc' := 15) rfl rfl rfl ?_
      refine Gol.getF X13 hx hby hZ hown (host := "") (Or.inl (hw _ (List.mem_of_getElem? (i := 29) rfl))) Via.refl e13 F_r0_end d7_15 (pc' := 18) rfl ?_
      intro T14 X14 e14
      refine Gol.icmpYes X14 hx hby d7_18 (pc' := 29) (by decide) (feq (fun q => absurd (own_inj (by omega) (by omega) q) (by omega))).2 ?_
      refine Gol.aloadN X14 hx hby d7_29 (pc' := 30) rfl rfl rfl ?_
      refine Gol.getF X14 hx hby hZ hown (host := "") (Or.inl (hw _ (List.mem_of_getElem? (i := 25) rfl))) Via.refl e14 F_r0_bytes d7_30 (pc' := 33) rfl ?_
      intro T15 X15 e15
      refine Gol.aloadN X15 hx hby d7_33 (pc' := 34) rfl rfl rfl ?_
      refine Gol.dup X15 hx hby d7_34 (pc' := 35) rfl rfl ?_
      refine Gol.getF X15 hx hby hZ hown (host := "") (Or.inl (hw _ (List.mem_of_getElem? (i := 27) rfl))) Via.refl e15 F_r0_position d7_35 (pc' := 38) rfl ?_
      intro T16 X16 e16
      refine Gol.dupX1 X16 hx hby d7_38 (pc' := 39) rfl rfl rfl ?_
      refine Gol.iconst X16 hx hby d7_39 (pc' := 40) rfl (z := (1 : Int32)) rfl ?_
      refine Gol.iadd X16 hx hby d7_40 (pc' := 41) rfl rfl ?_
      rw [show Int32.ofNat (ps + 2) + (1 : Int32) = Int32.ofNat (ps + 3) from own_addk _ 1]
      show GolF _ _ _ _ _ _ _ T16 m 41 #[.val (.ref r0), .val (.long (((0 : Int64) ||| (((((bs.getD ps 0) &&& (255 : Int32)) &&& (127 : Int32)).toInt64) <<< ((0 : Int32).toInt64 &&& 63))) ||| (((((bs.getD (ps + 1) 0) &&& (255 : Int32)) &&& (127 : Int32)).toInt64) <<< ((7 : Int32).toInt64 &&& 63)))), .second, .val (.int (14 : Int32)), .val (.int ((bs.getD (ps + 1) 0) &&& (255 : Int32)))] [(.int (Int32.ofNat (ps + 3))), (.ref r0), (.int (Int32.ofNat (ps + 2))), (.ref r9)]
      refine Gol.putF X16 hx hby hZ hown (host := "") (Or.inl (hw _ (List.mem_of_getElem? (i := 27) rfl))) Via.refl e16 F_r0_position E_r0 (Or.inl (hw _ (List.mem_of_getElem? (i := 28) rfl))) (hw _ (List.mem_of_getElem? (i := 17) rfl)) (ty := .int) (by decide) rfl rfl d7_41 (pc' := 44) rfl ?_
      intro T17 h17 X17 e17 W17
      have E_r0 := E_r0.wr W17
      have F_r0_bytes := F_r0_bytes.other W17 (Or.inr (slot_ne (Or.inr (hw _ (List.mem_of_getElem? (i := 26) rfl))) (Or.inl (hw _ (List.mem_of_getElem? (i := 28) rfl))) (by decide) (t := (.array .byte)) (t' := .int) (by decide) (by decide)))
      have F_r0_position := F_r0_position.same W17
      have F_r0_end := F_r0_end.other W17 (Or.inr (slot_ne (Or.inr (hw _ (List.mem_of_getElem? (i := 30) rfl))) (Or.inl (hw _ (List.mem_of_getElem? (i := 28) rfl))) (by decide) (t := .int) (t' := .int) (by decide) (by decide)))
      have V_r9 := V_r9.other W17 ne_r0_r9.symm
      have K := K.wr W17 (Or.inl (List.mem_of_getElem? (i := 0) rfl))
      have Zs := Nat.le_trans Zs (Keep.of_wr W17).1
      have N17 := Fr.snoc X17 N11 g_r0
      refine Gol.baload X17 hx hby hZ e17 V_r9 d7_44 (pc' := 45) rfl (own_in (by omega)) (v := (bs.getD (ps + 2) 0)) (own_at bs (by omega)) ?_
      refine Gol.sipush X17 hx hby d7_45 (pc' := 48) rfl (z := (255 : Int32)) rfl ?_
      refine Gol.iand X17 hx hby d7_48 (pc' := 49) rfl rfl ?_
      refine Gol.istore X17 hx hby d7_49 (pc' := 51) rfl (l' := #[.val (.ref r0), .val (.long (((0 : Int64) ||| (((((bs.getD ps 0) &&& (255 : Int32)) &&& (127 : Int32)).toInt64) <<< ((0 : Int32).toInt64 &&& 63))) ||| (((((bs.getD (ps + 1) 0) &&& (255 : Int32)) &&& (127 : Int32)).toInt64) <<< ((7 : Int32).toInt64 &&& 63)))), .second, .val (.int (14 : Int32)), .val (.int ((bs.getD (ps + 2) 0) &&& (255 : Int32)))]) rfl ?_
      refine Gol.lloadN X17 hx hby d7_51 (pc' := 52) rfl rfl ?_
      refine Gol.iload X17 hx hby d7_52 (pc' := 54) rfl rfl ?_
      refine Gol.bipush X17 hx hby d7_54 (pc' := 56) rfl (z := (127 : Int32)) rfl ?_
      refine Gol.iand X17 hx hby d7_56 (pc' := 57) rfl rfl ?_
      refine Gol.i2l X17 hx hby d7_57 (pc' := 58) rfl rfl ?_
      refine Gol.iloadN X17 hx hby d7_58 (pc' := 59) rfl rfl ?_
      refine Gol.lshl X17 hx hby d7_59 (pc' := 60) rfl rfl ?_
      refine Gol.lor X17 hx hby d7_60 (pc' := 61) rfl rfl ?_
      refine Gol.lstoreN X17 hx hby d7_61 (pc' := 62) rfl (l' := #[.val (.ref r0), .val (.long ((((0 : Int64) ||| (((((bs.getD ps 0) &&& (255 : Int32)) &&& (127 : Int32)).toInt64) <<< ((0 : Int32).toInt64 &&& 63))) ||| (((((bs.getD (ps + 1) 0) &&& (255 : Int32)) &&& (127 : Int32)).toInt64) <<< ((7 : Int32).toInt64 &&& 63))) ||| (((((bs.getD (ps + 2) 0) &&& (255 : Int32)) &&& (127 : Int32)).toInt64) <<< ((14 : Int32).toInt64 &&& 63)))), .second, .val (.int (14 : Int32)), .val (.int ((bs.getD (ps + 2) 0) &&& (255 : Int32)))]) rfl ?_
      refine Gol.iload X17 hx hby d7_62 (pc' := 64) rfl rfl ?_
      refine Gol.sipush X17 hx hby d7_64 (pc' := 67) rfl (z := (128 : Int32)) rfl ?_
      refine Gol.iand X17 hx hby d7_67 (pc' := 68) rfl rfl ?_
      by_cases hc68_18 : (((bs.getD (ps + 2) 0) &&& (255 : Int32)) &&& (128 : Int32)) = (0 : Int32)
      · skip
        refine Gol.ifNo X17 hx hby d7_68 (pc' := 71) rfl ((if0 _ _).trans (teq hc68_18).2) ?_
        refine Gol.iloadN X17 hx hby d7_71 (pc' := 72) rfl rfl ?_
        refine Gol.bipush X17 hx hby d7_72 (pc' := 74) rfl (z := (63 : Int32)) rfl ?_
        refine Gol.icmpYes X17 hx hby d7_74 (pc' := 88) (by decide) (feq (by decide : ¬ ((14 : Int32) = (63 : Int32)))).2 ?_
        refine Gol.lloadN X17 hx hby d7_88 (pc' := 89) rfl rfl ?_
        have hv : own_rn bs ps = ((((0 : Int64) ||| (((((bs.getD ps 0) &&& (255 : Int32)) &&& (127 : Int32)).toInt64) <<< ((0 : Int32).toInt64 &&& 63))) ||| (((((bs.getD (ps + 1) 0) &&& (255 : Int32)) &&& (127 : Int32)).toInt64) <<< ((7 : Int32).toInt64 &&& 63))) ||| (((((bs.getD (ps + 2) 0) &&& (255 : Int32)) &&& (127 : Int32)).toInt64) <<< ((14 : Int32).toInt64 &&& 63))) := by
          unfold own_rn
          rw [if_neg hc68_6, if_neg hc68_12, if_pos hc68_18]
        have hu : own_cn bs ps = 3 := by
          unfold own_cn
          rw [if_neg hc68_6, if_neg hc68_12, if_pos hc68_18]
        exact Gol.retL X17 hx hby Bd.returns Bd.notSynchronized d7_89 e17 (by unfold Q7; rw [hv, hu]; exact ⟨rfl, N17, K, ⟨E_r0, F_r0_bytes, F_r0_position, F_r0_end⟩⟩) (by decide) (by decide)
      · skip
        refine Gol.ifYes X17 hx hby d7_68 (pc' := 90) (by decide) ((if0 _ _).trans (feq hc68_18).2) ?_
        refine Gol.iinc X17 hx hby d7_90 (pc' := 93) rfl rfl (l' := #[.val (.ref r0), .val (.long ((((0 : Int64) ||| (((((bs.getD ps 0) &&& (255 : Int32)) &&& (127 : Int32)).toInt64) <<< ((0 : Int32).toInt64 &&& 63))) ||| (((((bs.getD (ps + 1) 0) &&& (255 : Int32)) &&& (127 : Int32)).toInt64) <<< ((7 : Int32).toInt64 &&& 63))) ||| (((((bs.getD (ps + 2) 0) &&& (255 : Int32)) &&& (127 : Int32)).toInt64) <<< ((14 : Int32).toInt64 &&& 63)))), .second, .val (.int (21 : Int32)), .val (.int ((bs.getD (ps + 2) 0) &&& (255 : Int32)))]) rfl ?_
        refine Gol.goto X17 hx hby d7_93 (pc' := 4) (by decide) ?_
        refine Gol.iloadN X17 hx hby d7_4 (pc' := 5) rfl rfl ?_
        refine Gol.bipush X17 hx hby d7_5 (pc' := 7) rfl (z := (64 : Int32)) rfl ?_
        refine Gol.icmpNo X17 hx hby d7_7 (pc' := 10) rfl (tlt (by decide : (21 : Int32) < (64 : Int32))).2.1 ?_
        refine Gol.aloadN X17 hx hby d7_10 (pc' := 11) rfl rfl rfl ?_
        refine Gol.getF X17 hx hby hZ hown (host := "") (Or.inl (hw _ (List.mem_of_getElem? (i := 27) rfl))) Via.refl e17 F_r0_position d7_11 (pc' := 14) rfl ?_
        intro T19 X19 e19
        refine Gol.aloadN X19 hx hby d7_14 (pc' := 15) rfl rfl rfl ?_
        refine Gol.getF X19 hx hby hZ hown (host := "") (Or.inl (hw _ (List.mem_of_getElem? (i := 29) rfl))) Via.refl e19 F_r0_end d7_15 (pc' := 18) rfl ?_
        intro T20 X20 e20
        refine Gol.icmpYes X20 hx hby d7_18 (pc' := 29) (by decide) (feq (fun q => absurd (own_inj (by omega) (by omega) q) (by omega))).2 ?_
        refine Gol.aloadN X20 hx hby d7_29 (pc' := 30) rfl rfl rfl ?_
        refine Gol.getF X20 hx hby hZ hown (host := "") (Or.inl (hw _ (List.mem_of_getElem? (i := 25) rfl))) Via.refl e20 F_r0_bytes d7_30 (pc' := 33) rfl ?_
        intro T21 X21 e21
        refine Gol.aloadN X21 hx hby d7_33 (pc' := 34) rfl rfl rfl ?_
        refine Gol.dup X21 hx hby d7_34 (pc' := 35) rfl rfl ?_
        refine Gol.getF X21 hx hby hZ hown (host := "") (Or.inl (hw _ (List.mem_of_getElem? (i := 27) rfl))) Via.refl e21 F_r0_position d7_35 (pc' := 38) rfl ?_
        intro T22 X22 e22
        refine Gol.dupX1 X22 hx hby d7_38 (pc' := 39) rfl rfl rfl ?_
        refine Gol.iconst X22 hx hby d7_39 (pc' := 40) rfl (z := (1 : Int32)) rfl ?_
        refine Gol.iadd X22 hx hby d7_40 (pc' := 41) rfl rfl ?_
        rw [show Int32.ofNat (ps + 3) + (1 : Int32) = Int32.ofNat (ps + 4) from own_addk _ 1]
        show GolF _ _ _ _ _ _ _ T22 m 41 #[.val (.ref r0), .val (.long ((((0 : Int64) ||| (((((bs.getD ps 0) &&& (255 : Int32)) &&& (127 : Int32)).toInt64) <<< ((0 : Int32).toInt64 &&& 63))) ||| (((((bs.getD (ps + 1) 0) &&& (255 : Int32)) &&& (127 : Int32)).toInt64) <<< ((7 : Int32).toInt64 &&& 63))) ||| (((((bs.getD (ps + 2) 0) &&& (255 : Int32)) &&& (127 : Int32)).toInt64) <<< ((14 : Int32).toInt64 &&& 63)))), .second, .val (.int (21 : Int32)), .val (.int ((bs.getD (ps + 2) 0) &&& (255 : Int32)))] [(.int (Int32.ofNat (ps + 4))), (.ref r0), (.int (Int32.ofNat (ps + 3))), (.ref r9)]
        refine Gol.putF X22 hx hby hZ hown (host := "") (Or.inl (hw _ (List.mem_of_getElem? (i := 27) rfl))) Via.refl e22 F_r0_position E_r0 (Or.inl (hw _ (List.mem_of_getElem? (i := 28) rfl))) (hw _ (List.mem_of_getElem? (i := 17) rfl)) (ty := .int) (by decide) rfl rfl d7_41 (pc' := 44) rfl ?_
        intro T23 h23 X23 e23 W23
        have E_r0 := E_r0.wr W23
        have F_r0_bytes := F_r0_bytes.other W23 (Or.inr (slot_ne (Or.inr (hw _ (List.mem_of_getElem? (i := 26) rfl))) (Or.inl (hw _ (List.mem_of_getElem? (i := 28) rfl))) (by decide) (t := (.array .byte)) (t' := .int) (by decide) (by decide)))
        have F_r0_position := F_r0_position.same W23
        have F_r0_end := F_r0_end.other W23 (Or.inr (slot_ne (Or.inr (hw _ (List.mem_of_getElem? (i := 30) rfl))) (Or.inl (hw _ (List.mem_of_getElem? (i := 28) rfl))) (by decide) (t := .int) (t' := .int) (by decide) (by decide)))
        have V_r9 := V_r9.other W23 ne_r0_r9.symm
        have K := K.wr W23 (Or.inl (List.mem_of_getElem? (i := 0) rfl))
        have Zs := Nat.le_trans Zs (Keep.of_wr W23).1
        have N23 := Fr.snoc X23 N17 g_r0
        refine Gol.baload X23 hx hby hZ e23 V_r9 d7_44 (pc' := 45) rfl (own_in (by omega)) (v := (bs.getD (ps + 3) 0)) (own_at bs (by omega)) ?_
        refine Gol.sipush X23 hx hby d7_45 (pc' := 48) rfl (z := (255 : Int32)) rfl ?_
        refine Gol.iand X23 hx hby d7_48 (pc' := 49) rfl rfl ?_
        refine Gol.istore X23 hx hby d7_49 (pc' := 51) rfl (l' := #[.val (.ref r0), .val (.long ((((0 : Int64) ||| (((((bs.getD ps 0) &&& (255 : Int32)) &&& (127 : Int32)).toInt64) <<< ((0 : Int32).toInt64 &&& 63))) ||| (((((bs.getD (ps + 1) 0) &&& (255 : Int32)) &&& (127 : Int32)).toInt64) <<< ((7 : Int32).toInt64 &&& 63))) ||| (((((bs.getD (ps + 2) 0) &&& (255 : Int32)) &&& (127 : Int32)).toInt64) <<< ((14 : Int32).toInt64 &&& 63)))), .second, .val (.int (21 : Int32)), .val (.int ((bs.getD (ps + 3) 0) &&& (255 : Int32)))]) rfl ?_
        refine Gol.lloadN X23 hx hby d7_51 (pc' := 52) rfl rfl ?_
        refine Gol.iload X23 hx hby d7_52 (pc' := 54) rfl rfl ?_
        refine Gol.bipush X23 hx hby d7_54 (pc' := 56) rfl (z := (127 : Int32)) rfl ?_
        refine Gol.iand X23 hx hby d7_56 (pc' := 57) rfl rfl ?_
        refine Gol.i2l X23 hx hby d7_57 (pc' := 58) rfl rfl ?_
        refine Gol.iloadN X23 hx hby d7_58 (pc' := 59) rfl rfl ?_
        refine Gol.lshl X23 hx hby d7_59 (pc' := 60) rfl rfl ?_
        refine Gol.lor X23 hx hby d7_60 (pc' := 61) rfl rfl ?_
        refine Gol.lstoreN X23 hx hby d7_61 (pc' := 62) rfl (l' := #[.val (.ref r0), .val (.long (((((0 : Int64) ||| (((((bs.getD ps 0) &&& (255 : Int32)) &&& (127 : Int32)).toInt64) <<< ((0 : Int32).toInt64 &&& 63))) ||| (((((bs.getD (ps + 1) 0) &&& (255 : Int32)) &&& (127 : Int32)).toInt64) <<< ((7 : Int32).toInt64 &&& 63))) ||| (((((bs.getD (ps + 2) 0) &&& (255 : Int32)) &&& (127 : Int32)).toInt64) <<< ((14 : Int32).toInt64 &&& 63))) ||| (((((bs.getD (ps + 3) 0) &&& (255 : Int32)) &&& (127 : Int32)).toInt64) <<< ((21 : Int32).toInt64 &&& 63)))), .second, .val (.int (21 : Int32)), .val (.int ((bs.getD (ps + 3) 0) &&& (255 : Int32)))]) rfl ?_
        refine Gol.iload X23 hx hby d7_62 (pc' := 64) rfl rfl ?_
        refine Gol.sipush X23 hx hby d7_64 (pc' := 67) rfl (z := (128 : Int32)) rfl ?_
        refine Gol.iand X23 hx hby d7_67 (pc' := 68) rfl rfl ?_
        by_cases hc68_24 : (((bs.getD (ps + 3) 0) &&& (255 : Int32)) &&& (128 : Int32)) = (0 : Int32)
        · skip
          refine Gol.ifNo X23 hx hby d7_68 (pc' := 71) rfl ((if0 _ _).trans (teq hc68_24).2) ?_
          refine Gol.iloadN X23 hx hby d7_71 (pc' := 72) rfl rfl ?_
          refine Gol.bipush X23 hx hby d7_72 (pc' := 74) rfl (z := (63 : Int32)) rfl ?_
          refine Gol.icmpYes X23 hx hby d7_74 (pc' := 88) (by decide) (feq (by decide : ¬ ((21 : Int32) = (63 : Int32)))).2 ?_
          refine Gol.lloadN X23 hx hby d7_88 (pc' := 89) rfl rfl ?_
          have hv : own_rn bs ps = (((((0 : Int64) ||| (((((bs.getD ps 0) &&& (255 : Int32)) &&& (127 : Int32)).toInt64) <<< ((0 : Int32).toInt64 &&& 63))) ||| (((((bs.getD (ps + 1) 0) &&& (255 : Int32)) &&& (127 : Int32)).toInt64) <<< ((7 : Int32).toInt64 &&& 63))) ||| (((((bs.getD (ps + 2) 0) &&& (255 : Int32)) &&& (127 : Int32)).toInt64) <<< ((14 : Int32).toInt64 &&& 63))) ||| (((((bs.getD (ps + 3) 0) &&& (255 : Int32)) &&& (127 : Int32)).toInt64) <<< ((21 : Int32).toInt64 &&& 63))) := by
            unfold own_rn
            rw [if_neg hc68_6, if_neg hc68_12, if_neg hc68_18, if_pos hc68_24]
          have hu : own_cn bs ps = 4 := by
            unfold own_cn
            rw [if_neg hc68_6, if_neg hc68_12, if_neg hc68_18, if_pos hc68_24]
          exact Gol.retL X23 hx hby Bd.returns Bd.notSynchronized d7_89 e23 (by unfold Q7; rw [hv, hu]; exact ⟨rfl, N23, K, ⟨E_r0, F_r0_bytes, F_r0_position, F_r0_end⟩⟩) (by decide) (by decide)
        · skip
          refine Gol.ifYes X23 hx hby d7_68 (pc' := 90) (by decide) ((if0 _ _).trans (feq hc68_24).2) ?_
          refine Gol.iinc X23 hx hby d7_90 (pc' := 93) rfl rfl (l' := #[.val (.ref r0), .val (.long (((((0 : Int64) ||| (((((bs.getD ps 0) &&& (255 : Int32)) &&& (127 : Int32)).toInt64) <<< ((0 : Int32).toInt64 &&& 63))) ||| (((((bs.getD (ps + 1) 0) &&& (255 : Int32)) &&& (127 : Int32)).toInt64) <<< ((7 : Int32).toInt64 &&& 63))) ||| (((((bs.getD (ps + 2) 0) &&& (255 : Int32)) &&& (127 : Int32)).toInt64) <<< ((14 : Int32).toInt64 &&& 63))) ||| (((((bs.getD (ps + 3) 0) &&& (255 : Int32)) &&& (127 : Int32)).toInt64) <<< ((21 : Int32).toInt64 &&& 63)))), .second, .val (.int (28 : Int32)), .val (.int ((bs.getD (ps + 3) 0) &&& (255 : Int32)))]) rfl ?_
          refine Gol.goto X23 hx hby d7_93 (pc' := 4) (by decide) ?_
          refine Gol.iloadN X23 hx hby d7_4 (pc' := 5) rfl rfl ?_
          refine Gol.bipush X23 hx hby d7_5 (pc' := 7) rfl (z := (64 : Int32)) rfl ?_
          refine Gol.icmpNo X23 hx hby d7_7 (pc' := 10) rfl (tlt (by decide : (28 : Int32) < (64 : Int32))).2.1 ?_
          refine Gol.aloadN X23 hx hby d7_10 (pc' := 11) rfl rfl rfl ?_
          refine Gol.getF X23 hx hby hZ hown (host := "") (Or.inl (hw _ (List.mem_of_getElem? (i := 27) rfl))) Via.refl e23 F_r0_position d7_11 (pc' := 14) rfl ?_
          intro T25 X25 e25
          refine Gol.aloadN X25 hx hby d7_14 (pc' := 15) rfl rfl rfl ?_
          refine Gol.getF X25 hx hby hZ hown (host := "") (Or.inl (hw _ (List.mem_of_getElem? (i := 29) rfl))) Via.refl e25 F_r0_end d7_15 (pc' := 18) rfl ?_
          intro T26 X26 e26
          refine Gol.icmpYes X26 hx hby d7_18 (pc' := 29) (by decide) (feq (fun q => absurd (own_inj (by omega) (by omega) q) (by omega))).2 ?_
          refine Gol.aloadN X26 hx hby d7_29 (pc' := 30) rfl rfl rfl ?_
          refine Gol.getF X26 hx hby hZ hown (host := "") (Or.inl (hw _ (List.mem_of_getElem? (i := 25) rfl))) Via.refl e26 F_r0_bytes d7_30 (pc' := 33) rfl ?_
          intro T27 X27 e27
          refine Gol.aloadN X27 hx hby d7_33 (pc' := 34) rfl rfl rfl ?_
          refine Gol.dup X27 hx hby d7_34 (pc' := 35) rfl rfl ?_
          refine Gol.getF X27 hx hby hZ hown (host := "") (Or.inl (hw _ (List.mem_of_getElem? (i := 27) rfl))) Via.refl e27 F_r0_position d7_35 (pc' := 38) rfl ?_
          intro T28 X28 e28
          refine Gol.dupX1 X28 hx hby d7_38 (pc' := 39) rfl rfl rfl ?_
          refine Gol.iconst X28 hx hby d7_39 (pc' := 40) rfl (z := (1 : Int32)) rfl ?_
          refine Gol.iadd X28 hx hby d7_40 (pc' := 41) rfl rfl ?_
          rw [show Int32.ofNat (ps + 4) + (1 : Int32) = Int32.ofNat (ps + 5) from own_addk _ 1]
          show GolF _ _ _ _ _ _ _ T28 m 41 #[.val (.ref r0), .val (.long (((((0 : Int64) ||| (((((bs.getD ps 0) &&& (255 : Int32)) &&& (127 : Int32)).toInt64) <<< ((0 : Int32).toInt64 &&& 63))) ||| (((((bs.getD (ps + 1) 0) &&& (255 : Int32)) &&& (127 : Int32)).toInt64) <<< ((7 : Int32).toInt64 &&& 63))) ||| (((((bs.getD (ps + 2) 0) &&& (255 : Int32)) &&& (127 : Int32)).toInt64) <<< ((14 : Int32).toInt64 &&& 63))) ||| (((((bs.getD (ps + 3) 0) &&& (255 : Int32)) &&& (127 : Int32)).toInt64) <<< ((21 : Int32).toInt64 &&& 63)))), .second, .val (.int (28 : Int32)), .val (.int ((bs.getD (ps + 3) 0) &&& (255 : Int32)))] [(.int (Int32.ofNat (ps + 5))), (.ref r0), (.int (Int32.ofNat (ps + 4))), (.ref r9)]
          refine Gol.putF X28 hx hby hZ hown (host := "") (Or.inl (hw _ (List.mem_of_getElem? (i := 27) rfl))) Via.refl e28 F_r0_position E_r0 (Or.inl (hw _ (List.mem_of_getElem? (i := 28) rfl))) (hw _ (List.mem_of_getElem? (i := 17) rfl)) (ty := .int) (by decide) rfl rfl d7_41 (pc' := 44) rfl ?_
          intro T29 h29 X29 e29 W29
          have E_r0 := E_r0.wr W29
          have F_r0_bytes := F_r0_bytes.other W29 (Or.inr (slot_ne (Or.inr (hw _ (List.mem_of_getElem? (i := 26) rfl))) (Or.inl (hw _ (List.mem_of_getElem? (i := 28) rfl))) (by decide) (t := (.array .byte)) (t' := .int) (by decide) (by decide)))
          have F_r0_position := F_r0_position.same W29
          have F_r0_end := F_r0_end.other W29 (Or.inr (slot_ne (Or.inr (hw _ (List.mem_of_getElem? (i := 30) rfl))) (Or.inl (hw _ (List.mem_of_getElem? (i := 28) rfl))) (by decide) (t := .int) (t' := .int) (by decide) (by decide)))
          have V_r9 := V_r9.other W29 ne_r0_r9.symm
          have K := K.wr W29 (Or.inl (List.mem_of_getElem? (i := 0) rfl))
          have Zs := Nat.le_trans Zs (Keep.of_wr W29).1
          have N29 := Fr.snoc X29 N23 g_r0
          refine Gol.baload X29 hx hby hZ e29 V_r9 d7_44 (pc' := 45) rfl (own_in (by omega)) (v := (bs.getD (ps + 4) 0)) (own_at bs (by omega)) ?_
          refine Gol.sipush X29 hx hby d7_45 (pc' := 48) rfl (z := (255 : Int32)) rfl ?_
          refine Gol.iand X29 hx hby d7_48 (pc' := 49) rfl rfl ?_
          refine Gol.istore X29 hx hby d7_49 (pc' := 51) rfl (l' := #[.val (.ref r0), .val (.long (((((0 : Int64) ||| (((((bs.getD ps 0) &&& (255 : Int32)) &&& (127 : Int32)).toInt64) <<< ((0 : Int32).toInt64 &&& 63))) ||| (((((bs.getD (ps + 1) 0) &&& (255 : Int32)) &&& (127 : Int32)).toInt64) <<< ((7 : Int32).toInt64 &&& 63))) ||| (((((bs.getD (ps + 2) 0) &&& (255 : Int32)) &&& (127 : Int32)).toInt64) <<< ((14 : Int32).toInt64 &&& 63))) ||| (((((bs.getD (ps + 3) 0) &&& (255 : Int32)) &&& (127 : Int32)).toInt64) <<< ((21 : Int32).toInt64 &&& 63)))), .second, .val (.int (28 : Int32)), .val (.int ((bs.getD (ps + 4) 0) &&& (255 : Int32)))]) rfl ?_
          refine Gol.lloadN X29 hx hby d7_51 (pc' := 52) rfl rfl ?_
          refine Gol.iload X29 hx hby d7_52 (pc' := 54) rfl rfl ?_
          refine Gol.bipush X29 hx hby d7_54 (pc' := 56) rfl (z := (127 : Int32)) rfl ?_
          refine Gol.iand X29 hx hby d7_56 (pc' := 57) rfl rfl ?_
          refine Gol.i2l X29 hx hby d7_57 (pc' := 58) rfl rfl ?_
          refine Gol.iloadN X29 hx hby d7_58 (pc' := 59) rfl rfl ?_
          refine Gol.lshl X29 hx hby d7_59 (pc' := 60) rfl rfl ?_
          refine Gol.lor X29 hx hby d7_60 (pc' := 61) rfl rfl ?_
          refine Gol.lstoreN X29 hx hby d7_61 (pc' := 62) rfl (l' := #[.val (.ref r0), .val (.long ((((((0 : Int64) ||| (((((bs.getD ps 0) &&& (255 : Int32)) &&& (127 : Int32)).toInt64) <<< ((0 : Int32).toInt64 &&& 63))) ||| (((((bs.getD (ps + 1) 0) &&& (255 : Int32)) &&& (127 : Int32)).toInt64) <<< ((7 : Int32).toInt64 &&& 63))) ||| (((((bs.getD (ps + 2) 0) &&& (255 : Int32)) &&& (127 : Int32)).toInt64) <<< ((14 : Int32).toInt64 &&& 63))) ||| (((((bs.getD (ps + 3) 0) &&& (255 : Int32)) &&& (127 : Int32)).toInt64) <<< ((21 : Int32).toInt64 &&& 63))) ||| (((((bs.getD (ps + 4) 0) &&& (255 : Int32)) &&& (127 : Int32)).toInt64) <<< ((28 : Int32).toInt64 &&& 63)))), .second, .val (.int (28 : Int32)), .val (.int ((bs.getD (ps + 4) 0) &&& (255 : Int32)))]) rfl ?_
          refine Gol.iload X29 hx hby d7_62 (pc' := 64) rfl rfl ?_
          refine Gol.sipush X29 hx hby d7_64 (pc' := 67) rfl (z := (128 : Int32)) rfl ?_
          refine Gol.iand X29 hx hby d7_67 (pc' := 68) rfl rfl ?_
          by_cases hc68_30 : (((bs.getD (ps + 4) 0) &&& (255 : Int32)) &&& (128 : Int32)) = (0 : Int32)
          · skip
            refine Gol.ifNo X29 hx hby d7_68 (pc' := 71) rfl ((if0 _ _).trans (teq hc68_30).2) ?_
            refine Gol.iloadN X29 hx hby d7_71 (pc' := 72) rfl rfl ?_
            refine Gol.bipush X29 hx hby d7_72 (pc' := 74) rfl (z := (63 : Int32)) rfl ?_
            refine Gol.icmpYes X29 hx hby d7_74 (pc' := 88) (by decide) (feq (by decide : ¬ ((28 : Int32) = (63 : Int32)))).2 ?_
            refine Gol.lloadN X29 hx hby d7_88 (pc' := 89) rfl rfl ?_
            have hv : own_rn bs ps = ((((((0 : Int64) ||| (((((bs.getD ps 0) &&& (255 : Int32)) &&& (127 : Int32)).toInt64) <<< ((0 : Int32).toInt64 &&& 63))) ||| (((((bs.getD (ps + 1) 0) &&& (255 : Int32)) &&& (127 : Int32)).toInt64) <<< ((7 : Int32).toInt64 &&& 63))) ||| (((((bs.getD (ps + 2) 0) &&& (255 : Int32)) &&& (127 : Int32)).toInt64) <<< ((14 : Int32).toInt64 &&& 63))) ||| (((((bs.getD (ps + 3) 0) &&& (255 : Int32)) &&& (127 : Int32)).toInt64) <<< ((21 : Int32).toInt64 &&& 63))) ||| (((((bs.getD (ps + 4) 0) &&& (255 : Int32)) &&& (127 : Int32)).toInt64) <<< ((28 : Int32).toInt64 &&& 63))) := by
              unfold own_rn
              rw [if_neg hc68_6, if_neg hc68_12, if_neg hc68_18, if_neg hc68_24, if_pos hc68_30]
            have hu : own_cn bs ps = 5 := by
              unfold own_cn
              rw [if_neg hc68_6, if_neg hc68_12, if_neg hc68_18, if_neg hc68_24, if_pos hc68_30]
            exact Gol.retL X29 hx hby Bd.returns Bd.notSynchronized d7_89 e29 (by unfold Q7; rw [hv, hu]; exact ⟨rfl, N29, K, ⟨E_r0, F_r0_bytes, F_r0_position, F_r0_end⟩⟩) (by decide) (by decide)
          · skip
            refine Gol.ifYes X29 hx hby d7_68 (pc' := 90) (by decide) ((if0 _ _).trans (feq hc68_30).2) ?_
            refine Gol.iinc X29 hx hby d7_90 (pc' := 93) rfl rfl (l' := #[.val (.ref r0), .val (.long ((((((0 : Int64) ||| (((((bs.getD ps 0) &&& (255 : Int32)) &&& (127 : Int32)).toInt64) <<< ((0 : Int32).toInt64 &&& 63))) ||| (((((bs.getD (ps + 1) 0) &&& (255 : Int32)) &&& (127 : Int32)).toInt64) <<< ((7 : Int32).toInt64 &&& 63))) ||| (((((bs.getD (ps + 2) 0) &&& (255 : Int32)) &&& (127 : Int32)).toInt64) <<< ((14 : Int32).toInt64 &&& 63))) ||| (((((bs.getD (ps + 3) 0) &&& (255 : Int32)) &&& (127 : Int32)).toInt64) <<< ((21 : Int32).toInt64 &&& 63))) ||| (((((bs.getD (ps + 4) 0) &&& (255 : Int32)) &&& (127 : Int32)).toInt64) <<< ((28 : Int32).toInt64 &&& 63)))), .second, .val (.int (35 : Int32)), .val (.int ((bs.getD (ps + 4) 0) &&& (255 : Int32)))]) rfl ?_
            refine Gol.goto X29 hx hby d7_93 (pc' := 4) (by decide) ?_
            refine Gol.iloadN X29 hx hby d7_4 (pc' := 5) rfl rfl ?_
            refine Gol.bipush X29 hx hby d7_5 (pc' := 7) rfl (z := (64 : Int32)) rfl ?_
            refine Gol.icmpNo X29 hx hby d7_7 (pc' := 10) rfl (tlt (by decide : (35 : Int32) < (64 : Int32))).2.1 ?_
            refine Gol.aloadN X29 hx hby d7_10 (pc' := 11) rfl rfl rfl ?_
            refine Gol.getF X29 hx hby hZ hown (host := "") (Or.inl (hw _ (List.mem_of_getElem? (i := 27) rfl))) Via.refl e29 F_r0_position d7_11 (pc' := 14) rfl ?_
            intro T31 X31 e31
            refine Gol.aloadN X31 hx hby d7_14 (pc' := 15) rfl rfl rfl ?_
            refine Gol.getF X31 hx hby hZ hown (host := "") (Or.inl (hw _ (List.mem_of_getElem? (i := 29) rfl))) Via.refl e31 F_r0_end d7_15 (pc' := 18) rfl ?_
            intro T32 X32 e32
            refine Gol.icmpYes X32 hx hby d7_18 (pc' := 29) (by decide) (feq (fun q => absurd (own_inj (by omega) (by omega) q) (by omega))).2 ?_
            refine Gol.aloadN X32 hx hby d7_29 (pc' := 30) rfl rfl rfl ?_
            refine Gol.getF X32 hx hby hZ hown (host := "") (Or.inl (hw _ (List.mem_of_getElem? (i := 25) rfl))) Via.refl e32 F_r0_bytes d7_30 (pc' := 33) rfl ?_
            intro T33 X33 e33
            refine Gol.aloadN X33 hx hby d7_33 (pc' := 34) rfl rfl rfl ?_
            refine Gol.dup X33 hx hby d7_34 (pc' := 35) rfl rfl ?_
            refine Gol.getF X33 hx hby hZ hown (host := "") (Or.inl (hw _ (List.mem_of_getElem? (i := 27) rfl))) Via.refl e33 F_r0_position d7_35 (pc' := 38) rfl ?_
            intro T34 X34 e34
            refine Gol.dupX1 X34 hx hby d7_38 (pc' := 39) rfl rfl rfl ?_
            refine Gol.iconst X34 hx hby d7_39 (pc' := 40) rfl (z := (1 : Int32)) rfl ?_
            refine Gol.iadd X34 hx hby d7_40 (pc' := 41) rfl rfl ?_
            rw [show Int32.ofNat (ps + 5) + (1 : Int32) = Int32.ofNat (ps + 6) from own_addk _ 1]
            show GolF _ _ _ _ _ _ _ T34 m 41 #[.val (.ref r0), .val (.long ((((((0 : Int64) ||| (((((bs.getD ps 0) &&& (255 : Int32)) &&& (127 : Int32)).toInt64) <<< ((0 : Int32).toInt64 &&& 63))) ||| (((((bs.getD (ps + 1) 0) &&& (255 : Int32)) &&& (127 : Int32)).toInt64) <<< ((7 : Int32).toInt64 &&& 63))) ||| (((((bs.getD (ps + 2) 0) &&& (255 : Int32)) &&& (127 : Int32)).toInt64) <<< ((14 : Int32).toInt64 &&& 63))) ||| (((((bs.getD (ps + 3) 0) &&& (255 : Int32)) &&& (127 : Int32)).toInt64) <<< ((21 : Int32).toInt64 &&& 63))) ||| (((((bs.getD (ps + 4) 0) &&& (255 : Int32)) &&& (127 : Int32)).toInt64) <<< ((28 : Int32).toInt64 &&& 63)))), .second, .val (.int (35 : Int32)), .val (.int ((bs.getD (ps + 4) 0) &&& (255 : Int32)))] [(.int (Int32.ofNat (ps + 6))), (.ref r0), (.int (Int32.ofNat (ps + 5))), (.ref r9)]
            refine Gol.putF X34 hx hby hZ hown (host := "") (Or.inl (hw _ (List.mem_of_getElem? (i := 27) rfl))) Via.refl e34 F_r0_position E_r0 (Or.inl (hw _ (List.mem_of_getElem? (i := 28) rfl))) (hw _ (List.mem_of_getElem? (i := 17) rfl)) (ty := .int) (by decide) rfl rfl d7_41 (pc' := 44) rfl ?_
            intro T35 h35 X35 e35 W35
            have E_r0 := E_r0.wr W35
            have F_r0_bytes := F_r0_bytes.other W35 (Or.inr (slot_ne (Or.inr (hw _ (List.mem_of_getElem? (i := 26) rfl))) (Or.inl (hw _ (List.mem_of_getElem? (i := 28) rfl))) (by decide) (t := (.array .byte)) (t' := .int) (by decide) (by decide)))
            have F_r0_position := F_r0_position.same W35
            have F_r0_end := F_r0_end.other W35 (Or.inr (slot_ne (Or.inr (hw _ (List.mem_of_getElem? (i := 30) rfl))) (Or.inl (hw _ (List.mem_of_getElem? (i := 28) rfl))) (by decide) (t := .int) (t' := .int) (by decide) (by decide)))
            have V_r9 := V_r9.other W35 ne_r0_r9.symm
            have K := K.wr W35 (Or.inl (List.mem_of_getElem? (i := 0) rfl))
            have Zs := Nat.le_trans Zs (Keep.of_wr W35).1
            have N35 := Fr.snoc X35 N29 g_r0
            refine Gol.baload X35 hx hby hZ e35 V_r9 d7_44 (pc' := 45) rfl (own_in (by omega)) (v := (bs.getD (ps + 5) 0)) (own_at bs (by omega)) ?_
            refine Gol.sipush X35 hx hby d7_45 (pc' := 48) rfl (z := (255 : Int32)) rfl ?_
            refine Gol.iand X35 hx hby d7_48 (pc' := 49) rfl rfl ?_
            refine Gol.istore X35 hx hby d7_49 (pc' := 51) rfl (l' := #[.val (.ref r0), .val (.long ((((((0 : Int64) ||| (((((bs.getD ps 0) &&& (255 : Int32)) &&& (127 : Int32)).toInt64) <<< ((0 : Int32).toInt64 &&& 63))) ||| (((((bs.getD (ps + 1) 0) &&& (255 : Int32)) &&& (127 : Int32)).toInt64) <<< ((7 : Int32).toInt64 &&& 63))) ||| (((((bs.getD (ps + 2) 0) &&& (255 : Int32)) &&& (127 : Int32)).toInt64) <<< ((14 : Int32).toInt64 &&& 63))) ||| (((((bs.getD (ps + 3) 0) &&& (255 : Int32)) &&& (127 : Int32)).toInt64) <<< ((21 : Int32).toInt64 &&& 63))) ||| (((((bs.getD (ps + 4) 0) &&& (255 : Int32)) &&& (127 : Int32)).toInt64) <<< ((28 : Int32).toInt64 &&& 63)))), .second, .val (.int (35 : Int32)), .val (.int ((bs.getD (ps + 5) 0) &&& (255 : Int32)))]) rfl ?_
            refine Gol.lloadN X35 hx hby d7_51 (pc' := 52) rfl rfl ?_
            refine Gol.iload X35 hx hby d7_52 (pc' := 54) rfl rfl ?_
            refine Gol.bipush X35 hx hby d7_54 (pc' := 56) rfl (z := (127 : Int32)) rfl ?_
            refine Gol.iand X35 hx hby d7_56 (pc' := 57) rfl rfl ?_
            refine Gol.i2l X35 hx hby d7_57 (pc' := 58) rfl rfl ?_
            refine Gol.iloadN X35 hx hby d7_58 (pc' := 59) rfl rfl ?_
            refine Gol.lshl X35 hx hby d7_59 (pc' := 60) rfl rfl ?_
            refine Gol.lor X35 hx hby d7_60 (pc' := 61) rfl rfl ?_
            refine Gol.lstoreN X35 hx hby d7_61 (pc' := 62) rfl (l' := #[.val (.ref r0), .val (.long (((((((0 : Int64) ||| (((((bs.getD ps 0) &&& (255 : Int32)) &&& (127 : Int32)).toInt64) <<< ((0 : Int32).toInt64 &&& 63))) ||| (((((bs.getD (ps + 1) 0) &&& (255 : Int32)) &&& (127 : Int32)).toInt64) <<< ((7 : Int32).toInt64 &&& 63))) ||| (((((bs.getD (ps + 2) 0) &&& (255 : Int32)) &&& (127 : Int32)).toInt64) <<< ((14 : Int32).toInt64 &&& 63))) ||| (((((bs.getD (ps + 3) 0) &&& (255 : Int32)) &&& (127 : Int32)).toInt64) <<< ((21 : Int32).toInt64 &&& 63))) ||| (((((bs.getD (ps + 4) 0) &&& (255 : Int32)) &&& (127 : Int32)).toInt64) <<< ((28 : Int32).toInt64 &&& 63))) ||| (((((bs.getD (ps + 5) 0) &&& (255 : Int32)) &&& (127 : Int32)).toInt64) <<< ((35 : Int32).toInt64 &&& 63)))), .second, .val (.int (35 : Int32)), .val (.int ((bs.getD (ps + 5) 0) &&& (255 : Int32)))]) rfl ?_
            refine Gol.iload X35 hx hby d7_62 (pc' := 64) rfl rfl ?_
            refine Gol.sipush X35 hx hby d7_64 (pc' := 67) rfl (z := (128 : Int32)) rfl ?_
            refine Gol.iand X35 hx hby d7_67 (pc' := 68) rfl rfl ?_
            by_cases hc68_36 : (((bs.getD (ps + 5) 0) &&& (255 : Int32)) &&& (128 : Int32)) = (0 : Int32)
            · skip
              refine Gol.ifNo X35 hx hby d7_68 (pc' := 71) rfl ((if0 _ _).trans (teq hc68_36).2) ?_
              refine Gol.iloadN X35 hx hby d7_71 (pc' := 72) rfl rfl ?_
              refine Gol.bipush X35 hx hby d7_72 (pc' := 74) rfl (z := (63 : Int32)) rfl ?_
              refine Gol.icmpYes X35 hx hby d7_74 (pc' := 88) (by decide) (feq (by decide : ¬ ((35 : Int32) = (63 : Int32)))).2 ?_
              refine Gol.lloadN X35 hx hby d7_88 (pc' := 89) rfl rfl ?_
              have hv : own_rn bs ps = (((((((0 : Int64) ||| (((((bs.getD ps 0) &&& (255 : Int32)) &&& (127 : Int32)).toInt64) <<< ((0 : Int32).toInt64 &&& 63))) ||| (((((bs.getD (ps + 1) 0) &&& (255 : Int32)) &&& (127 : Int32)).toInt64) <<< ((7 : Int32).toInt64 &&& 63))) ||| (((((bs.getD (ps + 2) 0) &&& (255 : Int32)) &&& (127 : Int32)).toInt64) <<< ((14 : Int32).toInt64 &&& 63))) ||| (((((bs.getD (ps + 3) 0) &&& (255 : Int32)) &&& (127 : Int32)).toInt64) <<< ((21 : Int32).toInt64 &&& 63))) ||| (((((bs.getD (ps + 4) 0) &&& (255 : Int32)) &&& (127 : Int32)).toInt64) <<< ((28 : Int32).toInt64 &&& 63))) ||| (((((bs.getD (ps + 5) 0) &&& (255 : Int32)) &&& (127 : Int32)).toInt64) <<< ((35 : Int32).toInt64 &&& 63))) := by
                unfold own_rn
                rw [if_neg hc68_6, if_neg hc68_12, if_neg hc68_18, if_neg hc68_24, if_neg hc68_30, if_pos hc68_36]
              have hu : own_cn bs ps = 6 := by
                unfold own_cn
                rw [if_neg hc68_6, if_neg hc68_12, if_neg hc68_18, if_neg hc68_24, if_neg hc68_30, if_pos hc68_36]
              exact Gol.retL X35 hx hby Bd.returns Bd.notSynchronized d7_89 e35 (by unfold Q7; rw [hv, hu]; exact ⟨rfl, N35, K, ⟨E_r0, F_r0_bytes, F_r0_position, F_r0_end⟩⟩) (by decide) (by decide)
            · skip
              refine Gol.ifYes X35 hx hby d7_68 (pc' := 90) (by decide) ((if0 _ _).trans (feq hc68_36).2) ?_
              refine Gol.iinc X35 hx hby d7_90 (pc' := 93) rfl rfl (l' := #[.val (.ref r0), .val (.long (((((((0 : Int64) ||| (((((bs.getD ps 0) &&& (255 : Int32)) &&& (127 : Int32)).toInt64) <<< ((0 : Int32).toInt64 &&& 63))) ||| (((((bs.getD (ps + 1) 0) &&& (255 : Int32)) &&& (127 : Int32)).toInt64) <<< ((7 : Int32).toInt64 &&& 63))) ||| (((((bs.getD (ps + 2) 0) &&& (255 : Int32)) &&& (127 : Int32)).toInt64) <<< ((14 : Int32).toInt64 &&& 63))) ||| (((((bs.getD (ps + 3) 0) &&& (255 : Int32)) &&& (127 : Int32)).toInt64) <<< ((21 : Int32).toInt64 &&& 63))) ||| (((((bs.getD (ps + 4) 0) &&& (255 : Int32)) &&& (127 : Int32)).toInt64) <<< ((28 : Int32).toInt64 &&& 63))) ||| (((((bs.getD (ps + 5) 0) &&& (255 : Int32)) &&& (127 : Int32)).toInt64) <<< ((35 : Int32).toInt64 &&& 63)))), .second, .val (.int (42 : Int32)), .val (.int ((bs.getD (ps + 5) 0) &&& (255 : Int32)))]) rfl ?_
              refine Gol.goto X35 hx hby d7_93 (pc' := 4) (by decide) ?_
              refine Gol.iloadN X35 hx hby d7_4 (pc' := 5) rfl rfl ?_
              refine Gol.bipush X35 hx hby d7_5 (pc' := 7) rfl (z := (64 : Int32)) rfl ?_
              refine Gol.icmpNo X35 hx hby d7_7 (pc' := 10) rfl (tlt (by decide : (42 : Int32) < (64 : Int32))).2.1 ?_
              refine Gol.aloadN X35 hx hby d7_10 (pc' := 11) rfl rfl rfl ?_
              refine Gol.getF X35 hx hby hZ hown (host := "") (Or.inl (hw _ (List.mem_of_getElem? (i := 27) rfl))) Via.refl e35 F_r0_position d7_11 (pc' := 14) rfl ?_
              intro T37 X37 e37
              refine Gol.aloadN X37 hx hby d7_14 (pc' := 15) rfl rfl rfl ?_
              refine Gol.getF X37 hx hby hZ hown (host := "") (Or.inl (hw _ (List.mem_of_getElem? (i := 29) rfl))) Via.refl e37 F_r0_end d7_15 (pc' := 18) rfl ?_
              intro T38 X38 e38
              refine Gol.icmpYes X38 hx hby d7_18 (pc' := 29) (by decide) (feq (fun q => absurd (own_inj (by omega) (by omega) q) (by omega))).2 ?_
              refine Gol.aloadN X38 hx hby d7_29 (pc' := 30) rfl rfl rfl ?_
              refine Gol.getF X38 hx hby hZ hown (host := "") (Or.inl (hw _ (List.mem_of_getElem? (i := 25) rfl))) Via.refl e38 F_r0_bytes d7_30 (pc' := 33) rfl ?_
              intro T39 X39 e39
              refine Gol.aloadN X39 hx hby d7_33 (pc' := 34) rfl rfl rfl ?_
              refine Gol.dup X39 hx hby d7_34 (pc' := 35) rfl rfl ?_
              refine Gol.getF X39 hx hby hZ hown (host := "") (Or.inl (hw _ (List.mem_of_getElem? (i := 27) rfl))) Via.refl e39 F_r0_position d7_35 (pc' := 38) rfl ?_
              intro T40 X40 e40
              refine Gol.dupX1 X40 hx hby d7_38 (pc' := 39) rfl rfl rfl ?_
              refine Gol.iconst X40 hx hby d7_39 (pc' := 40) rfl (z := (1 : Int32)) rfl ?_
              refine Gol.iadd X40 hx hby d7_40 (pc' := 41) rfl rfl ?_
              rw [show Int32.ofNat (ps + 6) + (1 : Int32) = Int32.ofNat (ps + 7) from own_addk _ 1]
              show GolF _ _ _ _ _ _ _ T40 m 41 #[.val (.ref r0), .val (.long (((((((0 : Int64) ||| (((((bs.getD ps 0) &&& (255 : Int32)) &&& (127 : Int32)).toInt64) <<< ((0 : Int32).toInt64 &&& 63))) ||| (((((bs.getD (ps + 1) 0) &&& (255 : Int32)) &&& (127 : Int32)).toInt64) <<< ((7 : Int32).toInt64 &&& 63))) ||| (((((bs.getD (ps + 2) 0) &&& (255 : Int32)) &&& (127 : Int32)).toInt64) <<< ((14 : Int32).toInt64 &&& 63))) ||| (((((bs.getD (ps + 3) 0) &&& (255 : Int32)) &&& (127 : Int32)).toInt64) <<< ((21 : Int32).toInt64 &&& 63))) ||| (((((bs.getD (ps + 4) 0) &&& (255 : Int32)) &&& (127 : Int32)).toInt64) <<< ((28 : Int32).toInt64 &&& 63))) ||| (((((bs.getD (ps + 5) 0) &&& (255 : Int32)) &&& (127 : Int32)).toInt64) <<< ((35 : Int32).toInt64 &&& 63)))), .second, .val (.int (42 : Int32)), .val (.int ((bs.getD (ps + 5) 0) &&& (255 : Int32)))] [(.int (Int32.ofNat (ps + 7))), (.ref r0), (.int (Int32.ofNat (ps + 6))), (.ref r9)]
              refine Gol.putF X40 hx hby hZ hown (host := "") (Or.inl (hw _ (List.mem_of_getElem? (i := 27) rfl))) Via.refl e40 F_r0_position E_r0 (Or.inl (hw _ (List.mem_of_getElem? (i := 28) rfl))) (hw _ (List.mem_of_getElem? (i := 17) rfl)) (ty := .int) (by decide) rfl rfl d7_41 (pc' := 44) rfl ?_
              intro T41 h41 X41 e41 W41
              have E_r0 := E_r0.wr W41
              have F_r0_bytes := F_r0_bytes.other W41 (Or.inr (slot_ne (Or.inr (hw _ (List.mem_of_getElem? (i := 26) rfl))) (Or.inl (hw _ (List.mem_of_getElem? (i := 28) rfl))) (by decide) (t := (.array .byte)) (t' := .int) (by decide) (by decide)))
              have F_r0_position := F_r0_position.same W41
              have F_r0_end := F_r0_end.other W41 (Or.inr (slot_ne (Or.inr (hw _ (List.mem_of_getElem? (i := 30) rfl))) (Or.inl (hw _ (List.mem_of_getElem? (i := 28) rfl))) (by decide) (t := .int) (t' := .int) (by decide) (by decide)))
              have V_r9 := V_r9.other W41 ne_r0_r9.symm
              have K := K.wr W41 (Or.inl (List.mem_of_getElem? (i := 0) rfl))
              have Zs := Nat.le_trans Zs (Keep.of_wr W41).1
              have N41 := Fr.snoc X41 N35 g_r0
              refine Gol.baload X41 hx hby hZ e41 V_r9 d7_44 (pc' := 45) rfl (own_in (by omega)) (v := (bs.getD (ps + 6) 0)) (own_at bs (by omega)) ?_
              refine Gol.sipush X41 hx hby d7_45 (pc' := 48) rfl (z := (255 : Int32)) rfl ?_
              refine Gol.iand X41 hx hby d7_48 (pc' := 49) rfl rfl ?_
              refine Gol.istore X41 hx hby d7_49 (pc' := 51) rfl (l' := #[.val (.ref r0), .val (.long (((((((0 : Int64) ||| (((((bs.getD ps 0) &&& (255 : Int32)) &&& (127 : Int32)).toInt64) <<< ((0 : Int32).toInt64 &&& 63))) ||| (((((bs.getD (ps + 1) 0) &&& (255 : Int32)) &&& (127 : Int32)).toInt64) <<< ((7 : Int32).toInt64 &&& 63))) ||| (((((bs.getD (ps + 2) 0) &&& (255 : Int32)) &&& (127 : Int32)).toInt64) <<< ((14 : Int32).toInt64 &&& 63))) ||| (((((bs.getD (ps + 3) 0) &&& (255 : Int32)) &&& (127 : Int32)).toInt64) <<< ((21 : Int32).toInt64 &&& 63))) ||| (((((bs.getD (ps + 4) 0) &&& (255 : Int32)) &&& (127 : Int32)).toInt64) <<< ((28 : Int32).toInt64 &&& 63))) ||| (((((bs.getD (ps + 5) 0) &&& (255 : Int32)) &&& (127 : Int32)).toInt64) <<< ((35 : Int32).toInt64 &&& 63)))), .second, .val (.int (42 : Int32)), .val (.int ((bs.getD (ps + 6) 0) &&& (255 : Int32)))]) rfl ?_
              refine Gol.lloadN X41 hx hby d7_51 (pc' := 52) rfl rfl ?_
              refine Gol.iload X41 hx hby d7_52 (pc' := 54) rfl rfl ?_
              refine Gol.bipush X41 hx hby d7_54 (pc' := 56) rfl (z := (127 : Int32)) rfl ?_
              refine Gol.iand X41 hx hby d7_56 (pc' := 57) rfl rfl ?_
              refine Gol.i2l X41 hx hby d7_57 (pc' := 58) rfl rfl ?_
              refine Gol.iloadN X41 hx hby d7_58 (pc' := 59) rfl rfl ?_
              refine Gol.lshl X41 hx hby d7_59 (pc' := 60) rfl rfl ?_
              refine Gol.lor X41 hx hby d7_60 (pc' := 61) rfl rfl ?_
              refine Gol.lstoreN X41 hx hby d7_61 (pc' := 62) rfl (l' := #[.val (.ref r0), .val (.long ((((((((0 : Int64) ||| (((((bs.getD ps 0) &&& (255 : Int32)) &&& (127 : Int32)).toInt64) <<< ((0 : Int32).toInt64 &&& 63))) ||| (((((bs.getD (ps + 1) 0) &&& (255 : Int32)) &&& (127 : Int32)).toInt64) <<< ((7 : Int32).toInt64 &&& 63))) ||| (((((bs.getD (ps + 2) 0) &&& (255 : Int32)) &&& (127 : Int32)).toInt64) <<< ((14 : Int32).toInt64 &&& 63))) ||| (((((bs.getD (ps + 3) 0) &&& (255 : Int32)) &&& (127 : Int32)).toInt64) <<< ((21 : Int32).toInt64 &&& 63))) ||| (((((bs.getD (ps + 4) 0) &&& (255 : Int32)) &&& (127 : Int32)).toInt64) <<< ((28 : Int32).toInt64 &&& 63))) ||| (((((bs.getD (ps + 5) 0) &&& (255 : Int32)) &&& (127 : Int32)).toInt64) <<< ((35 : Int32).toInt64 &&& 63))) ||| (((((bs.getD (ps + 6) 0) &&& (255 : Int32)) &&& (127 : Int32)).toInt64) <<< ((42 : Int32).toInt64 &&& 63)))), .second, .val (.int (42 : Int32)), .val (.int ((bs.getD (ps + 6) 0) &&& (255 : Int32)))]) rfl ?_
              refine Gol.iload X41 hx hby d7_62 (pc' := 64) rfl rfl ?_
              refine Gol.sipush X41 hx hby d7_64 (pc' := 67) rfl (z := (128 : Int32)) rfl ?_
              refine Gol.iand X41 hx hby d7_67 (pc' := 68) rfl rfl ?_
              by_cases hc68_42 : (((bs.getD (ps + 6) 0) &&& (255 : Int32)) &&& (128 : Int32)) = (0 : Int32)
              · skip
                refine Gol.ifNo X41 hx hby d7_68 (pc' := 71) rfl ((if0 _ _).trans (teq hc68_42).2) ?_
                refine Gol.iloadN X41 hx hby d7_71 (pc' := 72) rfl rfl ?_
                refine Gol.bipush X41 hx hby d7_72 (pc' := 74) rfl (z := (63 : Int32)) rfl ?_
                refine Gol.icmpYes X41 hx hby d7_74 (pc' := 88) (by decide) (feq (by decide : ¬ ((42 : Int32) = (63 : Int32)))).2 ?_
                refine Gol.lloadN X41 hx hby d7_88 (pc' := 89) rfl rfl ?_
                have hv : own_rn bs ps = ((((((((0 : Int64) ||| (((((bs.getD ps 0) &&& (255 : Int32)) &&& (127 : Int32)).toInt64) <<< ((0 : Int32).toInt64 &&& 63))) ||| (((((bs.getD (ps + 1) 0) &&& (255 : Int32)) &&& (127 : Int32)).toInt64) <<< ((7 : Int32).toInt64 &&& 63))) ||| (((((bs.getD (ps + 2) 0) &&& (255 : Int32)) &&& (127 : Int32)).toInt64) <<< ((14 : Int32).toInt64 &&& 63))) ||| (((((bs.getD (ps + 3) 0) &&& (255 : Int32)) &&& (127 : Int32)).toInt64) <<< ((21 : Int32).toInt64 &&& 63))) ||| (((((bs.getD (ps + 4) 0) &&& (255 : Int32)) &&& (127 : Int32)).toInt64) <<< ((28 : Int32).toInt64 &&& 63))) ||| (((((bs.getD (ps + 5) 0) &&& (255 : Int32)) &&& (127 : Int32)).toInt64) <<< ((35 : Int32).toInt64 &&& 63))) ||| (((((bs.getD (ps + 6) 0) &&& (255 : Int32)) &&& (127 : Int32)).toInt64) <<< ((42 : Int32).toInt64 &&& 63))) := by
                  unfold own_rn
                  rw [if_neg hc68_6, if_neg hc68_12, if_neg hc68_18, if_neg hc68_24, if_neg hc68_30, if_neg hc68_36, if_pos hc68_42]
                have hu : own_cn bs ps = 7 := by
                  unfold own_cn
                  rw [if_neg hc68_6, if_neg hc68_12, if_neg hc68_18, if_neg hc68_24, if_neg hc68_30, if_neg hc68_36, if_pos hc68_42]
                exact Gol.retL X41 hx hby Bd.returns Bd.notSynchronized d7_89 e41 (by unfold Q7; rw [hv, hu]; exact ⟨rfl, N41, K, ⟨E_r0, F_r0_bytes, F_r0_position, F_r0_end⟩⟩) (by decide) (by decide)
              · skip
                refine Gol.ifYes X41 hx hby d7_68 (pc' := 90) (by decide) ((if0 _ _).trans (feq hc68_42).2) ?_
                refine Gol.iinc X41 hx hby d7_90 (pc' := 93) rfl rfl (l' := #[.val (.ref r0), .val (.long ((((((((0 : Int64) ||| (((((bs.getD ps 0) &&& (255 : Int32)) &&& (127 : Int32)).toInt64) <<< ((0 : Int32).toInt64 &&& 63))) ||| (((((bs.getD (ps + 1) 0) &&& (255 : Int32)) &&& (127 : Int32)).toInt64) <<< ((7 : Int32).toInt64 &&& 63))) ||| (((((bs.getD (ps + 2) 0) &&& (255 : Int32)) &&& (127 : Int32)).toInt64) <<< ((14 : Int32).toInt64 &&& 63))) ||| (((((bs.getD (ps + 3) 0) &&& (255 : Int32)) &&& (127 : Int32)).toInt64) <<< ((21 : Int32).toInt64 &&& 63))) ||| (((((bs.getD (ps + 4) 0) &&& (255 : Int32)) &&& (127 : Int32)).toInt64) <<< ((28 : Int32).toInt64 &&& 63))) ||| (((((bs.getD (ps + 5) 0) &&& (255 : Int32)) &&& (127 : Int32)).toInt64) <<< ((35 : Int32).toInt64 &&& 63))) ||| (((((bs.getD (ps + 6) 0) &&& (255 : Int32)) &&& (127 : Int32)).toInt64) <<< ((42 : Int32).toInt64 &&& 63)))), .second, .val (.int (49 : Int32)), .val (.int ((bs.getD (ps + 6) 0) &&& (255 : Int32)))]) rfl ?_
                refine Gol.goto X41 hx hby d7_93 (pc' := 4) (by decide) ?_
                refine Gol.iloadN X41 hx hby d7_4 (pc' := 5) rfl rfl ?_
                refine Gol.bipush X41 hx hby d7_5 (pc' := 7) rfl (z := (64 : Int32)) rfl ?_
                refine Gol.icmpNo X41 hx hby d7_7 (pc' := 10) rfl (tlt (by decide : (49 : Int32) < (64 : Int32))).2.1 ?_
                refine Gol.aloadN X41 hx hby d7_10 (pc' := 11) rfl rfl rfl ?_
                refine Gol.getF X41 hx hby hZ hown (host := "") (Or.inl (hw _ (List.mem_of_getElem? (i := 27) rfl))) Via.refl e41 F_r0_position d7_11 (pc' := 14) rfl ?_
                intro T43 X43 e43
                refine Gol.aloadN X43 hx hby d7_14 (pc' := 15) rfl rfl rfl ?_
                refine Gol.getF X43 hx hby hZ hown (host := "") (Or.inl (hw _ (List.mem_of_getElem? (i := 29) rfl))) Via.refl e43 F_r0_end d7_15 (pc' := 18) rfl ?_
                intro T44 X44 e44
                refine Gol.icmpYes X44 hx hby d7_18 (pc' := 29) (by decide) (feq (fun q => absurd (own_inj (by omega) (by omega) q) (by omega))).2 ?_
                refine Gol.aloadN X44 hx hby d7_29 (pc' := 30) rfl rfl rfl ?_
                refine Gol.getF X44 hx hby hZ hown (host := "") (Or.inl (hw _ (List.mem_of_getElem? (i := 25) rfl))) Via.refl e44 F_r0_bytes d7_30 (pc' := 33) rfl ?_
                intro T45 X45 e45
                refine Gol.aloadN X45 hx hby d7_33 (pc' := 34) rfl rfl rfl ?_
                refine Gol.dup X45 hx hby d7_34 (pc' := 35) rfl rfl ?_
                refine Gol.getF X45 hx hby hZ hown (host := "") (Or.inl (hw _ (List.mem_of_getElem? (i := 27) rfl))) Via.refl e45 F_r0_position d7_35 (pc' := 38) rfl ?_
                intro T46 X46 e46
                refine Gol.dupX1 X46 hx hby d7_38 (pc' := 39) rfl rfl rfl ?_
                refine Gol.iconst X46 hx hby d7_39 (pc' := 40) rfl (z := (1 : Int32)) rfl ?_
                refine Gol.iadd X46 hx hby d7_40 (pc' := 41) rfl rfl ?_
                rw [show Int32.ofNat (ps + 7) + (1 : Int32) = Int32.ofNat (ps + 8) from own_addk _ 1]
                show GolF _ _ _ _ _ _ _ T46 m 41 #[.val (.ref r0), .val (.long ((((((((0 : Int64) ||| (((((bs.getD ps 0) &&& (255 : Int32)) &&& (127 : Int32)).toInt64) <<< ((0 : Int32).toInt64 &&& 63))) ||| (((((bs.getD (ps + 1) 0) &&& (255 : Int32)) &&& (127 : Int32)).toInt64) <<< ((7 : Int32).toInt64 &&& 63))) ||| (((((bs.getD (ps + 2) 0) &&& (255 : Int32)) &&& (127 : Int32)).toInt64) <<< ((14 : Int32).toInt64 &&& 63))) ||| (((((bs.getD (ps + 3) 0) &&& (255 : Int32)) &&& (127 : Int32)).toInt64) <<< ((21 : Int32).toInt64 &&& 63))) ||| (((((bs.getD (ps + 4) 0) &&& (255 : Int32)) &&& (127 : Int32)).toInt64) <<< ((28 : Int32).toInt64 &&& 63))) ||| (((((bs.getD (ps + 5) 0) &&& (255 : Int32)) &&& (127 : Int32)).toInt64) <<< ((35 : Int32).toInt64 &&& 63))) ||| (((((bs.getD (ps + 6) 0) &&& (255 : Int32)) &&& (127 : Int32)).toInt64) <<< ((42 : Int32).toInt64 &&& 63)))), .second, .val (.int (49 : Int32)), .val (.int ((bs.getD (ps + 6) 0) &&& (255 : Int32)))] [(.int (Int32.ofNat (ps + 8))), (.ref r0), (.int (Int32.ofNat (ps + 7))), (.ref r9)]
                refine Gol.putF X46 hx hby hZ hown (host := "") (Or.inl (hw _ (List.mem_of_getElem? (i := 27) rfl))) Via.refl e46 F_r0_position E_r0 (Or.inl (hw _ (List.mem_of_getElem? (i := 28) rfl))) (hw _ (List.mem_of_getElem? (i := 17) rfl)) (ty := .int) (by decide) rfl rfl d7_41 (pc' := 44) rfl ?_
                intro T47 h47 X47 e47 W47
                have E_r0 := E_r0.wr W47
                have F_r0_bytes := F_r0_bytes.other W47 (Or.inr (slot_ne (Or.inr (hw _ (List.mem_of_getElem? (i := 26) rfl))) (Or.inl (hw _ (List.mem_of_getElem? (i := 28) rfl))) (by decide) (t := (.array .byte)) (t' := .int) (by decide) (by decide)))
                have F_r0_position := F_r0_position.same W47
                have F_r0_end := F_r0_end.other W47 (Or.inr (slot_ne (Or.inr (hw _ (List.mem_of_getElem? (i := 30) rfl))) (Or.inl (hw _ (List.mem_of_getElem? (i := 28) rfl))) (by decide) (t := .int) (t' := .int) (by decide) (by decide)))
                have V_r9 := V_r9.other W47 ne_r0_r9.symm
                have K := K.wr W47 (Or.inl (List.mem_of_getElem? (i := 0) rfl))
                have Zs := Nat.le_trans Zs (Keep.of_wr W47).1
                have N47 := Fr.snoc X47 N41 g_r0
                refine Gol.baload X47 hx hby hZ e47 V_r9 d7_44 (pc' := 45) rfl (own_in (by omega)) (v := (bs.getD (ps + 7) 0)) (own_at bs (by omega)) ?_
                refine Gol.sipush X47 hx hby d7_45 (pc' := 48) rfl (z := (255 : Int32)) rfl ?_
                refine Gol.iand X47 hx hby d7_48 (pc' := 49) rfl rfl ?_
                refine Gol.istore X47 hx hby d7_49 (pc' := 51) rfl (l' := #[.val (.ref r0), .val (.long ((((((((0 : Int64) ||| (((((bs.getD ps 0) &&& (255 : Int32)) &&& (127 : Int32)).toInt64) <<< ((0 : Int32).toInt64 &&& 63))) ||| (((((bs.getD (ps + 1) 0) &&& (255 : Int32)) &&& (127 : Int32)).toInt64) <<< ((7 : Int32).toInt64 &&& 63))) ||| (((((bs.getD (ps + 2) 0) &&& (255 : Int32)) &&& (127 : Int32)).toInt64) <<< ((14 : Int32).toInt64 &&& 63))) ||| (((((bs.getD (ps + 3) 0) &&& (255 : Int32)) &&& (127 : Int32)).toInt64) <<< ((21 : Int32).toInt64 &&& 63))) ||| (((((bs.getD (ps + 4) 0) &&& (255 : Int32)) &&& (127 : Int32)).toInt64) <<< ((28 : Int32).toInt64 &&& 63))) ||| (((((bs.getD (ps + 5) 0) &&& (255 : Int32)) &&& (127 : Int32)).toInt64) <<< ((35 : Int32).toInt64 &&& 63))) ||| (((((bs.getD (ps + 6) 0) &&& (255 : Int32)) &&& (127 : Int32)).toInt64) <<< ((42 : Int32).toInt64 &&& 63)))), .second, .val (.int (49 : Int32)), .val (.int ((bs.getD (ps + 7) 0) &&& (255 : Int32)))]) rfl ?_
                refine Gol.lloadN X47 hx hby d7_51 (pc' := 52) rfl rfl ?_
                refine Gol.iload X47 hx hby d7_52 (pc' := 54) rfl rfl ?_
                refine Gol.bipush X47 hx hby d7_54 (pc' := 56) rfl (z := (127 : Int32)) rfl ?_
                refine Gol.iand X47 hx hby d7_56 (pc' := 57) rfl rfl ?_
                refine Gol.i2l X47 hx hby d7_57 (pc' := 58) rfl rfl ?_
                refine Gol.iloadN X47 hx hby d7_58 (pc' := 59) rfl rfl ?_
                refine Gol.lshl X47 hx hby d7_59 (pc' := 60) rfl rfl ?_
                refine Gol.lor X47 hx hby d7_60 (pc' := 61) rfl rfl ?_
                refine Gol.lstoreN X47 hx hby d7_61 (pc' := 62) rfl (l' := #[.val (.ref r0), .val (.long (((((((((0 : Int64) ||| (((((bs.getD ps 0) &&& (255 : Int32)) &&& (127 : Int32)).toInt64) <<< ((0 : Int32).toInt64 &&& 63))) ||| (((((bs.getD (ps + 1) 0) &&& (255 : Int32)) &&& (127 : Int32)).toInt64) <<< ((7 : Int32).toInt64 &&& 63))) ||| (((((bs.getD (ps + 2) 0) &&& (255 : Int32)) &&& (127 : Int32)).toInt64) <<< ((14 : Int32).toInt64 &&& 63))) ||| (((((bs.getD (ps + 3) 0) &&& (255 : Int32)) &&& (127 : Int32)).toInt64) <<< ((21 : Int32).toInt64 &&& 63))) ||| (((((bs.getD (ps + 4) 0) &&& (255 : Int32)) &&& (127 : Int32)).toInt64) <<< ((28 : Int32).toInt64 &&& 63))) ||| (((((bs.getD (ps + 5) 0) &&& (255 : Int32)) &&& (127 : Int32)).toInt64) <<< ((35 : Int32).toInt64 &&& 63))) ||| (((((bs.getD (ps + 6) 0) &&& (255 : Int32)) &&& (127 : Int32)).toInt64) <<< ((42 : Int32).toInt64 &&& 63))) ||| (((((bs.getD (ps + 7) 0) &&& (255 : Int32)) &&& (127 : Int32)).toInt64) <<< ((49 : Int32).toInt64 &&& 63)))), .second, .val (.int (49 : Int32)), .val (.int ((bs.getD (ps + 7) 0) &&& (255 : Int32)))]) rfl ?_
                refine Gol.iload X47 hx hby d7_62 (pc' := 64) rfl rfl ?_
                refine Gol.sipush X47 hx hby d7_64 (pc' := 67) rfl (z := (128 : Int32)) rfl ?_
                refine Gol.iand X47 hx hby d7_67 (pc' := 68) rfl rfl ?_
                by_cases hc68_48 : (((bs.getD (ps + 7) 0) &&& (255 : Int32)) &&& (128 : Int32)) = (0 : Int32)
                · skip
                  refine Gol.ifNo X47 hx hby d7_68 (pc' := 71) rfl ((if0 _ _).trans (teq hc68_48).2) ?_
                  refine Gol.iloadN X47 hx hby d7_71 (pc' := 72) rfl rfl ?_
                  refine Gol.bipush X47 hx hby d7_72 (pc' := 74) rfl (z := (63 : Int32)) rfl ?_
                  refine Gol.icmpYes X47 hx hby d7_74 (pc' := 88) (by decide) (feq (by decide : ¬ ((49 : Int32) = (63 : Int32)))).2 ?_
                  refine Gol.lloadN X47 hx hby d7_88 (pc' := 89) rfl rfl ?_
                  have hv : own_rn bs ps = (((((((((0 : Int64) ||| (((((bs.getD ps 0) &&& (255 : Int32)) &&& (127 : Int32)).toInt64) <<< ((0 : Int32).toInt64 &&& 63))) ||| (((((bs.getD (ps + 1) 0) &&& (255 : Int32)) &&& (127 : Int32)).toInt64) <<< ((7 : Int32).toInt64 &&& 63))) ||| (((((bs.getD (ps + 2) 0) &&& (255 : Int32)) &&& (127 : Int32)).toInt64) <<< ((14 : Int32).toInt64 &&& 63))) ||| (((((bs.getD (ps + 3) 0) &&& (255 : Int32)) &&& (127 : Int32)).toInt64) <<< ((21 : Int32).toInt64 &&& 63))) ||| (((((bs.getD (ps + 4) 0) &&& (255 : Int32)) &&& (127 : Int32)).toInt64) <<< ((28 : Int32).toInt64 &&& 63))) ||| (((((bs.getD (ps + 5) 0) &&& (255 : Int32)) &&& (127 : Int32)).toInt64) <<< ((35 : Int32).toInt64 &&& 63))) ||| (((((bs.getD (ps + 6) 0) &&& (255 : Int32)) &&& (127 : Int32)).toInt64) <<< ((42 : Int32).toInt64 &&& 63))) ||| (((((bs.getD (ps + 7) 0) &&& (255 : Int32)) &&& (127 : Int32)).toInt64) <<< ((49 : Int32).toInt64 &&& 63))) := by
                    unfold own_rn
                    rw [if_neg hc68_6, if_neg hc68_12, if_neg hc68_18, if_neg hc68_24, if_neg hc68_30, if_neg hc68_36, if_neg hc68_42, if_pos hc68_48]
                  have hu : own_cn bs ps = 8 := by
                    unfold own_cn
                    rw [if_neg hc68_6, if_neg hc68_12, if_neg hc68_18, if_neg hc68_24, if_neg hc68_30, if_neg hc68_36, if_neg hc68_42, if_pos hc68_48]
                  exact Gol.retL X47 hx hby Bd.returns Bd.notSynchronized d7_89 e47 (by unfold Q7; rw [hv, hu]; exact ⟨rfl, N47, K, ⟨E_r0, F_r0_bytes, F_r0_position, F_r0_end⟩⟩) (by decide) (by decide)
                · skip
                  refine Gol.ifYes X47 hx hby d7_68 (pc' := 90) (by decide) ((if0 _ _).trans (feq hc68_48).2) ?_
                  refine Gol.iinc X47 hx hby d7_90 (pc' := 93) rfl rfl (l' := #[.val (.ref r0), .val (.long (((((((((0 : Int64) ||| (((((bs.getD ps 0) &&& (255 : Int32)) &&& (127 : Int32)).toInt64) <<< ((0 : Int32).toInt64 &&& 63))) ||| (((((bs.getD (ps + 1) 0) &&& (255 : Int32)) &&& (127 : Int32)).toInt64) <<< ((7 : Int32).toInt64 &&& 63))) ||| (((((bs.getD (ps + 2) 0) &&& (255 : Int32)) &&& (127 : Int32)).toInt64) <<< ((14 : Int32).toInt64 &&& 63))) ||| (((((bs.getD (ps + 3) 0) &&& (255 : Int32)) &&& (127 : Int32)).toInt64) <<< ((21 : Int32).toInt64 &&& 63))) ||| (((((bs.getD (ps + 4) 0) &&& (255 : Int32)) &&& (127 : Int32)).toInt64) <<< ((28 : Int32).toInt64 &&& 63))) ||| (((((bs.getD (ps + 5) 0) &&& (255 : Int32)) &&& (127 : Int32)).toInt64) <<< ((35 : Int32).toInt64 &&& 63))) ||| (((((bs.getD (ps + 6) 0) &&& (255 : Int32)) &&& (127 : Int32)).toInt64) <<< ((42 : Int32).toInt64 &&& 63))) ||| (((((bs.getD (ps + 7) 0) &&& (255 : Int32)) &&& (127 : Int32)).toInt64) <<< ((49 : Int32).toInt64 &&& 63)))), .second, .val (.int (56 : Int32)), .val (.int ((bs.getD (ps + 7) 0) &&& (255 : Int32)))]) rfl ?_
                  refine Gol.goto X47 hx hby d7_93 (pc' := 4) (by decide) ?_
                  refine Gol.iloadN X47 hx hby d7_4 (pc' := 5) rfl rfl ?_
                  refine Gol.bipush X47 hx hby d7_5 (pc' := 7) rfl (z := (64 : Int32)) rfl ?_
                  refine Gol.icmpNo X47 hx hby d7_7 (pc' := 10) rfl (tlt (by decide : (56 : Int32) < (64 : Int32))).2.1 ?_
                  refine Gol.aloadN X47 hx hby d7_10 (pc' := 11) rfl rfl rfl ?_
                  refine Gol.getF X47 hx hby hZ hown (host := "") (Or.inl (hw _ (List.mem_of_getElem? (i := 27) rfl))) Via.refl e47 F_r0_position d7_11 (pc' := 14) rfl ?_
                  intro T49 X49 e49
                  refine Gol.aloadN X49 hx hby d7_14 (pc' := 15) rfl rfl rfl ?_
                  refine Gol.getF X49 hx hby hZ hown (host := "") (Or.inl (hw _ (List.mem_of_getElem? (i := 29) rfl))) Via.refl e49 F_r0_end d7_15 (pc' := 18) rfl ?_
                  intro T50 X50 e50
                  refine Gol.icmpYes X50 hx hby d7_18 (pc' := 29) (by decide) (feq (fun q => absurd (own_inj (by omega) (by omega) q) (by omega))).2 ?_
                  refine Gol.aloadN X50 hx hby d7_29 (pc' := 30) rfl rfl rfl ?_
                  refine Gol.getF X50 hx hby hZ hown (host := "") (Or.inl (hw _ (List.mem_of_getElem? (i := 25) rfl))) Via.refl e50 F_r0_bytes d7_30 (pc' := 33) rfl ?_
                  intro T51 X51 e51
                  refine Gol.aloadN X51 hx hby d7_33 (pc' := 34) rfl rfl rfl ?_
                  refine Gol.dup X51 hx hby d7_34 (pc' := 35) rfl rfl ?_
                  refine Gol.getF X51 hx hby hZ hown (host := "") (Or.inl (hw _ (List.mem_of_getElem? (i := 27) rfl))) Via.refl e51 F_r0_position d7_35 (pc' := 38) rfl ?_
                  intro T52 X52 e52
                  refine Gol.dupX1 X52 hx hby d7_38 (pc' := 39) rfl rfl rfl ?_
                  refine Gol.iconst X52 hx hby d7_39 (pc' := 40) rfl (z := (1 : Int32)) rfl ?_
                  refine Gol.iadd X52 hx hby d7_40 (pc' := 41) rfl rfl ?_
                  rw [show Int32.ofNat (ps + 8) + (1 : Int32) = Int32.ofNat (ps + 9) from own_addk _ 1]
                  show GolF _ _ _ _ _ _ _ T52 m 41 #[.val (.ref r0), .val (.long (((((((((0 : Int64) ||| (((((bs.getD ps 0) &&& (255 : Int32)) &&& (127 : Int32)).toInt64) <<< ((0 : Int32).toInt64 &&& 63))) ||| (((((bs.getD (ps + 1) 0) &&& (255 : Int32)) &&& (127 : Int32)).toInt64) <<< ((7 : Int32).toInt64 &&& 63))) ||| (((((bs.getD (ps + 2) 0) &&& (255 : Int32)) &&& (127 : Int32)).toInt64) <<< ((14 : Int32).toInt64 &&& 63))) ||| (((((bs.getD (ps + 3) 0) &&& (255 : Int32)) &&& (127 : Int32)).toInt64) <<< ((21 : Int32).toInt64 &&& 63))) ||| (((((bs.getD (ps + 4) 0) &&& (255 : Int32)) &&& (127 : Int32)).toInt64) <<< ((28 : Int32).toInt64 &&& 63))) ||| (((((bs.getD (ps + 5) 0) &&& (255 : Int32)) &&& (127 : Int32)).toInt64) <<< ((35 : Int32).toInt64 &&& 63))) ||| (((((bs.getD (ps + 6) 0) &&& (255 : Int32)) &&& (127 : Int32)).toInt64) <<< ((42 : Int32).toInt64 &&& 63))) ||| (((((bs.getD (ps + 7) 0) &&& (255 : Int32)) &&& (127 : Int32)).toInt64) <<< ((49 : Int32).toInt64 &&& 63)))), .second, .val (.int (56 : Int32)), .val (.int ((bs.getD (ps + 7) 0) &&& (255 : Int32)))] [(.int (Int32.ofNat (ps + 9))), (.ref r0), (.int (Int32.ofNat (ps + 8))), (.ref r9)]
                  refine Gol.putF X52 hx hby hZ hown (host := "") (Or.inl (hw _ (List.mem_of_getElem? (i := 27) rfl))) Via.refl e52 F_r0_position E_r0 (Or.inl (hw _ (List.mem_of_getElem? (i := 28) rfl))) (hw _ (List.mem_of_getElem? (i := 17) rfl)) (ty := .int) (by decide) rfl rfl d7_41 (pc' := 44) rfl ?_
                  intro T53 h53 X53 e53 W53
                  have E_r0 := E_r0.wr W53
                  have F_r0_bytes := F_r0_bytes.other W53 (Or.inr (slot_ne (Or.inr (hw _ (List.mem_of_getElem? (i := 26) rfl))) (Or.inl (hw _ (List.mem_of_getElem? (i := 28) rfl))) (by decide) (t := (.array .byte)) (t' := .int) (by decide) (by decide)))
                  have F_r0_position := F_r0_position.same W53
                  have F_r0_end := F_r0_end.other W53 (Or.inr (slot_ne (Or.inr (hw _ (List.mem_of_getElem? (i := 30) rfl))) (Or.inl (hw _ (List.mem_of_getElem? (i := 28) rfl))) (by decide) (t := .int) (t' := .int) (by decide) (by decide)))
                  have V_r9 := V_r9.other W53 ne_r0_r9.symm
                  have K := K.wr W53 (Or.inl (List.mem_of_getElem? (i := 0) rfl))
                  have Zs := Nat.le_trans Zs (Keep.of_wr W53).1
                  have N53 := Fr.snoc X53 N47 g_r0
                  refine Gol.baload X53 hx hby hZ e53 V_r9 d7_44 (pc' := 45) rfl (own_in (by omega)) (v := (bs.getD (ps + 8) 0)) (own_at bs (by omega)) ?_
                  refine Gol.sipush X53 hx hby d7_45 (pc' := 48) rfl (z := (255 : Int32)) rfl ?_
                  refine Gol.iand X53 hx hby d7_48 (pc' := 49) rfl rfl ?_
                  refine Gol.istore X53 hx hby d7_49 (pc' := 51) rfl (l' := #[.val (.ref r0), .val (.long (((((((((0 : Int64) ||| (((((bs.getD ps 0) &&& (255 : Int32)) &&& (127 : Int32)).toInt64) <<< ((0 : Int32).toInt64 &&& 63))) ||| (((((bs.getD (ps + 1) 0) &&& (255 : Int32)) &&& (127 : Int32)).toInt64) <<< ((7 : Int32).toInt64 &&& 63))) ||| (((((bs.getD (ps + 2) 0) &&& (255 : Int32)) &&& (127 : Int32)).toInt64) <<< ((14 : Int32).toInt64 &&& 63))) ||| (((((bs.getD (ps + 3) 0) &&& (255 : Int32)) &&& (127 : Int32)).toInt64) <<< ((21 : Int32).toInt64 &&& 63))) ||| (((((bs.getD (ps + 4) 0) &&& (255 : Int32)) &&& (127 : Int32)).toInt64) <<< ((28 : Int32).toInt64 &&& 63))) ||| (((((bs.getD (ps + 5) 0) &&& (255 : Int32)) &&& (127 : Int32)).toInt64) <<< ((35 : Int32).toInt64 &&& 63))) ||| (((((bs.getD (ps + 6) 0) &&& (255 : Int32)) &&& (127 : Int32)).toInt64) <<< ((42 : Int32).toInt64 &&& 63))) ||| (((((bs.getD (ps + 7) 0) &&& (255 : Int32)) &&& (127 : Int32)).toInt64) <<< ((49 : Int32).toInt64 &&& 63)))), .second, .val (.int (56 : Int32)), .val (.int ((bs.getD (ps + 8) 0) &&& (255 : Int32)))]) rfl ?_
                  refine Gol.lloadN X53 hx hby d7_51 (pc' := 52) rfl rfl ?_
                  refine Gol.iload X53 hx hby d7_52 (pc' := 54) rfl rfl ?_
                  refine Gol.bipush X53 hx hby d7_54 (pc' := 56) rfl (z := (127 : Int32)) rfl ?_
                  refine Gol.iand X53 hx hby d7_56 (pc' := 57) rfl rfl ?_
                  refine Gol.i2l X53 hx hby d7_57 (pc' := 58) rfl rfl ?_
                  refine Gol.iloadN X53 hx hby d7_58 (pc' := 59) rfl rfl ?_
                  refine Gol.lshl X53 hx hby d7_59 (pc' := 60) rfl rfl ?_
                  refine Gol.lor X53 hx hby d7_60 (pc' := 61) rfl rfl ?_
                  refine Gol.lstoreN X53 hx hby d7_61 (pc' := 62) rfl (l' := #[.val (.ref r0), .val (.long ((((((((((0 : Int64) ||| (((((bs.getD ps 0) &&& (255 : Int32)) &&& (127 : Int32)).toInt64) <<< ((0 : Int32).toInt64 &&& 63))) ||| (((((bs.getD (ps + 1) 0) &&& (255 : Int32)) &&& (127 : Int32)).toInt64) <<< ((7 : Int32).toInt64 &&& 63))) ||| (((((bs.getD (ps + 2) 0) &&& (255 : Int32)) &&& (127 : Int32)).toInt64) <<< ((14 : Int32).toInt64 &&& 63))) ||| (((((bs.getD (ps + 3) 0) &&& (255 : Int32)) &&& (127 : Int32)).toInt64) <<< ((21 : Int32).toInt64 &&& 63))) ||| (((((bs.getD (ps + 4) 0) &&& (255 : Int32)) &&& (127 : Int32)).toInt64) <<< ((28 : Int32).toInt64 &&& 63))) ||| (((((bs.getD (ps + 5) 0) &&& (255 : Int32)) &&& (127 : Int32)).toInt64) <<< ((35 : Int32).toInt64 &&& 63))) ||| (((((bs.getD (ps + 6) 0) &&& (255 : Int32)) &&& (127 : Int32)).toInt64) <<< ((42 : Int32).toInt64 &&& 63))) ||| (((((bs.getD (ps + 7) 0) &&& (255 : Int32)) &&& (127 : Int32)).toInt64) <<< ((49 : Int32).toInt64 &&& 63))) ||| (((((bs.getD (ps + 8) 0) &&& (255 : Int32)) &&& (127 : Int32)).toInt64) <<< ((56 : Int32).toInt64 &&& 63)))), .second, .val (.int (56 : Int32)), .val (.int ((bs.getD (ps + 8) 0) &&& (255 : Int32)))]) rfl ?_
                  refine Gol.iload X53 hx hby d7_62 (pc' := 64) rfl rfl ?_
                  refine Gol.sipush X53 hx hby d7_64 (pc' := 67) rfl (z := (128 : Int32)) rfl ?_
                  refine Gol.iand X53 hx hby d7_67 (pc' := 68) rfl rfl ?_
                  by_cases hc68_54 : (((bs.getD (ps + 8) 0) &&& (255 : Int32)) &&& (128 : Int32)) = (0 : Int32)
                  · skip
                    refine Gol.ifNo X53 hx hby d7_68 (pc' := 71) rfl ((if0 _ _).trans (teq hc68_54).2) ?_
                    refine Gol.iloadN X53 hx hby d7_71 (pc' := 72) rfl rfl ?_
                    refine Gol.bipush X53 hx hby d7_72 (pc' := 74) rfl (z := (63 : Int32)) rfl ?_
                    refine Gol.icmpYes X53 hx hby d7_74 (pc' := 88) (by decide) (feq (by decide : ¬ ((56 : Int32) = (63 : Int32)))).2 ?_
                    refine Gol.lloadN X53 hx hby d7_88 (pc' := 89) rfl rfl ?_
                    have hv : own_rn bs ps = ((((((((((0 : Int64) ||| (((((bs.getD ps 0) &&& (255 : Int32)) &&& (127 : Int32)).toInt64) <<< ((0 : Int32).toInt64 &&& 63))) ||| (((((bs.getD (ps + 1) 0) &&& (255 : Int32)) &&& (127 : Int32)).toInt64) <<< ((7 : Int32).toInt64 &&& 63))) ||| (((((bs.getD (ps + 2) 0) &&& (255 : Int32)) &&& (127 : Int32)).toInt64) <<< ((14 : Int32).toInt64 &&& 63))) ||| (((((bs.getD (ps + 3) 0) &&& (255 : Int32)) &&& (127 : Int32)).toInt64) <<< ((21 : Int32).toInt64 &&& 63))) ||| (((((bs.getD (ps + 4) 0) &&& (255 : Int32)) &&& (127 : Int32)).toInt64) <<< ((28 : Int32).toInt64 &&& 63))) ||| (((((bs.getD (ps + 5) 0) &&& (255 : Int32)) &&& (127 : Int32)).toInt64) <<< ((35 : Int32).toInt64 &&& 63))) ||| (((((bs.getD (ps + 6) 0) &&& (255 : Int32)) &&& (127 : Int32)).toInt64) <<< ((42 : Int32).toInt64 &&& 63))) ||| (((((bs.getD (ps + 7) 0) &&& (255 : Int32)) &&& (127 : Int32)).toInt64) <<< ((49 : Int32).toInt64 &&& 63))) ||| (((((bs.getD (ps + 8) 0) &&& (255 : Int32)) &&& (127 : Int32)).toInt64) <<< ((56 : Int32).toInt64 &&& 63))) := by
                      unfold own_rn
                      rw [if_neg hc68_6, if_neg hc68_12, if_neg hc68_18, if_neg hc68_24, if_neg hc68_30, if_neg hc68_36, if_neg hc68_42, if_neg hc68_48, if_pos hc68_54]
                    have hu : own_cn bs ps = 9 := by
                      unfold own_cn
                      rw [if_neg hc68_6, if_neg hc68_12, if_neg hc68_18, if_neg hc68_24, if_neg hc68_30, if_neg hc68_36, if_neg hc68_42, if_neg hc68_48, if_pos hc68_54]
                    exact Gol.retL X53 hx hby Bd.returns Bd.notSynchronized d7_89 e53 (by unfold Q7; rw [hv, hu]; exact ⟨rfl, N53, K, ⟨E_r0, F_r0_bytes, F_r0_position, F_r0_end⟩⟩) (by decide) (by decide)
                  · skip
                    refine Gol.ifYes X53 hx hby d7_68 (pc' := 90) (by decide) ((if0 _ _).trans (feq hc68_54).2) ?_
                    refine Gol.iinc X53 hx hby d7_90 (pc' := 93) rfl rfl (l' := #[.val (.ref r0), .val (.long ((((((((((0 : Int64) ||| (((((bs.getD ps 0) &&& (255 : Int32)) &&& (127 : Int32)).toInt64) <<< ((0 : Int32).toInt64 &&& 63))) ||| (((((bs.getD (ps + 1) 0) &&& (255 : Int32)) &&& (127 : Int32)).toInt64) <<< ((7 : Int32).toInt64 &&& 63))) ||| (((((bs.getD (ps + 2) 0) &&& (255 : Int32)) &&& (127 : Int32)).toInt64) <<< ((14 : Int32).toInt64 &&& 63))) ||| (((((bs.getD (ps + 3) 0) &&& (255 : Int32)) &&& (127 : Int32)).toInt64) <<< ((21 : Int32).toInt64 &&& 63))) ||| (((((bs.getD (ps + 4) 0) &&& (255 : Int32)) &&& (127 : Int32)).toInt64) <<< ((28 : Int32).toInt64 &&& 63))) ||| (((((bs.getD (ps + 5) 0) &&& (255 : Int32)) &&& (127 : Int32)).toInt64) <<< ((35 : Int32).toInt64 &&& 63))) ||| (((((bs.getD (ps + 6) 0) &&& (255 : Int32)) &&& (127 : Int32)).toInt64) <<< ((42 : Int32).toInt64 &&& 63))) ||| (((((bs.getD (ps + 7) 0) &&& (255 : Int32)) &&& (127 : Int32)).toInt64) <<< ((49 : Int32).toInt64 &&& 63))) ||| (((((bs.getD (ps + 8) 0) &&& (255 : Int32)) &&& (127 : Int32)).toInt64) <<< ((56 : Int32).toInt64 &&& 63)))), .second, .val (.int (63 : Int32)), .val (.int ((bs.getD (ps + 8) 0) &&& (255 : Int32)))]) rfl ?_
                    refine Gol.goto X53 hx hby d7_93 (pc' := 4) (by decide) ?_
                    refine Gol.iloadN X53 hx hby d7_4 (pc' := 5) rfl rfl ?_
                    refine Gol.bipush X53 hx hby d7_5 (pc' := 7) rfl (z := (64 : Int32)) rfl ?_
                    refine Gol.icmpNo X53 hx hby d7_7 (pc' := 10) rfl (tlt (by decide : (63 : Int32) < (64 : Int32))).2.1 ?_
                    refine Gol.aloadN X53 hx hby d7_10 (pc' := 11) rfl rfl rfl ?_
                    refine Gol.getF X53 hx hby hZ hown (host := "") (Or.inl (hw _ (List.mem_of_getElem? (i := 27) rfl))) Via.refl e53 F_r0_position d7_11 (pc' := 14) rfl ?_
                    intro T55 X55 e55
                    refine Gol.aloadN X55 hx hby d7_14 (pc' := 15) rfl rfl rfl ?_
                    refine Gol.getF X55 hx hby hZ hown (host := "") (Or.inl (hw _ (List.mem_of_getElem? (i := 29) rfl))) Via.refl e55 F_r0_end d7_15 (pc' := 18) rfl ?_
                    intro T56 X56 e56
                    refine Gol.icmpYes X56 hx hby d7_18 (pc' := 29) (by decide) (feq (fun q => absurd (own_inj (by omega) (by omega) q) (by omega))).2 ?_
                    refine Gol.aloadN X56 hx hby d7_29 (pc' := 30) rfl rfl rfl ?_
                    refine Gol.getF X56 hx hby hZ hown (host := "") (Or.inl (hw _ (List.mem_of_getElem? (i := 25) rfl))) Via.refl e56 F_r0_bytes d7_30 (pc' := 33) rfl ?_
                    intro T57 X57 e57
                    refine Gol.aloadN X57 hx hby d7_33 (pc' := 34) rfl rfl rfl ?_
                    refine Gol.dup X57 hx hby d7_34 (pc' := 35) rfl rfl ?_
                    refine Gol.getF X57 hx hby hZ hown (host := "") (Or.inl (hw _ (List.mem_of_getElem? (i := 27) rfl))) Via.refl e57 F_r0_position d7_35 (pc' := 38) rfl ?_
                    intro T58 X58 e58
                    refine Gol.dupX1 X58 hx hby d7_38 (pc' := 39) rfl rfl rfl ?_
                    refine Gol.iconst X58 hx hby d7_39 (pc' := 40) rfl (z := (1 : Int32)) rfl ?_
                    refine Gol.iadd X58 hx hby d7_40 (pc' := 41) rfl rfl ?_
                    rw [show Int32.ofNat (ps + 9) + (1 : Int32) = Int32.ofNat (ps + 10) from own_addk _ 1]
                    show GolF _ _ _ _ _ _ _ T58 m 41 #[.val (.ref r0), .val (.long ((((((((((0 : Int64) ||| (((((bs.getD ps 0) &&& (255 : Int32)) &&& (127 : Int32)).toInt64) <<< ((0 : Int32).toInt64 &&& 63))) ||| (((((bs.getD (ps + 1) 0) &&& (255 : Int32)) &&& (127 : Int32)).toInt64) <<< ((7 : Int32).toInt64 &&& 63))) ||| (((((bs.getD (ps + 2) 0) &&& (255 : Int32)) &&& (127 : Int32)).toInt64) <<< ((14 : Int32).toInt64 &&& 63))) ||| (((((bs.getD (ps + 3) 0) &&& (255 : Int32)) &&& (127 : Int32)).toInt64) <<< ((21 : Int32).toInt64 &&& 63))) ||| (((((bs.getD (ps + 4) 0) &&& (255 : Int32)) &&& (127 : Int32)).toInt64) <<< ((28 : Int32).toInt64 &&& 63))) ||| (((((bs.getD (ps + 5) 0) &&& (255 : Int32)) &&& (127 : Int32)).toInt64) <<< ((35 : Int32).toInt64 &&& 63))) ||| (((((bs.getD (ps + 6) 0) &&& (255 : Int32)) &&& (127 : Int32)).toInt64) <<< ((42 : Int32).toInt64 &&& 63))) ||| (((((bs.getD (ps + 7) 0) &&& (255 : Int32)) &&& (127 : Int32)).toInt64) <<< ((49 : Int32).toInt64 &&& 63))) ||| (((((bs.getD (ps + 8) 0) &&& (255 : Int32)) &&& (127 : Int32)).toInt64) <<< ((56 : Int32).toInt64 &&& 63)))), .second, .val (.int (63 : Int32)), .val (.int ((bs.getD (ps + 8) 0) &&& (255 : Int32)))] [(.int (Int32.ofNat (ps + 10))), (.ref r0), (.int (Int32.ofNat (ps + 9))), (.ref r9)]
                    refine Gol.putF X58 hx hby hZ hown (host := "") (Or.inl (hw _ (List.mem_of_getElem? (i := 27) rfl))) Via.refl e58 F_r0_position E_r0 (Or.inl (hw _ (List.mem_of_getElem? (i := 28) rfl))) (hw _ (List.mem_of_getElem? (i := 17) rfl)) (ty := .int) (by decide) rfl rfl d7_41 (pc' := 44) rfl ?_
                    intro T59 h59 X59 e59 W59
                    have E_r0 := E_r0.wr W59
                    have F_r0_bytes := F_r0_bytes.other W59 (Or.inr (slot_ne (Or.inr (hw _ (List.mem_of_getElem? (i := 26) rfl))) (Or.inl (hw _ (List.mem_of_getElem? (i := 28) rfl))) (by decide) (t := (.array .byte)) (t' := .int) (by decide) (by decide)))
                    have F_r0_position := F_r0_position.same W59
                    have F_r0_end := F_r0_end.other W59 (Or.inr (slot_ne (Or.inr (hw _ (List.mem_of_getElem? (i := 30) rfl))) (Or.inl (hw _ (List.mem_of_getElem? (i := 28) rfl))) (by decide) (t := .int) (t' := .int) (by decide) (by decide)))
                    have V_r9 := V_r9.other W59 ne_r0_r9.symm
                    have K := K.wr W59 (Or.inl (List.mem_of_getElem? (i := 0) rfl))
                    have Zs := Nat.le_trans Zs (Keep.of_wr W59).1
                    have N59 := Fr.snoc X59 N53 g_r0
                    refine Gol.baload X59 hx hby hZ e59 V_r9 d7_44 (pc' := 45) rfl (own_in (by omega)) (v := (bs.getD (ps + 9) 0)) (own_at bs (by omega)) ?_
                    refine Gol.sipush X59 hx hby d7_45 (pc' := 48) rfl (z := (255 : Int32)) rfl ?_
                    refine Gol.iand X59 hx hby d7_48 (pc' := 49) rfl rfl ?_
                    refine Gol.istore X59 hx hby d7_49 (pc' := 51) rfl (l' := #[.val (.ref r0), .val (.long ((((((((((0 : Int64) ||| (((((bs.getD ps 0) &&& (255 : Int32)) &&& (127 : Int32)).toInt64) <<< ((0 : Int32).toInt64 &&& 63))) ||| (((((bs.getD (ps + 1) 0) &&& (255 : Int32)) &&& (127 : Int32)).toInt64) <<< ((7 : Int32).toInt64 &&& 63))) ||| (((((bs.getD (ps + 2) 0) &&& (255 : Int32)) &&& (127 : Int32)).toInt64) <<< ((14 : Int32).toInt64 &&& 63))) ||| (((((bs.getD (ps + 3) 0) &&& (255 : Int32)) &&& (127 : Int32)).toInt64) <<< ((21 : Int32).toInt64 &&& 63))) ||| (((((bs.getD (ps + 4) 0) &&& (255 : Int32)) &&& (127 : Int32)).toInt64) <<< ((28 : Int32).toInt64 &&& 63))) ||| (((((bs.getD (ps + 5) 0) &&& (255 : Int32)) &&& (127 : Int32)).toInt64) <<< ((35 : Int32).toInt64 &&& 63))) ||| (((((bs.getD (ps + 6) 0) &&& (255 : Int32)) &&& (127 : Int32)).toInt64) <<< ((42 : Int32).toInt64 &&& 63))) ||| (((((bs.getD (ps + 7) 0) &&& (255 : Int32)) &&& (127 : Int32)).toInt64) <<< ((49 : Int32).toInt64 &&& 63))) ||| (((((bs.getD (ps + 8) 0) &&& (255 : Int32)) &&& (127 : Int32)).toInt64) <<< ((56 : Int32).toInt64 &&& 63)))), .second, .val (.int (63 : Int32)), .val (.int ((bs.getD (ps + 9) 0) &&& (255 : Int32)))]) rfl ?_
                    refine Gol.lloadN X59 hx hby d7_51 (pc' := 52) rfl rfl ?_
                    refine Gol.iload X59 hx hby d7_52 (pc' := 54) rfl rfl ?_
                    refine Gol.bipush X59 hx hby d7_54 (pc' := 56) rfl (z := (127 : Int32)) rfl ?_
                    refine Gol.iand X59 hx hby d7_56 (pc' := 57) rfl rfl ?_
                    refine Gol.i2l X59 hx hby d7_57 (pc' := 58) rfl rfl ?_
                    refine Gol.iloadN X59 hx hby d7_58 (pc' := 59) rfl rfl ?_
                    refine Gol.lshl X59 hx hby d7_59 (pc' := 60) rfl rfl ?_
                    refine Gol.lor X59 hx hby d7_60 (pc' := 61) rfl rfl ?_
                    refine Gol.lstoreN X59 hx hby d7_61 (pc' := 62) rfl (l' := #[.val (.ref r0), .val (.long (((((((((((0 : Int64) ||| (((((bs.getD ps 0) &&& (255 : Int32)) &&& (127 : Int32)).toInt64) <<< ((0 : Int32).toInt64 &&& 63))) ||| (((((bs.getD (ps + 1) 0) &&& (255 : Int32)) &&& (127 : Int32)).toInt64) <<< ((7 : Int32).toInt64 &&& 63))) ||| (((((bs.getD (ps + 2) 0) &&& (255 : Int32)) &&& (127 : Int32)).toInt64) <<< ((14 : Int32).toInt64 &&& 63))) ||| (((((bs.getD (ps + 3) 0) &&& (255 : Int32)) &&& (127 : Int32)).toInt64) <<< ((21 : Int32).toInt64 &&& 63))) ||| (((((bs.getD (ps + 4) 0) &&& (255 : Int32)) &&& (127 : Int32)).toInt64) <<< ((28 : Int32).toInt64 &&& 63))) ||| (((((bs.getD (ps + 5) 0) &&& (255 : Int32)) &&& (127 : Int32)).toInt64) <<< ((35 : Int32).toInt64 &&& 63))) ||| (((((bs.getD (ps + 6) 0) &&& (255 : Int32)) &&& (127 : Int32)).toInt64) <<< ((42 : Int32).toInt64 &&& 63))) ||| (((((bs.getD (ps + 7) 0) &&& (255 : Int32)) &&& (127 : Int32)).toInt64) <<< ((49 : Int32).toInt64 &&& 63))) ||| (((((bs.getD (ps + 8) 0) &&& (255 : Int32)) &&& (127 : Int32)).toInt64) <<< ((56 : Int32).toInt64 &&& 63))) ||| (((((bs.getD (ps + 9) 0) &&& (255 : Int32)) &&& (127 : Int32)).toInt64) <<< ((63 : Int32).toInt64 &&& 63)))), .second, .val (.int (63 : Int32)), .val (.int ((bs.getD (ps + 9) 0) &&& (255 : Int32)))]) rfl ?_
                    refine Gol.iload X59 hx hby d7_62 (pc' := 64) rfl rfl ?_
                    refine Gol.sipush X59 hx hby d7_64 (pc' := 67) rfl (z := (128 : Int32)) rfl ?_
                    refine Gol.iand X59 hx hby d7_67 (pc' := 68) rfl rfl ?_
                    by_cases hc68_60 : (((bs.getD (ps + 9) 0) &&& (255 : Int32)) &&& (128 : Int32)) = (0 : Int32)
                    · skip
                      refine Gol.ifNo X59 hx hby d7_68 (pc' := 71) rfl ((if0 _ _).trans (teq hc68_60).2) ?_
                      refine Gol.iloadN X59 hx hby d7_71 (pc' := 72) rfl rfl ?_
                      refine Gol.bipush X59 hx hby d7_72 (pc' := 74) rfl (z := (63 : Int32)) rfl ?_
                      refine Gol.icmpNo X59 hx hby d7_74 (pc' := 77) rfl (teq (by decide : (63 : Int32) = (63 : Int32))).2 ?_
                      refine Gol.iload X59 hx hby d7_77 (pc' := 79) rfl rfl ?_
                      by_cases hc79_61 : ((bs.getD (ps + 9) 0) &&& (255 : Int32)) = (0 : Int32)
                      · skip
                        refine Gol.ifYes X59 hx hby d7_79 (pc' := 88) (by decide) ((if0 _ _).trans (teq hc79_61).1) ?_
                        refine Gol.lloadN X59 hx hby d7_88 (pc' := 89) rfl rfl ?_
                        have hv : own_rn bs ps = (((((((((((0 : Int64) ||| (((((bs.getD ps 0) &&& (255 : Int32)) &&& (127 : Int32)).toInt64) <<< ((0 : Int32).toInt64 &&& 63))) ||| (((((bs.getD (ps + 1) 0) &&& (255 : Int32)) &&& (127 : Int32)).toInt64) <<< ((7 : Int32).toInt64 &&& 63))) ||| (((((bs.getD (ps + 2) 0) &&& (255 : Int32)) &&& (127 : Int32)).toInt64) <<< ((14 : Int32).toInt64 &&& 63))) ||| (((((bs.getD (ps + 3) 0) &&& (255 : Int32)) &&& (127 : Int32)).toInt64) <<< ((21 : Int32).toInt64 &&& 63))) ||| (((((bs.getD (ps + 4) 0) &&& (255 : Int32)) &&& (127 : Int32)).toInt64) <<< ((28 : Int32).toInt64 &&& 63))) ||| (((((bs.getD (ps + 5) 0) &&& (255 : Int32)) &&& (127 : Int32)).toInt64) <<< ((35 : Int32).toInt64 &&& 63))) ||| (((((bs.getD (ps + 6) 0) &&& (255 : Int32)) &&& (127 : Int32)).toInt64) <<< ((42 : Int32).toInt64 &&& 63))) ||| (((((bs.getD (ps + 7) 0) &&& (255 : Int32)) &&& (127 : Int32)).toInt64) <<< ((49 : Int32).toInt64 &&& 63))) ||| (((((bs.getD (ps + 8) 0) &&& (255 : Int32)) &&& (127 : Int32)).toInt64) <<< ((56 : Int32).toInt64 &&& 63))) ||| (((((bs.getD (ps + 9) 0) &&& (255 : Int32)) &&& (127 : Int32)).toInt64) <<< ((63 : Int32).toInt64 &&& 63))) := by
                          unfold own_rn
                          rw [if_neg hc68_6, if_neg hc68_12, if_neg hc68_18, if_neg hc68_24, if_neg hc68_30, if_neg hc68_36, if_neg hc68_42, if_neg hc68_48, if_neg hc68_54, if_pos hc68_60, if_pos hc79_61]
                        have hu : own_cn bs ps = 10 := by
                          unfold own_cn
                          rw [if_neg hc68_6, if_neg hc68_12, if_neg hc68_18, if_neg hc68_24, if_neg hc68_30, if_neg hc68_36, if_neg hc68_42, if_neg hc68_48, if_neg hc68_54, if_pos hc68_60, if_pos hc79_61]
                        exact Gol.retL X59 hx hby Bd.returns Bd.notSynchronized d7_89 e59 (by unfold Q7; rw [hv, hu]; exact ⟨rfl, N59, K, ⟨E_r0, F_r0_bytes, F_r0_position, F_r0_end⟩⟩) (by decide) (by decide)
                      · skip
                        refine Gol.ifNo X59 hx hby d7_79 (pc' := 82) rfl ((if0 _ _).trans (feq hc79_61).1) ?_
                        refine Gol.ldc2Long X59 hx hby hZ hown d7_82 (pc' := 85) rfl (hw _ (List.mem_of_getElem? (i := 47) rfl)) ?_
                        refine Gol.goto X59 hx hby d7_85 (pc' := 89) (by decide) ?_
                        have hv : own_rn bs ps = (-1 : Int64) := by
                          unfold own_rn
                          rw [if_neg hc68_6, if_neg hc68_12, if_neg hc68_18, if_neg hc68_24, if_neg hc68_30, if_neg hc68_36, if_neg hc68_42, if_neg hc68_48, if_neg hc68_54, if_pos hc68_60, if_neg hc79_61]
                        have hu : own_cn bs ps = 10 := by
                          unfold own_cn
                          rw [if_neg hc68_6, if_neg hc68_12, if_neg hc68_18, if_neg hc68_24, if_neg hc68_30, if_neg hc68_36, if_neg hc68_42, if_neg hc68_48, if_neg hc68_54, if_pos hc68_60, if_neg hc79_61]
                        exact Gol.retL X59 hx hby Bd.returns Bd.notSynchronized d7_89 e59 (by unfold Q7; rw [hv, hu]; exact ⟨rfl, N59, K, ⟨E_r0, F_r0_bytes, F_r0_position, F_r0_end⟩⟩) (by decide) (by decide)
                    · skip
                      refine Gol.ifYes X59 hx hby d7_68 (pc' := 90) (by decide) ((if0 _ _).trans (feq hc68_60).2) ?_
                      refine Gol.iinc X59 hx hby d7_90 (pc' := 93) rfl rfl (l' := #[.val (.ref r0), .val (.long (((((((((((0 : Int64) ||| (((((bs.getD ps 0) &&& (255 : Int32)) &&& (127 : Int32)).toInt64) <<< ((0 : Int32).toInt64 &&& 63))) ||| (((((bs.getD (ps + 1) 0) &&& (255 : Int32)) &&& (127 : Int32)).toInt64) <<< ((7 : Int32).toInt64 &&& 63))) ||| (((((bs.getD (ps + 2) 0) &&& (255 : Int32)) &&& (127 : Int32)).toInt64) <<< ((14 : Int32).toInt64 &&& 63))) ||| (((((bs.getD (ps + 3) 0) &&& (255 : Int32)) &&& (127 : Int32)).toInt64) <<< ((21 : Int32).toInt64 &&& 63))) ||| (((((bs.getD (ps + 4) 0) &&& (255 : Int32)) &&& (127 : Int32)).toInt64) <<< ((28 : Int32).toInt64 &&& 63))) ||| (((((bs.getD (ps + 5) 0) &&& (255 : Int32)) &&& (127 : Int32)).toInt64) <<< ((35 : Int32).toInt64 &&& 63))) ||| (((((bs.getD (ps + 6) 0) &&& (255 : Int32)) &&& (127 : Int32)).toInt64) <<< ((42 : Int32).toInt64 &&& 63))) ||| (((((bs.getD (ps + 7) 0) &&& (255 : Int32)) &&& (127 : Int32)).toInt64) <<< ((49 : Int32).toInt64 &&& 63))) ||| (((((bs.getD (ps + 8) 0) &&& (255 : Int32)) &&& (127 : Int32)).toInt64) <<< ((56 : Int32).toInt64 &&& 63))) ||| (((((bs.getD (ps + 9) 0) &&& (255 : Int32)) &&& (127 : Int32)).toInt64) <<< ((63 : Int32).toInt64 &&& 63)))), .second, .val (.int (70 : Int32)), .val (.int ((bs.getD (ps + 9) 0) &&& (255 : Int32)))]) rfl ?_
                      refine Gol.goto X59 hx hby d7_93 (pc' := 4) (by decide) ?_
                      refine Gol.iloadN X59 hx hby d7_4 (pc' := 5) rfl rfl ?_
                      refine Gol.bipush X59 hx hby d7_5 (pc' := 7) rfl (z := (64 : Int32)) rfl ?_
                      refine Gol.icmpYes X59 hx hby d7_7 (pc' := 96) (by decide) (flt (by decide : ¬ ((70 : Int32) < (64 : Int32)))).2.1 ?_
                      refine Gol.ldc2Long X59 hx hby hZ hown d7_96 (pc' := 99) rfl (hw _ (List.mem_of_getElem? (i := 47) rfl)) ?_
                      have hv : own_rn bs ps = (-1 : Int64) := by
                        unfold own_rn
                        rw [if_neg hc68_6, if_neg hc68_12, if_neg hc68_18, if_neg hc68_24, if_neg hc68_30, if_neg hc68_36, if_neg hc68_42, if_neg hc68_48, if_neg hc68_54, if_neg hc68_60]
                      have hu : own_cn bs ps = 10 := by
                        unfold own_cn
                        rw [if_neg hc68_6, if_neg hc68_12, if_neg hc68_18, if_neg hc68_24, if_neg hc68_30, if_neg hc68_36, if_neg hc68_42, if_neg hc68_48, if_neg hc68_54, if_neg hc68_60]
                      exact Gol.retL X59 hx hby Bd.returns Bd.notSynchronized d7_99 e59 (by unfold Q7; rw [hv, hu]; exact ⟨rfl, N59, K, ⟨E_r0, F_r0_bytes, F_r0_position, F_r0_end⟩⟩) (by decide) (by decide)
theorem d8_0 : decode prog_70_method_7_code 0 = .ok (.aload_n 0, 1) := by decide +kernel
theorem d8_1 : decode prog_70_method_7_code 1 = .ok (.getfield 13, 3) := by decide +kernel
theorem d8_4 : decode prog_70_method_7_code 4 = .ok (.ireturn, 1) := by decide +kernel
theorem pn_8 : plainName "com/example/interleaved_tables/interleavedtables/storage/DataFile$Input" = true := by first | (simp [plainName, overriddenIn]; done) | decide +kernel
theorem ef_8 (m : MethodId) (r0 : Addr) : entryFrame m #[(.ref r0)] 1 = mkF m 0 #[.val (.ref r0)] [] := by first | (simp [entryFrame, mkF, argsToLocals, Value.category]; done) | rfl
abbrev Q8 (Z : State) (r0 : Addr) (v0 : Value) (pp : Int32) (ee : Int32) (h0 : Heap) (n0 : Nat) (v : Option Value) (h : Heap) (L : List Loc) : Prop := v = some (.int pp) ∧ Fr n0 L ∧ h = h0
set_option maxRecDepth 65536 in
set_option maxHeartbeats 40000000 in
theorem rm8 (l : Launch) (Z : State) (a0 : Array Value) (hw : ∀ d ∈ tables_1, d.before a0 Z = true) (ws : List Jvm.Cond) (r0 : Addr) (v0 : Value) (pp : Int32) (ee : Int32) (h0 : Heap) (n0 : Nat) (Z0 : n0 ≤ h0.size) (O0 : In Z h0 r0 v0 (.int pp) (.int ee)) :
    MetFree l (⟨"com/example/interleaved_tables/interleavedtables/storage/DataFile$Input", "position", "()I"⟩ : MethodName) (head1 (Jvm.Cond.code (⟨"com/example/interleaved_tables/interleavedtables/storage/DataFile$Input", "position", "()I"⟩ : MethodName) prog_70_method_7_code 1 (some .int) :: ws) ({ frames := 0, cells := 0, slots := 0, locals := 0 } : Room)) (fun a U => a = #[(.ref r0)] ∧ Z.Warmed39 U.vm ∧ U.heap = h0) (fun _ _ _ _ _ => True) (fun _ U o U' => ∃ v L, o = .returned v ∧ Q8 Z r0 v0 pp ee h0 n0 v U'.heap L ∧ FrameEnd U o U' L 0 0) := by
  refine MetFree.of_bodySF (plainFor_of_name pn_8) hisR ?_
  intro p ev s m args below meth c s₁ Bd hml0 hP hK
  obtain ⟨rfl, hZ, hh⟩ := hP
  have hx := Bd.exec
  have hby := Bd.bytes
  have hml : c.maxLocals = 1 := hml0
  have hown : s.vm.findClass "com/example/interleaved_tables/interleavedtables/storage/DataFile$Input" = some m.cls := findClass_of_methodNamed Bd.named
  have hnm := (name_of_methodNamed Bd.named Bd.method).1
  have X0 : Stand p l ev ({ frames := 0, cells := 0, slots := 0, locals := 0 } : Room) s m #[(.ref r0)] below meth c s₁ [] 0 0 := Stand.of_body Bd
  have eh0 : s₁.heap = h0 := by rw [← hh, Bd.state]; rfl
  have N0 := Fr.nil n0
  have Zs := Z0
  show Gol p ev below (FrameEnd s) (Q8 Z r0 v0 pp ee h0 n0) 0 0 (s₁.setTop (entryFrame m #[(.ref r0)] 1))
  rw [ef_8]
  obtain ⟨E_r0, F_r0_bytes, F_r0_position, F_r0_end⟩ := O0
  show GolF _ _ _ _ _ _ _ s₁ m 0 #[.val (.ref r0)] []
  refine Gol.aloadN X0 hx hby d8_0 (pc' := 1) rfl rfl rfl ?_
  refine Gol.getF X0 hx hby hZ hown (host := "") (Or.inl (hw _ (List.mem_of_getElem? (i := 27) rfl))) Via.refl eh0 F_r0_position d8_1 (pc' := 4) rfl ?_
  intro T1 X1 e1
  exact Gol.retI X1 hx hby Bd.returns Bd.notSynchronized d8_4 e1 ⟨rfl, N0, rfl⟩ (by decide) (by decide)
theorem d9_0 : decode prog_70_method_6_code 0 = .ok (.aload_n 0, 1) := by decide +kernel
theorem d9_1 : decode prog_70_method_6_code 1 = .ok (.getfield 17, 3) := by decide +kernel
theorem d9_4 : decode prog_70_method_6_code 4 = .ok (.aload_n 0, 1) := by decide +kernel
theorem d9_5 : decode prog_70_method_6_code 5 = .ok (.getfield 13, 3) := by decide +kernel
theorem d9_8 : decode prog_70_method_6_code 8 = .ok (.isub, 1) := by decide +kernel
theorem d9_9 : decode prog_70_method_6_code 9 = .ok (.ireturn, 1) := by decide +kernel
theorem pn_9 : plainName "com/example/interleaved_tables/interleavedtables/storage/DataFile$Input" = true := by first | (simp [plainName, overriddenIn]; done) | decide +kernel
theorem ef_9 (m : MethodId) (r0 : Addr) : entryFrame m #[(.ref r0)] 1 = mkF m 0 #[.val (.ref r0)] [] := by first | (simp [entryFrame, mkF, argsToLocals, Value.category]; done) | rfl
abbrev Q9 (Z : State) (r0 : Addr) (v0 : Value) (pp : Int32) (ee : Int32) (h0 : Heap) (n0 : Nat) (v : Option Value) (h : Heap) (L : List Loc) : Prop := v = some (.int (ee - pp)) ∧ Fr n0 L ∧ h = h0
set_option maxRecDepth 65536 in
set_option maxHeartbeats 40000000 in
theorem rm9 (l : Launch) (Z : State) (a0 : Array Value) (hw : ∀ d ∈ tables_1, d.before a0 Z = true) (ws : List Jvm.Cond) (r0 : Addr) (v0 : Value) (pp : Int32) (ee : Int32) (h0 : Heap) (n0 : Nat) (Z0 : n0 ≤ h0.size) (O0 : In Z h0 r0 v0 (.int pp) (.int ee)) :
    MetFree l (⟨"com/example/interleaved_tables/interleavedtables/storage/DataFile$Input", "remaining", "()I"⟩ : MethodName) (head1 (Jvm.Cond.code (⟨"com/example/interleaved_tables/interleavedtables/storage/DataFile$Input", "remaining", "()I"⟩ : MethodName) prog_70_method_6_code 1 (some .int) :: ws) ({ frames := 0, cells := 0, slots := 0, locals := 0 } : Room)) (fun a U => a = #[(.ref r0)] ∧ Z.Warmed39 U.vm ∧ U.heap = h0) (fun _ _ _ _ _ => True) (fun _ U o U' => ∃ v L, o = .returned v ∧ Q9 Z r0 v0 pp ee h0 n0 v U'.heap L ∧ FrameEnd U o U' L 0 0) := by
  refine MetFree.of_bodySF (plainFor_of_name pn_9) hisR ?_
  intro p ev s m args below meth c s₁ Bd hml0 hP hK
  obtain ⟨rfl, hZ, hh⟩ := hP
  have hx := Bd.exec
  have hby := Bd.bytes
  have hml : c.maxLocals = 1 := hml0
  have hown : s.vm.findClass "com/example/interleaved_tables/interleavedtables/storage/DataFile$Input" = some m.cls := findClass_of_methodNamed Bd.named
  have hnm := (name_of_methodNamed Bd.named Bd.method).1
  have X0 : Stand p l ev ({ frames := 0, cells := 0, slots := 0, locals := 0 } : Room) s m #[(.ref r0)] below meth c s₁ [] 0 0 := Stand.of_body Bd
  have eh0 : s₁.heap = h0 := by rw [← hh, Bd.state]; rfl
  have N0 := Fr.nil n0
  have Zs := Z0
  show Gol p ev below (FrameEnd s) (Q9 Z r0 v0 pp ee h0 n0) 0 0 (s₁.setTop (entryFrame m #[(.ref r0)] 1))
  rw [ef_9]
  obtain ⟨E_r0, F_r0_bytes, F_r0_position, F_r0_end⟩ := O0
  show GolF _ _ _ _ _ _ _ s₁ m 0 #[.val (.ref r0)] []
  refine Gol.aloadN X0 hx hby d9_0 (pc' := 1) rfl rfl rfl ?_
  refine Gol.getF X0 hx hby hZ hown (host := "") (Or.inl (hw _ (List.mem_of_getElem? (i := 29) rfl))) Via.refl eh0 F_r0_end d9_1 (pc' := 4) rfl ?_
  intro T1 X1 e1
  refine Gol.aloadN X1 hx hby d9_4 (pc' := 5) rfl rfl rfl ?_
  refine Gol.getF X1 hx hby hZ hown (host := "") (Or.inl (hw _ (List.mem_of_getElem? (i := 27) rfl))) Via.refl e1 F_r0_position d9_5 (pc' := 8) rfl ?_
  intro T2 X2 e2
  refine Gol.isub X2 hx hby d9_8 (pc' := 9) rfl rfl ?_
  exact Gol.retI X2 hx hby Bd.returns Bd.notSynchronized d9_9 e2 ⟨rfl, N0, rfl⟩ (by decide) (by decide)
theorem own_m128 (x : Int32) : ((x &&& (255 : Int32)) &&& (128 : Int32)) = (x &&& (128 : Int32)) := by
  rw [Int32.and_assoc, show (255 : Int32) &&& 128 = 128 from rfl]
theorem own_m127 (x : Int32) : ((x &&& (255 : Int32)) &&& (127 : Int32)) = (x &&& (127 : Int32)) := by
  rw [Int32.and_assoc, show (255 : Int32) &&& 127 = 127 from rfl]
theorem own_small : ∀ n : Fin 128, (Int32.ofNat n.val &&& (255 : Int32)) = Int32.ofNat n.val := by decide +kernel
theorem own_neg : ∀ n : Fin 128, ¬ ((-(Int32.ofNat n.val) - 1) &&& (128 : Int32)) = 0 := by decide +kernel
/-- a byte whose high bit is clear stands for itself -/
theorem own_pb {x : Int32} (h1 : -128 ≤ x.toInt) (h2 : x.toInt < 128) (h : (x &&& (128 : Int32)) = 0) : (x &&& (255 : Int32)) = x := by
  by_cases hx : 0 ≤ x.toInt
  · have e : x = Int32.ofNat x.toInt.toNat := Int32.toInt_inj.mp (by rw [Int32.toInt_ofNat_of_lt (by omega)]; omega)
    rw [e]; exact own_small ⟨x.toInt.toNat, by omega⟩
  · exfalso
    have e : x = -(Int32.ofNat (-1 - x.toInt).toNat) - 1 := Int32.toInt_inj.mp (by
      rw [Int32.toInt_sub, Int32.toInt_neg, Int32.toInt_ofNat_of_lt (by omega), show (1 : Int32).toInt = 1 from rfl]
      rw [Int.bmod_eq_of_le (n := -_) (by omega) (by omega), Int.bmod_eq_of_le (by omega) (by omega)]; omega)
    rw [e] at h
    exact own_neg ⟨(-1 - x.toInt).toNat, by omega⟩ h
theorem own_nm {x : Int32} (h : ¬ (x &&& (128 : Int32)) = (0 : Int32)) : ¬ ((x &&& (255 : Int32)) &&& (128 : Int32)) = (0 : Int32) := by rw [own_m128]; exact h
theorem own_pm {x : Int32} (h : (x &&& (128 : Int32)) = (0 : Int32)) : ((x &&& (255 : Int32)) &&& (128 : Int32)) = (0 : Int32) := by rw [own_m128]; exact h
theorem own_on {x i n j : Int32} (h : i < n) (hj : (7 : Int32) * i = j) : own_tm x i n = ((x &&& (127 : Int32)).toInt64 <<< ((j.toInt64) &&& 63)) := by subst hj; exact if_pos h
theorem own_off {x i n : Int32} (h : ¬ i < n) : own_tm x i n = 0 := if_neg h

def own_or (bs : List Int32) (ps : Nat) (n : Int32) : Int64 := ((((((((((own_tm (bs.getD (ps + 0) 0) (0 : Int32) n) ||| (own_tm (bs.getD (ps + 1) 0) (1 : Int32) n)) ||| (own_tm (bs.getD (ps + 2) 0) (2 : Int32) n)) ||| (own_tm (bs.getD (ps + 3) 0) (3 : Int32) n)) ||| (own_tm (bs.getD (ps + 4) 0) (4 : Int32) n)) ||| (own_tm (bs.getD (ps + 5) 0) (5 : Int32) n)) ||| (own_tm (bs.getD (ps + 6) 0) (6 : Int32) n)) ||| (own_tm (bs.getD (ps + 7) 0) (7 : Int32) n)) ||| (own_tm (bs.getD (ps + 8) 0) (8 : Int32) n)) ||| (own_tm (bs.getD (ps + 9) 0) (9 : Int32) n))
theorem own_fc0 (bs : List Int32) (ps : Nat) (g0 : ((bs.getD ps 0) &&& (128 : Int32)) = (0 : Int32)) : own_fc bs ps = 1 := by
  unfold own_fc
  rw [if_pos g0]
theorem own_cn0 (bs : List Int32) (ps : Nat) (g0 : ((bs.getD ps 0) &&& (128 : Int32)) = (0 : Int32)) : own_cn bs ps = 1 := by
  unfold own_cn
  rw [if_pos (own_pm g0)]
theorem own_rn0 (bs : List Int32) (ps : Nat) (g0 : ((bs.getD ps 0) &&& (128 : Int32)) = (0 : Int32)) : own_rn bs ps = own_or bs ps 1 := by
  unfold own_rn own_or
  rw [if_pos (own_pm g0)]
  rw [own_on (i := 0) (n := 1) (j := 0) (by decide) rfl, own_off (i := 1) (n := 1) (by decide), own_off (i := 2) (n := 1) (by decide), own_off (i := 3) (n := 1) (by decide), own_off (i := 4) (n := 1) (by decide), own_off (i := 5) (n := 1) (by decide), own_off (i := 6) (n := 1) (by decide), own_off (i := 7) (n := 1) (by decide), own_off (i := 8) (n := 1) (by decide), own_off (i := 9) (n := 1) (by decide)]
  simp only [own_m127, Int64.zero_or, Int64.or_zero, Nat.add_zero]
theorem own_fc1 (bs : List Int32) (ps : Nat) (g0 : ¬ ((bs.getD ps 0) &&& (128 : Int32)) = (0 : Int32)) (g1 : ((bs.getD (ps + 1) 0) &&& (128 : Int32)) = (0 : Int32)) : own_fc bs ps = 2 := by
  unfold own_fc
  rw [if_neg g0, if_pos g1]
theorem own_cn1 (bs : List Int32) (ps : Nat) (g0 : ¬ ((bs.getD ps 0) &&& (128 : Int32)) = (0 : Int32)) (g1 : ((bs.getD (ps + 1) 0) &&& (128 : Int32)) = (0 : Int32)) : own_cn bs ps = 2 := by
  unfold own_cn
  rw [if_neg (own_nm g0), if_pos (own_pm g1)]
theorem own_rn1 (bs : List Int32) (ps : Nat) (g0 : ¬ ((bs.getD ps 0) &&& (128 : Int32)) = (0 : Int32)) (g1 : ((bs.getD (ps + 1) 0) &&& (128 : Int32)) = (0 : Int32)) : own_rn bs ps = own_or bs ps 2 := by
  unfold own_rn own_or
  rw [if_neg (own_nm g0), if_pos (own_pm g1)]
  rw [own_on (i := 0) (n := 2) (j := 0) (by decide) rfl, own_on (i := 1) (n := 2) (j := 7) (by decide) rfl, own_off (i := 2) (n := 2) (by decide), own_off (i := 3) (n := 2) (by decide), own_off (i := 4) (n := 2) (by decide), own_off (i := 5) (n := 2) (by decide), own_off (i := 6) (n := 2) (by decide), own_off (i := 7) (n := 2) (by decide), own_off (i := 8) (n := 2) (by decide), own_off (i := 9) (n := 2) (by decide)]
  simp only [own_m127, Int64.zero_or, Int64.or_zero, Nat.add_zero]
theorem own_fc2 (bs : List Int32) (ps : Nat) (g0 : ¬ ((bs.getD ps 0) &&& (128 : Int32)) = (0 : Int32)) (g1 : ¬ ((bs.getD (ps + 1) 0) &&& (128 : Int32)) = (0 : Int32)) (g2 : ((bs.getD (ps + 2) 0) &&& (128 : Int32)) = (0 : Int32)) : own_fc bs ps = 3 := by
  unfold own_fc
  rw [if_neg g0, if_neg g1, if_pos g2]
theorem own_cn2 (bs : List Int32) (ps : Nat) (g0 : ¬ ((bs.getD ps 0) &&& (128 : Int32)) = (0 : Int32)) (g1 : ¬ ((bs.getD (ps + 1) 0) &&& (128 : Int32)) = (0 : Int32)) (g2 : ((bs.getD (ps + 2) 0) &&& (128 : Int32)) = (0 : Int32)) : own_cn bs ps = 3 := by
  unfold own_cn
  rw [if_neg (own_nm g0), if_neg (own_nm g1), if_pos (own_pm g2)]
theorem own_rn2 (bs : List Int32) (ps : Nat) (g0 : ¬ ((bs.getD ps 0) &&& (128 : Int32)) = (0 : Int32)) (g1 : ¬ ((bs.getD (ps + 1) 0) &&& (128 : Int32)) = (0 : Int32)) (g2 : ((bs.getD (ps + 2) 0) &&& (128 : Int32)) = (0 : Int32)) : own_rn bs ps = own_or bs ps 3 := by
  unfold own_rn own_or
  rw [if_neg (own_nm g0), if_neg (own_nm g1), if_pos (own_pm g2)]
  rw [own_on (i := 0) (n := 3) (j := 0) (by decide) rfl, own_on (i := 1) (n := 3) (j := 7) (by decide) rfl, own_on (i := 2) (n := 3) (j := 14) (by decide) rfl, own_off (i := 3) (n := 3) (by decide), own_off (i := 4) (n := 3) (by decide), own_off (i := 5) (n := 3) (by decide), own_off (i := 6) (n := 3) (by decide), own_off (i := 7) (n := 3) (by decide), own_off (i := 8) (n := 3) (by decide), own_off (i := 9) (n := 3) (by decide)]
  simp only [own_m127, Int64.zero_or, Int64.or_zero, Nat.add_zero]
theorem own_fc3 (bs : List Int32) (ps : Nat) (g0 : ¬ ((bs.getD ps 0) &&& (128 : Int32)) = (0 : Int32)) (g1 : ¬ ((bs.getD (ps + 1) 0) &&& (128 : Int32)) = (0 : Int32)) (g2 : ¬ ((bs.getD (ps + 2) 0) &&& (128 : Int32)) = (0 : Int32)) (g3 : ((bs.getD (ps + 3) 0) &&& (128 : Int32)) = (0 : Int32)) : own_fc bs ps = 4 := by
  unfold own_fc
  rw [if_neg g0, if_neg g1, if_neg g2, if_pos g3]
theorem own_cn3 (bs : List Int32) (ps : Nat) (g0 : ¬ ((bs.getD ps 0) &&& (128 : Int32)) = (0 : Int32)) (g1 : ¬ ((bs.getD (ps + 1) 0) &&& (128 : Int32)) = (0 : Int32)) (g2 : ¬ ((bs.getD (ps + 2) 0) &&& (128 : Int32)) = (0 : Int32)) (g3 : ((bs.getD (ps + 3) 0) &&& (128 : Int32)) = (0 : Int32)) : own_cn bs ps = 4 := by
  unfold own_cn
  rw [if_neg (own_nm g0), if_neg (own_nm g1), if_neg (own_nm g2), if_pos (own_pm g3)]
theorem own_rn3 (bs : List Int32) (ps : Nat) (g0 : ¬ ((bs.getD ps 0) &&& (128 : Int32)) = (0 : Int32)) (g1 : ¬ ((bs.getD (ps + 1) 0) &&& (128 : Int32)) = (0 : Int32)) (g2 : ¬ ((bs.getD (ps + 2) 0) &&& (128 : Int32)) = (0 : Int32)) (g3 : ((bs.getD (ps + 3) 0) &&& (128 : Int32)) = (0 : Int32)) : own_rn bs ps = own_or bs ps 4 := by
  unfold own_rn own_or
  rw [if_neg (own_nm g0), if_neg (own_nm g1), if_neg (own_nm g2), if_pos (own_pm g3)]
  rw [own_on (i := 0) (n := 4) (j := 0) (by decide) rfl, own_on (i := 1) (n := 4) (j := 7) (by decide) rfl, own_on (i := 2) (n := 4) (j := 14) (by decide) rfl, own_on (i := 3) (n := 4) (j := 21) (by decide) rfl, own_off (i := 4) (n := 4) (by decide), own_off (i := 5) (n := 4) (by decide), own_off (i := 6) (n := 4) (by decide), own_off (i := 7) (n := 4) (by decide), own_off (i := 8) (n := 4) (by decide), own_off (i := 9) (n := 4) (by decide)]
  simp only [own_m127, Int64.zero_or, Int64.or_zero, Nat.add_zero]
theorem own_fc4 (bs : List Int32) (ps : Nat) (g0 : ¬ ((bs.getD ps 0) &&& (128 : Int32)) = (0 : Int32)) (g1 : ¬ ((bs.getD (ps + 1) 0) &&& (128 : Int32)) = (0 : Int32)) (g2 : ¬ ((bs.getD (ps + 2) 0) &&& (128 : Int32)) = (0 : Int32)) (g3 : ¬ ((bs.getD (ps + 3) 0) &&& (128 : Int32)) = (0 : Int32)) (g4 : ((bs.getD (ps + 4) 0) &&& (128 : Int32)) = (0 : Int32)) : own_fc bs ps = 5 := by
  unfold own_fc
  rw [if_neg g0, if_neg g1, if_neg g2, if_neg g3, if_pos g4]
theorem own_cn4 (bs : List Int32) (ps : Nat) (g0 : ¬ ((bs.getD ps 0) &&& (128 : Int32)) = (0 : Int32)) (g1 : ¬ ((bs.getD (ps + 1) 0) &&& (128 : Int32)) = (0 : Int32)) (g2 : ¬ ((bs.getD (ps + 2) 0) &&& (128 : Int32)) = (0 : Int32)) (g3 : ¬ ((bs.getD (ps + 3) 0) &&& (128 : Int32)) = (0 : Int32)) (g4 : ((bs.getD (ps + 4) 0) &&& (128 : Int32)) = (0 : Int32)) : own_cn bs ps = 5 := by
  unfold own_cn
  rw [if_neg (own_nm g0), if_neg (own_nm g1), if_neg (own_nm g2), if_neg (own_nm g3), if_pos (own_pm g4)]
theorem own_rn4 (bs : List Int32) (ps : Nat) (g0 : ¬ ((bs.getD ps 0) &&& (128 : Int32)) = (0 : Int32)) (g1 : ¬ ((bs.getD (ps + 1) 0) &&& (128 : Int32)) = (0 : Int32)) (g2 : ¬ ((bs.getD (ps + 2) 0) &&& (128 : Int32)) = (0 : Int32)) (g3 : ¬ ((bs.getD (ps + 3) 0) &&& (128 : Int32)) = (0 : Int32)) (g4 : ((bs.getD (ps + 4) 0) &&& (128 : Int32)) = (0 : Int32)) : own_rn bs ps = own_or bs ps 5 := by
  unfold own_rn own_or
  rw [if_neg (own_nm g0), if_neg (own_nm g1), if_neg (own_nm g2), if_neg (own_nm g3), if_pos (own_pm g4)]
  rw [own_on (i := 0) (n := 5) (j := 0) (by decide) rfl, own_on (i := 1) (n := 5) (j := 7) (by decide) rfl, own_on (i := 2) (n := 5) (j := 14) (by decide) rfl, own_on (i := 3) (n := 5) (j := 21) (by decide) rfl, own_on (i := 4) (n := 5) (j := 28) (by decide) rfl, own_off (i := 5) (n := 5) (by decide), own_off (i := 6) (n := 5) (by decide), own_off (i := 7) (n := 5) (by decide), own_off (i := 8) (n := 5) (by decide), own_off (i := 9) (n := 5) (by decide)]
  simp only [own_m127, Int64.zero_or, Int64.or_zero, Nat.add_zero]
theorem own_fc5 (bs : List Int32) (ps : Nat) (g0 : ¬ ((bs.getD ps 0) &&& (128 : Int32)) = (0 : Int32)) (g1 : ¬ ((bs.getD (ps + 1) 0) &&& (128 : Int32)) = (0 : Int32)) (g2 : ¬ ((bs.getD (ps + 2) 0) &&& (128 : Int32)) = (0 : Int32)) (g3 : ¬ ((bs.getD (ps + 3) 0) &&& (128 : Int32)) = (0 : Int32)) (g4 : ¬ ((bs.getD (ps + 4) 0) &&& (128 : Int32)) = (0 : Int32)) (g5 : ((bs.getD (ps + 5) 0) &&& (128 : Int32)) = (0 : Int32)) : own_fc bs ps = 6 := by
  unfold own_fc
  rw [if_neg g0, if_neg g1, if_neg g2, if_neg g3, if_neg g4, if_pos g5]
theorem own_cn5 (bs : List Int32) (ps : Nat) (g0 : ¬ ((bs.getD ps 0) &&& (128 : Int32)) = (0 : Int32)) (g1 : ¬ ((bs.getD (ps + 1) 0) &&& (128 : Int32)) = (0 : Int32)) (g2 : ¬ ((bs.getD (ps + 2) 0) &&& (128 : Int32)) = (0 : Int32)) (g3 : ¬ ((bs.getD (ps + 3) 0) &&& (128 : Int32)) = (0 : Int32)) (g4 : ¬ ((bs.getD (ps + 4) 0) &&& (128 : Int32)) = (0 : Int32)) (g5 : ((bs.getD (ps + 5) 0) &&& (128 : Int32)) = (0 : Int32)) : own_cn bs ps = 6 := by
  unfold own_cn
  rw [if_neg (own_nm g0), if_neg (own_nm g1), if_neg (own_nm g2), if_neg (own_nm g3), if_neg (own_nm g4), if_pos (own_pm g5)]
theorem own_rn5 (bs : List Int32) (ps : Nat) (g0 : ¬ ((bs.getD ps 0) &&& (128 : Int32)) = (0 : Int32)) (g1 : ¬ ((bs.getD (ps + 1) 0) &&& (128 : Int32)) = (0 : Int32)) (g2 : ¬ ((bs.getD (ps + 2) 0) &&& (128 : Int32)) = (0 : Int32)) (g3 : ¬ ((bs.getD (ps + 3) 0) &&& (128 : Int32)) = (0 : Int32)) (g4 : ¬ ((bs.getD (ps + 4) 0) &&& (128 : Int32)) = (0 : Int32)) (g5 : ((bs.getD (ps + 5) 0) &&& (128 : Int32)) = (0 : Int32)) : own_rn bs ps = own_or bs ps 6 := by
  unfold own_rn own_or
  rw [if_neg (own_nm g0), if_neg (own_nm g1), if_neg (own_nm g2), if_neg (own_nm g3), if_neg (own_nm g4), if_pos (own_pm g5)]
  rw [own_on (i := 0) (n := 6) (j := 0) (by decide) rfl, own_on (i := 1) (n := 6) (j := 7) (by decide) rfl, own_on (i := 2) (n := 6) (j := 14) (by decide) rfl, own_on (i := 3) (n := 6) (j := 21) (by decide) rfl, own_on (i := 4) (n := 6) (j := 28) (by decide) rfl, own_on (i := 5) (n := 6) (j := 35) (by decide) rfl, own_off (i := 6) (n := 6) (by decide), own_off (i := 7) (n := 6) (by decide), own_off (i := 8) (n := 6) (by decide), own_off (i := 9) (n := 6) (by decide)]
  simp only [own_m127, Int64.zero_or, Int64.or_zero, Nat.add_zero]
theorem own_fc6 (bs : List Int32) (ps : Nat) (g0 : ¬ ((bs.getD ps 0) &&& (128 : Int32)) = (0 : Int32)) (g1 : ¬ ((bs.getD (ps + 1) 0) &&& (128 : Int32)) = (0 : Int32)) (g2 : ¬ ((bs.getD (ps + 2) 0) &&& (128 : Int32)) = (0 : Int32)) (g3 : ¬ ((bs.getD (ps + 3) 0) &&& (128 : Int32)) = (0 : Int32)) (g4 : ¬ ((bs.getD (ps + 4) 0) &&& (128 : Int32)) = (0 : Int32)) (g5 : ¬ ((bs.getD (ps + 5) 0) &&& (128 : Int32)) = (0 : Int32)) (g6 : ((bs.getD (ps + 6) 0) &&& (128 : Int32)) = (0 : Int32)) : own_fc bs ps = 7 := by
  unfold own_fc
  rw [if_neg g0, if_neg g1, if_neg g2, if_neg g3, if_neg g4, if_neg g5, if_pos g6]
theorem own_cn6 (bs : List Int32) (ps : Nat) (g0 : ¬ ((bs.getD ps 0) &&& (128 : Int32)) = (0 : Int32)) (g1 : ¬ ((bs.getD (ps + 1) 0) &&& (128 : Int32)) = (0 : Int32)) (g2 : ¬ ((bs.getD (ps + 2) 0) &&& (128 : Int32)) = (0 : Int32)) (g3 : ¬ ((bs.getD (ps + 3) 0) &&& (128 : Int32)) = (0 : Int32)) (g4 : ¬ ((bs.getD (ps + 4) 0) &&& (128 : Int32)) = (0 : Int32)) (g5 : ¬ ((bs.getD (ps + 5) 0) &&& (128 : Int32)) = (0 : Int32)) (g6 : ((bs.getD (ps + 6) 0) &&& (128 : Int32)) = (0 : Int32)) : own_cn bs ps = 7 := by
  unfold own_cn
  rw [if_neg (own_nm g0), if_neg (own_nm g1), if_neg (own_nm g2), if_neg (own_nm g3), if_neg (own_nm g4), if_neg (own_nm g5), if_pos (own_pm g6)]
theorem own_rn6 (bs : List Int32) (ps : Nat) (g0 : ¬ ((bs.getD ps 0) &&& (128 : Int32)) = (0 : Int32)) (g1 : ¬ ((bs.getD (ps + 1) 0) &&& (128 : Int32)) = (0 : Int32)) (g2 : ¬ ((bs.getD (ps + 2) 0) &&& (128 : Int32)) = (0 : Int32)) (g3 : ¬ ((bs.getD (ps + 3) 0) &&& (128 : Int32)) = (0 : Int32)) (g4 : ¬ ((bs.getD (ps + 4) 0) &&& (128 : Int32)) = (0 : Int32)) (g5 : ¬ ((bs.getD (ps + 5) 0) &&& (128 : Int32)) = (0 : Int32)) (g6 : ((bs.getD (ps + 6) 0) &&& (128 : Int32)) = (0 : Int32)) : own_rn bs ps = own_or bs ps 7 := by
  unfold own_rn own_or
  rw [if_neg (own_nm g0), if_neg (own_nm g1), if_neg (own_nm g2), if_neg (own_nm g3), if_neg (own_nm g4), if_neg (own_nm g5), if_pos (own_pm g6)]
  rw [own_on (i := 0) (n := 7) (j := 0) (by decide) rfl, own_on (i := 1) (n := 7) (j := 7) (by decide) rfl, own_on (i := 2) (n := 7) (j := 14) (by decide) rfl, own_on (i := 3) (n := 7) (j := 21) (by decide) rfl, own_on (i := 4) (n := 7) (j := 28) (by decide) rfl, own_on (i := 5) (n := 7) (j := 35) (by decide) rfl, own_on (i := 6) (n := 7) (j := 42) (by decide) rfl, own_off (i := 7) (n := 7) (by decide), own_off (i := 8) (n := 7) (by decide), own_off (i := 9) (n := 7) (by decide)]
  simp only [own_m127, Int64.zero_or, Int64.or_zero, Nat.add_zero]
theorem own_fc7 (bs : List Int32) (ps : Nat) (g0 : ¬ ((bs.getD ps 0) &&& (128 : Int32)) = (0 : Int32)) (g1 : ¬ ((bs.getD (ps + 1) 0) &&& (128 : Int32)) = (0 : Int32)) (g2 : ¬ ((bs.getD (ps + 2) 0) &&& (128 : Int32)) = (0 : Int32)) (g3 : ¬ ((bs.getD (ps + 3) 0) &&& (128 : Int32)) = (0 : Int32)) (g4 : ¬ ((bs.getD (ps + 4) 0) &&& (128 : Int32)) = (0 : Int32)) (g5 : ¬ ((bs.getD (ps + 5) 0) &&& (128 : Int32)) = (0 : Int32)) (g6 : ¬ ((bs.getD (ps + 6) 0) &&& (128 : Int32)) = (0 : Int32)) (g7 : ((bs.getD (ps + 7) 0) &&& (128 : Int32)) = (0 : Int32)) : own_fc bs ps = 8 := by
  unfold own_fc
  rw [if_neg g0, if_neg g1, if_neg g2, if_neg g3, if_neg g4, if_neg g5, if_neg g6, if_pos g7]
theorem own_cn7 (bs : List Int32) (ps : Nat) (g0 : ¬ ((bs.getD ps 0) &&& (128 : Int32)) = (0 : Int32)) (g1 : ¬ ((bs.getD (ps + 1) 0) &&& (128 : Int32)) = (0 : Int32)) (g2 : ¬ ((bs.getD (ps + 2) 0) &&& (128 : Int32)) = (0 : Int32)) (g3 : ¬ ((bs.getD (ps + 3) 0) &&& (128 : Int32)) = (0 : Int32)) (g4 : ¬ ((bs.getD (ps + 4) 0) &&& (128 : Int32)) = (0 : Int32)) (g5 : ¬ ((bs.getD (ps + 5) 0) &&& (128 : Int32)) = (0 : Int32)) (g6 : ¬ ((bs.getD (ps + 6) 0) &&& (128 : Int32)) = (0 : Int32)) (g7 : ((bs.getD (ps + 7) 0) &&& (128 : Int32)) = (0 : Int32)) : own_cn bs ps = 8 := by
  unfold own_cn
  rw [if_neg (own_nm g0), if_neg (own_nm g1), if_neg (own_nm g2), if_neg (own_nm g3), if_neg (own_nm g4), if_neg (own_nm g5), if_neg (own_nm g6), if_pos (own_pm g7)]
theorem own_rn7 (bs : List Int32) (ps : Nat) (g0 : ¬ ((bs.getD ps 0) &&& (128 : Int32)) = (0 : Int32)) (g1 : ¬ ((bs.getD (ps + 1) 0) &&& (128 : Int32)) = (0 : Int32)) (g2 : ¬ ((bs.getD (ps + 2) 0) &&& (128 : Int32)) = (0 : Int32)) (g3 : ¬ ((bs.getD (ps + 3) 0) &&& (128 : Int32)) = (0 : Int32)) (g4 : ¬ ((bs.getD (ps + 4) 0) &&& (128 : Int32)) = (0 : Int32)) (g5 : ¬ ((bs.getD (ps + 5) 0) &&& (128 : Int32)) = (0 : Int32)) (g6 : ¬ ((bs.getD (ps + 6) 0) &&& (128 : Int32)) = (0 : Int32)) (g7 : ((bs.getD (ps + 7) 0) &&& (128 : Int32)) = (0 : Int32)) : own_rn bs ps = own_or bs ps 8 := by
  unfold own_rn own_or
  rw [if_neg (own_nm g0), if_neg (own_nm g1), if_neg (own_nm g2), if_neg (own_nm g3), if_neg (own_nm g4), if_neg (own_nm g5), if_neg (own_nm g6), if_pos (own_pm g7)]
  rw [own_on (i := 0) (n := 8) (j := 0) (by decide) rfl, own_on (i := 1) (n := 8) (j := 7) (by decide) rfl, own_on (i := 2) (n := 8) (j := 14) (by decide) rfl, own_on (i := 3) (n := 8) (j := 21) (by decide) rfl, own_on (i := 4) (n := 8) (j := 28) (by decide) rfl, own_on (i := 5) (n := 8) (j := 35) (by decide) rfl, own_on (i := 6) (n := 8) (j := 42) (by decide) rfl, own_on (i := 7) (n := 8) (j := 49) (by decide) rfl, own_off (i := 8) (n := 8) (by decide), own_off (i := 9) (n := 8) (by decide)]
  simp only [own_m127, Int64.zero_or, Int64.or_zero, Nat.add_zero]
theorem own_fc8 (bs : List Int32) (ps : Nat) (g0 : ¬ ((bs.getD ps 0) &&& (128 : Int32)) = (0 : Int32)) (g1 : ¬ ((bs.getD (ps + 1) 0) &&& (128 : Int32)) = (0 : Int32)) (g2 : ¬ ((bs.getD (ps + 2) 0) &&& (128 : Int32)) = (0 : Int32)) (g3 : ¬ ((bs.getD (ps + 3) 0) &&& (128 : Int32)) = (0 : Int32)) (g4 : ¬ ((bs.getD (ps + 4) 0) &&& (128 : Int32)) = (0 : Int32)) (g5 : ¬ ((bs.getD (ps + 5) 0) &&& (128 : Int32)) = (0 : Int32)) (g6 : ¬ ((bs.getD (ps + 6) 0) &&& (128 : Int32)) = (0 : Int32)) (g7 : ¬ ((bs.getD (ps + 7) 0) &&& (128 : Int32)) = (0 : Int32)) (g8 : ((bs.getD (ps + 8) 0) &&& (128 : Int32)) = (0 : Int32)) : own_fc bs ps = 9 := by
  unfold own_fc
  rw [if_neg g0, if_neg g1, if_neg g2, if_neg g3, if_neg g4, if_neg g5, if_neg g6, if_neg g7, if_pos g8]
theorem own_cn8 (bs : List Int32) (ps : Nat) (g0 : ¬ ((bs.getD ps 0) &&& (128 : Int32)) = (0 : Int32)) (g1 : ¬ ((bs.getD (ps + 1) 0) &&& (128 : Int32)) = (0 : Int32)) (g2 : ¬ ((bs.getD (ps + 2) 0) &&& (128 : Int32)) = (0 : Int32)) (g3 : ¬ ((bs.getD (ps + 3) 0) &&& (128 : Int32)) = (0 : Int32)) (g4 : ¬ ((bs.getD (ps + 4) 0) &&& (128 : Int32)) = (0 : Int32)) (g5 : ¬ ((bs.getD (ps + 5) 0) &&& (128 : Int32)) = (0 : Int32)) (g6 : ¬ ((bs.getD (ps + 6) 0) &&& (128 : Int32)) = (0 : Int32)) (g7 : ¬ ((bs.getD (ps + 7) 0) &&& (128 : Int32)) = (0 : Int32)) (g8 : ((bs.getD (ps + 8) 0) &&& (128 : Int32)) = (0 : Int32)) : own_cn bs ps = 9 := by
  unfold own_cn
  rw [if_neg (own_nm g0), if_neg (own_nm g1), if_neg (own_nm g2), if_neg (own_nm g3), if_neg (own_nm g4), if_neg (own_nm g5), if_neg (own_nm g6), if_neg (own_nm g7), if_pos (own_pm g8)]
theorem own_rn8 (bs : List Int32) (ps : Nat) (g0 : ¬ ((bs.getD ps 0) &&& (128 : Int32)) = (0 : Int32)) (g1 : ¬ ((bs.getD (ps + 1) 0) &&& (128 : Int32)) = (0 : Int32)) (g2 : ¬ ((bs.getD (ps + 2) 0) &&& (128 : Int32)) = (0 : Int32)) (g3 : ¬ ((bs.getD (ps + 3) 0) &&& (128 : Int32)) = (0 : Int32)) (g4 : ¬ ((bs.getD (ps + 4) 0) &&& (128 : Int32)) = (0 : Int32)) (g5 : ¬ ((bs.getD (ps + 5) 0) &&& (128 : Int32)) = (0 : Int32)) (g6 : ¬ ((bs.getD (ps + 6) 0) &&& (128 : Int32)) = (0 : Int32)) (g7 : ¬ ((bs.getD (ps + 7) 0) &&& (128 : Int32)) = (0 : Int32)) (g8 : ((bs.getD (ps + 8) 0) &&& (128 : Int32)) = (0 : Int32)) : own_rn bs ps = own_or bs ps 9 := by
  unfold own_rn own_or
  rw [if_neg (own_nm g0), if_neg (own_nm g1), if_neg (own_nm g2), if_neg (own_nm g3), if_neg (own_nm g4), if_neg (own_nm g5), if_neg (own_nm g6), if_neg (own_nm g7), if_pos (own_pm g8)]
  rw [own_on (i := 0) (n := 9) (j := 0) (by decide) rfl, own_on (i := 1) (n := 9) (j := 7) (by decide) rfl, own_on (i := 2) (n := 9) (j := 14) (by decide) rfl, own_on (i := 3) (n := 9) (j := 21) (by decide) rfl, own_on (i := 4) (n := 9) (j := 28) (by decide) rfl, own_on (i := 5) (n := 9) (j := 35) (by decide) rfl, own_on (i := 6) (n := 9) (j := 42) (by decide) rfl, own_on (i := 7) (n := 9) (j := 49) (by decide) rfl, own_on (i := 8) (n := 9) (j := 56) (by decide) rfl, own_off (i := 9) (n := 9) (by decide)]
  simp only [own_m127, Int64.zero_or, Int64.or_zero, Nat.add_zero]
theorem own_fc9 (bs : List Int32) (ps : Nat) (g0 : ¬ ((bs.getD ps 0) &&& (128 : Int32)) = (0 : Int32)) (g1 : ¬ ((bs.getD (ps + 1) 0) &&& (128 : Int32)) = (0 : Int32)) (g2 : ¬ ((bs.getD (ps + 2) 0) &&& (128 : Int32)) = (0 : Int32)) (g3 : ¬ ((bs.getD (ps + 3) 0) &&& (128 : Int32)) = (0 : Int32)) (g4 : ¬ ((bs.getD (ps + 4) 0) &&& (128 : Int32)) = (0 : Int32)) (g5 : ¬ ((bs.getD (ps + 5) 0) &&& (128 : Int32)) = (0 : Int32)) (g6 : ¬ ((bs.getD (ps + 6) 0) &&& (128 : Int32)) = (0 : Int32)) (g7 : ¬ ((bs.getD (ps + 7) 0) &&& (128 : Int32)) = (0 : Int32)) (g8 : ¬ ((bs.getD (ps + 8) 0) &&& (128 : Int32)) = (0 : Int32)) (g9 : ((bs.getD (ps + 9) 0) &&& (128 : Int32)) = (0 : Int32)) : own_fc bs ps = 10 := by
  unfold own_fc
  rw [if_neg g0, if_neg g1, if_neg g2, if_neg g3, if_neg g4, if_neg g5, if_neg g6, if_neg g7, if_neg g8, if_pos g9]
theorem own_cn9 (bs : List Int32) (ps : Nat) (g0 : ¬ ((bs.getD ps 0) &&& (128 : Int32)) = (0 : Int32)) (g1 : ¬ ((bs.getD (ps + 1) 0) &&& (128 : Int32)) = (0 : Int32)) (g2 : ¬ ((bs.getD (ps + 2) 0) &&& (128 : Int32)) = (0 : Int32)) (g3 : ¬ ((bs.getD (ps + 3) 0) &&& (128 : Int32)) = (0 : Int32)) (g4 : ¬ ((bs.getD (ps + 4) 0) &&& (128 : Int32)) = (0 : Int32)) (g5 : ¬ ((bs.getD (ps + 5) 0) &&& (128 : Int32)) = (0 : Int32)) (g6 : ¬ ((bs.getD (ps + 6) 0) &&& (128 : Int32)) = (0 : Int32)) (g7 : ¬ ((bs.getD (ps + 7) 0) &&& (128 : Int32)) = (0 : Int32)) (g8 : ¬ ((bs.getD (ps + 8) 0) &&& (128 : Int32)) = (0 : Int32)) (g9 : ((bs.getD (ps + 9) 0) &&& (128 : Int32)) = (0 : Int32)) : own_cn bs ps = 10 := by
  unfold own_cn
  rw [if_neg (own_nm g0), if_neg (own_nm g1), if_neg (own_nm g2), if_neg (own_nm g3), if_neg (own_nm g4), if_neg (own_nm g5), if_neg (own_nm g6), if_neg (own_nm g7), if_neg (own_nm g8), if_pos (own_pm g9)]
  split <;> rfl
theorem own_rn9a (bs : List Int32) (ps : Nat) (hb : -128 ≤ (bs.getD (ps + 9) 0).toInt ∧ (bs.getD (ps + 9) 0).toInt < 128) (g0 : ¬ ((bs.getD ps 0) &&& (128 : Int32)) = (0 : Int32)) (g1 : ¬ ((bs.getD (ps + 1) 0) &&& (128 : Int32)) = (0 : Int32)) (g2 : ¬ ((bs.getD (ps + 2) 0) &&& (128 : Int32)) = (0 : Int32)) (g3 : ¬ ((bs.getD (ps + 3) 0) &&& (128 : Int32)) = (0 : Int32)) (g4 : ¬ ((bs.getD (ps + 4) 0) &&& (128 : Int32)) = (0 : Int32)) (g5 : ¬ ((bs.getD (ps + 5) 0) &&& (128 : Int32)) = (0 : Int32)) (g6 : ¬ ((bs.getD (ps + 6) 0) &&& (128 : Int32)) = (0 : Int32)) (g7 : ¬ ((bs.getD (ps + 7) 0) &&& (128 : Int32)) = (0 : Int32)) (g8 : ¬ ((bs.getD (ps + 8) 0) &&& (128 : Int32)) = (0 : Int32)) (g9 : ((bs.getD (ps + 9) 0) &&& (128 : Int32)) = (0 : Int32)) (z : ¬ (bs.getD (ps + 9) 0) = (0 : Int32)) : own_rn bs ps = -1 := by
  unfold own_rn
  rw [if_neg (own_nm g0), if_neg (own_nm g1), if_neg (own_nm g2), if_neg (own_nm g3), if_neg (own_nm g4), if_neg (own_nm g5), if_neg (own_nm g6), if_neg (own_nm g7), if_neg (own_nm g8), if_pos (own_pm g9)]
  rw [if_neg (by rw [own_pb hb.1 hb.2 g9]; exact z)]
theorem own_rn9b (bs : List Int32) (ps : Nat) (g0 : ¬ ((bs.getD ps 0) &&& (128 : Int32)) = (0 : Int32)) (g1 : ¬ ((bs.getD (ps + 1) 0) &&& (128 : Int32)) = (0 : Int32)) (g2 : ¬ ((bs.getD (ps + 2) 0) &&& (128 : Int32)) = (0 : Int32)) (g3 : ¬ ((bs.getD (ps + 3) 0) &&& (128 : Int32)) = (0 : Int32)) (g4 : ¬ ((bs.getD (ps + 4) 0) &&& (128 : Int32)) = (0 : Int32)) (g5 : ¬ ((bs.getD (ps + 5) 0) &&& (128 : Int32)) = (0 : Int32)) (g6 : ¬ ((bs.getD (ps + 6) 0) &&& (128 : Int32)) = (0 : Int32)) (g7 : ¬ ((bs.getD (ps + 7) 0) &&& (128 : Int32)) = (0 : Int32)) (g8 : ¬ ((bs.getD (ps + 8) 0) &&& (128 : Int32)) = (0 : Int32)) (g9 : ((bs.getD (ps + 9) 0) &&& (128 : Int32)) = (0 : Int32)) (z : (bs.getD (ps + 9) 0) = (0 : Int32)) : own_rn bs ps = own_or bs ps 10 := by
  unfold own_rn own_or
  rw [if_neg (own_nm g0), if_neg (own_nm g1), if_neg (own_nm g2), if_neg (own_nm g3), if_neg (own_nm g4), if_neg (own_nm g5), if_neg (own_nm g6), if_neg (own_nm g7), if_neg (own_nm g8), if_pos (own_pm g9)]
  rw [if_pos (by rw [z]; rfl)]
  rw [own_on (i := 0) (n := 10) (j := 0) (by decide) rfl, own_on (i := 1) (n := 10) (j := 7) (by decide) rfl, own_on (i := 2) (n := 10) (j := 14) (by decide) rfl, own_on (i := 3) (n := 10) (j := 21) (by decide) rfl, own_on (i := 4) (n := 10) (j := 28) (by decide) rfl, own_on (i := 5) (n := 10) (j := 35) (by decide) rfl, own_on (i := 6) (n := 10) (j := 42) (by decide) rfl, own_on (i := 7) (n := 10) (j := 49) (by decide) rfl, own_on (i := 8) (n := 10) (j := 56) (by decide) rfl, own_on (i := 9) (n := 10) (j := 63) (by decide) rfl]
  simp only [own_m127, Int64.zero_or, Int64.or_zero, Nat.add_zero]
theorem own_fc10 (bs : List Int32) (ps : Nat) (g0 : ¬ ((bs.getD ps 0) &&& (128 : Int32)) = (0 : Int32)) (g1 : ¬ ((bs.getD (ps + 1) 0) &&& (128 : Int32)) = (0 : Int32)) (g2 : ¬ ((bs.getD (ps + 2) 0) &&& (128 : Int32)) = (0 : Int32)) (g3 : ¬ ((bs.getD (ps + 3) 0) &&& (128 : Int32)) = (0 : Int32)) (g4 : ¬ ((bs.getD (ps + 4) 0) &&& (128 : Int32)) = (0 : Int32)) (g5 : ¬ ((bs.getD (ps + 5) 0) &&& (128 : Int32)) = (0 : Int32)) (g6 : ¬ ((bs.getD (ps + 6) 0) &&& (128 : Int32)) = (0 : Int32)) (g7 : ¬ ((bs.getD (ps + 7) 0) &&& (128 : Int32)) = (0 : Int32)) (g8 : ¬ ((bs.getD (ps + 8) 0) &&& (128 : Int32)) = (0 : Int32)) (g9 : ¬ ((bs.getD (ps + 9) 0) &&& (128 : Int32)) = (0 : Int32)) : own_fc bs ps = 11 := by
  unfold own_fc
  rw [if_neg g0, if_neg g1, if_neg g2, if_neg g3, if_neg g4, if_neg g5, if_neg g6, if_neg g7, if_neg g8, if_neg g9]
theorem own_cn10 (bs : List Int32) (ps : Nat) (g0 : ¬ ((bs.getD ps 0) &&& (128 : Int32)) = (0 : Int32)) (g1 : ¬ ((bs.getD (ps + 1) 0) &&& (128 : Int32)) = (0 : Int32)) (g2 : ¬ ((bs.getD (ps + 2) 0) &&& (128 : Int32)) = (0 : Int32)) (g3 : ¬ ((bs.getD (ps + 3) 0) &&& (128 : Int32)) = (0 : Int32)) (g4 : ¬ ((bs.getD (ps + 4) 0) &&& (128 : Int32)) = (0 : Int32)) (g5 : ¬ ((bs.getD (ps + 5) 0) &&& (128 : Int32)) = (0 : Int32)) (g6 : ¬ ((bs.getD (ps + 6) 0) &&& (128 : Int32)) = (0 : Int32)) (g7 : ¬ ((bs.getD (ps + 7) 0) &&& (128 : Int32)) = (0 : Int32)) (g8 : ¬ ((bs.getD (ps + 8) 0) &&& (128 : Int32)) = (0 : Int32)) (g9 : ¬ ((bs.getD (ps + 9) 0) &&& (128 : Int32)) = (0 : Int32)) : own_cn bs ps = 10 := by
  unfold own_cn
  rw [if_neg (own_nm g0), if_neg (own_nm g1), if_neg (own_nm g2), if_neg (own_nm g3), if_neg (own_nm g4), if_neg (own_nm g5), if_neg (own_nm g6), if_neg (own_nm g7), if_neg (own_nm g8), if_neg (own_nm g9)]
theorem own_rn10 (bs : List Int32) (ps : Nat) (g0 : ¬ ((bs.getD ps 0) &&& (128 : Int32)) = (0 : Int32)) (g1 : ¬ ((bs.getD (ps + 1) 0) &&& (128 : Int32)) = (0 : Int32)) (g2 : ¬ ((bs.getD (ps + 2) 0) &&& (128 : Int32)) = (0 : Int32)) (g3 : ¬ ((bs.getD (ps + 3) 0) &&& (128 : Int32)) = (0 : Int32)) (g4 : ¬ ((bs.getD (ps + 4) 0) &&& (128 : Int32)) = (0 : Int32)) (g5 : ¬ ((bs.getD (ps + 5) 0) &&& (128 : Int32)) = (0 : Int32)) (g6 : ¬ ((bs.getD (ps + 6) 0) &&& (128 : Int32)) = (0 : Int32)) (g7 : ¬ ((bs.getD (ps + 7) 0) &&& (128 : Int32)) = (0 : Int32)) (g8 : ¬ ((bs.getD (ps + 8) 0) &&& (128 : Int32)) = (0 : Int32)) (g9 : ¬ ((bs.getD (ps + 9) 0) &&& (128 : Int32)) = (0 : Int32)) : own_rn bs ps = -1 := by
  unfold own_rn
  rw [if_neg (own_nm g0), if_neg (own_nm g1), if_neg (own_nm g2), if_neg (own_nm g3), if_neg (own_nm g4), if_neg (own_nm g5), if_neg (own_nm g6), if_neg (own_nm g7), if_neg (own_nm g8), if_neg (own_nm g9)]
theorem own_big (bs : List Int32) (ps : Nat) (hb : -128 ≤ (bs.getD (ps + 9) 0).toInt ∧ (bs.getD (ps + 9) 0).toInt < 128) : f4 (own_fc bs ps) 10 = Int32.ofNat (own_cn bs ps) ∧ (own_fc bs ps = 11 → own_rn bs ps = -1) ∧ (own_fc bs ps = 10 → ¬ (bs.getD (ps + 9) 0) = (0 : Int32) → own_rn bs ps = -1) ∧ (¬ own_fc bs ps = 11 → (own_fc bs ps = 10 → (bs.getD (ps + 9) 0) = (0 : Int32)) → own_rn bs ps = own_or bs ps (own_fc bs ps)) := by
  by_cases g0 : ((bs.getD ps 0) &&& (128 : Int32)) = (0 : Int32)
  · rw [own_fc0 bs ps g0, own_cn0 bs ps g0]
    exact ⟨by decide +kernel, fun q => absurd q (by decide), fun q => absurd q (by decide), fun _ _ => own_rn0 bs ps g0⟩
  by_cases g1 : ((bs.getD (ps + 1) 0) &&& (128 : Int32)) = (0 : Int32)
  · rw [own_fc1 bs ps g0 g1, own_cn1 bs ps g0 g1]
    exact ⟨by decide +kernel, fun q => absurd q (by decide), fun q => absurd q (by decide), fun _ _ => own_rn1 bs ps g0 g1⟩
  by_cases g2 : ((bs.getD (ps + 2) 0) &&& (128 : Int32)) = (0 : Int32)
  · rw [own_fc2 bs ps g0 g1 g2, own_cn2 bs ps g0 g1 g2]
    exact ⟨by decide +kernel, fun q => absurd q (by decide), fun q => absurd q (by decide), fun _ _ => own_rn2 bs ps g0 g1 g2⟩
  by_cases g3 : ((bs.getD (ps + 3) 0) &&& (128 : Int32)) = (0 : Int32)
  · rw [own_fc3 bs ps g0 g1 g2 g3, own_cn3 bs ps g0 g1 g2 g3]
    exact ⟨by decide +kernel, fun q => absurd q (by decide), fun q => absurd q (by decide), fun _ _ => own_rn3 bs ps g0 g1 g2 g3⟩
  by_cases g4 : ((bs.getD (ps + 4) 0) &&& (128 : Int32)) = (0 : Int32)
  · rw [own_fc4 bs ps g0 g1 g2 g3 g4, own_cn4 bs ps g0 g1 g2 g3 g4]
    exact ⟨by decide +kernel, fun q => absurd q (by decide), fun q => absurd q (by decide), fun _ _ => own_rn4 bs ps g0 g1 g2 g3 g4⟩
  by_cases g5 : ((bs.getD (ps + 5) 0) &&& (128 : Int32)) = (0 : Int32)
  · rw [own_fc5 bs ps g0 g1 g2 g3 g4 g5, own_cn5 bs ps g0 g1 g2 g3 g4 g5]
    exact ⟨by decide +kernel, fun q => absurd q (by decide), fun q => absurd q (by decide), fun _ _ => own_rn5 bs ps g0 g1 g2 g3 g4 g5⟩
  by_cases g6 : ((bs.getD (ps + 6) 0) &&& (128 : Int32)) = (0 : Int32)
  · rw [own_fc6 bs ps g0 g1 g2 g3 g4 g5 g6, own_cn6 bs ps g0 g1 g2 g3 g4 g5 g6]
    exact ⟨by decide +kernel, fun q => absurd q (by decide), fun q => absurd q (by decide), fun _ _ => own_rn6 bs ps g0 g1 g2 g3 g4 g5 g6⟩
  by_cases g7 : ((bs.getD (ps + 7) 0) &&& (128 : Int32)) = (0 : Int32)
  · rw [own_fc7 bs ps g0 g1 g2 g3 g4 g5 g6 g7, own_cn7 bs ps g0 g1 g2 g3 g4 g5 g6 g7]
    exact ⟨by decide +kernel, fun q => absurd q (by decide), fun q => absurd q (by decide), fun _ _ => own_rn7 bs ps g0 g1 g2 g3 g4 g5 g6 g7⟩
  by_cases g8 : ((bs.getD (ps + 8) 0) &&& (128 : Int32)) = (0 : Int32)
  · rw [own_fc8 bs ps g0 g1 g2 g3 g4 g5 g6 g7 g8, own_cn8 bs ps g0 g1 g2 g3 g4 g5 g6 g7 g8]
    exact ⟨by decide +kernel, fun q => absurd q (by decide), fun q => absurd q (by decide), fun _ _ => own_rn8 bs ps g0 g1 g2 g3 g4 g5 g6 g7 g8⟩
  by_cases g9 : ((bs.getD (ps + 9) 0) &&& (128 : Int32)) = (0 : Int32)
  · rw [own_fc9 bs ps g0 g1 g2 g3 g4 g5 g6 g7 g8 g9, own_cn9 bs ps g0 g1 g2 g3 g4 g5 g6 g7 g8 g9]
    exact ⟨by decide +kernel, fun q => absurd q (by decide), fun _ z => own_rn9a bs ps hb g0 g1 g2 g3 g4 g5 g6 g7 g8 g9 z, fun _ z => own_rn9b bs ps g0 g1 g2 g3 g4 g5 g6 g7 g8 g9 (z rfl)⟩
  rw [own_fc10 bs ps g0 g1 g2 g3 g4 g5 g6 g7 g8 g9, own_cn10 bs ps g0 g1 g2 g3 g4 g5 g6 g7 g8 g9]
  exact ⟨by decide +kernel, fun _ => own_rn10 bs ps g0 g1 g2 g3 g4 g5 g6 g7 g8 g9, fun q => absurd q (by decide), fun q => absurd rfl q⟩
theorem own_p11 {bs : List Int32} {ps : Nat} (hb : -128 ≤ (bs.getD (ps + 9) 0).toInt ∧ (bs.getD (ps + 9) 0).toInt < 128) (h : own_fc bs ps = 11) : own_rn bs ps = -1 := (own_big bs ps hb).2.1 h
theorem own_p10 {bs : List Int32} {ps : Nat} (hb : -128 ≤ (bs.getD (ps + 9) 0).toInt ∧ (bs.getD (ps + 9) 0).toInt < 128) (h : own_fc bs ps = 10) (z : ¬ (bs.getD (ps + 9) 0) = (0 : Int32)) : own_rn bs ps = -1 := (own_big bs ps hb).2.2.1 h z
theorem own_pok {bs : List Int32} {ps : Nat} (hb : -128 ≤ (bs.getD (ps + 9) 0).toInt ∧ (bs.getD (ps + 9) 0).toInt < 128) (h : ¬ own_fc bs ps = 11) (z : own_fc bs ps = 10 → (bs.getD (ps + 9) 0) = (0 : Int32)) : own_rn bs ps = own_or bs ps (own_fc bs ps) := (own_big bs ps hb).2.2.2 h z
theorem own_pos {bs : List Int32} {ps : Nat} (hb : -128 ≤ (bs.getD (ps + 9) 0).toInt ∧ (bs.getD (ps + 9) 0).toInt < 128) : Int32.ofNat (ps + own_cn bs ps) = Int32.ofNat ps + (f4 (own_fc bs ps) (10 : Int32)) := by
  rw [(own_big bs ps hb).1, own_addk]
theorem own_sub3 (a b c : Int32) : a - (b + c) = a - b - c := (Int32.sub_sub a b c).symm
theorem own_left {bs : List Int32} {ps : Nat} (E : Int32) (hb : -128 ≤ (bs.getD (ps + 9) 0).toInt ∧ (bs.getD (ps + 9) 0).toInt < 128) : E - Int32.ofNat (ps + own_cn bs ps) = (E - Int32.ofNat ps) - (f4 (own_fc bs ps) (10 : Int32)) := by
  rw [own_pos hb, own_sub3]
theorem own_byte {Z : State} {h : Heap} {a : Addr} {k : ClassId} {bs : List Int32} {i : Nat} (A : Arv Z h a k .byte (12 : Int32) (List.map Value.int bs) (.int (0 : Int32))) (hi : i < 12) : -128 ≤ (bs.getD i 0).toInt ∧ (bs.getD i 0).toInt < 128 := by
  obtain ⟨cl, -, -, S, -, -, G⟩ := A
  have g := G i (by rw [S]; exact hi)
  have e : (List.map Value.int bs).getD i (.int (0 : Int32)) = .int (bs.getD i 0) := by
    have := own_at bs (i := i) (by omega)
    rwa [own_n32 (by omega)] at this
  rw [e] at g
  have g2 : (decide ((-128 : Int32) ≤ bs.getD i 0) && decide (bs.getD i 0 ≤ (127 : Int32))) = true := g
  rw [Bool.and_eq_true, decide_eq_true_eq, decide_eq_true_eq, Int32.le_iff_toInt_le, Int32.le_iff_toInt_le, show (-128 : Int32).toInt = -128 from rfl, show (127 : Int32).toInt = 127 from rfl] at g2
  omega
theorem pn_0 : plainName "com/example/interleaved_tables/interleavedtables/storage/InputReadNumberPinLaw" = true := by first | (simp [plainName, overriddenIn]; done) | decide +kernel
theorem ef_0 (m : MethodId) (q0 : Int64) (p1 : Int32) (p2 : Int32) : entryFrame m #[(.long q0), (.int p1), (.int p2)] maxLocals = mkF m 0 #[.val (.long q0), .second, .val (.int p1), .val (.int p2), .unset, .unset, .unset, .unset, .unset, .unset, .unset, .unset, .unset, .unset, .unset] [] := by first | (simp [entryFrame, mkF, argsToLocals, Value.category, maxLocals]; done) | rfl
abbrev Q0 (Z : State) (q0 : Int64) (p1 : Int32) (p2 : Int32) (h0 : Heap) (n0 : Nat) (v : Option Value) (h : Heap) (L : List Loc) : Prop := v = some (.int 1) ∧ Fr n0 L
set_option maxRecDepth 65536 in
set_option maxHeartbeats 40000000 in
theorem rm0 (l : Launch) (Z : State) (a0 : Array Value) (hw : ∀ d ∈ tables_1, d.before a0 Z = true) (ws : List Jvm.Cond) (q0 : Int64) (p1 : Int32) (p2 : Int32) (h0 : Heap) (n0 : Nat) (Z0 : n0 ≤ h0.size) :
    MetFree l x (head1 (Jvm.Cond.code x code maxLocals ret :: ws) room_1) (fun a U => a = #[(.long q0), (.int p1), (.int p2)] ∧ Z.Warmed39 U.vm ∧ U.heap = h0) (fun _ _ _ _ _ => True) (fun _ U o U' => ∃ v L, o = .returned v ∧ Q0 Z q0 p1 p2 h0 n0 v U'.heap L ∧ FrameEnd U o U' L 2 15) := by
  refine MetFree.of_bodySF (plainFor_of_name pn_0) hisR ?_
  intro p ev s m args below meth c s₁ Bd hml0 hP hK
  obtain ⟨rfl, hZ, hh⟩ := hP
  have hx := Bd.exec
  have hby := Bd.bytes
  have hml : c.maxLocals = 15 := hml0
  have hown : s.vm.findClass "com/example/interleaved_tables/interleavedtables/storage/InputReadNumberPinLaw" = some m.cls := findClass_of_methodNamed Bd.named
  have hnm := (name_of_methodNamed Bd.named Bd.method).1
  have X0 : Stand p l ev room_1 s m #[(.long q0), (.int p1), (.int p2)] below meth c s₁ [] 0 0 := Stand.of_body Bd
  have eh0 : s₁.heap = h0 := by rw [← hh, Bd.state]; rfl
  have N0 := Fr.nil n0
  have Zs := Z0
  show Gol p ev below (FrameEnd s) (Q0 Z q0 p1 p2 h0 n0) 2 15 (s₁.setTop (entryFrame m #[(.long q0), (.int p1), (.int p2)] maxLocals))
  rw [ef_0]
  show GolF _ _ _ _ _ _ _ s₁ m 0 #[.val (.long q0), .second, .val (.int p1), .val (.int p2), .unset, .unset, .unset, .unset, .unset, .unset, .unset, .unset, .unset, .unset, .unset] []
  refine Gol.bipush X0 hx hby at_0 (pc' := 2) rfl (z := (12 : Int32)) rfl ?_
  refine Gol.newarr X0 hx hby hZ (hw _ (List.mem_of_getElem? (i := 0) rfl)) eh0 12 at_2 (pc' := 4) rfl (by decide) (by decide) (by decide) (by decide) (by decide) ?_
  intro T1 h1 k1 b1 g1 X1 e1 E1 A1
  have g_b1 : n0 ≤ b1 := Nat.le_trans Zs (Nat.le_of_eq g1.symm)
  have Zs := Nat.le_trans Zs E1.1
  have V_b1 : Arv Z h1 b1 k1 .byte (12 : Int32) [(.int (0 : Int32)), (.int (0 : Int32)), (.int (0 : Int32)), (.int (0 : Int32)), (.int (0 : Int32)), (.int (0 : Int32)), (.int (0 : Int32)), (.int (0 : Int32)), (.int (0 : Int32)), (.int (0 : Int32)), (.int (0 : Int32)), (.int (0 : Int32))] (.int (0 : Int32)) := A1.pad (pad_rep [] (.int (0 : Int32)) 12)
  refine Gol.astore X1 hx hby at_4 (pc' := 6) rfl rfl (l' := #[.val (.long q0), .second, .val (.int p1), .val (.int p2), .val (.ref b1), .unset, .unset, .unset, .unset, .unset, .unset, .unset, .unset, .unset, .unset]) rfl ?_
  refine Gol.aload X1 hx hby at_6 (pc' := 8) rfl rfl rfl ?_
  refine Gol.iconst X1 hx hby at_8 (pc' := 9) rfl (z := (0 : Int32)) rfl ?_
  refine Gol.lloadN X1 hx hby at_9 (pc' := 10) rfl rfl ?_
  refine Gol.l2i X1 hx hby at_10 (pc' := 11) rfl rfl ?_
  refine Gol.i2b X1 hx hby at_11 (pc' := 12) rfl rfl ?_
  refine Gol.bastore X1 hx hby hZ e1 V_b1 at_12 (pc' := 13) rfl ⟨by decide, by decide⟩ 0 rfl (Nat.le_of_ble_eq_true rfl) ?_
  intro T2 h2 X2 e2 W2 A2
  have V_b1 : Arv Z h2 b1 k1 .byte (12 : Int32) [(.int (nar .byte ((q0.toInt32).toInt8.toInt32))), (.int (0 : Int32)), (.int (0 : Int32)), (.int (0 : Int32)), (.int (0 : Int32)), (.int (0 : Int32)), (.int (0 : Int32)), (.int (0 : Int32)), (.int (0 : Int32)), (.int (0 : Int32)), (.int (0 : Int32)), (.int (0 : Int32))] (.int (0 : Int32)) := A2
  have Zs := Nat.le_trans Zs (Keep.of_wr W2).1
  have N2 := Fr.snoc X2 N0 g_b1
  refine Gol.aload X2 hx hby at_13 (pc' := 15) rfl rfl rfl ?_
  refine Gol.iconst X2 hx hby at_15 (pc' := 16) rfl (z := (1 : Int32)) rfl ?_
  refine Gol.lloadN X2 hx hby at_16 (pc' := 17) rfl rfl ?_
  refine Gol.bipush X2 hx hby at_17 (pc' := 19) rfl (z := (8 : Int32)) rfl ?_
  refine Gol.lushr X2 hx hby at_19 (pc' := 20) rfl rfl ?_
  refine Gol.l2i X2 hx hby at_20 (pc' := 21) rfl rfl ?_
  refine Gol.i2b X2 hx hby at_21 (pc' := 22) rfl rfl ?_
  refine Gol.bastore X2 hx hby hZ e2 V_b1 at_22 (pc' := 23) rfl ⟨by decide, by decide⟩ 1 rfl (Nat.le_of_ble_eq_true rfl) ?_
  intro T3 h3 X3 e3 W3 A3
  have V_b1 : Arv Z h3 b1 k1 .byte (12 : Int32) [(.int (nar .byte ((q0.toInt32).toInt8.toInt32))), (.int (nar .byte (((XT.ushrL q0 (8 : Int32)).toInt32).toInt8.toInt32))), (.int (0 : Int32)), (.int (0 : Int32)), (.int (0 : Int32)), (.int (0 : Int32)), (.int (0 : Int32)), (.int (0 : Int32)), (.int (0 : Int32)), (.int (0 : Int32)), (.int (0 : Int32)), (.int (0 : Int32))] (.int (0 : Int32)) := A3
  have Zs := Nat.le_trans Zs (Keep.of_wr W3).1
  have N3 := Fr.snoc X3 N2 g_b1
  refine Gol.aload X3 hx hby at_23 (pc' := 25) rfl rfl rfl ?_
  refine Gol.iconst X3 hx hby at_25 (pc' := 26) rfl (z := (2 : Int32)) rfl ?_
  refine Gol.lloadN X3 hx hby at_26 (pc' := 27) rfl rfl ?_
  refine Gol.bipush X3 hx hby at_27 (pc' := 29) rfl (z := (16 : Int32)) rfl ?_
  refine Gol.lushr X3 hx hby at_29 (pc' := 30) rfl rfl ?_
  refine Gol.l2i X3 hx hby at_30 (pc' := 31) rfl rfl ?_
  refine Gol.i2b X3 hx hby at_31 (pc' := 32) rfl rfl ?_
  refine Gol.bastore X3 hx hby hZ e3 V_b1 at_32 (pc' := 33) rfl ⟨by decide, by decide⟩ 2 rfl (Nat.le_of_ble_eq_true rfl) ?_
  intro T4 h4 X4 e4 W4 A4
  have V_b1 : Arv Z h4 b1 k1 .byte (12 : Int32) [(.int (nar .byte ((q0.toInt32).toInt8.toInt32))), (.int (nar .byte (((XT.ushrL q0 (8 : Int32)).toInt32).toInt8.toInt32))), (.int (nar .byte (((XT.ushrL q0 (16 : Int32)).toInt32).toInt8.toInt32))), (.int (0 : Int32)), (.int (0 : Int32)), (.int (0 : Int32)), (.int (0 : Int32)), (.int (0 : Int32)), (.int (0 : Int32)), (.int (0 : Int32)), (.int (0 : Int32)), (.int (0 : Int32))] (.int (0 : Int32)) := A4
  have Zs := Nat.le_trans Zs (Keep.of_wr W4).1
  have N4 := Fr.snoc X4 N3 g_b1
  refine Gol.aload X4 hx hby at_33 (pc' := 35) rfl rfl rfl ?_
  refine Gol.iconst X4 hx hby at_35 (pc' := 36) rfl (z := (3 : Int32)) rfl ?_
  refine Gol.lloadN X4 hx hby at_36 (pc' := 37) rfl rfl ?_
  refine Gol.bipush X4 hx hby at_37 (pc' := 39) rfl (z := (24 : Int32)) rfl ?_
  refine Gol.lushr X4 hx hby at_39 (pc' := 40) rfl rfl ?_
  refine Gol.l2i X4 hx hby at_40 (pc' := 41) rfl rfl ?_
  refine Gol.i2b X4 hx hby at_41 (pc' := 42) rfl rfl ?_
  refine Gol.bastore X4 hx hby hZ e4 V_b1 at_42 (pc' := 43) rfl ⟨by decide, by decide⟩ 3 rfl (Nat.le_of_ble_eq_true rfl) ?_
  intro T5 h5 X5 e5 W5 A5
  have V_b1 : Arv Z h5 b1 k1 .byte (12 : Int32) [(.int (nar .byte ((q0.toInt32).toInt8.toInt32))), (.int (nar .byte (((XT.ushrL q0 (8 : Int32)).toInt32).toInt8.toInt32))), (.int (nar .byte (((XT.ushrL q0 (16 : Int32)).toInt32).toInt8.toInt32))), (.int (nar .byte (((XT.ushrL q0 (24 : Int32)).toInt32).toInt8.toInt32))), (.int (0 : Int32)), (.int (0 : Int32)), (.int (0 : Int32)), (.int (0 : Int32)), (.int (0 : Int32)), (.int (0 : Int32)), (.int (0 : Int32)), (.int (0 : Int32))] (.int (0 : Int32)) := A5
  have Zs := Nat.le_trans Zs (Keep.of_wr W5).1
  have N5 := Fr.snoc X5 N4 g_b1
  refine Gol.aload X5 hx hby at_43 (pc' := 45) rfl rfl rfl ?_
  refine Gol.iconst X5 hx hby at_45 (pc' := 46) rfl (z := (4 : Int32)) rfl ?_
  refine Gol.lloadN X5 hx hby at_46 (pc' := 47) rfl rfl ?_
  refine Gol.bipush X5 hx hby at_47 (pc' := 49) rfl (z := (32 : Int32)) rfl ?_
  refine Gol.lushr X5 hx hby at_49 (pc' := 50) rfl rfl ?_
  refine Gol.l2i X5 hx hby at_50 (pc' := 51) rfl rfl ?_
  refine Gol.i2b X5 hx hby at_51 (pc' := 52) rfl rfl ?_
  refine Gol.bastore X5 hx hby hZ e5 V_b1 at_52 (pc' := 53) rfl ⟨by decide, by decide⟩ 4 rfl (Nat.le_of_ble_eq_true rfl) ?_
  intro T6 h6 X6 e6 W6 A6
  have V_b1 : Arv Z h6 b1 k1 .byte (12 : Int32) [(.int (nar .byte ((q0.toInt32).toInt8.toInt32))), (.int (nar .byte (((XT.ushrL q0 (8 : Int32)).toInt32).toInt8.toInt32))), (.int (nar .byte (((XT.ushrL q0 (16 : Int32)).toInt32).toInt8.toInt32))), (.int (nar .byte (((XT.ushrL q0 (24 : Int32)).toInt32).toInt8.toInt32))), (.int (nar .byte (((XT.ushrL q0 (32 : Int32)).toInt32).toInt8.toInt32))), (.int (0 : Int32)), (.int (0 : Int32)), (.int (0 : Int32)), (.int (0 : Int32)), (.int (0 : Int32)), (.int (0 : Int32)), (.int (0 : Int32))] (.int (0 : Int32)) := A6
  have Zs := Nat.le_trans Zs (Keep.of_wr W6).1
  have N6 := Fr.snoc X6 N5 g_b1
  refine Gol.aload X6 hx hby at_53 (pc' := 55) rfl rfl rfl ?_
  refine Gol.iconst X6 hx hby at_55 (pc' := 56) rfl (z := (5 : Int32)) rfl ?_
  refine Gol.lloadN X6 hx hby at_56 (pc' := 57) rfl rfl ?_
  refine Gol.bipush X6 hx hby at_57 (pc' := 59) rfl (z := (40 : Int32)) rfl ?_
  refine Gol.lushr X6 hx hby at_59 (pc' := 60) rfl rfl ?_
  refine Gol.l2i X6 hx hby at_60 (pc' := 61) rfl rfl ?_
  refine Gol.i2b X6 hx hby at_61 (pc' := 62) rfl rfl ?_
  refine Gol.bastore X6 hx hby hZ e6 V_b1 at_62 (pc' := 63) rfl ⟨by decide, by decide⟩ 5 rfl (Nat.le_of_ble_eq_true rfl) ?_
  intro T7 h7 X7 e7 W7 A7
  have V_b1 : Arv Z h7 b1 k1 .byte (12 : Int32) [(.int (nar .byte ((q0.toInt32).toInt8.toInt32))), (.int (nar .byte (((XT.ushrL q0 (8 : Int32)).toInt32).toInt8.toInt32))), (.int (nar .byte (((XT.ushrL q0 (16 : Int32)).toInt32).toInt8.toInt32))), (.int (nar .byte (((XT.ushrL q0 (24 : Int32)).toInt32).toInt8.toInt32))), (.int (nar .byte (((XT.ushrL q0 (32 : Int32)).toInt32).toInt8.toInt32))), (.int (nar .byte (((XT.ushrL q0 (40 : Int32)).toInt32).toInt8.toInt32))), (.int (0 : Int32)), (.int (0 : Int32)), (.int (0 : Int32)), (.int (0 : Int32)), (.int (0 : Int32)), (.int (0 : Int32))] (.int (0 : Int32)) := A7
  have Zs := Nat.le_trans Zs (Keep.of_wr W7).1
  have N7 := Fr.snoc X7 N6 g_b1
  refine Gol.aload X7 hx hby at_63 (pc' := 65) rfl rfl rfl ?_
  refine Gol.bipush X7 hx hby at_65 (pc' := 67) rfl (z := (6 : Int32)) rfl ?_
  refine Gol.lloadN X7 hx hby at_67 (pc' := 68) rfl rfl ?_
  refine Gol.bipush X7 hx hby at_68 (pc' := 70) rfl (z := (48 : Int32)) rfl ?_
  refine Gol.lushr X7 hx hby at_70 (pc' := 71) rfl rfl ?_
  refine Gol.l2i X7 hx hby at_71 (pc' := 72) rfl rfl ?_
  refine Gol.i2b X7 hx hby at_72 (pc' := 73) rfl rfl ?_
  refine Gol.bastore X7 hx hby hZ e7 V_b1 at_73 (pc' := 74) rfl ⟨by decide, by decide⟩ 6 rfl (Nat.le_of_ble_eq_true rfl) ?_
  intro T8 h8 X8 e8 W8 A8
  have V_b1 : Arv Z h8 b1 k1 .byte (12 : Int32) [(.int (nar .byte ((q0.toInt32).toInt8.toInt32))), (.int (nar .byte (((XT.ushrL q0 (8 : Int32)).toInt32).toInt8.toInt32))), (.int (nar .byte (((XT.ushrL q0 (16 : Int32)).toInt32).toInt8.toInt32))), (.int (nar .byte (((XT.ushrL q0 (24 : Int32)).toInt32).toInt8.toInt32))), (.int (nar .byte (((XT.ushrL q0 (32 : Int32)).toInt32).toInt8.toInt32))), (.int (nar .byte (((XT.ushrL q0 (40 : Int32)).toInt32).toInt8.toInt32))), (.int (nar .byte (((XT.ushrL q0 (48 : Int32)).toInt32).toInt8.toInt32))), (.int (0 : Int32)), (.int (0 : Int32)), (.int (0 : Int32)), (.int (0 : Int32)), (.int (0 : Int32))] (.int (0 : Int32)) := A8
  have Zs := Nat.le_trans Zs (Keep.of_wr W8).1
  have N8 := Fr.snoc X8 N7 g_b1
  refine Gol.aload X8 hx hby at_74 (pc' := 76) rfl rfl rfl ?_
  refine Gol.bipush X8 hx hby at_76 (pc' := 78) rfl (z := (7 : Int32)) rfl ?_
  refine Gol.lloadN X8 hx hby at_78 (pc' := 79) rfl rfl ?_
  refine Gol.bipush X8 hx hby at_79 (pc' := 81) rfl (z := (56 : Int32)) rfl ?_
  refine Gol.lushr X8 hx hby at_81 (pc' := 82) rfl rfl ?_
  refine Gol.l2i X8 hx hby at_82 (pc' := 83) rfl rfl ?_
  refine Gol.i2b X8 hx hby at_83 (pc' := 84) rfl rfl ?_
  refine Gol.bastore X8 hx hby hZ e8 V_b1 at_84 (pc' := 85) rfl ⟨by decide, by decide⟩ 7 rfl (Nat.le_of_ble_eq_true rfl) ?_
  intro T9 h9 X9 e9 W9 A9
  have V_b1 : Arv Z h9 b1 k1 .byte (12 : Int32) [(.int (nar .byte ((q0.toInt32).toInt8.toInt32))), (.int (nar .byte (((XT.ushrL q0 (8 : Int32)).toInt32).toInt8.toInt32))), (.int (nar .byte (((XT.ushrL q0 (16 : Int32)).toInt32).toInt8.toInt32))), (.int (nar .byte (((XT.ushrL q0 (24 : Int32)).toInt32).toInt8.toInt32))), (.int (nar .byte (((XT.ushrL q0 (32 : Int32)).toInt32).toInt8.toInt32))), (.int (nar .byte (((XT.ushrL q0 (40 : Int32)).toInt32).toInt8.toInt32))), (.int (nar .byte (((XT.ushrL q0 (48 : Int32)).toInt32).toInt8.toInt32))), (.int (nar .byte (((XT.ushrL q0 (56 : Int32)).toInt32).toInt8.toInt32))), (.int (0 : Int32)), (.int (0 : Int32)), (.int (0 : Int32)), (.int (0 : Int32))] (.int (0 : Int32)) := A9
  have Zs := Nat.le_trans Zs (Keep.of_wr W9).1
  have N9 := Fr.snoc X9 N8 g_b1
  refine Gol.aload X9 hx hby at_85 (pc' := 87) rfl rfl rfl ?_
  refine Gol.bipush X9 hx hby at_87 (pc' := 89) rfl (z := (8 : Int32)) rfl ?_
  refine Gol.iloadN X9 hx hby at_89 (pc' := 90) rfl rfl ?_
  refine Gol.i2b X9 hx hby at_90 (pc' := 91) rfl rfl ?_
  refine Gol.bastore X9 hx hby hZ e9 V_b1 at_91 (pc' := 92) rfl ⟨by decide, by decide⟩ 8 rfl (Nat.le_of_ble_eq_true rfl) ?_
  intro T10 h10 X10 e10 W10 A10
  have V_b1 : Arv Z h10 b1 k1 .byte (12 : Int32) [(.int (nar .byte ((q0.toInt32).toInt8.toInt32))), (.int (nar .byte (((XT.ushrL q0 (8 : Int32)).toInt32).toInt8.toInt32))), (.int (nar .byte (((XT.ushrL q0 (16 : Int32)).toInt32).toInt8.toInt32))), (.int (nar .byte (((XT.ushrL q0 (24 : Int32)).toInt32).toInt8.toInt32))), (.int (nar .byte (((XT.ushrL q0 (32 : Int32)).toInt32).toInt8.toInt32))), (.int (nar .byte (((XT.ushrL q0 (40 : Int32)).toInt32).toInt8.toInt32))), (.int (nar .byte (((XT.ushrL q0 (48 : Int32)).toInt32).toInt8.toInt32))), (.int (nar .byte (((XT.ushrL q0 (56 : Int32)).toInt32).toInt8.toInt32))), (.int (nar .byte (p1.toInt8.toInt32))), (.int (0 : Int32)), (.int (0 : Int32)), (.int (0 : Int32))] (.int (0 : Int32)) := A10
  have Zs := Nat.le_trans Zs (Keep.of_wr W10).1
  have N10 := Fr.snoc X10 N9 g_b1
  refine Gol.aload X10 hx hby at_92 (pc' := 94) rfl rfl rfl ?_
  refine Gol.bipush X10 hx hby at_94 (pc' := 96) rfl (z := (9 : Int32)) rfl ?_
  refine Gol.iloadN X10 hx hby at_96 (pc' := 97) rfl rfl ?_
  refine Gol.bipush X10 hx hby at_97 (pc' := 99) rfl (z := (8 : Int32)) rfl ?_
  refine Gol.iushr X10 hx hby at_99 (pc' := 100) rfl rfl ?_
  refine Gol.i2b X10 hx hby at_100 (pc' := 101) rfl rfl ?_
  refine Gol.bastore X10 hx hby hZ e10 V_b1 at_101 (pc' := 102) rfl ⟨by decide, by decide⟩ 9 rfl (Nat.le_of_ble_eq_true rfl) ?_
  intro T11 h11 X11 e11 W11 A11
  have V_b1 : Arv Z h11 b1 k1 .byte (12 : Int32) [(.int (nar .byte ((q0.toInt32).toInt8.toInt32))), (.int (nar .byte (((XT.ushrL q0 (8 : Int32)).toInt32).toInt8.toInt32))), (.int (nar .byte (((XT.ushrL q0 (16 : Int32)).toInt32).toInt8.toInt32))), (.int (nar .byte (((XT.ushrL q0 (24 : Int32)).toInt32).toInt8.toInt32))), (.int (nar .byte (((XT.ushrL q0 (32 : Int32)).toInt32).toInt8.toInt32))), (.int (nar .byte (((XT.ushrL q0 (40 : Int32)).toInt32).toInt8.toInt32))), (.int (nar .byte (((XT.ushrL q0 (48 : Int32)).toInt32).toInt8.toInt32))), (.int (nar .byte (((XT.ushrL q0 (56 : Int32)).toInt32).toInt8.toInt32))), (.int (nar .byte (p1.toInt8.toInt32))), (.int (nar .byte ((XT.ushr p1 (8 : Int32)).toInt8.toInt32))), (.int (0 : Int32)), (.int (0 : Int32))] (.int (0 : Int32)) := A11
  have Zs := Nat.le_trans Zs (Keep.of_wr W11).1
  have N11 := Fr.snoc X11 N10 g_b1
  refine Gol.aload X11 hx hby at_102 (pc' := 104) rfl rfl rfl ?_
  refine Gol.bipush X11 hx hby at_104 (pc' := 106) rfl (z := (10 : Int32)) rfl ?_
  refine Gol.iloadN X11 hx hby at_106 (pc' := 107) rfl rfl ?_
  refine Gol.bipush X11 hx hby at_107 (pc' := 109) rfl (z := (16 : Int32)) rfl ?_
  refine Gol.iushr X11 hx hby at_109 (pc' := 110) rfl rfl ?_
  refine Gol.i2b X11 hx hby at_110 (pc' := 111) rfl rfl ?_
  refine Gol.bastore X11 hx hby hZ e11 V_b1 at_111 (pc' := 112) rfl ⟨by decide, by decide⟩ 10 rfl (Nat.le_of_ble_eq_true rfl) ?_
  intro T12 h12 X12 e12 W12 A12
  have V_b1 : Arv Z h12 b1 k1 .byte (12 : Int32) [(.int (nar .byte ((q0.toInt32).toInt8.toInt32))), (.int (nar .byte (((XT.ushrL q0 (8 : Int32)).toInt32).toInt8.toInt32))), (.int (nar .byte (((XT.ushrL q0 (16 : Int32)).toInt32).toInt8.toInt32))), (.int (nar .byte (((XT.ushrL q0 (24 : Int32)).toInt32).toInt8.toInt32))), (.int (nar .byte (((XT.ushrL q0 (32 : Int32)).toInt32).toInt8.toInt32))), (.int (nar .byte (((XT.ushrL q0 (40 : Int32)).toInt32).toInt8.toInt32))), (.int (nar .byte (((XT.ushrL q0 (48 : Int32)).toInt32).toInt8.toInt32))), (.int (nar .byte (((XT.ushrL q0 (56 : Int32)).toInt32).toInt8.toInt32))), (.int (nar .byte (p1.toInt8.toInt32))), (.int (nar .byte ((XT.ushr p1 (8 : Int32)).toInt8.toInt32))), (.int (nar .byte ((XT.ushr p1 (16 : Int32)).toInt8.toInt32))), (.int (0 : Int32))] (.int (0 : Int32)) := A12
  have Zs := Nat.le_trans Zs (Keep.of_wr W12).1
  have N12 := Fr.snoc X12 N11 g_b1
  refine Gol.aload X12 hx hby at_112 (pc' := 114) rfl rfl rfl ?_
  refine Gol.bipush X12 hx hby at_114 (pc' := 116) rfl (z := (11 : Int32)) rfl ?_
  refine Gol.iloadN X12 hx hby at_116 (pc' := 117) rfl rfl ?_
  refine Gol.bipush X12 hx hby at_117 (pc' := 119) rfl (z := (24 : Int32)) rfl ?_
  refine Gol.iushr X12 hx hby at_119 (pc' := 120) rfl rfl ?_
  refine Gol.i2b X12 hx hby at_120 (pc' := 121) rfl rfl ?_
  refine Gol.bastore X12 hx hby hZ e12 V_b1 at_121 (pc' := 122) rfl ⟨by decide, by decide⟩ 11 rfl (Nat.le_of_ble_eq_true rfl) ?_
  intro T13 h13 X13 e13 W13 A13
  have V_b1 : Arv Z h13 b1 k1 .byte (12 : Int32) [(.int (nar .byte ((q0.toInt32).toInt8.toInt32))), (.int (nar .byte (((XT.ushrL q0 (8 : Int32)).toInt32).toInt8.toInt32))), (.int (nar .byte (((XT.ushrL q0 (16 : Int32)).toInt32).toInt8.toInt32))), (.int (nar .byte (((XT.ushrL q0 (24 : Int32)).toInt32).toInt8.toInt32))), (.int (nar .byte (((XT.ushrL q0 (32 : Int32)).toInt32).toInt8.toInt32))), (.int (nar .byte (((XT.ushrL q0 (40 : Int32)).toInt32).toInt8.toInt32))), (.int (nar .byte (((XT.ushrL q0 (48 : Int32)).toInt32).toInt8.toInt32))), (.int (nar .byte (((XT.ushrL q0 (56 : Int32)).toInt32).toInt8.toInt32))), (.int (nar .byte (p1.toInt8.toInt32))), (.int (nar .byte ((XT.ushr p1 (8 : Int32)).toInt8.toInt32))), (.int (nar .byte ((XT.ushr p1 (16 : Int32)).toInt8.toInt32))), (.int (nar .byte ((XT.ushr p1 (24 : Int32)).toInt8.toInt32)))] (.int (0 : Int32)) := A13
  have Zs := Nat.le_trans Zs (Keep.of_wr W13).1
  have N13 := Fr.snoc X13 N12 g_b1
  obtain ⟨bs0, hl0, hvs⟩ : ∃ z : List Int32, z.length = 12 ∧ Arv Z h13 b1 k1 .byte (12 : Int32) (List.map Value.int z) (.int (0 : Int32)) := ⟨[(nar .byte ((q0.toInt32).toInt8.toInt32)), (nar .byte (((XT.ushrL q0 (8 : Int32)).toInt32).toInt8.toInt32)), (nar .byte (((XT.ushrL q0 (16 : Int32)).toInt32).toInt8.toInt32)), (nar .byte (((XT.ushrL q0 (24 : Int32)).toInt32).toInt8.toInt32)), (nar .byte (((XT.ushrL q0 (32 : Int32)).toInt32).toInt8.toInt32)), (nar .byte (((XT.ushrL q0 (40 : Int32)).toInt32).toInt8.toInt32)), (nar .byte (((XT.ushrL q0 (48 : Int32)).toInt32).toInt8.toInt32)), (nar .byte (((XT.ushrL q0 (56 : Int32)).toInt32).toInt8.toInt32)), (nar .byte (p1.toInt8.toInt32)), (nar .byte ((XT.ushr p1 (8 : Int32)).toInt8.toInt32)), (nar .byte ((XT.ushr p1 (16 : Int32)).toInt8.toInt32)), (nar .byte ((XT.ushr p1 (24 : Int32)).toInt8.toInt32))], rfl, V_b1⟩
  have V_b1 := hvs
  refine Gol.iloadN X13 hx hby at_122 (pc' := 123) rfl rfl ?_
  refine Gol.ldcInt X13 hx hby hZ hown at_123 (pc' := 125) rfl (hw _ (List.mem_of_getElem? (i := 1) rfl)) ?_
  refine Gol.iand X13 hx hby at_125 (pc' := 126) rfl rfl ?_
  refine Gol.iconst X13 hx hby at_126 (pc' := 127) rfl (z := (3 : Int32)) rfl ?_
  refine Gol.irem X13 hx hby at_127 (pc' := 128) rfl (by decide) ?_
  obtain ⟨ps, hps, eps⟩ := own_rem3 p2
  rw [eps]
  show GolF _ _ _ _ _ _ _ T13 m 128 #[.val (.long q0), .second, .val (.int p1), .val (.int p2), .val (.ref b1), .unset, .unset, .unset, .unset, .unset, .unset, .unset, .unset, .unset, .unset] [(.int (Int32.ofNat ps))]
  refine Gol.istore X13 hx hby at_128 (pc' := 130) rfl (l' := #[.val (.long q0), .second, .val (.int p1), .val (.int p2), .val (.ref b1), .val (.int (Int32.ofNat ps)), .unset, .unset, .unset, .unset, .unset, .unset, .unset, .unset, .unset]) rfl ?_
  refine Gol.iloadN X13 hx hby at_130 (pc' := 131) rfl rfl ?_
  refine Gol.iconst X13 hx hby at_131 (pc' := 132) rfl (z := (2 : Int32)) rfl ?_
  refine Gol.iushr X13 hx hby at_132 (pc' := 133) rfl rfl ?_
  refine Gol.bipush X13 hx hby at_133 (pc' := 135) rfl (z := (15 : Int32)) rfl ?_
  refine Gol.iand X13 hx hby at_135 (pc' := 136) rfl rfl ?_
  refine Gol.bipush X13 hx hby at_136 (pc' := 138) rfl (z := (11 : Int32)) rfl ?_
  refine Gol.irem X13 hx hby at_138 (pc' := 139) rfl (by decide) ?_
  obtain ⟨kk, hkk⟩ : ∃ z, z = (((XT.ushr p2 (2 : Int32)) &&& (15 : Int32)) % (11 : Int32)) := ⟨_, rfl⟩
  rw [← hkk]
  show GolF _ _ _ _ _ _ _ T13 m 139 #[.val (.long q0), .second, .val (.int p1), .val (.int p2), .val (.ref b1), .val (.int (Int32.ofNat ps)), .unset, .unset, .unset, .unset, .unset, .unset, .unset, .unset, .unset] [(.int kk)]
  refine Gol.istore X13 hx hby at_139 (pc' := 141) rfl (l' := #[.val (.long q0), .second, .val (.int p1), .val (.int p2), .val (.ref b1), .val (.int (Int32.ofNat ps)), .val (.int kk), .unset, .unset, .unset, .unset, .unset, .unset, .unset, .unset]) rfl ?_
  refine Gol.iloadN X13 hx hby at_141 (pc' := 142) rfl rfl ?_
  refine Gol.bipush X13 hx hby at_142 (pc' := 144) rfl (z := (6 : Int32)) rfl ?_
  refine Gol.iushr X13 hx hby at_144 (pc' := 145) rfl rfl ?_
  refine Gol.iconst X13 hx hby at_145 (pc' := 146) rfl (z := (1 : Int32)) rfl ?_
  refine Gol.iand X13 hx hby at_146 (pc' := 147) rfl rfl ?_
  by_cases hc147_14 : ((XT.ushr p2 (6 : Int32)) &&& (1 : Int32)) = (0 : Int32)
  · skip
    refine Gol.ifYes X13 hx hby at_147 (pc' := 155) (by decide) ((if0 _ _).trans (teq hc147_14).1) ?_
    refine Gol.iload X13 hx hby at_155 (pc' := 157) rfl rfl ?_
    refine Gol.bipush X13 hx hby at_157 (pc' := 159) rfl (z := (10 : Int32)) rfl ?_
    refine Gol.iadd X13 hx hby at_159 (pc' := 160) rfl rfl ?_
    rw [show Int32.ofNat ps + (10 : Int32) = Int32.ofNat (ps + 10) from own_addk ps 10]
    show GolF _ _ _ _ _ _ _ T13 m 160 #[.val (.long q0), .second, .val (.int p1), .val (.int p2), .val (.ref b1), .val (.int (Int32.ofNat ps)), .val (.int kk), .unset, .unset, .unset, .unset, .unset, .unset, .unset, .unset] [(.int (Int32.ofNat (ps + 10)))]
    refine Gol.istore X13 hx hby at_160 (pc' := 162) rfl (l' := #[.val (.long q0), .second, .val (.int p1), .val (.int p2), .val (.ref b1), .val (.int (Int32.ofNat ps)), .val (.int kk), .val (.int (Int32.ofNat (ps + 10))), .unset, .unset, .unset, .unset, .unset, .unset, .unset]) rfl ?_
    refine Gol.aload X13 hx hby at_162 (pc' := 164) rfl rfl rfl ?_
    refine Gol.iload X13 hx hby at_164 (pc' := 166) rfl rfl ?_
    refine Gol.iconst X13 hx hby at_166 (pc' := 167) rfl (z := (0 : Int32)) rfl ?_
    refine Gol.iload X13 hx hby at_167 (pc' := 169) rfl rfl ?_
    refine Gol.callS X13 hx hby hZ hown 0 [(.ref b1), (.int (Int32.ofNat ps)), (.int (0 : Int32)), (.int kk)] (hw _ (List.mem_of_getElem? (i := 2) rfl)) (hw _ (List.mem_of_getElem? (i := 3) rfl)) (hw _ (List.mem_of_getElem? (i := 4) rfl)) (hw _ (List.mem_of_getElem? (i := 5) rfl)) (by decide) (rm1 l Z a0 hw [] b1 (Int32.ofNat ps) (0 : Int32) kk k1 bs0 (ps + 0) h13 n0 Zs (own_addk ps 0) (by omega) hl0 g_b1 V_b1) (by decide) (by decide) e13 (by rw [hml]; rfl) (rest := []) (Nat.le_of_eq rfl) (by decide) (by decide) (lenOf pd_0 rfl) rfl at_169 (pc' := 172) rfl ?_
    intro T15 v15 L15 X15 hQ15
    obtain ⟨rfl, Nq15, Kq15, bs15, hl15, V_b1⟩ := hQ15
    have N15 := Fr.app N13 Nq15
    have Zs := Nat.le_trans Zs Kq15.1
    show GolF _ _ _ _ _ _ _ T15 m 172 #[.val (.long q0), .second, .val (.int p1), .val (.int p2), .val (.ref b1), .val (.int (Int32.ofNat ps)), .val (.int kk), .val (.int (Int32.ofNat (ps + 10))), .unset, .unset, .unset, .unset, .unset, .unset, .unset] []
    refine Gol.aload X15 hx hby at_172 (pc' := 174) rfl rfl rfl ?_
    refine Gol.iload X15 hx hby at_174 (pc' := 176) rfl rfl ?_
    refine Gol.iconst X15 hx hby at_176 (pc' := 177) rfl (z := (1 : Int32)) rfl ?_
    refine Gol.iload X15 hx hby at_177 (pc' := 179) rfl rfl ?_
    refine Gol.callS X15 hx hby hZ hown 0 [(.ref b1), (.int (Int32.ofNat ps)), (.int (1 : Int32)), (.int kk)] (hw _ (List.mem_of_getElem? (i := 2) rfl)) (hw _ (List.mem_of_getElem? (i := 3) rfl)) (hw _ (List.mem_of_getElem? (i := 4) rfl)) (hw _ (List.mem_of_getElem? (i := 5) rfl)) (by decide) (rm1 l Z a0 hw [] b1 (Int32.ofNat ps) (1 : Int32) kk k1 bs15 (ps + 1) T15.heap n0 Zs (own_addk ps 1) (by omega) hl15 g_b1 V_b1) (by decide) (by decide) rfl (by rw [hml]; rfl) (rest := []) (Nat.le_of_eq rfl) (by decide) (by decide) (lenOf pd_0 rfl) rfl at_179 (pc' := 182) rfl ?_
    intro T16 v16 L16 X16 hQ16
    obtain ⟨rfl, Nq16, Kq16, bs16, hl16, V_b1⟩ := hQ16
    have N16 := Fr.app N15 Nq16
    have Zs := Nat.le_trans Zs Kq16.1
    show GolF _ _ _ _ _ _ _ T16 m 182 #[.val (.long q0), .second, .val (.int p1), .val (.int p2), .val (.ref b1), .val (.int (Int32.ofNat ps)), .val (.int kk), .val (.int (Int32.ofNat (ps + 10))), .unset, .unset, .unset, .unset, .unset, .unset, .unset] []
    refine Gol.aload X16 hx hby at_182 (pc' := 184) rfl rfl rfl ?_
    refine Gol.iload X16 hx hby at_184 (pc' := 186) rfl rfl ?_
    refine Gol.iconst X16 hx hby at_186 (pc' := 187) rfl (z := (2 : Int32)) rfl ?_
    refine Gol.iload X16 hx hby at_187 (pc' := 189) rfl rfl ?_
    refine Gol.callS X16 hx hby hZ hown 0 [(.ref b1), (.int (Int32.ofNat ps)), (.int (2 : Int32)), (.int kk)] (hw _ (List.mem_of_getElem? (i := 2) rfl)) (hw _ (List.mem_of_getElem? (i := 3) rfl)) (hw _ (List.mem_of_getElem? (i := 4) rfl)) (hw _ (List.mem_of_getElem? (i := 5) rfl)) (by decide) (rm1 l Z a0 hw [] b1 (Int32.ofNat ps) (2 : Int32) kk k1 bs16 (ps + 2) T16.heap n0 Zs (own_addk ps 2) (by omega) hl16 g_b1 V_b1) (by decide) (by decide) rfl (by rw [hml]; rfl) (rest := []) (Nat.le_of_eq rfl) (by decide) (by decide) (lenOf pd_0 rfl) rfl at_189 (pc' := 192) rfl ?_
    intro T17 v17 L17 X17 hQ17
    obtain ⟨rfl, Nq17, Kq17, bs17, hl17, V_b1⟩ := hQ17
    have N17 := Fr.app N16 Nq17
    have Zs := Nat.le_trans Zs Kq17.1
    show GolF _ _ _ _ _ _ _ T17 m 192 #[.val (.long q0), .second, .val (.int p1), .val (.int p2), .val (.ref b1), .val (.int (Int32.ofNat ps)), .val (.int kk), .val (.int (Int32.ofNat (ps + 10))), .unset, .unset, .unset, .unset, .unset, .unset, .unset] []
    refine Gol.aload X17 hx hby at_192 (pc' := 194) rfl rfl rfl ?_
    refine Gol.iload X17 hx hby at_194 (pc' := 196) rfl rfl ?_
    refine Gol.iconst X17 hx hby at_196 (pc' := 197) rfl (z := (3 : Int32)) rfl ?_
    refine Gol.iload X17 hx hby at_197 (pc' := 199) rfl rfl ?_
    refine Gol.callS X17 hx hby hZ hown 0 [(.ref b1), (.int (Int32.ofNat ps)), (.int (3 : Int32)), (.int kk)] (hw _ (List.mem_of_getElem? (i := 2) rfl)) (hw _ (List.mem_of_getElem? (i := 3) rfl)) (hw _ (List.mem_of_getElem? (i := 4) rfl)) (hw _ (List.mem_of_getElem? (i := 5) rfl)) (by decide) (rm1 l Z a0 hw [] b1 (Int32.ofNat ps) (3 : Int32) kk k1 bs17 (ps + 3) T17.heap n0 Zs (own_addk ps 3) (by omega) hl17 g_b1 V_b1) (by decide) (by decide) rfl (by rw [hml]; rfl) (rest := []) (Nat.le_of_eq rfl) (by decide) (by decide) (lenOf pd_0 rfl) rfl at_199 (pc' := 202) rfl ?_
    intro T18 v18 L18 X18 hQ18
    obtain ⟨rfl, Nq18, Kq18, bs18, hl18, V_b1⟩ := hQ18
    have N18 := Fr.app N17 Nq18
    have Zs := Nat.le_trans Zs Kq18.1
    show GolF _ _ _ _ _ _ _ T18 m 202 #[.val (.long q0), .second, .val (.int p1), .val (.int p2), .val (.ref b1), .val (.int (Int32.ofNat ps)), .val (.int kk), .val (.int (Int32.ofNat (ps + 10))), .unset, .unset, .unset, .unset, .unset, .unset, .unset] []
    refine Gol.aload X18 hx hby at_202 (pc' := 204) rfl rfl rfl ?_
    refine Gol.iload X18 hx hby at_204 (pc' := 206) rfl rfl ?_
    refine Gol.iconst X18 hx hby at_206 (pc' := 207) rfl (z := (4 : Int32)) rfl ?_
    refine Gol.iload X18 hx hby at_207 (pc' := 209) rfl rfl ?_
    refine Gol.callS X18 hx hby hZ hown 0 [(.ref b1), (.int (Int32.ofNat ps)), (.int (4 : Int32)), (.int kk)] (hw _ (List.mem_of_getElem? (i := 2) rfl)) (hw _ (List.mem_of_getElem? (i := 3) rfl)) (hw _ (List.mem_of_getElem? (i := 4) rfl)) (hw _ (List.mem_of_getElem? (i := 5) rfl)) (by decide) (rm1 l Z a0 hw [] b1 (Int32.ofNat ps) (4 : Int32) kk k1 bs18 (ps + 4) T18.heap n0 Zs (own_addk ps 4) (by omega) hl18 g_b1 V_b1) (by decide) (by decide) rfl (by rw [hml]; rfl) (rest := []) (Nat.le_of_eq rfl) (by decide) (by decide) (lenOf pd_0 rfl) rfl at_209 (pc' := 212) rfl ?_
    intro T19 v19 L19 X19 hQ19
    obtain ⟨rfl, Nq19, Kq19, bs19, hl19, V_b1⟩ := hQ19
    have N19 := Fr.app N18 Nq19
    have Zs := Nat.le_trans Zs Kq19.1
    show GolF _ _ _ _ _ _ _ T19 m 212 #[.val (.long q0), .second, .val (.int p1), .val (.int p2), .val (.ref b1), .val (.int (Int32.ofNat ps)), .val (.int kk), .val (.int (Int32.ofNat (ps + 10))), .unset, .unset, .unset, .unset, .unset, .unset, .unset] []
    refine Gol.aload X19 hx hby at_212 (pc' := 214) rfl rfl rfl ?_
    refine Gol.iload X19 hx hby at_214 (pc' := 216) rfl rfl ?_
    refine Gol.iconst X19 hx hby at_216 (pc' := 217) rfl (z := (5 : Int32)) rfl ?_
    refine Gol.iload X19 hx hby at_217 (pc' := 219) rfl rfl ?_
    refine Gol.callS X19 hx hby hZ hown 0 [(.ref b1), (.int (Int32.ofNat ps)), (.int (5 : Int32)), (.int kk)] (hw _ (List.mem_of_getElem? (i := 2) rfl)) (hw _ (List.mem_of_getElem? (i := 3) rfl)) (hw _ (List.mem_of_getElem? (i := 4) rfl)) (hw _ (List.mem_of_getElem? (i := 5) rfl)) (by decide) (rm1 l Z a0 hw [] b1 (Int32.ofNat ps) (5 : Int32) kk k1 bs19 (ps + 5) T19.heap n0 Zs (own_addk ps 5) (by omega) hl19 g_b1 V_b1) (by decide) (by decide) rfl (by rw [hml]; rfl) (rest := []) (Nat.le_of_eq rfl) (by decide) (by decide) (lenOf pd_0 rfl) rfl at_219 (pc' := 222) rfl ?_
    intro T20 v20 L20 X20 hQ20
    obtain ⟨rfl, Nq20, Kq20, bs20, hl20, V_b1⟩ := hQ20
    have N20 := Fr.app N19 Nq20
    have Zs := Nat.le_trans Zs Kq20.1
    show GolF _ _ _ _ _ _ _ T20 m 222 #[.val (.long q0), .second, .val (.int p1), .val (.int p2), .val (.ref b1), .val (.int (Int32.ofNat ps)), .val (.int kk), .val (.int (Int32.ofNat (ps + 10))), .unset, .unset, .unset, .unset, .unset, .unset, .unset] []
    refine Gol.aload X20 hx hby at_222 (pc' := 224) rfl rfl rfl ?_
    refine Gol.iload X20 hx hby at_224 (pc' := 226) rfl rfl ?_
    refine Gol.bipush X20 hx hby at_226 (pc' := 228) rfl (z := (6 : Int32)) rfl ?_
    refine Gol.iload X20 hx hby at_228 (pc' := 230) rfl rfl ?_
    refine Gol.callS X20 hx hby hZ hown 0 [(.ref b1), (.int (Int32.ofNat ps)), (.int (6 : Int32)), (.int kk)] (hw _ (List.mem_of_getElem? (i := 2) rfl)) (hw _ (List.mem_of_getElem? (i := 3) rfl)) (hw _ (List.mem_of_getElem? (i := 4) rfl)) (hw _ (List.mem_of_getElem? (i := 5) rfl)) (by decide) (rm1 l Z a0 hw [] b1 (Int32.ofNat ps) (6 : Int32) kk k1 bs20 (ps + 6) T20.heap n0 Zs (own_addk ps 6) (by omega) hl20 g_b1 V_b1) (by decide) (by decide) rfl (by rw [hml]; rfl) (rest := []) (Nat.le_of_eq rfl) (by decide) (by decide) (lenOf pd_0 rfl) rfl at_230 (pc' := 233) rfl ?_
    intro T21 v21 L21 X21 hQ21
    obtain ⟨rfl, Nq21, Kq21, bs21, hl21, V_b1⟩ := hQ21
    have N21 := Fr.app N20 Nq21
    have Zs := Nat.le_trans Zs Kq21.1
    show GolF _ _ _ _ _ _ _ T21 m 233 #[.val (.long q0), .second, .val (.int p1), .val (.int p2), .val (.ref b1), .val (.int (Int32.ofNat ps)), .val (.int kk), .val (.int (Int32.ofNat (ps + 10))), .unset, .unset, .unset, .unset, .unset, .unset, .unset] []
    refine Gol.aload X21 hx hby at_233 (pc' := 235) rfl rfl rfl ?_
    refine Gol.iload X21 hx hby at_235 (pc' := 237) rfl rfl ?_
    refine Gol.bipush X21 hx hby at_237 (pc' := 239) rfl (z := (7 : Int32)) rfl ?_
    refine Gol.iload X21 hx hby at_239 (pc' := 241) rfl rfl ?_
    refine Gol.callS X21 hx hby hZ hown 0 [(.ref b1), (.int (Int32.ofNat ps)), (.int (7 : Int32)), (.int kk)] (hw _ (List.mem_of_getElem? (i := 2) rfl)) (hw _ (List.mem_of_getElem? (i := 3) rfl)) (hw _ (List.mem_of_getElem? (i := 4) rfl)) (hw _ (List.mem_of_getElem? (i := 5) rfl)) (by decide) (rm1 l Z a0 hw [] b1 (Int32.ofNat ps) (7 : Int32) kk k1 bs21 (ps + 7) T21.heap n0 Zs (own_addk ps 7) (by omega) hl21 g_b1 V_b1) (by decide) (by decide) rfl (by rw [hml]; rfl) (rest := []) (Nat.le_of_eq rfl) (by decide) (by decide) (lenOf pd_0 rfl) rfl at_241 (pc' := 244) rfl ?_
    intro T22 v22 L22 X22 hQ22
    obtain ⟨rfl, Nq22, Kq22, bs22, hl22, V_b1⟩ := hQ22
    have N22 := Fr.app N21 Nq22
    have Zs := Nat.le_trans Zs Kq22.1
    show GolF _ _ _ _ _ _ _ T22 m 244 #[.val (.long q0), .second, .val (.int p1), .val (.int p2), .val (.ref b1), .val (.int (Int32.ofNat ps)), .val (.int kk), .val (.int (Int32.ofNat (ps + 10))), .unset, .unset, .unset, .unset, .unset, .unset, .unset] []
    refine Gol.aload X22 hx hby at_244 (pc' := 246) rfl rfl rfl ?_
    refine Gol.iload X22 hx hby at_246 (pc' := 248) rfl rfl ?_
    refine Gol.bipush X22 hx hby at_248 (pc' := 250) rfl (z := (8 : Int32)) rfl ?_
    refine Gol.iload X22 hx hby at_250 (pc' := 252) rfl rfl ?_
    refine Gol.callS X22 hx hby hZ hown 0 [(.ref b1), (.int (Int32.ofNat ps)), (.int (8 : Int32)), (.int kk)] (hw _ (List.mem_of_getElem? (i := 2) rfl)) (hw _ (List.mem_of_getElem? (i := 3) rfl)) (hw _ (List.mem_of_getElem? (i := 4) rfl)) (hw _ (List.mem_of_getElem? (i := 5) rfl)) (by decide) (rm1 l Z a0 hw [] b1 (Int32.ofNat ps) (8 : Int32) kk k1 bs22 (ps + 8) T22.heap n0 Zs (own_addk ps 8) (by omega) hl22 g_b1 V_b1) (by decide) (by decide) rfl (by rw [hml]; rfl) (rest := []) (Nat.le_of_eq rfl) (by decide) (by decide) (lenOf pd_0 rfl) rfl at_252 (pc' := 255) rfl ?_
    intro T23 v23 L23 X23 hQ23
    obtain ⟨rfl, Nq23, Kq23, bs23, hl23, V_b1⟩ := hQ23
    have N23 := Fr.app N22 Nq23
    have Zs := Nat.le_trans Zs Kq23.1
    show GolF _ _ _ _ _ _ _ T23 m 255 #[.val (.long q0), .second, .val (.int p1), .val (.int p2), .val (.ref b1), .val (.int (Int32.ofNat ps)), .val (.int kk), .val (.int (Int32.ofNat (ps + 10))), .unset, .unset, .unset, .unset, .unset, .unset, .unset] []
    refine Gol.aload X23 hx hby at_255 (pc' := 257) rfl rfl rfl ?_
    refine Gol.iload X23 hx hby at_257 (pc' := 259) rfl rfl ?_
    refine Gol.bipush X23 hx hby at_259 (pc' := 261) rfl (z := (9 : Int32)) rfl ?_
    refine Gol.iload X23 hx hby at_261 (pc' := 263) rfl rfl ?_
    refine Gol.callS X23 hx hby hZ hown 0 [(.ref b1), (.int (Int32.ofNat ps)), (.int (9 : Int32)), (.int kk)] (hw _ (List.mem_of_getElem? (i := 2) rfl)) (hw _ (List.mem_of_getElem? (i := 3) rfl)) (hw _ (List.mem_of_getElem? (i := 4) rfl)) (hw _ (List.mem_of_getElem? (i := 5) rfl)) (by decide) (rm1 l Z a0 hw [] b1 (Int32.ofNat ps) (9 : Int32) kk k1 bs23 (ps + 9) T23.heap n0 Zs (own_addk ps 9) (by omega) hl23 g_b1 V_b1) (by decide) (by decide) rfl (by rw [hml]; rfl) (rest := []) (Nat.le_of_eq rfl) (by decide) (by decide) (lenOf pd_0 rfl) rfl at_263 (pc' := 266) rfl ?_
    intro T24 v24 L24 X24 hQ24
    obtain ⟨rfl, Nq24, Kq24, bs24, hl24, V_b1⟩ := hQ24
    have N24 := Fr.app N23 Nq24
    have Zs := Nat.le_trans Zs Kq24.1
    show GolF _ _ _ _ _ _ _ T24 m 266 #[.val (.long q0), .second, .val (.int p1), .val (.int p2), .val (.ref b1), .val (.int (Int32.ofNat ps)), .val (.int kk), .val (.int (Int32.ofNat (ps + 10))), .unset, .unset, .unset, .unset, .unset, .unset, .unset] []
    refine Gol.aload X24 hx hby at_266 (pc' := 268) rfl rfl rfl ?_
    refine Gol.iload X24 hx hby at_268 (pc' := 270) rfl rfl ?_
    refine Gol.callS X24 hx hby hZ hown 0 [(.ref b1), (.int (Int32.ofNat ps))] (hw _ (List.mem_of_getElem? (i := 6) rfl)) (hw _ (List.mem_of_getElem? (i := 7) rfl)) (hw _ (List.mem_of_getElem? (i := 4) rfl)) (hw _ (List.mem_of_getElem? (i := 8) rfl)) (by decide) (rm2 l Z a0 hw [] b1 (Int32.ofNat ps) k1 bs24 ps T24.heap n0 Zs rfl hps V_b1) (by decide) (by decide) rfl (by rw [hml]; rfl) (rest := []) (Nat.le_of_eq rfl) (by decide) (by decide) (lenOf pd_1 rfl) rfl at_270 (pc' := 273) rfl ?_
    intro T25 v25 L25 X25 hQ25
    obtain ⟨rfl, Nq25, eq25⟩ := hQ25
    have N25 := Fr.app N24 Nq25
    show GolF _ _ _ _ _ _ _ T25 m 273 #[.val (.long q0), .second, .val (.int p1), .val (.int p2), .val (.ref b1), .val (.int (Int32.ofNat ps)), .val (.int kk), .val (.int (Int32.ofNat (ps + 10))), .unset, .unset, .unset, .unset, .unset, .unset, .unset] [(.int (own_fc bs24 ps))]
    refine Gol.istore X25 hx hby at_273 (pc' := 275) rfl (l' := #[.val (.long q0), .second, .val (.int p1), .val (.int p2), .val (.ref b1), .val (.int (Int32.ofNat ps)), .val (.int kk), .val (.int (Int32.ofNat (ps + 10))), .val (.int (own_fc bs24 ps)), .unset, .unset, .unset, .unset, .unset, .unset]) rfl ?_
    refine Gol.iload X25 hx hby at_275 (pc' := 277) rfl rfl ?_
    refine Gol.bipush X25 hx hby at_277 (pc' := 279) rfl (z := (11 : Int32)) rfl ?_
    by_cases hc279_26 : (own_fc bs24 ps) = (11 : Int32)
    · skip
      refine Gol.icmpNo X25 hx hby at_279 (pc' := 282) rfl (teq hc279_26).2 ?_
      refine Gol.ldc2Long X25 hx hby hZ hown at_282 (pc' := 285) rfl (hw _ (List.mem_of_getElem? (i := 46) rfl)) ?_
      refine Gol.lstore X25 hx hby at_285 (pc' := 287) rfl (l' := #[.val (.long q0), .second, .val (.int p1), .val (.int p2), .val (.ref b1), .val (.int (Int32.ofNat ps)), .val (.int kk), .val (.int (Int32.ofNat (ps + 10))), .val (.int (own_fc bs24 ps)), .val (.long (-1 : Int64)), .second, .unset, .unset, .unset, .unset]) rfl ?_
      refine Gol.goto X25 hx hby at_287 (pc' := 431) (by decide) ?_
      refine Gol.iload X25 hx hby at_431 (pc' := 433) rfl rfl ?_
      refine Gol.bipush X25 hx hby at_433 (pc' := 435) rfl (z := (10 : Int32)) rfl ?_
      refine Gol.callS X25 hx hby hZ hown 0 [(.int (own_fc bs24 ps)), (.int (10 : Int32))] (hw _ (List.mem_of_getElem? (i := 12) rfl)) (hw _ (List.mem_of_getElem? (i := 13) rfl)) (hw _ (List.mem_of_getElem? (i := 14) rfl)) (hw _ (List.mem_of_getElem? (i := 15) rfl)) (by decide) (rm4 l Z a0 hw [] (own_fc bs24 ps) (10 : Int32)  T24.heap n0 Zs ) (by decide) (by decide) eq25 (by rw [hml]; rfl) (rest := []) (Nat.le_of_eq rfl) (by decide) (by decide) (lenOf pd_2 rfl) rfl at_435 (pc' := 438) rfl ?_
      intro T27 v27 L27 X27 hQ27
      obtain ⟨rfl, Nq27, eq27⟩ := hQ27
      have N27 := Fr.app N25 Nq27
      show GolF _ _ _ _ _ _ _ T27 m 438 #[.val (.long q0), .second, .val (.int p1), .val (.int p2), .val (.ref b1), .val (.int (Int32.ofNat ps)), .val (.int kk), .val (.int (Int32.ofNat (ps + 10))), .val (.int (own_fc bs24 ps)), .val (.long (-1 : Int64)), .second, .unset, .unset, .unset, .unset] [(.int (f4 (own_fc bs24 ps) (10 : Int32) ))]
      refine Gol.istore X27 hx hby at_438 (pc' := 440) rfl (l' := #[.val (.long q0), .second, .val (.int p1), .val (.int p2), .val (.ref b1), .val (.int (Int32.ofNat ps)), .val (.int kk), .val (.int (Int32.ofNat (ps + 10))), .val (.int (own_fc bs24 ps)), .val (.long (-1 : Int64)), .second, .val (.int (f4 (own_fc bs24 ps) (10 : Int32) )), .unset, .unset, .unset]) rfl ?_
      refine Gol.newO X27 hx hby hZ hown (hw _ (List.mem_of_getElem? (i := 16) rfl)) (hw _ (List.mem_of_getElem? (i := 17) rfl)) (hw _ (List.mem_of_getElem? (i := 18) rfl)) eq27 at_440 (pc' := 443) rfl (by decide) (by decide) ?_
      intro T28 h28 b28 g28 X28 e28 E28 A28 D28
      have lo_b1_b28 : b1 < b28 := Nat.lt_of_lt_of_le V_b1.lt (Nat.le_of_eq g28.symm)
      have ne_b1_b28 : b1 ≠ b28 := Nat.ne_of_lt lo_b1_b28
      have g_b28 : n0 ≤ b28 := Nat.le_trans Zs (Nat.le_of_eq g28.symm)
      have V_b1 := V_b1.ext E28
      have Zs := Nat.le_trans Zs E28.1
      have E_b28 := A28
      have F_b28_bytes : Fld Z h28 b28 "com/example/interleaved_tables/interleavedtables/storage/DataFile$Input" "bytes" "[B" .null := D28 (Or.inr (hw _ (List.mem_of_getElem? (i := 26) rfl))) (ty := (.array .byte)) (by decide)
      have F_b28_position : Fld Z h28 b28 "com/example/interleaved_tables/interleavedtables/storage/DataFile$Input" "position" "I" (.int (0 : Int32)) := D28 (Or.inl (hw _ (List.mem_of_getElem? (i := 28) rfl))) (ty := .int) (by decide)
      have F_b28_end : Fld Z h28 b28 "com/example/interleaved_tables/interleavedtables/storage/DataFile$Input" "end" "I" (.int (0 : Int32)) := D28 (Or.inr (hw _ (List.mem_of_getElem? (i := 30) rfl))) (ty := .int) (by decide)
      refine Gol.dup X28 hx hby at_443 (pc' := 444) rfl rfl ?_
      refine Gol.aload X28 hx hby at_444 (pc' := 446) rfl rfl rfl ?_
      refine Gol.iload X28 hx hby at_446 (pc' := 448) rfl rfl ?_
      refine Gol.iload X28 hx hby at_448 (pc' := 450) rfl rfl ?_
      refine Gol.callI X28 hx hby hZ hown 1 [(.ref b1), (.int (Int32.ofNat ps)), (.int (Int32.ofNat (ps + 10)))] (a := b28) (hw _ (List.mem_of_getElem? (i := 19) rfl)) (hw _ (List.mem_of_getElem? (i := 20) rfl)) (hw _ (List.mem_of_getElem? (i := 18) rfl)) rfl (hw _ (List.mem_of_getElem? (i := 21) rfl)) rfl (by decide) (rm5 l Z a0 hw [] b28 b1 (Int32.ofNat ps) (Int32.ofNat (ps + 10))  h28 n0 Zs ⟨E_b28, F_b28_bytes, F_b28_position, F_b28_end⟩ g_b28) (by decide) (by decide) e28 (by rw [hml]; rfl) (rest := [(.ref b28)]) (Nat.le_of_eq rfl) (by decide) (by decide) (lenOf pd_3 rfl) rfl at_450 (pc' := 453) rfl ?_
      intro T29 v29 L29 X29 hQ29
      obtain ⟨rfl, Nq29, Kq29, Oq29⟩ := hQ29
      have N29 := Fr.app N27 Nq29
      have E_b28 := E_b28.keep Kq29
      have V_b1 := V_b1.keep Kq29 (ninS ne_b1_b28 nin0)
      have Zs := Nat.le_trans Zs Kq29.1
      show GolF _ _ _ _ _ _ _ T29 m 453 #[.val (.long q0), .second, .val (.int p1), .val (.int p2), .val (.ref b1), .val (.int (Int32.ofNat ps)), .val (.int kk), .val (.int (Int32.ofNat (ps + 10))), .val (.int (own_fc bs24 ps)), .val (.long (-1 : Int64)), .second, .val (.int (f4 (own_fc bs24 ps) (10 : Int32) )), .unset, .unset, .unset] [(.ref b28)]
      obtain ⟨E_b28, F_b28_bytes, F_b28_position, F_b28_end⟩ := Oq29
      refine Gol.astore X29 hx hby at_453 (pc' := 455) rfl rfl (l' := #[.val (.long q0), .second, .val (.int p1), .val (.int p2), .val (.ref b1), .val (.int (Int32.ofNat ps)), .val (.int kk), .val (.int (Int32.ofNat (ps + 10))), .val (.int (own_fc bs24 ps)), .val (.long (-1 : Int64)), .second, .val (.int (f4 (own_fc bs24 ps) (10 : Int32) )), .val (.ref b28), .unset, .unset]) rfl ?_
      refine Gol.aload X29 hx hby at_455 (pc' := 457) rfl rfl rfl ?_
      refine Gol.callV X29 hx hby hZ hown 0 [] (a := b28) (hw _ (List.mem_of_getElem? (i := 31) rfl)) (hw _ (List.mem_of_getElem? (i := 32) rfl)) (notFace_of_selects (args := #[]) (mvT hZ (hw _ (List.mem_of_getElem? (i := 34) rfl)))) (hw _ (List.mem_of_getElem? (i := 34) rfl)) (hw _ (List.mem_of_getElem? (i := 33) rfl)) (hw _ (List.mem_of_getElem? (i := 18) rfl)) (hw _ (List.mem_of_getElem? (i := 35) rfl)) (by decide) E_b28 (rm7 l Z a0 hw [] b28 b1 k1 bs24 ps (ps + 10) T29.heap n0 Zs hps (by omega) (by omega) g_b28 ne_b1_b28.symm ⟨E_b28, F_b28_bytes, F_b28_position, F_b28_end⟩ V_b1) (by decide) (by decide) rfl (by rw [hml]; rfl) (rest := []) (Nat.le_of_eq rfl) (by decide) (by decide) (lenOf pd_4 rfl) rfl at_457 (pc' := 460) rfl ?_
      intro T30 v30 L30 X30 hQ30
      obtain ⟨rfl, Nq30, Kq30, Oq30⟩ := hQ30
      have N30 := Fr.app N29 Nq30
      have E_b28 := E_b28.keep Kq30
      have V_b1 := V_b1.keep Kq30 (ninS ne_b1_b28 nin0)
      have Zs := Nat.le_trans Zs Kq30.1
      show GolF _ _ _ _ _ _ _ T30 m 460 #[.val (.long q0), .second, .val (.int p1), .val (.int p2), .val (.ref b1), .val (.int (Int32.ofNat ps)), .val (.int kk), .val (.int (Int32.ofNat (ps + 10))), .val (.int (own_fc bs24 ps)), .val (.long (-1 : Int64)), .second, .val (.int (f4 (own_fc bs24 ps) (10 : Int32) )), .val (.ref b28), .unset, .unset] [(.long (own_rn bs24 ps))]
      obtain ⟨E_b28, F_b28_bytes, F_b28_position, F_b28_end⟩ := Oq30
      refine Gol.lstore X30 hx hby at_460 (pc' := 462) rfl (l' := #[.val (.long q0), .second, .val (.int p1), .val (.int p2), .val (.ref b1), .val (.int (Int32.ofNat ps)), .val (.int kk), .val (.int (Int32.ofNat (ps + 10))), .val (.int (own_fc bs24 ps)), .val (.long (-1 : Int64)), .second, .val (.int (f4 (own_fc bs24 ps) (10 : Int32) )), .val (.ref b28), .val (.long (own_rn bs24 ps)), .second]) rfl ?_
      refine Gol.lload X30 hx hby at_462 (pc' := 464) rfl rfl ?_
      refine Gol.lload X30 hx hby at_464 (pc' := 466) rfl rfl ?_
      refine Gol.lcmp X30 hx hby at_466 (pc' := 467) rfl ?_
      refine Gol.ifNo X30 hx hby at_467 (pc' := 470) rfl (teqL (own_p11 (own_byte V_b1 (by omega)) hc279_26)).2 ?_
      refine Gol.aload X30 hx hby at_470 (pc' := 472) rfl rfl rfl ?_
      refine Gol.callV X30 hx hby hZ hown 0 [] (a := b28) (hw _ (List.mem_of_getElem? (i := 36) rfl)) (hw _ (List.mem_of_getElem? (i := 37) rfl)) (notFace_of_selects (args := #[]) (mvT hZ (hw _ (List.mem_of_getElem? (i := 39) rfl)))) (hw _ (List.mem_of_getElem? (i := 39) rfl)) (hw _ (List.mem_of_getElem? (i := 38) rfl)) (hw _ (List.mem_of_getElem? (i := 18) rfl)) (hw _ (List.mem_of_getElem? (i := 40) rfl)) (by decide) E_b28 (rm8 l Z a0 hw [] b28 (.ref b1) (Int32.ofNat (ps + own_cn bs24 ps)) (Int32.ofNat (ps + 10)) T30.heap n0 Zs ⟨E_b28, F_b28_bytes, F_b28_position, F_b28_end⟩) (by decide) (by decide) rfl (by rw [hml]; rfl) (rest := []) (Nat.le_of_eq rfl) (by decide) (by decide) (lenOf pd_5 rfl) rfl at_472 (pc' := 475) rfl ?_
      intro T31 v31 L31 X31 hQ31
      obtain ⟨rfl, Nq31, eq31⟩ := hQ31
      have N31 := Fr.app N30 Nq31
      show GolF _ _ _ _ _ _ _ T31 m 475 #[.val (.long q0), .second, .val (.int p1), .val (.int p2), .val (.ref b1), .val (.int (Int32.ofNat ps)), .val (.int kk), .val (.int (Int32.ofNat (ps + 10))), .val (.int (own_fc bs24 ps)), .val (.long (-1 : Int64)), .second, .val (.int (f4 (own_fc bs24 ps) (10 : Int32) )), .val (.ref b28), .val (.long (own_rn bs24 ps)), .second] [(.int (Int32.ofNat (ps + own_cn bs24 ps)))]
      refine Gol.iload X31 hx hby at_475 (pc' := 477) rfl rfl ?_
      refine Gol.iload X31 hx hby at_477 (pc' := 479) rfl rfl ?_
      refine Gol.iadd X31 hx hby at_479 (pc' := 480) rfl rfl ?_
      refine Gol.icmpNo X31 hx hby at_480 (pc' := 483) rfl (teq (own_pos (own_byte V_b1 (by omega)))).2 ?_
      refine Gol.aload X31 hx hby at_483 (pc' := 485) rfl rfl rfl ?_
      refine Gol.callV X31 hx hby hZ hown 0 [] (a := b28) (hw _ (List.mem_of_getElem? (i := 41) rfl)) (hw _ (List.mem_of_getElem? (i := 42) rfl)) (notFace_of_selects (args := #[]) (mvT hZ (hw _ (List.mem_of_getElem? (i := 44) rfl)))) (hw _ (List.mem_of_getElem? (i := 44) rfl)) (hw _ (List.mem_of_getElem? (i := 43) rfl)) (hw _ (List.mem_of_getElem? (i := 18) rfl)) (hw _ (List.mem_of_getElem? (i := 45) rfl)) (by decide) E_b28 (rm9 l Z a0 hw [] b28 (.ref b1) (Int32.ofNat (ps + own_cn bs24 ps)) (Int32.ofNat (ps + 10)) T30.heap n0 Zs ⟨E_b28, F_b28_bytes, F_b28_position, F_b28_end⟩) (by decide) (by decide) eq31 (by rw [hml]; rfl) (rest := []) (Nat.le_of_eq rfl) (by decide) (by decide) (lenOf pd_5 rfl) rfl at_485 (pc' := 488) rfl ?_
      intro T32 v32 L32 X32 hQ32
      obtain ⟨rfl, Nq32, eq32⟩ := hQ32
      have N32 := Fr.app N31 Nq32
      show GolF _ _ _ _ _ _ _ T32 m 488 #[.val (.long q0), .second, .val (.int p1), .val (.int p2), .val (.ref b1), .val (.int (Int32.ofNat ps)), .val (.int kk), .val (.int (Int32.ofNat (ps + 10))), .val (.int (own_fc bs24 ps)), .val (.long (-1 : Int64)), .second, .val (.int (f4 (own_fc bs24 ps) (10 : Int32) )), .val (.ref b28), .val (.long (own_rn bs24 ps)), .second] [(.int ((Int32.ofNat (ps + 10)) - (Int32.ofNat (ps + own_cn bs24 ps))))]
      refine Gol.iload X32 hx hby at_488 (pc' := 490) rfl rfl ?_
      refine Gol.iload X32 hx hby at_490 (pc' := 492) rfl rfl ?_
      refine Gol.isub X32 hx hby at_492 (pc' := 493) rfl rfl ?_
      refine Gol.iload X32 hx hby at_493 (pc' := 495) rfl rfl ?_
      refine Gol.isub X32 hx hby at_495 (pc' := 496) rfl rfl ?_
      refine Gol.icmpNo X32 hx hby at_496 (pc' := 499) rfl (teq (own_left _ (own_byte V_b1 (by omega)))).2 ?_
      refine Gol.iconst X32 hx hby at_499 (pc' := 500) rfl (z := (1 : Int32)) rfl ?_
      refine Gol.goto X32 hx hby at_500 (pc' := 504) (by decide) ?_
      exact Gol.retN X32 hx hby (t := .boolean) Bd.returns (by simp) Bd.notSynchronized at_504 eq32 ⟨rfl, N32⟩ (by decide) (by decide)
    · skip
      refine Gol.icmpYes X25 hx hby at_279 (pc' := 290) (by decide) (feq hc279_26).2 ?_
      refine Gol.iload X25 hx hby at_290 (pc' := 292) rfl rfl ?_
      refine Gol.bipush X25 hx hby at_292 (pc' := 294) rfl (z := (10 : Int32)) rfl ?_
      by_cases hc294_33 : (own_fc bs24 ps) = (10 : Int32)
      · skip
        refine Gol.icmpNo X25 hx hby at_294 (pc' := 297) rfl (teq hc294_33).2 ?_
        refine Gol.aload X25 hx hby at_297 (pc' := 299) rfl rfl rfl ?_
        refine Gol.iload X25 hx hby at_299 (pc' := 301) rfl rfl ?_
        refine Gol.bipush X25 hx hby at_301 (pc' := 303) rfl (z := (9 : Int32)) rfl ?_
        refine Gol.iadd X25 hx hby at_303 (pc' := 304) rfl rfl ?_
        rw [show Int32.ofNat ps + (9 : Int32) = Int32.ofNat (ps + 9) from own_addk ps 9]
        show GolF _ _ _ _ _ _ _ T25 m 304 #[.val (.long q0), .second, .val (.int p1), .val (.int p2), .val (.ref b1), .val (.int (Int32.ofNat ps)), .val (.int kk), .val (.int (Int32.ofNat (ps + 10))), .val (.int (own_fc bs24 ps)), .unset, .unset, .unset, .unset, .unset, .unset] [(.int (Int32.ofNat (ps + 9))), (.ref b1)]
        refine Gol.baload X25 hx hby hZ eq25 V_b1 at_304 (pc' := 305) rfl (own_in (by omega)) (v := (bs24.getD (ps + 9) 0)) (own_at bs24 (by omega)) ?_
        by_cases hc305_34 : (bs24.getD (ps + 9) 0) = (0 : Int32)
        · skip
          refine Gol.ifYes X25 hx hby at_305 (pc' := 316) (by decide) ((if0 _ _).trans (teq hc305_34).1) ?_
          refine Gol.aload X25 hx hby at_316 (pc' := 318) rfl rfl rfl ?_
          refine Gol.iload X25 hx hby at_318 (pc' := 320) rfl rfl ?_
          refine Gol.iconst X25 hx hby at_320 (pc' := 321) rfl (z := (0 : Int32)) rfl ?_
          refine Gol.iload X25 hx hby at_321 (pc' := 323) rfl rfl ?_
          refine Gol.callS X25 hx hby hZ hown 0 [(.ref b1), (.int (Int32.ofNat ps)), (.int (0 : Int32)), (.int (own_fc bs24 ps))] (hw _ (List.mem_of_getElem? (i := 9) rfl)) (hw _ (List.mem_of_getElem? (i := 10) rfl)) (hw _ (List.mem_of_getElem? (i := 4) rfl)) (hw _ (List.mem_of_getElem? (i := 11) rfl)) (by decide) (rm3 l Z a0 hw [] b1 (Int32.ofNat ps) (0 : Int32) (own_fc bs24 ps) k1 bs24 (ps + 0) T24.heap n0 Zs (own_addk ps 0) (by omega) V_b1) (by decide) (by decide) eq25 (by rw [hml]; rfl) (rest := []) (Nat.le_of_eq rfl) (by decide) (by decide) (lenOf pd_6 rfl) rfl at_323 (pc' := 326) rfl ?_
          intro T35 v35 L35 X35 hQ35
          obtain ⟨rfl, Nq35, eq35⟩ := hQ35
          have N35 := Fr.app N25 Nq35
          show GolF _ _ _ _ _ _ _ T35 m 326 #[.val (.long q0), .second, .val (.int p1), .val (.int p2), .val (.ref b1), .val (.int (Int32.ofNat ps)), .val (.int kk), .val (.int (Int32.ofNat (ps + 10))), .val (.int (own_fc bs24 ps)), .unset, .unset, .unset, .unset, .unset, .unset] [(.long (own_tm (bs24.getD (ps + 0) 0) (0 : Int32) (own_fc bs24 ps)))]
          refine Gol.aload X35 hx hby at_326 (pc' := 328) rfl rfl rfl ?_
          refine Gol.iload X35 hx hby at_328 (pc' := 330) rfl rfl ?_
          refine Gol.iconst X35 hx hby at_330 (pc' := 331) rfl (z := (1 : Int32)) rfl ?_
          refine Gol.iload X35 hx hby at_331 (pc' := 333) rfl rfl ?_
          refine Gol.callS X35 hx hby hZ hown 2 [(.ref b1), (.int (Int32.ofNat ps)), (.int (1 : Int32)), (.int (own_fc bs24 ps))] (hw _ (List.mem_of_getElem? (i := 9) rfl)) (hw _ (List.mem_of_getElem? (i := 10) rfl)) (hw _ (List.mem_of_getElem? (i := 4) rfl)) (hw _ (List.mem_of_getElem? (i := 11) rfl)) (by decide) (rm3 l Z a0 hw [] b1 (Int32.ofNat ps) (1 : Int32) (own_fc bs24 ps) k1 bs24 (ps + 1) T24.heap n0 Zs (own_addk ps 1) (by omega) V_b1) (by decide) (by decide) eq35 (by rw [hml]; rfl) (rest := [(.long (own_tm (bs24.getD (ps + 0) 0) (0 : Int32) (own_fc bs24 ps)))]) (Nat.le_of_eq rfl) (by decide) (by decide) (lenOf pd_6 rfl) rfl at_333 (pc' := 336) rfl ?_
          intro T36 v36 L36 X36 hQ36
          obtain ⟨rfl, Nq36, eq36⟩ := hQ36
          have N36 := Fr.app N35 Nq36
          show GolF _ _ _ _ _ _ _ T36 m 336 #[.val (.long q0), .second, .val (.int p1), .val (.int p2), .val (.ref b1), .val (.int (Int32.ofNat ps)), .val (.int kk), .val (.int (Int32.ofNat (ps + 10))), .val (.int (own_fc bs24 ps)), .unset, .unset, .unset, .unset, .unset, .unset] [(.long (own_tm (bs24.getD (ps + 1) 0) (1 : Int32) (own_fc bs24 ps))), (.long (own_tm (bs24.getD (ps + 0) 0) (0 : Int32) (own_fc bs24 ps)))]
          refine Gol.lor X36 hx hby at_336 (pc' := 337) rfl rfl ?_
          refine Gol.aload X36 hx hby at_337 (pc' := 339) rfl rfl rfl ?_
          refine Gol.iload X36 hx hby at_339 (pc' := 341) rfl rfl ?_
          refine Gol.iconst X36 hx hby at_341 (pc' := 342) rfl (z := (2 : Int32)) rfl ?_
          refine Gol.iload X36 hx hby at_342 (pc' := 344) rfl rfl ?_
          refine Gol.callS X36 hx hby hZ hown 2 [(.ref b1), (.int (Int32.ofNat ps)), (.int (2 : Int32)), (.int (own_fc bs24 ps))] (hw _ (List.mem_of_getElem? (i := 9) rfl)) (hw _ (List.mem_of_getElem? (i := 10) rfl)) (hw _ (List.mem_of_getElem? (i := 4) rfl)) (hw _ (List.mem_of_getElem? (i := 11) rfl)) (by decide) (rm3 l Z a0 hw [] b1 (Int32.ofNat ps) (2 : Int32) (own_fc bs24 ps) k1 bs24 (ps + 2) T24.heap n0 Zs (own_addk ps 2) (by omega) V_b1) (by decide) (by decide) eq36 (by rw [hml]; rfl) (rest := [(.long ((own_tm (bs24.getD (ps + 0) 0) (0 : Int32) (own_fc bs24 ps)) ||| (own_tm (bs24.getD (ps + 1) 0) (1 : Int32) (own_fc bs24 ps))))]) (Nat.le_of_eq rfl) (by decide) (by decide) (lenOf pd_6 rfl) rfl at_344 (pc' := 347) rfl ?_
          intro T37 v37 L37 X37 hQ37
          obtain ⟨rfl, Nq37, eq37⟩ := hQ37
          have N37 := Fr.app N36 Nq37
          show GolF _ _ _ _ _ _ _ T37 m 347 #[.val (.long q0), .second, .val (.int p1), .val (.int p2), .val (.ref b1), .val (.int (Int32.ofNat ps)), .val (.int kk), .val (.int (Int32.ofNat (ps + 10))), .val (.int (own_fc bs24 ps)), .unset, .unset, .unset, .unset, .unset, .unset] [(.long (own_tm (bs24.getD (ps + 2) 0) (2 : Int32) (own_fc bs24 ps))), (.long ((own_tm (bs24.getD (ps + 0) 0) (0 : Int32) (own_fc bs24 ps)) ||| (own_tm (bs24.getD (ps + 1) 0) (1 : Int32) (own_fc bs24 ps))))]
          refine Gol.lor X37 hx hby at_347 (pc' := 348) rfl rfl ?_
          refine Gol.aload X37 hx hby at_348 (pc' := 350) rfl rfl rfl ?_
          refine Gol.iload X37 hx hby at_350 (pc' := 352) rfl rfl ?_
          refine Gol.iconst X37 hx hby at_352 (pc' := 353) rfl (z := (3 : Int32)) rfl ?_
          refine Gol.iload X37 hx hby at_353 (pc' := 355) rfl rfl ?_
          refine Gol.callS X37 hx hby hZ hown 2 [(.ref b1), (.int (Int32.ofNat ps)), (.int (3 : Int32)), (.int (own_fc bs24 ps))] (hw _ (List.mem_of_getElem? (i := 9) rfl)) (hw _ (List.mem_of_getElem? (i := 10) rfl)) (hw _ (List.mem_of_getElem? (i := 4) rfl)) (hw _ (List.mem_of_getElem? (i := 11) rfl)) (by decide) (rm3 l Z a0 hw [] b1 (Int32.ofNat ps) (3 : Int32) (own_fc bs24 ps) k1 bs24 (ps + 3) T24.heap n0 Zs (own_addk ps 3) (by omega) V_b1) (by decide) (by decide) eq37 (by rw [hml]; rfl) (rest := [(.long (((own_tm (bs24.getD (ps + 0) 0) (0 : Int32) (own_fc bs24 ps)) ||| (own_tm (bs24.getD (ps + 1) 0) (1 : Int32) (own_fc bs24 ps))) ||| (own_tm (bs24.getD (ps + 2) 0) (2 : Int32) (own_fc bs24 ps))))]) (Nat.le_of_eq rfl) (by decide) (by decide) (lenOf pd_6 rfl) rfl at_355 (pc' := 358) rfl ?_
          intro T38 v38 L38 X38 hQ38
          obtain ⟨rfl, Nq38, eq38⟩ := hQ38
          have N38 := Fr.app N37 Nq38
          show GolF _ _ _ _ _ _ _ T38 m 358 #[.val (.long q0), .second, .val (.int p1), .val (.int p2), .val (.ref b1), .val (.int (Int32.ofNat ps)), .val (.int kk), .val (.int (Int32.ofNat (ps + 10))), .val (.int (own_fc bs24 ps)), .unset, .unset, .unset, .unset, .unset, .unset] [(.long (own_tm (bs24.getD (ps + 3) 0) (3 : Int32) (own_fc bs24 ps))), (.long (((own_tm (bs24.getD (ps + 0) 0) (0 : Int32) (own_fc bs24 ps)) ||| (own_tm (bs24.getD (ps + 1) 0) (1 : Int32) (own_fc bs24 ps))) ||| (own_tm (bs24.getD (ps + 2) 0) (2 : Int32) (own_fc bs24 ps))))]
          refine Gol.lor X38 hx hby at_358 (pc' := 359) rfl rfl ?_
          refine Gol.aload X38 hx hby at_359 (pc' := 361) rfl rfl rfl ?_
          refine Gol.iload X38 hx hby at_361 (pc' := 363) rfl rfl ?_
          refine Gol.iconst X38 hx hby at_363 (pc' := 364) rfl (z := (4 : Int32)) rfl ?_
          refine Gol.iload X38 hx hby at_364 (pc' := 366) rfl rfl ?_
          refine Gol.callS X38 hx hby hZ hown 2 [(.ref b1), (.int (Int32.ofNat ps)), (.int (4 : Int32)), (.int (own_fc bs24 ps))] (hw _ (List.mem_of_getElem? (i := 9) rfl)) (hw _ (List.mem_of_getElem? (i := 10) rfl)) (hw _ (List.mem_of_getElem? (i := 4) rfl)) (hw _ (List.mem_of_getElem? (i := 11) rfl)) (by decide) (rm3 l Z a0 hw [] b1 (Int32.ofNat ps) (4 : Int32) (own_fc bs24 ps) k1 bs24 (ps + 4) T24.heap n0 Zs (own_addk ps 4) (by omega) V_b1) (by decide) (by decide) eq38 (by rw [hml]; rfl) (rest := [(.long ((((own_tm (bs24.getD (ps + 0) 0) (0 : Int32) (own_fc bs24 ps)) ||| (own_tm (bs24.getD (ps + 1) 0) (1 : Int32) (own_fc bs24 ps))) ||| (own_tm (bs24.getD (ps + 2) 0) (2 : Int32) (own_fc bs24 ps))) ||| (own_tm (bs24.getD (ps + 3) 0) (3 : Int32) (own_fc bs24 ps))))]) (Nat.le_of_eq rfl) (by decide) (by decide) (lenOf pd_6 rfl) rfl at_366 (pc' := 369) rfl ?_
          intro T39 v39 L39 X39 hQ39
          obtain ⟨rfl, Nq39, eq39⟩ := hQ39
          have N39 := Fr.app N38 Nq39
          show GolF _ _ _ _ _ _ _ T39 m 369 #[.val (.long q0), .second, .val (.int p1), .val (.int p2), .val (.ref b1), .val (.int (Int32.ofNat ps)), .val (.int kk), .val (.int (Int32.ofNat (ps + 10))), .val (.int (own_fc bs24 ps)), .unset, .unset, .unset, .unset, .unset, .unset] [(.long (own_tm (bs24.getD (ps + 4) 0) (4 : Int32) (own_fc bs24 ps))), (.long ((((own_tm (bs24.getD (ps + 0) 0) (0 : Int32) (own_fc bs24 ps)) ||| (own_tm (bs24.getD (ps + 1) 0) (1 : Int32) (own_fc bs24 ps))) ||| (own_tm (bs24.getD (ps + 2) 0) (2 : Int32) (own_fc bs24 ps))) ||| (own_tm (bs24.getD (ps + 3) 0) (3 : Int32) (own_fc bs24 ps))))]
          refine Gol.lor X39 hx hby at_369 (pc' := 370) rfl rfl ?_
          refine Gol.aload X39 hx hby at_370 (pc' := 372) rfl rfl rfl ?_
          refine Gol.iload X39 hx hby at_372 (pc' := 374) rfl rfl ?_
          refine Gol.iconst X39 hx hby at_374 (pc' := 375) rfl (z := (5 : Int32)) rfl ?_
          refine Gol.iload X39 hx hby at_375 (pc' := 377) rfl rfl ?_
          refine Gol.callS X39 hx hby hZ hown 2 [(.ref b1), (.int (Int32.ofNat ps)), (.int (5 : Int32)), (.int (own_fc bs24 ps))] (hw _ (List.mem_of_getElem? (i := 9) rfl)) (hw _ (List.mem_of_getElem? (i := 10) rfl)) (hw _ (List.mem_of_getElem? (i := 4) rfl)) (hw _ (List.mem_of_getElem? (i := 11) rfl)) (by decide) (rm3 l Z a0 hw [] b1 (Int32.ofNat ps) (5 : Int32) (own_fc bs24 ps) k1 bs24 (ps + 5) T24.heap n0 Zs (own_addk ps 5) (by omega) V_b1) (by decide) (by decide) eq39 (by rw [hml]; rfl) (rest := [(.long (((((own_tm (bs24.getD (ps + 0) 0) (0 : Int32) (own_fc bs24 ps)) ||| (own_tm (bs24.getD (ps + 1) 0) (1 : Int32) (own_fc bs24 ps))) ||| (own_tm (bs24.getD (ps + 2) 0) (2 : Int32) (own_fc bs24 ps))) ||| (own_tm (bs24.getD (ps + 3) 0) (3 : Int32) (own_fc bs24 ps))) ||| (own_tm (bs24.getD (ps + 4) 0) (4 : Int32) (own_fc bs24 ps))))]) (Nat.le_of_eq rfl) (by decide) (by decide) (lenOf pd_6 rfl) rfl at_377 (pc' := 380) rfl ?_
          intro T40 v40 L40 X40 hQ40
          obtain ⟨rfl, Nq40, eq40⟩ := hQ40
          have N40 := Fr.app N39 Nq40
          show GolF _ _ _ _ _ _ _ T40 m 380 #[.val (.long q0), .second, .val (.int p1), .val (.int p2), .val (.ref b1), .val (.int (Int32.ofNat ps)), .val (.int kk), .val (.int (Int32.ofNat (ps + 10))), .val (.int (own_fc bs24 ps)), .unset, .unset, .unset, .unset, .unset, .unset] [(.long (own_tm (bs24.getD (ps + 5) 0) (5 : Int32) (own_fc bs24 ps))), (.long (((((own_tm (bs24.getD (ps + 0) 0) (0 : Int32) (own_fc bs24 ps)) ||| (own_tm (bs24.getD (ps + 1) 0) (1 : Int32) (own_fc bs24 ps))) ||| (own_tm (bs24.getD (ps + 2) 0) (2 : Int32) (own_fc bs24 ps))) ||| (own_tm (bs24.getD (ps + 3) 0) (3 : Int32) (own_fc bs24 ps))) ||| (own_tm (bs24.getD (ps + 4) 0) (4 : Int32) (own_fc bs24 ps))))]
          refine Gol.lor X40 hx hby at_380 (pc' := 381) rfl rfl ?_
          refine Gol.aload X40 hx hby at_381 (pc' := 383) rfl rfl rfl ?_
          refine Gol.iload X40 hx hby at_383 (pc' := 385) rfl rfl ?_
          refine Gol.bipush X40 hx hby at_385 (pc' := 387) rfl (z := (6 : Int32)) rfl ?_
          refine Gol.iload X40 hx hby at_387 (pc' := 389) rfl rfl ?_
          refine Gol.callS X40 hx hby hZ hown 2 [(.ref b1), (.int (Int32.ofNat ps)), (.int (6 : Int32)), (.int (own_fc bs24 ps))] (hw _ (List.mem_of_getElem? (i := 9) rfl)) (hw _ (List.mem_of_getElem? (i := 10) rfl)) (hw _ (List.mem_of_getElem? (i := 4) rfl)) (hw _ (List.mem_of_getElem? (i := 11) rfl)) (by decide) (rm3 l Z a0 hw [] b1 (Int32.ofNat ps) (6 : Int32) (own_fc bs24 ps) k1 bs24 (ps + 6) T24.heap n0 Zs (own_addk ps 6) (by omega) V_b1) (by decide) (by decide) eq40 (by rw [hml]; rfl) (rest := [(.long ((((((own_tm (bs24.getD (ps + 0) 0) (0 : Int32) (own_fc bs24 ps)) ||| (own_tm (bs24.getD (ps + 1) 0) (1 : Int32) (own_fc bs24 ps))) ||| (own_tm (bs24.getD (ps + 2) 0) (2 : Int32) (own_fc bs24 ps))) ||| (own_tm (bs24.getD (ps + 3) 0) (3 : Int32) (own_fc bs24 ps))) ||| (own_tm (bs24.getD (ps + 4) 0) (4 : Int32) (own_fc bs24 ps))) ||| (own_tm (bs24.getD (ps + 5) 0) (5 : Int32) (own_fc bs24 ps))))]) (Nat.le_of_eq rfl) (by decide) (by decide) (lenOf pd_6 rfl) rfl at_389 (pc' := 392) rfl ?_
          intro T41 v41 L41 X41 hQ41
          obtain ⟨rfl, Nq41, eq41⟩ := hQ41
          have N41 := Fr.app N40 Nq41
          show GolF _ _ _ _ _ _ _ T41 m 392 #[.val (.long q0), .second, .val (.int p1), .val (.int p2), .val (.ref b1), .val (.int (Int32.ofNat ps)), .val (.int kk), .val (.int (Int32.ofNat (ps + 10))), .val (.int (own_fc bs24 ps)), .unset, .unset, .unset, .unset, .unset, .unset] [(.long (own_tm (bs24.getD (ps + 6) 0) (6 : Int32) (own_fc bs24 ps))), (.long ((((((own_tm (bs24.getD (ps + 0) 0) (0 : Int32) (own_fc bs24 ps)) ||| (own_tm (bs24.getD (ps + 1) 0) (1 : Int32) (own_fc bs24 ps))) ||| (own_tm (bs24.getD (ps + 2) 0) (2 : Int32) (own_fc bs24 ps))) ||| (own_tm (bs24.getD (ps + 3) 0) (3 : Int32) (own_fc bs24 ps))) ||| (own_tm (bs24.getD (ps + 4) 0) (4 : Int32) (own_fc bs24 ps))) ||| (own_tm (bs24.getD (ps + 5) 0) (5 : Int32) (own_fc bs24 ps))))]
          refine Gol.lor X41 hx hby at_392 (pc' := 393) rfl rfl ?_
          refine Gol.aload X41 hx hby at_393 (pc' := 395) rfl rfl rfl ?_
          refine Gol.iload X41 hx hby at_395 (pc' := 397) rfl rfl ?_
          refine Gol.bipush X41 hx hby at_397 (pc' := 399) rfl (z := (7 : Int32)) rfl ?_
          refine Gol.iload X41 hx hby at_399 (pc' := 401) rfl rfl ?_
          refine Gol.callS X41 hx hby hZ hown 2 [(.ref b1), (.int (Int32.ofNat ps)), (.int (7 : Int32)), (.int (own_fc bs24 ps))] (hw _ (List.mem_of_getElem? (i := 9) rfl)) (hw _ (List.mem_of_getElem? (i := 10) rfl)) (hw _ (List.mem_of_getElem? (i := 4) rfl)) (hw _ (List.mem_of_getElem? (i := 11) rfl)) (by decide) (rm3 l Z a0 hw [] b1 (Int32.ofNat ps) (7 : Int32) (own_fc bs24 ps) k1 bs24 (ps + 7) T24.heap n0 Zs (own_addk ps 7) (by omega) V_b1) (by decide) (by decide) eq41 (by rw [hml]; rfl) (rest := [(.long (((((((own_tm (bs24.getD (ps + 0) 0) (0 : Int32) (own_fc bs24 ps)) ||| (own_tm (bs24.getD (ps + 1) 0) (1 : Int32) (own_fc bs24 ps))) ||| (own_tm (bs24.getD (ps + 2) 0) (2 : Int32) (own_fc bs24 ps))) ||| (own_tm (bs24.getD (ps + 3) 0) (3 : Int32) (own_fc bs24 ps))) ||| (own_tm (bs24.getD (ps + 4) 0) (4 : Int32) (own_fc bs24 ps))) ||| (own_tm (bs24.getD (ps + 5) 0) (5 : Int32) (own_fc bs24 ps))) ||| (own_tm (bs24.getD (ps + 6) 0) (6 : Int32) (own_fc bs24 ps))))]) (Nat.le_of_eq rfl) (by decide) (by decide) (lenOf pd_6 rfl) rfl at_401 (pc' := 404) rfl ?_
          intro T42 v42 L42 X42 hQ42
          obtain ⟨rfl, Nq42, eq42⟩ := hQ42
          have N42 := Fr.app N41 Nq42
          show GolF _ _ _ _ _ _ _ T42 m 404 #[.val (.long q0), .second, .val (.int p1), .val (.int p2), .val (.ref b1), .val (.int (Int32.ofNat ps)), .val (.int kk), .val (.int (Int32.ofNat (ps + 10))), .val (.int (own_fc bs24 ps)), .unset, .unset, .unset, .unset, .unset, .unset] [(.long (own_tm (bs24.getD (ps + 7) 0) (7 : Int32) (own_fc bs24 ps))), (.long (((((((own_tm (bs24.getD (ps + 0) 0) (0 : Int32) (own_fc bs24 ps)) ||| (own_tm (bs24.getD (ps + 1) 0) (1 : Int32) (own_fc bs24 ps))) ||| (own_tm (bs24.getD (ps + 2) 0) (2 : Int32) (own_fc bs24 ps))) ||| (own_tm (bs24.getD (ps + 3) 0) (3 : Int32) (own_fc bs24 ps))) ||| (own_tm (bs24.getD (ps + 4) 0) (4 : Int32) (own_fc bs24 ps))) ||| (own_tm (bs24.getD (ps + 5) 0) (5 : Int32) (own_fc bs24 ps))) ||| (own_tm (bs24.getD (ps + 6) 0) (6 : Int32) (own_fc bs24 ps))))]
          refine Gol.lor X42 hx hby at_404 (pc' := 405) rfl rfl ?_
          refine Gol.aload X42 hx hby at_405 (pc' := 407) rfl rfl rfl ?_
          refine Gol.iload X42 hx hby at_407 (pc' := 409) rfl rfl ?_
          refine Gol.bipush X42 hx hby at_409 (pc' := 411) rfl (z := (8 : Int32)) rfl ?_
          refine Gol.iload X42 hx hby at_411 (pc' := 413) rfl rfl ?_
          refine Gol.callS X42 hx hby hZ hown 2 [(.ref b1), (.int (Int32.ofNat ps)), (.int (8 : Int32)), (.int (own_fc bs24 ps))] (hw _ (List.mem_of_getElem? (i := 9) rfl)) (hw _ (List.mem_of_getElem? (i := 10) rfl)) (hw _ (List.mem_of_getElem? (i := 4) rfl)) (hw _ (List.mem_of_getElem? (i := 11) rfl)) (by decide) (rm3 l Z a0 hw [] b1 (Int32.ofNat ps) (8 : Int32) (own_fc bs24 ps) k1 bs24 (ps + 8) T24.heap n0 Zs (own_addk ps 8) (by omega) V_b1) (by decide) (by decide) eq42 (by rw [hml]; rfl) (rest := [(.long ((((((((own_tm (bs24.getD (ps + 0) 0) (0 : Int32) (own_fc bs24 ps)) ||| (own_tm (bs24.getD (ps + 1) 0) (1 : Int32) (own_fc bs24 ps))) ||| (own_tm (bs24.getD (ps + 2) 0) (2 : Int32) (own_fc bs24 ps))) ||| (own_tm (bs24.getD (ps + 3) 0) (3 : Int32) (own_fc bs24 ps))) ||| (own_tm (bs24.getD (ps + 4) 0) (4 : Int32) (own_fc bs24 ps))) ||| (own_tm (bs24.getD (ps + 5) 0) (5 : Int32) (own_fc bs24 ps))) ||| (own_tm (bs24.getD (ps + 6) 0) (6 : Int32) (own_fc bs24 ps))) ||| (own_tm (bs24.getD (ps + 7) 0) (7 : Int32) (own_fc bs24 ps))))]) (Nat.le_of_eq rfl) (by decide) (by decide) (lenOf pd_6 rfl) rfl at_413 (pc' := 416) rfl ?_
          intro T43 v43 L43 X43 hQ43
          obtain ⟨rfl, Nq43, eq43⟩ := hQ43
          have N43 := Fr.app N42 Nq43
          show GolF _ _ _ _ _ _ _ T43 m 416 #[.val (.long q0), .second, .val (.int p1), .val (.int p2), .val (.ref b1), .val (.int (Int32.ofNat ps)), .val (.int kk), .val (.int (Int32.ofNat (ps + 10))), .val (.int (own_fc bs24 ps)), .unset, .unset, .unset, .unset, .unset, .unset] [(.long (own_tm (bs24.getD (ps + 8) 0) (8 : Int32) (own_fc bs24 ps))), (.long ((((((((own_tm (bs24.getD (ps + 0) 0) (0 : Int32) (own_fc bs24 ps)) ||| (own_tm (bs24.getD (ps + 1) 0) (1 : Int32) (own_fc bs24 ps))) ||| (own_tm (bs24.getD (ps + 2) 0) (2 : Int32) (own_fc bs24 ps))) ||| (own_tm (bs24.getD (ps + 3) 0) (3 : Int32) (own_fc bs24 ps))) ||| (own_tm (bs24.getD (ps + 4) 0) (4 : Int32) (own_fc bs24 ps))) ||| (own_tm (bs24.getD (ps + 5) 0) (5 : Int32) (own_fc bs24 ps))) ||| (own_tm (bs24.getD (ps + 6) 0) (6 : Int32) (own_fc bs24 ps))) ||| (own_tm (bs24.getD (ps + 7) 0) (7 : Int32) (own_fc bs24 ps))))]
          refine Gol.lor X43 hx hby at_416 (pc' := 417) rfl rfl ?_
          refine Gol.aload X43 hx hby at_417 (pc' := 419) rfl rfl rfl ?_
          refine Gol.iload X43 hx hby at_419 (pc' := 421) rfl rfl ?_
          refine Gol.bipush X43 hx hby at_421 (pc' := 423) rfl (z := (9 : Int32)) rfl ?_
          refine Gol.iload X43 hx hby at_423 (pc' := 425) rfl rfl ?_
          refine Gol.callS X43 hx hby hZ hown 2 [(.ref b1), (.int (Int32.ofNat ps)), (.int (9 : Int32)), (.int (own_fc bs24 ps))] (hw _ (List.mem_of_getElem? (i := 9) rfl)) (hw _ (List.mem_of_getElem? (i := 10) rfl)) (hw _ (List.mem_of_getElem? (i := 4) rfl)) (hw _ (List.mem_of_getElem? (i := 11) rfl)) (by decide) (rm3 l Z a0 hw [] b1 (Int32.ofNat ps) (9 : Int32) (own_fc bs24 ps) k1 bs24 (ps + 9) T24.heap n0 Zs (own_addk ps 9) (by omega) V_b1) (by decide) (by decide) eq43 (by rw [hml]; rfl) (rest := [(.long (((((((((own_tm (bs24.getD (ps + 0) 0) (0 : Int32) (own_fc bs24 ps)) ||| (own_tm (bs24.getD (ps + 1) 0) (1 : Int32) (own_fc bs24 ps))) ||| (own_tm (bs24.getD (ps + 2) 0) (2 : Int32) (own_fc bs24 ps))) ||| (own_tm (bs24.getD (ps + 3) 0) (3 : Int32) (own_fc bs24 ps))) ||| (own_tm (bs24.getD (ps + 4) 0) (4 : Int32) (own_fc bs24 ps))) ||| (own_tm (bs24.getD (ps + 5) 0) (5 : Int32) (own_fc bs24 ps))) ||| (own_tm (bs24.getD (ps + 6) 0) (6 : Int32) (own_fc bs24 ps))) ||| (own_tm (bs24.getD (ps + 7) 0) (7 : Int32) (own_fc bs24 ps))) ||| (own_tm (bs24.getD (ps + 8) 0) (8 : Int32) (own_fc bs24 ps))))]) (Nat.le_of_eq rfl) (by decide) (by decide) (lenOf pd_6 rfl) rfl at_425 (pc' := 428) rfl ?_
          intro T44 v44 L44 X44 hQ44
          obtain ⟨rfl, Nq44, eq44⟩ := hQ44
          have N44 := Fr.app N43 Nq44
          show GolF _ _ _ _ _ _ _ T44 m 428 #[.val (.long q0), .second, .val (.int p1), .val (.int p2), .val (.ref b1), .val (.int (Int32.ofNat ps)), .val (.int kk), .val (.int (Int32.ofNat (ps + 10))), .val (.int (own_fc bs24 ps)), .unset, .unset, .unset, .unset, .unset, .unset] [(.long (own_tm (bs24.getD (ps + 9) 0) (9 : Int32) (own_fc bs24 ps))), (.long (((((((((own_tm (bs24.getD (ps + 0) 0) (0 : Int32) (own_fc bs24 ps)) ||| (own_tm (bs24.getD (ps + 1) 0) (1 : Int32) (own_fc bs24 ps))) ||| (own_tm (bs24.getD (ps + 2) 0) (2 : Int32) (own_fc bs24 ps))) ||| (own_tm (bs24.getD (ps + 3) 0) (3 : Int32) (own_fc bs24 ps))) ||| (own_tm (bs24.getD (ps + 4) 0) (4 : Int32) (own_fc bs24 ps))) ||| (own_tm (bs24.getD (ps + 5) 0) (5 : Int32) (own_fc bs24 ps))) ||| (own_tm (bs24.getD (ps + 6) 0) (6 : Int32) (own_fc bs24 ps))) ||| (own_tm (bs24.getD (ps + 7) 0) (7 : Int32) (own_fc bs24 ps))) ||| (own_tm (bs24.getD (ps + 8) 0) (8 : Int32) (own_fc bs24 ps))))]
          refine Gol.lor X44 hx hby at_428 (pc' := 429) rfl rfl ?_
          refine Gol.lstore X44 hx hby at_429 (pc' := 431) rfl (l' := #[.val (.long q0), .second, .val (.int p1), .val (.int p2), .val (.ref b1), .val (.int (Int32.ofNat ps)), .val (.int kk), .val (.int (Int32.ofNat (ps + 10))), .val (.int (own_fc bs24 ps)), .val (.long ((((((((((own_tm (bs24.getD (ps + 0) 0) (0 : Int32) (own_fc bs24 ps)) ||| (own_tm (bs24.getD (ps + 1) 0) (1 : Int32) (own_fc bs24 ps))) ||| (own_tm (bs24.getD (ps + 2) 0) (2 : Int32) (own_fc bs24 ps))) ||| (own_tm (bs24.getD (ps + 3) 0) (3 : Int32) (own_fc bs24 ps))) ||| (own_tm (bs24.getD (ps + 4) 0) (4 : Int32) (own_fc bs24 ps))) ||| (own_tm (bs24.getD (ps + 5) 0) (5 : Int32) (own_fc bs24 ps))) ||| (own_tm (bs24.getD (ps + 6) 0) (6 : Int32) (own_fc bs24 ps))) ||| (own_tm (bs24.getD (ps + 7) 0) (7 : Int32) (own_fc bs24 ps))) ||| (own_tm (bs24.getD (ps + 8) 0) (8 : Int32) (own_fc bs24 ps))) ||| (own_tm (bs24.getD (ps + 9) 0) (9 : Int32) (own_fc bs24 ps)))), .second, .unset, .unset, .unset, .unset]) rfl ?_
          refine Gol.iload X44 hx hby at_431 (pc' := 433) rfl rfl ?_
          refine Gol.bipush X44 hx hby at_433 (pc' := 435) rfl (z := (10 : Int32)) rfl ?_
          refine Gol.callS X44 hx hby hZ hown 0 [(.int (own_fc bs24 ps)), (.int (10 : Int32))] (hw _ (List.mem_of_getElem? (i := 12) rfl)) (hw _ (List.mem_of_getElem? (i := 13) rfl)) (hw _ (List.mem_of_getElem? (i := 14) rfl)) (hw _ (List.mem_of_getElem? (i := 15) rfl)) (by decide) (rm4 l Z a0 hw [] (own_fc bs24 ps) (10 : Int32)  T24.heap n0 Zs ) (by decide) (by decide) eq44 (by rw [hml]; rfl) (rest := []) (Nat.le_of_eq rfl) (by decide) (by decide) (lenOf pd_2 rfl) rfl at_435 (pc' := 438) rfl ?_
          intro T45 v45 L45 X45 hQ45
          obtain ⟨rfl, Nq45, eq45⟩ := hQ45
          have N45 := Fr.app N44 Nq45
          show GolF _ _ _ _ _ _ _ T45 m 438 #[.val (.long q0), .second, .val (.int p1), .val (.int p2), .val (.ref b1), .val (.int (Int32.ofNat ps)), .val (.int kk), .val (.int (Int32.ofNat (ps + 10))), .val (.int (own_fc bs24 ps)), .val (.long ((((((((((own_tm (bs24.getD (ps + 0) 0) (0 : Int32) (own_fc bs24 ps)) ||| (own_tm (bs24.getD (ps + 1) 0) (1 : Int32) (own_fc bs24 ps))) ||| (own_tm (bs24.getD (ps + 2) 0) (2 : Int32) (own_fc bs24 ps))) ||| (own_tm (bs24.getD (ps + 3) 0) (3 : Int32) (own_fc bs24 ps))) ||| (own_tm (bs24.getD (ps + 4) 0) (4 : Int32) (own_fc bs24 ps))) ||| (own_tm (bs24.getD (ps + 5) 0) (5 : Int32) (own_fc bs24 ps))) ||| (own_tm (bs24.getD (ps + 6) 0) (6 : Int32) (own_fc bs24 ps))) ||| (own_tm (bs24.getD (ps + 7) 0) (7 : Int32) (own_fc bs24 ps))) ||| (own_tm (bs24.getD (ps + 8) 0) (8 : Int32) (own_fc bs24 ps))) ||| (own_tm (bs24.getD (ps + 9) 0) (9 : Int32) (own_fc bs24 ps)))), .second, .unset, .unset, .unset, .unset] [(.int (f4 (own_fc bs24 ps) (10 : Int32) ))]
          refine Gol.istore X45 hx hby at_438 (pc' := 440) rfl (l' := #[.val (.long q0), .second, .val (.int p1), .val (.int p2), .val (.ref b1), .val (.int (Int32.ofNat ps)), .val (.int kk), .val (.int (Int32.ofNat (ps + 10))), .val (.int (own_fc bs24 ps)), .val (.long ((((((((((own_tm (bs24.getD (ps + 0) 0) (0 : Int32) (own_fc bs24 ps)) ||| (own_tm (bs24.getD (ps + 1) 0) (1 : Int32) (own_fc bs24 ps))) ||| (own_tm (bs24.getD (ps + 2) 0) (2 : Int32) (own_fc bs24 ps))) ||| (own_tm (bs24.getD (ps + 3) 0) (3 : Int32) (own_fc bs24 ps))) ||| (own_tm (bs24.getD (ps + 4) 0) (4 : Int32) (own_fc bs24 ps))) ||| (own_tm (bs24.getD (ps + 5) 0) (5 : Int32) (own_fc bs24 ps))) ||| (own_tm (bs24.getD (ps + 6) 0) (6 : Int32) (own_fc bs24 ps))) ||| (own_tm (bs24.getD (ps + 7) 0) (7 : Int32) (own_fc bs24 ps))) ||| (own_tm (bs24.getD (ps + 8) 0) (8 : Int32) (own_fc bs24 ps))) ||| (own_tm (bs24.getD (ps + 9) 0) (9 : Int32) (own_fc bs24 ps)))), .second, .val (.int (f4 (own_fc bs24 ps) (10 : Int32) )), .unset, .unset, .unset]) rfl ?_
          refine Gol.newO X45 hx hby hZ hown (hw _ (List.mem_of_getElem? (i := 16) rfl)) (hw _ (List.mem_of_getElem? (i := 17) rfl)) (hw _ (List.mem_of_getElem? (i := 18) rfl)) eq45 at_440 (pc' := 443) rfl (by decide) (by decide) ?_
          intro T46 h46 b46 g46 X46 e46 E46 A46 D46
          have lo_b1_b46 : b1 < b46 := Nat.lt_of_lt_of_le V_b1.lt (Nat.le_of_eq g46.symm)
          have ne_b1_b46 : b1 ≠ b46 := Nat.ne_of_lt lo_b1_b46
          have g_b46 : n0 ≤ b46 := Nat.le_trans Zs (Nat.le_of_eq g46.symm)
          have V_b1 := V_b1.ext E46
          have Zs := Nat.le_trans Zs E46.1
          have E_b46 := A46
          have F_b46_bytes : Fld Z h46 b46 "com/example/interleaved_tables/interleavedtables/storage/DataFile$Input" "bytes" "[B" .null := D46 (Or.inr (hw _ (List.mem_of_getElem? (i := 26) rfl))) (ty := (.array .byte)) (by decide)
          have F_b46_position : Fld Z h46 b46 "com/example/interleaved_tables/interleavedtables/storage/DataFile$Input" "position" "I" (.int (0 : Int32)) := D46 (Or.inl (hw _ (List.mem_of_getElem? (i := 28) rfl))) (ty := .int) (by decide)
          have F_b46_end : Fld Z h46 b46 "com/example/interleaved_tables/interleavedtables/storage/DataFile$Input" "end" "I" (.int (0 : Int32)) := D46 (Or.inr (hw _ (List.mem_of_getElem? (i := 30) rfl))) (ty := .int) (by decide)
          refine Gol.dup X46 hx hby at_443 (pc' := 444) rfl rfl ?_
          refine Gol.aload X46 hx hby at_444 (pc' := 446) rfl rfl rfl ?_
          refine Gol.iload X46 hx hby at_446 (pc' := 448) rfl rfl ?_
          refine Gol.iload X46 hx hby at_448 (pc' := 450) rfl rfl ?_
          refine Gol.callI X46 hx hby hZ hown 1 [(.ref b1), (.int (Int32.ofNat ps)), (.int (Int32.ofNat (ps + 10)))] (a := b46) (hw _ (List.mem_of_getElem? (i := 19) rfl)) (hw _ (List.mem_of_getElem? (i := 20) rfl)) (hw _ (List.mem_of_getElem? (i := 18) rfl)) rfl (hw _ (List.mem_of_getElem? (i := 21) rfl)) rfl (by decide) (rm5 l Z a0 hw [] b46 b1 (Int32.ofNat ps) (Int32.ofNat (ps + 10))  h46 n0 Zs ⟨E_b46, F_b46_bytes, F_b46_position, F_b46_end⟩ g_b46) (by decide) (by decide) e46 (by rw [hml]; rfl) (rest := [(.ref b46)]) (Nat.le_of_eq rfl) (by decide) (by decide) (lenOf pd_3 rfl) rfl at_450 (pc' := 453) rfl ?_
          intro T47 v47 L47 X47 hQ47
          obtain ⟨rfl, Nq47, Kq47, Oq47⟩ := hQ47
          have N47 := Fr.app N45 Nq47
          have E_b46 := E_b46.keep Kq47
          have V_b1 := V_b1.keep Kq47 (ninS ne_b1_b46 nin0)
          have Zs := Nat.le_trans Zs Kq47.1
          show GolF _ _ _ _ _ _ _ T47 m 453 #[.val (.long q0), .second, .val (.int p1), .val (.int p2), .val (.ref b1), .val (.int (Int32.ofNat ps)), .val (.int kk), .val (.int (Int32.ofNat (ps + 10))), .val (.int (own_fc bs24 ps)), .val (.long ((((((((((own_tm (bs24.getD (ps + 0) 0) (0 : Int32) (own_fc bs24 ps)) ||| (own_tm (bs24.getD (ps + 1) 0) (1 : Int32) (own_fc bs24 ps))) ||| (own_tm (bs24.getD (ps + 2) 0) (2 : Int32) (own_fc bs24 ps))) ||| (own_tm (bs24.getD (ps + 3) 0) (3 : Int32) (own_fc bs24 ps))) ||| (own_tm (bs24.getD (ps + 4) 0) (4 : Int32) (own_fc bs24 ps))) ||| (own_tm (bs24.getD (ps + 5) 0) (5 : Int32) (own_fc bs24 ps))) ||| (own_tm (bs24.getD (ps + 6) 0) (6 : Int32) (own_fc bs24 ps))) ||| (own_tm (bs24.getD (ps + 7) 0) (7 : Int32) (own_fc bs24 ps))) ||| (own_tm (bs24.getD (ps + 8) 0) (8 : Int32) (own_fc bs24 ps))) ||| (own_tm (bs24.getD (ps + 9) 0) (9 : Int32) (own_fc bs24 ps)))), .second, .val (.int (f4 (own_fc bs24 ps) (10 : Int32) )), .unset, .unset, .unset] [(.ref b46)]
          obtain ⟨E_b46, F_b46_bytes, F_b46_position, F_b46_end⟩ := Oq47
          refine Gol.astore X47 hx hby at_453 (pc' := 455) rfl rfl (l' := #[.val (.long q0), .second, .val (.int p1), .val (.int p2), .val (.ref b1), .val (.int (Int32.ofNat ps)), .val (.int kk), .val (.int (Int32.ofNat (ps + 10))), .val (.int (own_fc bs24 ps)), .val (.long ((((((((((own_tm (bs24.getD (ps + 0) 0) (0 : Int32) (own_fc bs24 ps)) ||| (own_tm (bs24.getD (ps + 1) 0) (1 : Int32) (own_fc bs24 ps))) ||| (own_tm (bs24.getD (ps + 2) 0) (2 : Int32) (own_fc bs24 ps))) ||| (own_tm (bs24.getD (ps + 3) 0) (3 : Int32) (own_fc bs24 ps))) ||| (own_tm (bs24.getD (ps + 4) 0) (4 : Int32) (own_fc bs24 ps))) ||| (own_tm (bs24.getD (ps + 5) 0) (5 : Int32) (own_fc bs24 ps))) ||| (own_tm (bs24.getD (ps + 6) 0) (6 : Int32) (own_fc bs24 ps))) ||| (own_tm (bs24.getD (ps + 7) 0) (7 : Int32) (own_fc bs24 ps))) ||| (own_tm (bs24.getD (ps + 8) 0) (8 : Int32) (own_fc bs24 ps))) ||| (own_tm (bs24.getD (ps + 9) 0) (9 : Int32) (own_fc bs24 ps)))), .second, .val (.int (f4 (own_fc bs24 ps) (10 : Int32) )), .val (.ref b46), .unset, .unset]) rfl ?_
          refine Gol.aload X47 hx hby at_455 (pc' := 457) rfl rfl rfl ?_
          refine Gol.callV X47 hx hby hZ hown 0 [] (a := b46) (hw _ (List.mem_of_getElem? (i := 31) rfl)) (hw _ (List.mem_of_getElem? (i := 32) rfl)) (notFace_of_selects (args := #[]) (mvT hZ (hw _ (List.mem_of_getElem? (i := 34) rfl)))) (hw _ (List.mem_of_getElem? (i := 34) rfl)) (hw _ (List.mem_of_getElem? (i := 33) rfl)) (hw _ (List.mem_of_getElem? (i := 18) rfl)) (hw _ (List.mem_of_getElem? (i := 35) rfl)) (by decide) E_b46 (rm7 l Z a0 hw [] b46 b1 k1 bs24 ps (ps + 10) T47.heap n0 Zs hps (by omega) (by omega) g_b46 ne_b1_b46.symm ⟨E_b46, F_b46_bytes, F_b46_position, F_b46_end⟩ V_b1) (by decide) (by decide) rfl (by rw [hml]; rfl) (rest := []) (Nat.le_of_eq rfl) (by decide) (by decide) (lenOf pd_4 rfl) rfl at_457 (pc' := 460) rfl ?_
          intro T48 v48 L48 X48 hQ48
          obtain ⟨rfl, Nq48, Kq48, Oq48⟩ := hQ48
          have N48 := Fr.app N47 Nq48
          have E_b46 := E_b46.keep Kq48
          have V_b1 := V_b1.keep Kq48 (ninS ne_b1_b46 nin0)
          have Zs := Nat.le_trans Zs Kq48.1
          show GolF _ _ _ _ _ _ _ T48 m 460 #[.val (.long q0), .second, .val (.int p1), .val (.int p2), .val (.ref b1), .val (.int (Int32.ofNat ps)), .val (.int kk), .val (.int (Int32.ofNat (ps + 10))), .val (.int (own_fc bs24 ps)), .val (.long ((((((((((own_tm (bs24.getD (ps + 0) 0) (0 : Int32) (own_fc bs24 ps)) ||| (own_tm (bs24.getD (ps + 1) 0) (1 : Int32) (own_fc bs24 ps))) ||| (own_tm (bs24.getD (ps + 2) 0) (2 : Int32) (own_fc bs24 ps))) ||| (own_tm (bs24.getD (ps + 3) 0) (3 : Int32) (own_fc bs24 ps))) ||| (own_tm (bs24.getD (ps + 4) 0) (4 : Int32) (own_fc bs24 ps))) ||| (own_tm (bs24.getD (ps + 5) 0) (5 : Int32) (own_fc bs24 ps))) ||| (own_tm (bs24.getD (ps + 6) 0) (6 : Int32) (own_fc bs24 ps))) ||| (own_tm (bs24.getD (ps + 7) 0) (7 : Int32) (own_fc bs24 ps))) ||| (own_tm (bs24.getD (ps + 8) 0) (8 : Int32) (own_fc bs24 ps))) ||| (own_tm (bs24.getD (ps + 9) 0) (9 : Int32) (own_fc bs24 ps)))), .second, .val (.int (f4 (own_fc bs24 ps) (10 : Int32) )), .val (.ref b46), .unset, .unset] [(.long (own_rn bs24 ps))]
          obtain ⟨E_b46, F_b46_bytes, F_b46_position, F_b46_end⟩ := Oq48
          refine Gol.lstore X48 hx hby at_460 (pc' := 462) rfl (l' := #[.val (.long q0), .second, .val (.int p1), .val (.int p2), .val (.ref b1), .val (.int (Int32.ofNat ps)), .val (.int kk), .val (.int (Int32.ofNat (ps + 10))), .val (.int (own_fc bs24 ps)), .val (.long ((((((((((own_tm (bs24.getD (ps + 0) 0) (0 : Int32) (own_fc bs24 ps)) ||| (own_tm (bs24.getD (ps + 1) 0) (1 : Int32) (own_fc bs24 ps))) ||| (own_tm (bs24.getD (ps + 2) 0) (2 : Int32) (own_fc bs24 ps))) ||| (own_tm (bs24.getD (ps + 3) 0) (3 : Int32) (own_fc bs24 ps))) ||| (own_tm (bs24.getD (ps + 4) 0) (4 : Int32) (own_fc bs24 ps))) ||| (own_tm (bs24.getD (ps + 5) 0) (5 : Int32) (own_fc bs24 ps))) ||| (own_tm (bs24.getD (ps + 6) 0) (6 : Int32) (own_fc bs24 ps))) ||| (own_tm (bs24.getD (ps + 7) 0) (7 : Int32) (own_fc bs24 ps))) ||| (own_tm (bs24.getD (ps + 8) 0) (8 : Int32) (own_fc bs24 ps))) ||| (own_tm (bs24.getD (ps + 9) 0) (9 : Int32) (own_fc bs24 ps)))), .second, .val (.int (f4 (own_fc bs24 ps) (10 : Int32) )), .val (.ref b46), .val (.long (own_rn bs24 ps)), .second]) rfl ?_
          refine Gol.lload X48 hx hby at_462 (pc' := 464) rfl rfl ?_
          refine Gol.lload X48 hx hby at_464 (pc' := 466) rfl rfl ?_
          refine Gol.lcmp X48 hx hby at_466 (pc' := 467) rfl ?_
          refine Gol.ifNo X48 hx hby at_467 (pc' := 470) rfl (teqL (own_pok (own_byte V_b1 (by omega)) hc279_26 (fun _ => hc305_34))).2 ?_
          refine Gol.aload X48 hx hby at_470 (pc' := 472) rfl rfl rfl ?_
          refine Gol.callV X48 hx hby hZ hown 0 [] (a := b46) (hw _ (List.mem_of_getElem? (i := 36) rfl)) (hw _ (List.mem_of_getElem? (i := 37) rfl)) (notFace_of_selects (args := #[]) (mvT hZ (hw _ (List.mem_of_getElem? (i := 39) rfl)))) (hw _ (List.mem_of_getElem? (i := 39) rfl)) (hw _ (List.mem_of_getElem? (i := 38) rfl)) (hw _ (List.mem_of_getElem? (i := 18) rfl)) (hw _ (List.mem_of_getElem? (i := 40) rfl)) (by decide) E_b46 (rm8 l Z a0 hw [] b46 (.ref b1) (Int32.ofNat (ps + own_cn bs24 ps)) (Int32.ofNat (ps + 10)) T48.heap n0 Zs ⟨E_b46, F_b46_bytes, F_b46_position, F_b46_end⟩) (by decide) (by decide) rfl (by rw [hml]; rfl) (rest := []) (Nat.le_of_eq rfl) (by decide) (by decide) (lenOf pd_5 rfl) rfl at_472 (pc' := 475) rfl ?_
          intro T49 v49 L49 X49 hQ49
          obtain ⟨rfl, Nq49, eq49⟩ := hQ49
          have N49 := Fr.app N48 Nq49
          show GolF _ _ _ _ _ _ _ T49 m 475 #[.val (.long q0), .second, .val (.int p1), .val (.int p2), .val (.ref b1), .val (.int (Int32.ofNat ps)), .val (.int kk), .val (.int (Int32.ofNat (ps + 10))), .val (.int (own_fc bs24 ps)), .val (.long ((((((((((own_tm (bs24.getD (ps + 0) 0) (0 : Int32) (own_fc bs24 ps)) ||| (own_tm (bs24.getD (ps + 1) 0) (1 : Int32) (own_fc bs24 ps))) ||| (own_tm (bs24.getD (ps + 2) 0) (2 : Int32) (own_fc bs24 ps))) ||| (own_tm (bs24.getD (ps + 3) 0) (3 : Int32) (own_fc bs24 ps))) ||| (own_tm (bs24.getD (ps + 4) 0) (4 : Int32) (own_fc bs24 ps))) ||| (own_tm (bs24.getD (ps + 5) 0) (5 : Int32) (own_fc bs24 ps))) ||| (own_tm (bs24.getD (ps + 6) 0) (6 : Int32) (own_fc bs24 ps))) ||| (own_tm (bs24.getD (ps + 7) 0) (7 : Int32) (own_fc bs24 ps))) ||| (own_tm (bs24.getD (ps + 8) 0) (8 : Int32) (own_fc bs24 ps))) ||| (own_tm (bs24.getD (ps + 9) 0) (9 : Int32) (own_fc bs24 ps)))), .second, .val (.int (f4 (own_fc bs24 ps) (10 : Int32) )), .val (.ref b46), .val (.long (own_rn bs24 ps)), .second] [(.int (Int32.ofNat (ps + own_cn bs24 ps)))]
          refine Gol.iload X49 hx hby at_475 (pc' := 477) rfl rfl ?_
          refine Gol.iload X49 hx hby at_477 (pc' := 479) rfl rfl ?_
          refine Gol.iadd X49 hx hby at_479 (pc' := 480) rfl rfl ?_
          refine Gol.icmpNo X49 hx hby at_480 (pc' := 483) rfl (teq (own_pos (own_byte V_b1 (by omega)))).2 ?_
          refine Gol.aload X49 hx hby at_483 (pc' := 485) rfl rfl rfl ?_
          refine Gol.callV X49 hx hby hZ hown 0 [] (a := b46) (hw _ (List.mem_of_getElem? (i := 41) rfl)) (hw _ (List.mem_of_getElem? (i := 42) rfl)) (notFace_of_selects (args := #[]) (mvT hZ (hw _ (List.mem_of_getElem? (i := 44) rfl)))) (hw _ (List.mem_of_getElem? (i := 44) rfl)) (hw _ (List.mem_of_getElem? (i := 43) rfl)) (hw _ (List.mem_of_getElem? (i := 18) rfl)) (hw _ (List.mem_of_getElem? (i := 45) rfl)) (by decide) E_b46 (rm9 l Z a0 hw [] b46 (.ref b1) (Int32.ofNat (ps + own_cn bs24 ps)) (Int32.ofNat (ps + 10)) T48.heap n0 Zs ⟨E_b46, F_b46_bytes, F_b46_position, F_b46_end⟩) (by decide) (by decide) eq49 (by rw [hml]; rfl) (rest := []) (Nat.le_of_eq rfl) (by decide) (by decide) (lenOf pd_5 rfl) rfl at_485 (pc' := 488) rfl ?_
          intro T50 v50 L50 X50 hQ50
          obtain ⟨rfl, Nq50, eq50⟩ := hQ50
          have N50 := Fr.app N49 Nq50
          show GolF _ _ _ _ _ _ _ T50 m 488 #[.val (.long q0), .second, .val (.int p1), .val (.int p2), .val (.ref b1), .val (.int (Int32.ofNat ps)), .val (.int kk), .val (.int (Int32.ofNat (ps + 10))), .val (.int (own_fc bs24 ps)), .val (.long ((((((((((own_tm (bs24.getD (ps + 0) 0) (0 : Int32) (own_fc bs24 ps)) ||| (own_tm (bs24.getD (ps + 1) 0) (1 : Int32) (own_fc bs24 ps))) ||| (own_tm (bs24.getD (ps + 2) 0) (2 : Int32) (own_fc bs24 ps))) ||| (own_tm (bs24.getD (ps + 3) 0) (3 : Int32) (own_fc bs24 ps))) ||| (own_tm (bs24.getD (ps + 4) 0) (4 : Int32) (own_fc bs24 ps))) ||| (own_tm (bs24.getD (ps + 5) 0) (5 : Int32) (own_fc bs24 ps))) ||| (own_tm (bs24.getD (ps + 6) 0) (6 : Int32) (own_fc bs24 ps))) ||| (own_tm (bs24.getD (ps + 7) 0) (7 : Int32) (own_fc bs24 ps))) ||| (own_tm (bs24.getD (ps + 8) 0) (8 : Int32) (own_fc bs24 ps))) ||| (own_tm (bs24.getD (ps + 9) 0) (9 : Int32) (own_fc bs24 ps)))), .second, .val (.int (f4 (own_fc bs24 ps) (10 : Int32) )), .val (.ref b46), .val (.long (own_rn bs24 ps)), .second] [(.int ((Int32.ofNat (ps + 10)) - (Int32.ofNat (ps + own_cn bs24 ps))))]
          refine Gol.iload X50 hx hby at_488 (pc' := 490) rfl rfl ?_
          refine Gol.iload X50 hx hby at_490 (pc' := 492) rfl rfl ?_
          refine Gol.isub X50 hx hby at_492 (pc' := 493) rfl rfl ?_
          refine Gol.iload X50 hx hby at_493 (pc' := 495) rfl rfl ?_
          refine Gol.isub X50 hx hby at_495 (pc' := 496) rfl rfl ?_
          refine Gol.icmpNo X50 hx hby at_496 (pc' := 499) rfl (teq (own_left _ (own_byte V_b1 (by omega)))).2 ?_
          refine Gol.iconst X50 hx hby at_499 (pc' := 500) rfl (z := (1 : Int32)) rfl ?_
          refine Gol.goto X50 hx hby at_500 (pc' := 504) (by decide) ?_
          exact Gol.retN X50 hx hby (t := .boolean) Bd.returns (by simp) Bd.notSynchronized at_504 eq50 ⟨rfl, N50⟩ (by decide) (by decide)
        · skip
          refine Gol.ifNo X25 hx hby at_305 (pc' := 308) rfl ((if0 _ _).trans (feq hc305_34).1) ?_
          refine Gol.ldc2Long X25 hx hby hZ hown at_308 (pc' := 311) rfl (hw _ (List.mem_of_getElem? (i := 46) rfl)) ?_
          refine Gol.lstore X25 hx hby at_311 (pc' := 313) rfl (l' := #[.val (.long q0), .second, .val (.int p1), .val (.int p2), .val (.ref b1), .val (.int (Int32.ofNat ps)), .val (.int kk), .val (.int (Int32.ofNat (ps + 10))), .val (.int (own_fc bs24 ps)), .val (.long (-1 : Int64)), .second, .unset, .unset, .unset, .unset]) rfl ?_
          refine Gol.goto X25 hx hby at_313 (pc' := 431) (by decide) ?_
          refine Gol.iload X25 hx hby at_431 (pc' := 433) rfl rfl ?_
          refine Gol.bipush X25 hx hby at_433 (pc' := 435) rfl (z := (10 : Int32)) rfl ?_
          refine Gol.callS X25 hx hby hZ hown 0 [(.int (own_fc bs24 ps)), (.int (10 : Int32))] (hw _ (List.mem_of_getElem? (i := 12) rfl)) (hw _ (List.mem_of_getElem? (i := 13) rfl)) (hw _ (List.mem_of_getElem? (i := 14) rfl)) (hw _ (List.mem_of_getElem? (i := 15) rfl)) (by decide) (rm4 l Z a0 hw [] (own_fc bs24 ps) (10 : Int32)  T24.heap n0 Zs ) (by decide) (by decide) eq25 (by rw [hml]; rfl) (rest := []) (Nat.le_of_eq rfl) (by decide) (by decide) (lenOf pd_2 rfl) rfl at_435 (pc' := 438) rfl ?_
          intro T51 v51 L51 X51 hQ51
          obtain ⟨rfl, Nq51, eq51⟩ := hQ51
          have N51 := Fr.app N25 Nq51
          show GolF _ _ _ _ _ _ _ T51 m 438 #[.val (.long q0), .second, .val (.int p1), .val (.int p2), .val (.ref b1), .val (.int (Int32.ofNat ps)), .val (.int kk), .val (.int (Int32.ofNat (ps + 10))), .val (.int (own_fc bs24 ps)), .val (.long (-1 : Int64)), .second, .unset, .unset, .unset, .unset] [(.int (f4 (own_fc bs24 ps) (10 : Int32) ))]
          refine Gol.istore X51 hx hby at_438 (pc' := 440) rfl (l' := #[.val (.long q0), .second, .val (.int p1), .val (.int p2), .val (.ref b1), .val (.int (Int32.ofNat ps)), .val (.int kk), .val (.int (Int32.ofNat (ps + 10))), .val (.int (own_fc bs24 ps)), .val (.long (-1 : Int64)), .second, .val (.int (f4 (own_fc bs24 ps) (10 : Int32) )), .unset, .unset, .unset]) rfl ?_
          refine Gol.newO X51 hx hby hZ hown (hw _ (List.mem_of_getElem? (i := 16) rfl)) (hw _ (List.mem_of_getElem? (i := 17) rfl)) (hw _ (List.mem_of_getElem? (i := 18) rfl)) eq51 at_440 (pc' := 443) rfl (by decide) (by decide) ?_
          intro T52 h52 b52 g52 X52 e52 E52 A52 D52
          have lo_b1_b52 : b1 < b52 := Nat.lt_of_lt_of_le V_b1.lt (Nat.le_of_eq g52.symm)
          have ne_b1_b52 : b1 ≠ b52 := Nat.ne_of_lt lo_b1_b52
          have g_b52 : n0 ≤ b52 := Nat.le_trans Zs (Nat.le_of_eq g52.symm)
          have V_b1 := V_b1.ext E52
          have Zs := Nat.le_trans Zs E52.1
          have E_b52 := A52
          have F_b52_bytes : Fld Z h52 b52 "com/example/interleaved_tables/interleavedtables/storage/DataFile$Input" "bytes" "[B" .null := D52 (Or.inr (hw _ (List.mem_of_getElem? (i := 26) rfl))) (ty := (.array .byte)) (by decide)
          have F_b52_position : Fld Z h52 b52 "com/example/interleaved_tables/interleavedtables/storage/DataFile$Input" "position" "I" (.int (0 : Int32)) := D52 (Or.inl (hw _ (List.mem_of_getElem? (i := 28) rfl))) (ty := .int) (by decide)
          have F_b52_end : Fld Z h52 b52 "com/example/interleaved_tables/interleavedtables/storage/DataFile$Input" "end" "I" (.int (0 : Int32)) := D52 (Or.inr (hw _ (List.mem_of_getElem? (i := 30) rfl))) (ty := .int) (by decide)
          refine Gol.dup X52 hx hby at_443 (pc' := 444) rfl rfl ?_
          refine Gol.aload X52 hx hby at_444 (pc' := 446) rfl rfl rfl ?_
          refine Gol.iload X52 hx hby at_446 (pc' := 448) rfl rfl ?_
          refine Gol.iload X52 hx hby at_448 (pc' := 450) rfl rfl ?_
          refine Gol.callI X52 hx hby hZ hown 1 [(.ref b1), (.int (Int32.ofNat ps)), (.int (Int32.ofNat (ps + 10)))] (a := b52) (hw _ (List.mem_of_getElem? (i := 19) rfl)) (hw _ (List.mem_of_getElem? (i := 20) rfl)) (hw _ (List.mem_of_getElem? (i := 18) rfl)) rfl (hw _ (List.mem_of_getElem? (i := 21) rfl)) rfl (by decide) (rm5 l Z a0 hw [] b52 b1 (Int32.ofNat ps) (Int32.ofNat (ps + 10))  h52 n0 Zs ⟨E_b52, F_b52_bytes, F_b52_position, F_b52_end⟩ g_b52) (by decide) (by decide) e52 (by rw [hml]; rfl) (rest := [(.ref b52)]) (Nat.le_of_eq rfl) (by decide) (by decide) (lenOf pd_3 rfl) rfl at_450 (pc' := 453) rfl ?_
          intro T53 v53 L53 X53 hQ53
          obtain ⟨rfl, Nq53, Kq53, Oq53⟩ := hQ53
          have N53 := Fr.app N51 Nq53
          have E_b52 := E_b52.keep Kq53
          have V_b1 := V_b1.keep Kq53 (ninS ne_b1_b52 nin0)
          have Zs := Nat.le_trans Zs Kq53.1
          show GolF _ _ _ _ _ _ _ T53 m 453 #[.val (.long q0), .second, .val (.int p1), .val (.int p2), .val (.ref b1), .val (.int (Int32.ofNat ps)), .val (.int kk), .val (.int (Int32.ofNat (ps + 10))), .val (.int (own_fc bs24 ps)), .val (.long (-1 : Int64)), .second, .val (.int (f4 (own_fc bs24 ps) (10 : Int32) )), .unset, .unset, .unset] [(.ref b52)]
          obtain ⟨E_b52, F_b52_bytes, F_b52_position, F_b52_end⟩ := Oq53
          refine Gol.astore X53 hx hby at_453 (pc' := 455) rfl rfl (l' := #[.val (.long q0), .second, .val (.int p1), .val (.int p2), .val (.ref b1), .val (.int (Int32.ofNat ps)), .val (.int kk), .val (.int (Int32.ofNat (ps + 10))), .val (.int (own_fc bs24 ps)), .val (.long (-1 : Int64)), .second, .val (.int (f4 (own_fc bs24 ps) (10 : Int32) )), .val (.ref b52), .unset, .unset]) rfl ?_
          refine Gol.aload X53 hx hby at_455 (pc' := 457) rfl rfl rfl ?_
          refine Gol.callV X53 hx hby hZ hown 0 [] (a := b52) (hw _ (List.mem_of_getElem? (i := 31) rfl)) (hw _ (List.mem_of_getElem? (i := 32) rfl)) (notFace_of_selects (args := #[]) (mvT hZ (hw _ (List.mem_of_getElem? (i := 34) rfl)))) (hw _ (List.mem_of_getElem? (i := 34) rfl)) (hw _ (List.mem_of_getElem? (i := 33) rfl)) (hw _ (List.mem_of_getElem? (i := 18) rfl)) (hw _ (List.mem_of_getElem? (i := 35) rfl)) (by decide) E_b52 (rm7 l Z a0 hw [] b52 b1 k1 bs24 ps (ps + 10) T53.heap n0 Zs hps (by omega) (by omega) g_b52 ne_b1_b52.symm ⟨E_b52, F_b52_bytes, F_b52_position, F_b52_end⟩ V_b1) (by decide) (by decide) rfl (by rw [hml]; rfl) (rest := []) (Nat.le_of_eq rfl) (by decide) (by decide) (lenOf pd_4 rfl) rfl at_457 (pc' := 460) rfl ?_
          intro T54 v54 L54 X54 hQ54
          obtain ⟨rfl, Nq54, Kq54, Oq54⟩ := hQ54
          have N54 := Fr.app N53 Nq54
          have E_b52 := E_b52.keep Kq54
          have V_b1 := V_b1.keep Kq54 (ninS ne_b1_b52 nin0)
          have Zs := Nat.le_trans Zs Kq54.1
          show GolF _ _ _ _ _ _ _ T54 m 460 #[.val (.long q0), .second, .val (.int p1), .val (.int p2), .val (.ref b1), .val (.int (Int32.ofNat ps)), .val (.int kk), .val (.int (Int32.ofNat (ps + 10))), .val (.int (own_fc bs24 ps)), .val (.long (-1 : Int64)), .second, .val (.int (f4 (own_fc bs24 ps) (10 : Int32) )), .val (.ref b52), .unset, .unset] [(.long (own_rn bs24 ps))]
          obtain ⟨E_b52, F_b52_bytes, F_b52_position, F_b52_end⟩ := Oq54
          refine Gol.lstore X54 hx hby at_460 (pc' := 462) rfl (l' := #[.val (.long q0), .second, .val (.int p1), .val (.int p2), .val (.ref b1), .val (.int (Int32.ofNat ps)), .val (.int kk), .val (.int (Int32.ofNat (ps + 10))), .val (.int (own_fc bs24 ps)), .val (.long (-1 : Int64)), .second, .val (.int (f4 (own_fc bs24 ps) (10 : Int32) )), .val (.ref b52), .val (.long (own_rn bs24 ps)), .second]) rfl ?_
          refine Gol.lload X54 hx hby at_462 (pc' := 464) rfl rfl ?_
          refine Gol.lload X54 hx hby at_464 (pc' := 466) rfl rfl ?_
          refine Gol.lcmp X54 hx hby at_466 (pc' := 467) rfl ?_
          refine Gol.ifNo X54 hx hby at_467 (pc' := 470) rfl (teqL (own_p10 (own_byte V_b1 (by omega)) hc294_33 hc305_34)).2 ?_
          refine Gol.aload X54 hx hby at_470 (pc' := 472) rfl rfl rfl ?_
          refine Gol.callV X54 hx hby hZ hown 0 [] (a := b52) (hw _ (List.mem_of_getElem? (i := 36) rfl)) (hw _ (List.mem_of_getElem? (i := 37) rfl)) (notFace_of_selects (args := #[]) (mvT hZ (hw _ (List.mem_of_getElem? (i := 39) rfl)))) (hw _ (List.mem_of_getElem? (i := 39) rfl)) (hw _ (List.mem_of_getElem? (i := 38) rfl)) (hw _ (List.mem_of_getElem? (i := 18) rfl)) (hw _ (List.mem_of_getElem? (i := 40) rfl)) (by decide) E_b52 (rm8 l Z a0 hw [] b52 (.ref b1) (Int32.ofNat (ps + own_cn bs24 ps)) (Int32.ofNat (ps + 10)) T54.heap n0 Zs ⟨E_b52, F_b52_bytes, F_b52_position, F_b52_end⟩) (by decide) (by decide) rfl (by rw [hml]; rfl) (rest := []) (Nat.le_of_eq rfl) (by decide) (by decide) (lenOf pd_5 rfl) rfl at_472 (pc' := 475) rfl ?_
          intro T55 v55 L55 X55 hQ55
          obtain ⟨rfl, Nq55, eq55⟩ := hQ55
          have N55 := Fr.app N54 Nq55
          show GolF _ _ _ _ _ _ _ T55 m 475 #[.val (.long q0), .second, .val (.int p1), .val (.int p2), .val (.ref b1), .val (.int (Int32.ofNat ps)), .val (.int kk), .val (.int (Int32.ofNat (ps + 10))), .val (.int (own_fc bs24 ps)), .val (.long (-1 : Int64)), .second, .val (.int (f4 (own_fc bs24 ps) (10 : Int32) )), .val (.ref b52), .val (.long (own_rn bs24 ps)), .second] [(.int (Int32.ofNat (ps + own_cn bs24 ps)))]
          refine Gol.iload X55 hx hby at_475 (pc' := 477) rfl rfl ?_
          refine Gol.iload X55 hx hby at_477 (pc' := 479) rfl rfl ?_
          refine Gol.iadd X55 hx hby at_479 (pc' := 480) rfl rfl ?_
          refine Gol.icmpNo X55 hx hby at_480 (pc' := 483) rfl (teq (own_pos (own_byte V_b1 (by omega)))).2 ?_
          refine Gol.aload X55 hx hby at_483 (pc' := 485) rfl rfl rfl ?_
          refine Gol.callV X55 hx hby hZ hown 0 [] (a := b52) (hw _ (List.mem_of_getElem? (i := 41) rfl)) (hw _ (List.mem_of_getElem? (i := 42) rfl)) (notFace_of_selects (args := #[]) (mvT hZ (hw _ (List.mem_of_getElem? (i := 44) rfl)))) (hw _ (List.mem_of_getElem? (i := 44) rfl)) (hw _ (List.mem_of_getElem? (i := 43) rfl)) (hw _ (List.mem_of_getElem? (i := 18) rfl)) (hw _ (List.mem_of_getElem? (i := 45) rfl)) (by decide) E_b52 (rm9 l Z a0 hw [] b52 (.ref b1) (Int32.ofNat (ps + own_cn bs24 ps)) (Int32.ofNat (ps + 10)) T54.heap n0 Zs ⟨E_b52, F_b52_bytes, F_b52_position, F_b52_end⟩) (by decide) (by decide) eq55 (by rw [hml]; rfl) (rest := []) (Nat.le_of_eq rfl) (by decide) (by decide) (lenOf pd_5 rfl) rfl at_485 (pc' := 488) rfl ?_
          intro T56 v56 L56 X56 hQ56
          obtain ⟨rfl, Nq56, eq56⟩ := hQ56
          have N56 := Fr.app N55 Nq56
          show GolF _ _ _ _ _ _ _ T56 m 488 #[.val (.long q0), .second, .val (.int p1), .val (.int p2), .val (.ref b1), .val (.int (Int32.ofNat ps)), .val (.int kk), .val (.int (Int32.ofNat (ps + 10))), .val (.int (own_fc bs24 ps)), .val (.long (-1 : Int64)), .second, .val (.int (f4 (own_fc bs24 ps) (10 : Int32) )), .val (.ref b52), .val (.long (own_rn bs24 ps)), .second] [(.int ((Int32.ofNat (ps + 10)) - (Int32.ofNat (ps + own_cn bs24 ps))))]
          refine Gol.iload X56 hx hby at_488 (pc' := 490) rfl rfl ?_
          refine Gol.iload X56 hx hby at_490 (pc' := 492) rfl rfl ?_
          refine Gol.isub X56 hx hby at_492 (pc' := 493) rfl rfl ?_
          refine Gol.iload X56 hx hby at_493 (pc' := 495) rfl rfl ?_
          refine Gol.isub X56 hx hby at_495 (pc' := 496) rfl rfl ?_
          refine Gol.icmpNo X56 hx hby at_496 (pc' := 499) rfl (teq (own_left _ (own_byte V_b1 (by omega)))).2 ?_
          refine Gol.iconst X56 hx hby at_499 (pc' := 500) rfl (z := (1 : Int32)) rfl ?_
          refine Gol.goto X56 hx hby at_500 (pc' := 504) (by decide) ?_
          exact Gol.retN X56 hx hby (t := .boolean) Bd.returns (by simp) Bd.notSynchronized at_504 eq56 ⟨rfl, N56⟩ (by decide) (by decide)
      · skip
        refine Gol.icmpYes X25 hx hby at_294 (pc' := 316) (by decide) (feq hc294_33).2 ?_
        refine Gol.aload X25 hx hby at_316 (pc' := 318) rfl rfl rfl ?_
        refine Gol.iload X25 hx hby at_318 (pc' := 320) rfl rfl ?_
        refine Gol.iconst X25 hx hby at_320 (pc' := 321) rfl (z := (0 : Int32)) rfl ?_
        refine Gol.iload X25 hx hby at_321 (pc' := 323) rfl rfl ?_
        refine Gol.callS X25 hx hby hZ hown 0 [(.ref b1), (.int (Int32.ofNat ps)), (.int (0 : Int32)), (.int (own_fc bs24 ps))] (hw _ (List.mem_of_getElem? (i := 9) rfl)) (hw _ (List.mem_of_getElem? (i := 10) rfl)) (hw _ (List.mem_of_getElem? (i := 4) rfl)) (hw _ (List.mem_of_getElem? (i := 11) rfl)) (by decide) (rm3 l Z a0 hw [] b1 (Int32.ofNat ps) (0 : Int32) (own_fc bs24 ps) k1 bs24 (ps + 0) T24.heap n0 Zs (own_addk ps 0) (by omega) V_b1) (by decide) (by decide) eq25 (by rw [hml]; rfl) (rest := []) (Nat.le_of_eq rfl) (by decide) (by decide) (lenOf pd_6 rfl) rfl at_323 (pc' := 326) rfl ?_
        intro T57 v57 L57 X57 hQ57
        obtain ⟨rfl, Nq57, eq57⟩ := hQ57
        have N57 := Fr.app N25 Nq57
        show GolF _ _ _ _ _ _ _ T57 m 326 #[.val (.long q0), .second, .val (.int p1), .val (.int p2), .val (.ref b1), .val (.int (Int32.ofNat ps)), .val (.int kk), .val (.int (Int32.ofNat (ps + 10))), .val (.int (own_fc bs24 ps)), .unset, .unset, .unset, .unset, .unset, .unset] [(.long (own_tm (bs24.getD (ps + 0) 0) (0 : Int32) (own_fc bs24 ps)))]
        refine Gol.aload X57 hx hby at_326 (pc' := 328) rfl rfl rfl ?_
        refine Gol.iload X57 hx hby at_328 (pc' := 330) rfl rfl ?_
        refine Gol.iconst X57 hx hby at_330 (pc' := 331) rfl (z := (1 : Int32)) rfl ?_
        refine Gol.iload X57 hx hby at_331 (pc' := 333) rfl rfl ?_
        refine Gol.callS X57 hx hby hZ hown 2 [(.ref b1), (.int (Int32.ofNat ps)), (.int (1 : Int32)), (.int (own_fc bs24 ps))] (hw _ (List.mem_of_getElem? (i := 9) rfl)) (hw _ (List.mem_of_getElem? (i := 10) rfl)) (hw _ (List.mem_of_getElem? (i := 4) rfl)) (hw _ (List.mem_of_getElem? (i := 11) rfl)) (by decide) (rm3 l Z a0 hw [] b1 (Int32.ofNat ps) (1 : Int32) (own_fc bs24 ps) k1 bs24 (ps + 1) T24.heap n0 Zs (own_addk ps 1) (by omega) V_b1) (by decide) (by decide) eq57 (by rw [hml]; rfl) (rest := [(.long (own_tm (bs24.getD (ps + 0) 0) (0 : Int32) (own_fc bs24 ps)))]) (Nat.le_of_eq rfl) (by decide) (by decide) (lenOf pd_6 rfl) rfl at_333 (pc' := 336) rfl ?_
        intro T58 v58 L58 X58 hQ58
        obtain ⟨rfl, Nq58, eq58⟩ := hQ58
        have N58 := Fr.app N57 Nq58
        show GolF _ _ _ _ _ _ _ T58 m 336 #[.val (.long q0), .second, .val (.int p1), .val (.int p2), .val (.ref b1), .val (.int (Int32.ofNat ps)), .val (.int kk), .val (.int (Int32.ofNat (ps + 10))), .val (.int (own_fc bs24 ps)), .unset, .unset, .unset, .unset, .unset, .unset] [(.long (own_tm (bs24.getD (ps + 1) 0) (1 : Int32) (own_fc bs24 ps))), (.long (own_tm (bs24.getD (ps + 0) 0) (0 : Int32) (own_fc bs24 ps)))]
        refine Gol.lor X58 hx hby at_336 (pc' := 337) rfl rfl ?_
        refine Gol.aload X58 hx hby at_337 (pc' := 339) rfl rfl rfl ?_
        refine Gol.iload X58 hx hby at_339 (pc' := 341) rfl rfl ?_
        refine Gol.iconst X58 hx hby at_341 (pc' := 342) rfl (z := (2 : Int32)) rfl ?_
        refine Gol.iload X58 hx hby at_342 (pc' := 344) rfl rfl ?_
        refine Gol.callS X58 hx hby hZ hown 2 [(.ref b1), (.int (Int32.ofNat ps)), (.int (2 : Int32)), (.int (own_fc bs24 ps))] (hw _ (List.mem_of_getElem? (i := 9) rfl)) (hw _ (List.mem_of_getElem? (i := 10) rfl)) (hw _ (List.mem_of_getElem? (i := 4) rfl)) (hw _ (List.mem_of_getElem? (i := 11) rfl)) (by decide) (rm3 l Z a0 hw [] b1 (Int32.ofNat ps) (2 : Int32) (own_fc bs24 ps) k1 bs24 (ps + 2) T24.heap n0 Zs (own_addk ps 2) (by omega) V_b1) (by decide) (by decide) eq58 (by rw [hml]; rfl) (rest := [(.long ((own_tm (bs24.getD (ps + 0) 0) (0 : Int32) (own_fc bs24 ps)) ||| (own_tm (bs24.getD (ps + 1) 0) (1 : Int32) (own_fc bs24 ps))))]) (Nat.le_of_eq rfl) (by decide) (by decide) (lenOf pd_6 rfl) rfl at_344 (pc' := 347) rfl ?_
        intro T59 v59 L59 X59 hQ59
        obtain ⟨rfl, Nq59, eq59⟩ := hQ59
        have N59 := Fr.app N58 Nq59
        show GolF _ _ _ _ _ _ _ T59 m 347 #[.val (.long q0), .second, .val (.int p1), .val (.int p2), .val (.ref b1), .val (.int (Int32.ofNat ps)), .val (.int kk), .val (.int (Int32.ofNat (ps + 10))), .val (.int (own_fc bs24 ps)), .unset, .unset, .unset, .unset, .unset, .unset] [(.long (own_tm (bs24.getD (ps + 2) 0) (2 : Int32) (own_fc bs24 ps))), (.long ((own_tm (bs24.getD (ps + 0) 0) (0 : Int32) (own_fc bs24 ps)) ||| (own_tm (bs24.getD (ps + 1) 0) (1 : Int32) (own_fc bs24 ps))))]
        refine Gol.lor X59 hx hby at_347 (pc' := 348) rfl rfl ?_
        refine Gol.aload X59 hx hby at_348 (pc' := 350) rfl rfl rfl ?_
        refine Gol.iload X59 hx hby at_350 (pc' := 352) rfl rfl ?_
        refine Gol.iconst X59 hx hby at_352 (pc' := 353) rfl (z := (3 : Int32)) rfl ?_
        refine Gol.iload X59 hx hby at_353 (pc' := 355) rfl rfl ?_
        refine Gol.callS X59 hx hby hZ hown 2 [(.ref b1), (.int (Int32.ofNat ps)), (.int (3 : Int32)), (.int (own_fc bs24 ps))] (hw _ (List.mem_of_getElem? (i := 9) rfl)) (hw _ (List.mem_of_getElem? (i := 10) rfl)) (hw _ (List.mem_of_getElem? (i := 4) rfl)) (hw _ (List.mem_of_getElem? (i := 11) rfl)) (by decide) (rm3 l Z a0 hw [] b1 (Int32.ofNat ps) (3 : Int32) (own_fc bs24 ps) k1 bs24 (ps + 3) T24.heap n0 Zs (own_addk ps 3) (by omega) V_b1) (by decide) (by decide) eq59 (by rw [hml]; rfl) (rest := [(.long (((own_tm (bs24.getD (ps + 0) 0) (0 : Int32) (own_fc bs24 ps)) ||| (own_tm (bs24.getD (ps + 1) 0) (1 : Int32) (own_fc bs24 ps))) ||| (own_tm (bs24.getD (ps + 2) 0) (2 : Int32) (own_fc bs24 ps))))]) (Nat.le_of_eq rfl) (by decide) (by decide) (lenOf pd_6 rfl) rfl at_355 (pc' := 358) rfl ?_
        intro T60 v60 L60 X60 hQ60
        obtain ⟨rfl, Nq60, eq60⟩ := hQ60
        have N60 := Fr.app N59 Nq60
        show GolF _ _ _ _ _ _ _ T60 m 358 #[.val (.long q0), .second, .val (.int p1), .val (.int p2), .val (.ref b1), .val (.int (Int32.ofNat ps)), .val (.int kk), .val (.int (Int32.ofNat (ps + 10))), .val (.int (own_fc bs24 ps)), .unset, .unset, .unset, .unset, .unset, .unset] [(.long (own_tm (bs24.getD (ps + 3) 0) (3 : Int32) (own_fc bs24 ps))), (.long (((own_tm (bs24.getD (ps + 0) 0) (0 : Int32) (own_fc bs24 ps)) ||| (own_tm (bs24.getD (ps + 1) 0) (1 : Int32) (own_fc bs24 ps))) ||| (own_tm (bs24.getD (ps + 2) 0) (2 : Int32) (own_fc bs24 ps))))]
        refine Gol.lor X60 hx hby at_358 (pc' := 359) rfl rfl ?_
        refine Gol.aload X60 hx hby at_359 (pc' := 361) rfl rfl rfl ?_
        refine Gol.iload X60 hx hby at_361 (pc' := 363) rfl rfl ?_
        refine Gol.iconst X60 hx hby at_363 (pc' := 364) rfl (z := (4 : Int32)) rfl ?_
        refine Gol.iload X60 hx hby at_364 (pc' := 366) rfl rfl ?_
        refine Gol.callS X60 hx hby hZ hown 2 [(.ref b1), (.int (Int32.ofNat ps)), (.int (4 : Int32)), (.int (own_fc bs24 ps))] (hw _ (List.mem_of_getElem? (i := 9) rfl)) (hw _ (List.mem_of_getElem? (i := 10) rfl)) (hw _ (List.mem_of_getElem? (i := 4) rfl)) (hw _ (List.mem_of_getElem? (i := 11) rfl)) (by decide) (rm3 l Z a0 hw [] b1 (Int32.ofNat ps) (4 : Int32) (own_fc bs24 ps) k1 bs24 (ps + 4) T24.heap n0 Zs (own_addk ps 4) (by omega) V_b1) (by decide) (by decide) eq60 (by rw [hml]; rfl) (rest := [(.long ((((own_tm (bs24.getD (ps + 0) 0) (0 : Int32) (own_fc bs24 ps)) ||| (own_tm (bs24.getD (ps + 1) 0) (1 : Int32) (own_fc bs24 ps))) ||| (own_tm (bs24.getD (ps + 2) 0) (2 : Int32) (own_fc bs24 ps))) ||| (own_tm (bs24.getD (ps + 3) 0) (3 : Int32) (own_fc bs24 ps))))]) (Nat.le_of_eq rfl) (by decide) (by decide) (lenOf pd_6 rfl) rfl at_366 (pc' := 369) rfl ?_
        intro T61 v61 L61 X61 hQ61
        obtain ⟨rfl, Nq61, eq61⟩ := hQ61
        have N61 := Fr.app N60 Nq61
        show GolF _ _ _ _ _ _ _ T61 m 369 #[.val (.long q0), .second, .val (.int p1), .val (.int p2), .val (.ref b1), .val (.int (Int32.ofNat ps)), .val (.int kk), .val (.int (Int32.ofNat (ps + 10))), .val (.int (own_fc bs24 ps)), .unset, .unset, .unset, .unset, .unset, .unset] [(.long (own_tm (bs24.getD (ps + 4) 0) (4 : Int32) (own_fc bs24 ps))), (.long ((((own_tm (bs24.getD (ps + 0) 0) (0 : Int32) (own_fc bs24 ps)) ||| (own_tm (bs24.getD (ps + 1) 0) (1 : Int32) (own_fc bs24 ps))) ||| (own_tm (bs24.getD (ps + 2) 0) (2 : Int32) (own_fc bs24 ps))) ||| (own_tm (bs24.getD (ps + 3) 0) (3 : Int32) (own_fc bs24 ps))))]
        refine Gol.lor X61 hx hby at_369 (pc' := 370) rfl rfl ?_
        refine Gol.aload X61 hx hby at_370 (pc' := 372) rfl rfl rfl ?_
        refine Gol.iload X61 hx hby at_372 (pc' := 374) rfl rfl ?_
        refine Gol.iconst X61 hx hby at_374 (pc' := 375) rfl (z := (5 : Int32)) rfl ?_
        refine Gol.iload X61 hx hby at_375 (pc' := 377) rfl rfl ?_
        refine Gol.callS X61 hx hby hZ hown 2 [(.ref b1), (.int (Int32.ofNat ps)), (.int (5 : Int32)), (.int (own_fc bs24 ps))] (hw _ (List.mem_of_getElem? (i := 9) rfl)) (hw _ (List.mem_of_getElem? (i := 10) rfl)) (hw _ (List.mem_of_getElem? (i := 4) rfl)) (hw _ (List.mem_of_getElem? (i := 11) rfl)) (by decide) (rm3 l Z a0 hw [] b1 (Int32.ofNat ps) (5 : Int32) (own_fc bs24 ps) k1 bs24 (ps + 5) T24.heap n0 Zs (own_addk ps 5) (by omega) V_b1) (by decide) (by decide) eq61 (by rw [hml]; rfl) (rest := [(.long (((((own_tm (bs24.getD (ps + 0) 0) (0 : Int32) (own_fc bs24 ps)) ||| (own_tm (bs24.getD (ps + 1) 0) (1 : Int32) (own_fc bs24 ps))) ||| (own_tm (bs24.getD (ps + 2) 0) (2 : Int32) (own_fc bs24 ps))) ||| (own_tm (bs24.getD (ps + 3) 0) (3 : Int32) (own_fc bs24 ps))) ||| (own_tm (bs24.getD (ps + 4) 0) (4 : Int32) (own_fc bs24 ps))))]) (Nat.le_of_eq rfl) (by decide) (by decide) (lenOf pd_6 rfl) rfl at_377 (pc' := 380) rfl ?_
        intro T62 v62 L62 X62 hQ62
        obtain ⟨rfl, Nq62, eq62⟩ := hQ62
        have N62 := Fr.app N61 Nq62
        show GolF _ _ _ _ _ _ _ T62 m 380 #[.val (.long q0), .second, .val (.int p1), .val (.int p2), .val (.ref b1), .val (.int (Int32.ofNat ps)), .val (.int kk), .val (.int (Int32.ofNat (ps + 10))), .val (.int (own_fc bs24 ps)), .unset, .unset, .unset, .unset, .unset, .unset] [(.long (own_tm (bs24.getD (ps + 5) 0) (5 : Int32) (own_fc bs24 ps))), (.long (((((own_tm (bs24.getD (ps + 0) 0) (0 : Int32) (own_fc bs24 ps)) ||| (own_tm (bs24.getD (ps + 1) 0) (1 : Int32) (own_fc bs24 ps))) ||| (own_tm (bs24.getD (ps + 2) 0) (2 : Int32) (own_fc bs24 ps))) ||| (own_tm (bs24.getD (ps + 3) 0) (3 : Int32) (own_fc bs24 ps))) ||| (own_tm (bs24.getD (ps + 4) 0) (4 : Int32) (own_fc bs24 ps))))]
        refine Gol.lor X62 hx hby at_380 (pc' := 381) rfl rfl ?_
        refine Gol.aload X62 hx hby at_381 (pc' := 383) rfl rfl rfl ?_
        refine Gol.iload X62 hx hby at_383 (pc' := 385) rfl rfl ?_
        refine Gol.bipush X62 hx hby at_385 (pc' := 387) rfl (z := (6 : Int32)) rfl ?_
        refine Gol.iload X62 hx hby at_387 (pc' := 389) rfl rfl ?_
        refine Gol.callS X62 hx hby hZ hown 2 [(.ref b1), (.int (Int32.ofNat ps)), (.int (6 : Int32)), (.int (own_fc bs24 ps))] (hw _ (List.mem_of_getElem? (i := 9) rfl)) (hw _ (List.mem_of_getElem? (i := 10) rfl)) (hw _ (List.mem_of_getElem? (i := 4) rfl)) (hw _ (List.mem_of_getElem? (i := 11) rfl)) (by decide) (rm3 l Z a0 hw [] b1 (Int32.ofNat ps) (6 : Int32) (own_fc bs24 ps) k1 bs24 (ps + 6) T24.heap n0 Zs (own_addk ps 6) (by omega) V_b1) (by decide) (by decide) eq62 (by rw [hml]; rfl) (rest := [(.long ((((((own_tm (bs24.getD (ps + 0) 0) (0 : Int32) (own_fc bs24 ps)) ||| (own_tm (bs24.getD (ps + 1) 0) (1 : Int32) (own_fc bs24 ps))) ||| (own_tm (bs24.getD (ps + 2) 0) (2 : Int32) (own_fc bs24 ps))) ||| (own_tm (bs24.getD (ps + 3) 0) (3 : Int32) (own_fc bs24 ps))) ||| (own_tm (bs24.getD (ps + 4) 0) (4 : Int32) (own_fc bs24 ps))) ||| (own_tm (bs24.getD (ps + 5) 0) (5 : Int32) (own_fc bs24 ps))))]) (Nat.le_of_eq rfl) (by decide) (by decide) (lenOf pd_6 rfl) rfl at_389 (pc' := 392) rfl ?_
        intro T63 v63 L63 X63 hQ63
        obtain ⟨rfl, Nq63, eq63⟩ := hQ63
        have N63 := Fr.app N62 Nq63
        show GolF _ _ _ _ _ _ _ T63 m 392 #[.val (.long q0), .second, .val (.int p1), .val (.int p2), .val (.ref b1), .val (.int (Int32.ofNat ps)), .val (.int kk), .val (.int (Int32.ofNat (ps + 10))), .val (.int (own_fc bs24 ps)), .unset, .unset, .unset, .unset, .unset, .unset] [(.long (own_tm (bs24.getD (ps + 6) 0) (6 : Int32) (own_fc bs24 ps))), (.long ((((((own_tm (bs24.getD (ps + 0) 0) (0 : Int32) (own_fc bs24 ps)) ||| (own_tm (bs24.getD (ps + 1) 0) (1 : Int32) (own_fc bs24 ps))) ||| (own_tm (bs24.getD (ps + 2) 0) (2 : Int32) (own_fc bs24 ps))) ||| (own_tm (bs24.getD (ps + 3) 0) (3 : Int32) (own_fc bs24 ps))) ||| (own_tm (bs24.getD (ps + 4) 0) (4 : Int32) (own_fc bs24 ps))) ||| (own_tm (bs24.getD (ps + 5) 0) (5 : Int32) (own_fc bs24 ps))))]
        refine Gol.lor X63 hx hby at_392 (pc' := 393) rfl rfl ?_
        refine Gol.aload X63 hx hby at_393 (pc' := 395) rfl rfl rfl ?_
        refine Gol.iload X63 hx hby at_395 (pc' := 397) rfl rfl ?_
        refine Gol.bipush X63 hx hby at_397 (pc' := 399) rfl (z := (7 : Int32)) rfl ?_
        refine Gol.iload X63 hx hby at_399 (pc' := 401) rfl rfl ?_
        refine Gol.callS X63 hx hby hZ hown 2 [(.ref b1), (.int (Int32.ofNat ps)), (.int (7 : Int32)), (.int (own_fc bs24 ps))] (hw _ (List.mem_of_getElem? (i := 9) rfl)) (hw _ (List.mem_of_getElem? (i := 10) rfl)) (hw _ (List.mem_of_getElem? (i := 4) rfl)) (hw _ (List.mem_of_getElem? (i := 11) rfl)) (by decide) (rm3 l Z a0 hw [] b1 (Int32.ofNat ps) (7 : Int32) (own_fc bs24 ps) k1 bs24 (ps + 7) T24.heap n0 Zs (own_addk ps 7) (by omega) V_b1) (by decide) (by decide) eq63 (by rw [hml]; rfl) (rest := [(.long (((((((own_tm (bs24.getD (ps + 0) 0) (0 : Int32) (own_fc bs24 ps)) ||| (own_tm (bs24.getD (ps + 1) 0) (1 : Int32) (own_fc bs24 ps))) ||| (own_tm (bs24.getD (ps + 2) 0) (2 : Int32) (own_fc bs24 ps))) ||| (own_tm (bs24.getD (ps + 3) 0) (3 : Int32) (own_fc bs24 ps))) ||| (own_tm (bs24.getD (ps + 4) 0) (4 : Int32) (own_fc bs24 ps))) ||| (own_tm (bs24.getD (ps + 5) 0) (5 : Int32) (own_fc bs24 ps))) ||| (own_tm (bs24.getD (ps + 6) 0) (6 : Int32) (own_fc bs24 ps))))]) (Nat.le_of_eq rfl) (by decide) (by decide) (lenOf pd_6 rfl) rfl at_401 (pc' := 404) rfl ?_
        intro T64 v64 L64 X64 hQ64
        obtain ⟨rfl, Nq64, eq64⟩ := hQ64
        have N64 := Fr.app N63 Nq64
        show GolF _ _ _ _ _ _ _ T64 m 404 #[.val (.long q0), .second, .val (.int p1), .val (.int p2), .val (.ref b1), .val (.int (Int32.ofNat ps)), .val (.int kk), .val (.int (Int32.ofNat (ps + 10))), .val (.int (own_fc bs24 ps)), .unset, .unset, .unset, .unset, .unset, .unset] [(.long (own_tm (bs24.getD (ps + 7) 0) (7 : Int32) (own_fc bs24 ps))), (.long (((((((own_tm (bs24.getD (ps + 0) 0) (0 : Int32) (own_fc bs24 ps)) ||| (own_tm (bs24.getD (ps + 1) 0) (1 : Int32) (own_fc bs24 ps))) ||| (own_tm (bs24.getD (ps + 2) 0) (2 : Int32) (own_fc bs24 ps))) ||| (own_tm (bs24.getD (ps + 3) 0) (3 : Int32) (own_fc bs24 ps))) ||| (own_tm (bs24.getD (ps + 4) 0) (4 : Int32) (own_fc bs24 ps))) ||| (own_tm (bs24.getD (ps + 5) 0) (5 : Int32) (own_fc bs24 ps))) ||| (own_tm (bs24.getD (ps + 6) 0) (6 : Int32) (own_fc bs24 ps))))]
        refine Gol.lor X64 hx hby at_404 (pc' := 405) rfl rfl ?_
        refine Gol.aload X64 hx hby at_405 (pc' := 407) rfl rfl rfl ?_
        refine Gol.iload X64 hx hby at_407 (pc' := 409) rfl rfl ?_
        refine Gol.bipush X64 hx hby at_409 (pc' := 411) rfl (z := (8 : Int32)) rfl ?_
        refine Gol.iload X64 hx hby at_411 (pc' := 413) rfl rfl ?_
        refine Gol.callS X64 hx hby hZ hown 2 [(.ref b1), (.int (Int32.ofNat ps)), (.int (8 : Int32)), (.int (own_fc bs24 ps))] (hw _ (List.mem_of_getElem? (i := 9) rfl)) (hw _ (List.mem_of_getElem? (i := 10) rfl)) (hw _ (List.mem_of_getElem? (i := 4) rfl)) (hw _ (List.mem_of_getElem? (i := 11) rfl)) (by decide) (rm3 l Z a0 hw [] b1 (Int32.ofNat ps) (8 : Int32) (own_fc bs24 ps) k1 bs24 (ps + 8) T24.heap n0 Zs (own_addk ps 8) (by omega) V_b1) (by decide) (by decide) eq64 (by rw [hml]; rfl) (rest := [(.long ((((((((own_tm (bs24.getD (ps + 0) 0) (0 : Int32) (own_fc bs24 ps)) ||| (own_tm (bs24.getD (ps + 1) 0) (1 : Int32) (own_fc bs24 ps))) ||| (own_tm (bs24.getD (ps + 2) 0) (2 : Int32) (own_fc bs24 ps))) ||| (own_tm (bs24.getD (ps + 3) 0) (3 : Int32) (own_fc bs24 ps))) ||| (own_tm (bs24.getD (ps + 4) 0) (4 : Int32) (own_fc bs24 ps))) ||| (own_tm (bs24.getD (ps + 5) 0) (5 : Int32) (own_fc bs24 ps))) ||| (own_tm (bs24.getD (ps + 6) 0) (6 : Int32) (own_fc bs24 ps))) ||| (own_tm (bs24.getD (ps + 7) 0) (7 : Int32) (own_fc bs24 ps))))]) (Nat.le_of_eq rfl) (by decide) (by decide) (lenOf pd_6 rfl) rfl at_413 (pc' := 416) rfl ?_
        intro T65 v65 L65 X65 hQ65
        obtain ⟨rfl, Nq65, eq65⟩ := hQ65
        have N65 := Fr.app N64 Nq65
        show GolF _ _ _ _ _ _ _ T65 m 416 #[.val (.long q0), .second, .val (.int p1), .val (.int p2), .val (.ref b1), .val (.int (Int32.ofNat ps)), .val (.int kk), .val (.int (Int32.ofNat (ps + 10))), .val (.int (own_fc bs24 ps)), .unset, .unset, .unset, .unset, .unset, .unset] [(.long (own_tm (bs24.getD (ps + 8) 0) (8 : Int32) (own_fc bs24 ps))), (.long ((((((((own_tm (bs24.getD (ps + 0) 0) (0 : Int32) (own_fc bs24 ps)) ||| (own_tm (bs24.getD (ps + 1) 0) (1 : Int32) (own_fc bs24 ps))) ||| (own_tm (bs24.getD (ps + 2) 0) (2 : Int32) (own_fc bs24 ps))) ||| (own_tm (bs24.getD (ps + 3) 0) (3 : Int32) (own_fc bs24 ps))) ||| (own_tm (bs24.getD (ps + 4) 0) (4 : Int32) (own_fc bs24 ps))) ||| (own_tm (bs24.getD (ps + 5) 0) (5 : Int32) (own_fc bs24 ps))) ||| (own_tm (bs24.getD (ps + 6) 0) (6 : Int32) (own_fc bs24 ps))) ||| (own_tm (bs24.getD (ps + 7) 0) (7 : Int32) (own_fc bs24 ps))))]
        refine Gol.lor X65 hx hby at_416 (pc' := 417) rfl rfl ?_
        refine Gol.aload X65 hx hby at_417 (pc' := 419) rfl rfl rfl ?_
        refine Gol.iload X65 hx hby at_419 (pc' := 421) rfl rfl ?_
        refine Gol.bipush X65 hx hby at_421 (pc' := 423) rfl (z := (9 : Int32)) rfl ?_
        refine Gol.iload X65 hx hby at_423 (pc' := 425) rfl rfl ?_
        refine Gol.callS X65 hx hby hZ hown 2 [(.ref b1), (.int (Int32.ofNat ps)), (.int (9 : Int32)), (.int (own_fc bs24 ps))] (hw _ (List.mem_of_getElem? (i := 9) rfl)) (hw _ (List.mem_of_getElem? (i := 10) rfl)) (hw _ (List.mem_of_getElem? (i := 4) rfl)) (hw _ (List.mem_of_getElem? (i := 11) rfl)) (by decide) (rm3 l Z a0 hw [] b1 (Int32.ofNat ps) (9 : Int32) (own_fc bs24 ps) k1 bs24 (ps + 9) T24.heap n0 Zs (own_addk ps 9) (by omega) V_b1) (by decide) (by decide) eq65 (by rw [hml]; rfl) (rest := [(.long (((((((((own_tm (bs24.getD (ps + 0) 0) (0 : Int32) (own_fc bs24 ps)) ||| (own_tm (bs24.getD (ps + 1) 0) (1 : Int32) (own_fc bs24 ps))) ||| (own_tm (bs24.getD (ps + 2) 0) (2 : Int32) (own_fc bs24 ps))) ||| (own_tm (bs24.getD (ps + 3) 0) (3 : Int32) (own_fc bs24 ps))) ||| (own_tm (bs24.getD (ps + 4) 0) (4 : Int32) (own_fc bs24 ps))) ||| (own_tm (bs24.getD (ps + 5) 0) (5 : Int32) (own_fc bs24 ps))) ||| (own_tm (bs24.getD (ps + 6) 0) (6 : Int32) (own_fc bs24 ps))) ||| (own_tm (bs24.getD (ps + 7) 0) (7 : Int32) (own_fc bs24 ps))) ||| (own_tm (bs24.getD (ps + 8) 0) (8 : Int32) (own_fc bs24 ps))))]) (Nat.le_of_eq rfl) (by decide) (by decide) (lenOf pd_6 rfl) rfl at_425 (pc' := 428) rfl ?_
        intro T66 v66 L66 X66 hQ66
        obtain ⟨rfl, Nq66, eq66⟩ := hQ66
        have N66 := Fr.app N65 Nq66
        show GolF _ _ _ _ _ _ _ T66 m 428 #[.val (.long q0), .second, .val (.int p1), .val (.int p2), .val (.ref b1), .val (.int (Int32.ofNat ps)), .val (.int kk), .val (.int (Int32.ofNat (ps + 10))), .val (.int (own_fc bs24 ps)), .unset, .unset, .unset, .unset, .unset, .unset] [(.long (own_tm (bs24.getD (ps + 9) 0) (9 : Int32) (own_fc bs24 ps))), (.long (((((((((own_tm (bs24.getD (ps + 0) 0) (0 : Int32) (own_fc bs24 ps)) ||| (own_tm (bs24.getD (ps + 1) 0) (1 : Int32) (own_fc bs24 ps))) ||| (own_tm (bs24.getD (ps + 2) 0) (2 : Int32) (own_fc bs24 ps))) ||| (own_tm (bs24.getD (ps + 3) 0) (3 : Int32) (own_fc bs24 ps))) ||| (own_tm (bs24.getD (ps + 4) 0) (4 : Int32) (own_fc bs24 ps))) ||| (own_tm (bs24.getD (ps + 5) 0) (5 : Int32) (own_fc bs24 ps))) ||| (own_tm (bs24.getD (ps + 6) 0) (6 : Int32) (own_fc bs24 ps))) ||| (own_tm (bs24.getD (ps + 7) 0) (7 : Int32) (own_fc bs24 ps))) ||| (own_tm (bs24.getD (ps + 8) 0) (8 : Int32) (own_fc bs24 ps))))]
        refine Gol.lor X66 hx hby at_428 (pc' := 429) rfl rfl ?_
        refine Gol.lstore X66 hx hby at_429 (pc' := 431) rfl (l' := #[.val (.long q0), .second, .val (.int p1), .val (.int p2), .val (.ref b1), .val (.int (Int32.ofNat ps)), .val (.int kk), .val (.int (Int32.ofNat (ps + 10))), .val (.int (own_fc bs24 ps)), .val (.long ((((((((((own_tm (bs24.getD (ps + 0) 0) (0 : Int32) (own_fc bs24 ps)) ||| (own_tm (bs24.getD (ps + 1) 0) (1 : Int32) (own_fc bs24 ps))) ||| (own_tm (bs24.getD (ps + 2) 0) (2 : Int32) (own_fc bs24 ps))) ||| (own_tm (bs24.getD (ps + 3) 0) (3 : Int32) (own_fc bs24 ps))) ||| (own_tm (bs24.getD (ps + 4) 0) (4 : Int32) (own_fc bs24 ps))) ||| (own_tm (bs24.getD (ps + 5) 0) (5 : Int32) (own_fc bs24 ps))) ||| (own_tm (bs24.getD (ps + 6) 0) (6 : Int32) (own_fc bs24 ps))) ||| (own_tm (bs24.getD (ps + 7) 0) (7 : Int32) (own_fc bs24 ps))) ||| (own_tm (bs24.getD (ps + 8) 0) (8 : Int32) (own_fc bs24 ps))) ||| (own_tm (bs24.getD (ps + 9) 0) (9 : Int32) (own_fc bs24 ps)))), .second, .unset, .unset, .unset, .unset]) rfl ?_
        refine Gol.iload X66 hx hby at_431 (pc' := 433) rfl rfl ?_
        refine Gol.bipush X66 hx hby at_433 (pc' := 435) rfl (z := (10 : Int32)) rfl ?_
        refine Gol.callS X66 hx hby hZ hown 0 [(.int (own_fc bs24 ps)), (.int (10 : Int32))] (hw _ (List.mem_of_getElem? (i := 12) rfl)) (hw _ (List.mem_of_getElem? (i := 13) rfl)) (hw _ (List.mem_of_getElem? (i := 14) rfl)) (hw _ (List.mem_of_getElem? (i := 15) rfl)) (by decide) (rm4 l Z a0 hw [] (own_fc bs24 ps) (10 : Int32)  T24.heap n0 Zs ) (by decide) (by decide) eq66 (by rw [hml]; rfl) (rest := []) (Nat.le_of_eq rfl) (by decide) (by decide) (lenOf pd_2 rfl) rfl at_435 (pc' := 438) rfl ?_
        intro T67 v67 L67 X67 hQ67
        obtain ⟨rfl, Nq67, eq67⟩ := hQ67
        have N67 := Fr.app N66 Nq67
        show GolF _ _ _ _ _ _ _ T67 m 438 #[.val (.long q0), .second, .val (.int p1), .val (.int p2), .val (.ref b1), .val (.int (Int32.ofNat ps)), .val (.int kk), .val (.int (Int32.ofNat (ps + 10))), .val (.int (own_fc bs24 ps)), .val (.long ((((((((((own_tm (bs24.getD (ps + 0) 0) (0 : Int32) (own_fc bs24 ps)) ||| (own_tm (bs24.getD (ps + 1) 0) (1 : Int32) (own_fc bs24 ps))) ||| (own_tm (bs24.getD (ps + 2) 0) (2 : Int32) (own_fc bs24 ps))) ||| (own_tm (bs24.getD (ps + 3) 0) (3 : Int32) (own_fc bs24 ps))) ||| (own_tm (bs24.getD (ps + 4) 0) (4 : Int32) (own_fc bs24 ps))) ||| (own_tm (bs24.getD (ps + 5) 0) (5 : Int32) (own_fc bs24 ps))) ||| (own_tm (bs24.getD (ps + 6) 0) (6 : Int32) (own_fc bs24 ps))) ||| (own_tm (bs24.getD (ps + 7) 0) (7 : Int32) (own_fc bs24 ps))) ||| (own_tm (bs24.getD (ps + 8) 0) (8 : Int32) (own_fc bs24 ps))) ||| (own_tm (bs24.getD (ps + 9) 0) (9 : Int32) (own_fc bs24 ps)))), .second, .unset, .unset, .unset, .unset] [(.int (f4 (own_fc bs24 ps) (10 : Int32) ))]
        refine Gol.istore X67 hx hby at_438 (pc' := 440) rfl (l' := #[.val (.long q0), .second, .val (.int p1), .val (.int p2), .val (.ref b1), .val (.int (Int32.ofNat ps)), .val (.int kk), .val (.int (Int32.ofNat (ps + 10))), .val (.int (own_fc bs24 ps)), .val (.long ((((((((((own_tm (bs24.getD (ps + 0) 0) (0 : Int32) (own_fc bs24 ps)) ||| (own_tm (bs24.getD (ps + 1) 0) (1 : Int32) (own_fc bs24 ps))) ||| (own_tm (bs24.getD (ps + 2) 0) (2 : Int32) (own_fc bs24 ps))) ||| (own_tm (bs24.getD (ps + 3) 0) (3 : Int32) (own_fc bs24 ps))) ||| (own_tm (bs24.getD (ps + 4) 0) (4 : Int32) (own_fc bs24 ps))) ||| (own_tm (bs24.getD (ps + 5) 0) (5 : Int32) (own_fc bs24 ps))) ||| (own_tm (bs24.getD (ps + 6) 0) (6 : Int32) (own_fc bs24 ps))) ||| (own_tm (bs24.getD (ps + 7) 0) (7 : Int32) (own_fc bs24 ps))) ||| (own_tm (bs24.getD (ps + 8) 0) (8 : Int32) (own_fc bs24 ps))) ||| (own_tm (bs24.getD (ps + 9) 0) (9 : Int32) (own_fc bs24 ps)))), .second, .val (.int (f4 (own_fc bs24 ps) (10 : Int32) )), .unset, .unset, .unset]) rfl ?_
        refine Gol.newO X67 hx hby hZ hown (hw _ (List.mem_of_getElem? (i := 16) rfl)) (hw _ (List.mem_of_getElem? (i := 17) rfl)) (hw _ (List.mem_of_getElem? (i := 18) rfl)) eq67 at_440 (pc' := 443) rfl (by decide) (by decide) ?_
        intro T68 h68 b68 g68 X68 e68 E68 A68 D68
        have lo_b1_b68 : b1 < b68 := Nat.lt_of_lt_of_le V_b1.lt (Nat.le_of_eq g68.symm)
        have ne_b1_b68 : b1 ≠ b68 := Nat.ne_of_lt lo_b1_b68
        have g_b68 : n0 ≤ b68 := Nat.le_trans Zs (Nat.le_of_eq g68.symm)
        have V_b1 := V_b1.ext E68
        have Zs := Nat.le_trans Zs E68.1
        have E_b68 := A68
        have F_b68_bytes : Fld Z h68 b68 "com/example/interleaved_tables/interleavedtables/storage/DataFile$Input" "bytes" "[B" .null := D68 (Or.inr (hw _ (List.mem_of_getElem? (i := 26) rfl))) (ty := (.array .byte)) (by decide)
        have F_b68_position : Fld Z h68 b68 "com/example/interleaved_tables/interleavedtables/storage/DataFile$Input" "position" "I" (.int (0 : Int32)) := D68 (Or.inl (hw _ (List.mem_of_getElem? (i := 28) rfl))) (ty := .int) (by decide)
        have F_b68_end : Fld Z h68 b68 "com/example/interleaved_tables/interleavedtables/storage/DataFile$Input" "end" "I" (.int (0 : Int32)) := D68 (Or.inr (hw _ (List.mem_of_getElem? (i := 30) rfl))) (ty := .int) (by decide)
        refine Gol.dup X68 hx hby at_443 (pc' := 444) rfl rfl ?_
        refine Gol.aload X68 hx hby at_444 (pc' := 446) rfl rfl rfl ?_
        refine Gol.iload X68 hx hby at_446 (pc' := 448) rfl rfl ?_
        refine Gol.iload X68 hx hby at_448 (pc' := 450) rfl rfl ?_
        refine Gol.callI X68 hx hby hZ hown 1 [(.ref b1), (.int (Int32.ofNat ps)), (.int (Int32.ofNat (ps + 10)))] (a := b68) (hw _ (List.mem_of_getElem? (i := 19) rfl)) (hw _ (List.mem_of_getElem? (i := 20) rfl)) (hw _ (List.mem_of_getElem? (i := 18) rfl)) rfl (hw _ (List.mem_of_getElem? (i := 21) rfl)) rfl (by decide) (rm5 l Z a0 hw [] b68 b1 (Int32.ofNat ps) (Int32.ofNat (ps + 10))  h68 n0 Zs ⟨E_b68, F_b68_bytes, F_b68_position, F_b68_end⟩ g_b68) (by decide) (by decide) e68 (by rw [hml]; rfl) (rest := [(.ref b68)]) (Nat.le_of_eq rfl) (by decide) (by decide) (lenOf pd_3 rfl) rfl at_450 (pc' := 453) rfl ?_
        intro T69 v69 L69 X69 hQ69
        obtain ⟨rfl, Nq69, Kq69, Oq69⟩ := hQ69
        have N69 := Fr.app N67 Nq69
        have E_b68 := E_b68.keep Kq69
        have V_b1 := V_b1.keep Kq69 (ninS ne_b1_b68 nin0)
        have Zs := Nat.le_trans Zs Kq69.1
        show GolF _ _ _ _ _ _ _ T69 m 453 #[.val (.long q0), .second, .val (.int p1), .val (.int p2), .val (.ref b1), .val (.int (Int32.ofNat ps)), .val (.int kk), .val (.int (Int32.ofNat (ps + 10))), .val (.int (own_fc bs24 ps)), .val (.long ((((((((((own_tm (bs24.getD (ps + 0) 0) (0 : Int32) (own_fc bs24 ps)) ||| (own_tm (bs24.getD (ps + 1) 0) (1 : Int32) (own_fc bs24 ps))) ||| (own_tm (bs24.getD (ps + 2) 0) (2 : Int32) (own_fc bs24 ps))) ||| (own_tm (bs24.getD (ps + 3) 0) (3 : Int32) (own_fc bs24 ps))) ||| (own_tm (bs24.getD (ps + 4) 0) (4 : Int32) (own_fc bs24 ps))) ||| (own_tm (bs24.getD (ps + 5) 0) (5 : Int32) (own_fc bs24 ps))) ||| (own_tm (bs24.getD (ps + 6) 0) (6 : Int32) (own_fc bs24 ps))) ||| (own_tm (bs24.getD (ps + 7) 0) (7 : Int32) (own_fc bs24 ps))) ||| (own_tm (bs24.getD (ps + 8) 0) (8 : Int32) (own_fc bs24 ps))) ||| (own_tm (bs24.getD (ps + 9) 0) (9 : Int32) (own_fc bs24 ps)))), .second, .val (.int (f4 (own_fc bs24 ps) (10 : Int32) )), .unset, .unset, .unset] [(.ref b68)]
        obtain ⟨E_b68, F_b68_bytes, F_b68_position, F_b68_end⟩ := Oq69
        refine Gol.astore X69 hx hby at_453 (pc' := 455) rfl rfl (l' := #[.val (.long q0), .second, .val (.int p1), .val (.int p2), .val (.ref b1), .val (.int (Int32.ofNat ps)), .val (.int kk), .val (.int (Int32.ofNat (ps + 10))), .val (.int (own_fc bs24 ps)), .val (.long ((((((((((own_tm (bs24.getD (ps + 0) 0) (0 : Int32) (own_fc bs24 ps)) ||| (own_tm (bs24.getD (ps + 1) 0) (1 : Int32) (own_fc bs24 ps))) ||| (own_tm (bs24.getD (ps + 2) 0) (2 : Int32) (own_fc bs24 ps))) ||| (own_tm (bs24.getD (ps + 3) 0) (3 : Int32) (own_fc bs24 ps))) ||| (own_tm (bs24.getD (ps + 4) 0) (4 : Int32) (own_fc bs24 ps))) ||| (own_tm (bs24.getD (ps + 5) 0) (5 : Int32) (own_fc bs24 ps))) ||| (own_tm (bs24.getD (ps + 6) 0) (6 : Int32) (own_fc bs24 ps))) ||| (own_tm (bs24.getD (ps + 7) 0) (7 : Int32) (own_fc bs24 ps))) ||| (own_tm (bs24.getD (ps + 8) 0) (8 : Int32) (own_fc bs24 ps))) ||| (own_tm (bs24.getD (ps + 9) 0) (9 : Int32) (own_fc bs24 ps)))), .second, .val (.int (f4 (own_fc bs24 ps) (10 : Int32) )), .val (.ref b68), .unset, .unset]) rfl ?_
        refine Gol.aload X69 hx hby at_455 (pc' := 457) rfl rfl rfl ?_
        refine Gol.callV X69 hx hby hZ hown 0 [] (a := b68) (hw _ (List.mem_of_getElem? (i := 31) rfl)) (hw _ (List.mem_of_getElem? (i := 32) rfl)) (notFace_of_selects (args := #[]) (mvT hZ (hw _ (List.mem_of_getElem? (i := 34) rfl)))) (hw _ (List.mem_of_getElem? (i := 34) rfl)) (hw _ (List.mem_of_getElem? (i := 33) rfl)) (hw _ (List.mem_of_getElem? (i := 18) rfl)) (hw _ (List.mem_of_getElem? (i := 35) rfl)) (by decide) E_b68 (rm7 l Z a0 hw [] b68 b1 k1 bs24 ps (ps + 10) T69.heap n0 Zs hps (by omega) (by omega) g_b68 ne_b1_b68.symm ⟨E_b68, F_b68_bytes, F_b68_position, F_b68_end⟩ V_b1) (by decide) (by decide) rfl (by rw [hml]; rfl) (rest := []) (Nat.le_of_eq rfl) (by decide) (by decide) (lenOf pd_4 rfl) rfl at_457 (pc' := 460) rfl ?_
        intro T70 v70 L70 X70 hQ70
        obtain ⟨rfl, Nq70, Kq70, Oq70⟩ := hQ70
        have N70 := Fr.app N69 Nq70
        have E_b68 := E_b68.keep Kq70
        have V_b1 := V_b1.keep Kq70 (ninS ne_b1_b68 nin0)
        have Zs := Nat.le_trans Zs Kq70.1
        show GolF _ _ _ _ _ _ _ T70 m 460 #[.val (.long q0), .second, .val (.int p1), .val (.int p2), .val (.ref b1), .val (.int (Int32.ofNat ps)), .val (.int kk), .val (.int (Int32.ofNat (ps + 10))), .val (.int (own_fc bs24 ps)), .val (.long ((((((((((own_tm (bs24.getD (ps + 0) 0) (0 : Int32) (own_fc bs24 ps)) ||| (own_tm (bs24.getD (ps + 1) 0) (1 : Int32) (own_fc bs24 ps))) ||| (own_tm (bs24.getD (ps + 2) 0) (2 : Int32) (own_fc bs24 ps))) ||| (own_tm (bs24.getD (ps + 3) 0) (3 : Int32) (own_fc bs24 ps))) ||| (own_tm (bs24.getD (ps + 4) 0) (4 : Int32) (own_fc bs24 ps))) ||| (own_tm (bs24.getD (ps + 5) 0) (5 : Int32) (own_fc bs24 ps))) ||| (own_tm (bs24.getD (ps + 6) 0) (6 : Int32) (own_fc bs24 ps))) ||| (own_tm (bs24.getD (ps + 7) 0) (7 : Int32) (own_fc bs24 ps))) ||| (own_tm (bs24.getD (ps + 8) 0) (8 : Int32) (own_fc bs24 ps))) ||| (own_tm (bs24.getD (ps + 9) 0) (9 : Int32) (own_fc bs24 ps)))), .second, .val (.int (f4 (own_fc bs24 ps) (10 : Int32) )), .val (.ref b68), .unset, .unset] [(.long (own_rn bs24 ps))]
        obtain ⟨E_b68, F_b68_bytes, F_b68_position, F_b68_end⟩ := Oq70
        refine Gol.lstore X70 hx hby at_460 (pc' := 462) rfl (l' := #[.val (.long q0), .second, .val (.int p1), .val (.int p2), .val (.ref b1), .val (.int (Int32.ofNat ps)), .val (.int kk), .val (.int (Int32.ofNat (ps + 10))), .val (.int (own_fc bs24 ps)), .val (.long ((((((((((own_tm (bs24.getD (ps + 0) 0) (0 : Int32) (own_fc bs24 ps)) ||| (own_tm (bs24.getD (ps + 1) 0) (1 : Int32) (own_fc bs24 ps))) ||| (own_tm (bs24.getD (ps + 2) 0) (2 : Int32) (own_fc bs24 ps))) ||| (own_tm (bs24.getD (ps + 3) 0) (3 : Int32) (own_fc bs24 ps))) ||| (own_tm (bs24.getD (ps + 4) 0) (4 : Int32) (own_fc bs24 ps))) ||| (own_tm (bs24.getD (ps + 5) 0) (5 : Int32) (own_fc bs24 ps))) ||| (own_tm (bs24.getD (ps + 6) 0) (6 : Int32) (own_fc bs24 ps))) ||| (own_tm (bs24.getD (ps + 7) 0) (7 : Int32) (own_fc bs24 ps))) ||| (own_tm (bs24.getD (ps + 8) 0) (8 : Int32) (own_fc bs24 ps))) ||| (own_tm (bs24.getD (ps + 9) 0) (9 : Int32) (own_fc bs24 ps)))), .second, .val (.int (f4 (own_fc bs24 ps) (10 : Int32) )), .val (.ref b68), .val (.long (own_rn bs24 ps)), .second]) rfl ?_
        refine Gol.lload X70 hx hby at_462 (pc' := 464) rfl rfl ?_
        refine Gol.lload X70 hx hby at_464 (pc' := 466) rfl rfl ?_
        refine Gol.lcmp X70 hx hby at_466 (pc' := 467) rfl ?_
        refine Gol.ifNo X70 hx hby at_467 (pc' := 470) rfl (teqL (own_pok (own_byte V_b1 (by omega)) hc279_26 (fun q => absurd q hc294_33))).2 ?_
        refine Gol.aload X70 hx hby at_470 (pc' := 472) rfl rfl rfl ?_
        refine Gol.callV X70 hx hby hZ hown 0 [] (a := b68) (hw _ (List.mem_of_getElem? (i := 36) rfl)) (hw _ (List.mem_of_getElem? (i := 37) rfl)) (notFace_of_selects (args := #[]) (mvT hZ (hw _ (List.mem_of_getElem? (i := 39) rfl)))) (hw _ (List.mem_of_getElem? (i := 39) rfl)) (hw _ (List.mem_of_getElem? (i := 38) rfl)) (hw _ (List.mem_of_getElem? (i := 18) rfl)) (hw _ (List.mem_of_getElem? (i := 40) rfl)) (by decide) E_b68 (rm8 l Z a0 hw [] b68 (.ref b1) (Int32.ofNat (ps + own_cn bs24 ps)) (Int32.ofNat (ps + 10)) T70.heap n0 Zs ⟨E_b68, F_b68_bytes, F_b68_position, F_b68_end⟩) (by decide) (by decide) rfl (by rw [hml]; rfl) (rest := []) (Nat.le_of_eq rfl) (by decide) (by decide) (lenOf pd_5 rfl) rfl at_472 (pc' := 475) rfl ?_
        intro T71 v71 L71 X71 hQ71
        obtain ⟨rfl, Nq71, eq71⟩ := hQ71
        have N71 := Fr.app N70 Nq71
        show GolF _ _ _ _ _ _ _ T71 m 475 #[.val (.long q0), .second, .val (.int p1), .val (.int p2), .val (.ref b1), .val (.int (Int32.ofNat ps)), .val (.int kk), .val (.int (Int32.ofNat (ps + 10))), .val (.int (own_fc bs24 ps)), .val (.long ((((((((((own_tm (bs24.getD (ps + 0) 0) (0 : Int32) (own_fc bs24 ps)) ||| (own_tm (bs24.getD (ps + 1) 0) (1 : Int32) (own_fc bs24 ps))) ||| (own_tm (bs24.getD (ps + 2) 0) (2 : Int32) (own_fc bs24 ps))) ||| (own_tm (bs24.getD (ps + 3) 0) (3 : Int32) (own_fc bs24 ps))) ||| (own_tm (bs24.getD (ps + 4) 0) (4 : Int32) (own_fc bs24 ps))) ||| (own_tm (bs24.getD (ps + 5) 0) (5 : Int32) (own_fc bs24 ps))) ||| (own_tm (bs24.getD (ps + 6) 0) (6 : Int32) (own_fc bs24 ps))) ||| (own_tm (bs24.getD (ps + 7) 0) (7 : Int32) (own_fc bs24 ps))) ||| (own_tm (bs24.getD (ps + 8) 0) (8 : Int32) (own_fc bs24 ps))) ||| (own_tm (bs24.getD (ps + 9) 0) (9 : Int32) (own_fc bs24 ps)))), .second, .val (.int (f4 (own_fc bs24 ps) (10 : Int32) )), .val (.ref b68), .val (.long (own_rn bs24 ps)), .second] [(.int (Int32.ofNat (ps + own_cn bs24 ps)))]
        refine Gol.iload X71 hx hby at_475 (pc' := 477) rfl rfl ?_
        refine Gol.iload X71 hx hby at_477 (pc' := 479) rfl rfl ?_
        refine Gol.iadd X71 hx hby at_479 (pc' := 480) rfl rfl ?_
        refine Gol.icmpNo X71 hx hby at_480 (pc' := 483) rfl (teq (own_pos (own_byte V_b1 (by omega)))).2 ?_
        refine Gol.aload X71 hx hby at_483 (pc' := 485) rfl rfl rfl ?_
        refine Gol.callV X71 hx hby hZ hown 0 [] (a := b68) (hw _ (List.mem_of_getElem? (i := 41) rfl)) (hw _ (List.mem_of_getElem? (i := 42) rfl)) (notFace_of_selects (args := #[]) (mvT hZ (hw _ (List.mem_of_getElem? (i := 44) rfl)))) (hw _ (List.mem_of_getElem? (i := 44) rfl)) (hw _ (List.mem_of_getElem? (i := 43) rfl)) (hw _ (List.mem_of_getElem? (i := 18) rfl)) (hw _ (List.mem_of_getElem? (i := 45) rfl)) (by decide) E_b68 (rm9 l Z a0 hw [] b68 (.ref b1) (Int32.ofNat (ps + own_cn bs24 ps)) (Int32.ofNat (ps + 10)) T70.heap n0 Zs ⟨E_b68, F_b68_bytes, F_b68_position, F_b68_end⟩) (by decide) (by decide) eq71 (by rw [hml]; rfl) (rest := []) (Nat.le_of_eq rfl) (by decide) (by decide) (lenOf pd_5 rfl) rfl at_485 (pc' := 488) rfl ?_
        intro T72 v72 L72 X72 hQ72
        obtain ⟨rfl, Nq72, eq72⟩ := hQ72
        have N72 := Fr.app N71 Nq72
        show GolF _ _ _ _ _ _ _ T72 m 488 #[.val (.long q0), .second, .val (.int p1), .val (.int p2), .val (.ref b1), .val (.int (Int32.ofNat ps)), .val (.int kk), .val (.int (Int32.ofNat (ps + 10))), .val (.int (own_fc bs24 ps)), .val (.long ((((((((((own_tm (bs24.getD (ps + 0) 0) (0 : Int32) (own_fc bs24 ps)) ||| (own_tm (bs24.getD (ps + 1) 0) (1 : Int32) (own_fc bs24 ps))) ||| (own_tm (bs24.getD (ps + 2) 0) (2 : Int32) (own_fc bs24 ps))) ||| (own_tm (bs24.getD (ps + 3) 0) (3 : Int32) (own_fc bs24 ps))) ||| (own_tm (bs24.getD (ps + 4) 0) (4 : Int32) (own_fc bs24 ps))) ||| (own_tm (bs24.getD (ps + 5) 0) (5 : Int32) (own_fc bs24 ps))) ||| (own_tm (bs24.getD (ps + 6) 0) (6 : Int32) (own_fc bs24 ps))) ||| (own_tm (bs24.getD (ps + 7) 0) (7 : Int32) (own_fc bs24 ps))) ||| (own_tm (bs24.getD (ps + 8) 0) (8 : Int32) (own_fc bs24 ps))) ||| (own_tm (bs24.getD (ps + 9) 0) (9 : Int32) (own_fc bs24 ps)))), .second, .val (.int (f4 (own_fc bs24 ps) (10 : Int32) )), .val (.ref b68), .val (.long (own_rn bs24 ps)), .second] [(.int ((Int32.ofNat (ps + 10)) - (Int32.ofNat (ps + own_cn bs24 ps))))]
        refine Gol.iload X72 hx hby at_488 (pc' := 490) rfl rfl ?_
        refine Gol.iload X72 hx hby at_490 (pc' := 492) rfl rfl ?_
        refine Gol.isub X72 hx hby at_492 (pc' := 493) rfl rfl ?_
        refine Gol.iload X72 hx hby at_493 (pc' := 495) rfl rfl ?_
        refine Gol.isub X72 hx hby at_495 (pc' := 496) rfl rfl ?_
        refine Gol.icmpNo X72 hx hby at_496 (pc' := 499) rfl (teq (own_left _ (own_byte V_b1 (by omega)))).2 ?_
        refine Gol.iconst X72 hx hby at_499 (pc' := 500) rfl (z := (1 : Int32)) rfl ?_
        refine Gol.goto X72 hx hby at_500 (pc' := 504) (by decide) ?_
        exact Gol.retN X72 hx hby (t := .boolean) Bd.returns (by simp) Bd.notSynchronized at_504 eq72 ⟨rfl, N72⟩ (by decide) (by decide)
  · skip
    refine Gol.ifNo X13 hx hby at_147 (pc' := 150) rfl ((if0 _ _).trans (feq hc147_14).1) ?_
    refine Gol.bipush X13 hx hby at_150 (pc' := 152) rfl (z := (12 : Int32)) rfl ?_
    refine Gol.goto X13 hx hby at_152 (pc' := 160) (by decide) ?_
    show GolF _ _ _ _ _ _ _ T13 m 160 #[.val (.long q0), .second, .val (.int p1), .val (.int p2), .val (.ref b1), .val (.int (Int32.ofNat ps)), .val (.int kk), .unset, .unset, .unset, .unset, .unset, .unset, .unset, .unset] [(.int (Int32.ofNat 12))]
    refine Gol.istore X13 hx hby at_160 (pc' := 162) rfl (l' := #[.val (.long q0), .second, .val (.int p1), .val (.int p2), .val (.ref b1), .val (.int (Int32.ofNat ps)), .val (.int kk), .val (.int (Int32.ofNat 12)), .unset, .unset, .unset, .unset, .unset, .unset, .unset]) rfl ?_
    refine Gol.aload X13 hx hby at_162 (pc' := 164) rfl rfl rfl ?_
    refine Gol.iload X13 hx hby at_164 (pc' := 166) rfl rfl ?_
    refine Gol.iconst X13 hx hby at_166 (pc' := 167) rfl (z := (0 : Int32)) rfl ?_
    refine Gol.iload X13 hx hby at_167 (pc' := 169) rfl rfl ?_
    refine Gol.callS X13 hx hby hZ hown 0 [(.ref b1), (.int (Int32.ofNat ps)), (.int (0 : Int32)), (.int kk)] (hw _ (List.mem_of_getElem? (i := 2) rfl)) (hw _ (List.mem_of_getElem? (i := 3) rfl)) (hw _ (List.mem_of_getElem? (i := 4) rfl)) (hw _ (List.mem_of_getElem? (i := 5) rfl)) (by decide) (rm1 l Z a0 hw [] b1 (Int32.ofNat ps) (0 : Int32) kk k1 bs0 (ps + 0) h13 n0 Zs (own_addk ps 0) (by omega) hl0 g_b1 V_b1) (by decide) (by decide) e13 (by rw [hml]; rfl) (rest := []) (Nat.le_of_eq rfl) (by decide) (by decide) (lenOf pd_0 rfl) rfl at_169 (pc' := 172) rfl ?_
    intro T73 v73 L73 X73 hQ73
    obtain ⟨rfl, Nq73, Kq73, bs73, hl73, V_b1⟩ := hQ73
    have N73 := Fr.app N13 Nq73
    have Zs := Nat.le_trans Zs Kq73.1
    show GolF _ _ _ _ _ _ _ T73 m 172 #[.val (.long q0), .second, .val (.int p1), .val (.int p2), .val (.ref b1), .val (.int (Int32.ofNat ps)), .val (.int kk), .val (.int (Int32.ofNat 12)), .unset, .unset, .unset, .unset, .unset, .unset, .unset] []
    refine Gol.aload X73 hx hby at_172 (pc' := 174) rfl rfl rfl ?_
    refine Gol.iload X73 hx hby at_174 (pc' := 176) rfl rfl ?_
    refine Gol.iconst X73 hx hby at_176 (pc' := 177) rfl (z := (1 : Int32)) rfl ?_
    refine Gol.iload X73 hx hby at_177 (pc' := 179) rfl rfl ?_
    refine Gol.callS X73 hx hby hZ hown 0 [(.ref b1), (.int (Int32.ofNat ps)), (.int (1 : Int32)), (.int kk)] (hw _ (List.mem_of_getElem? (i := 2) rfl)) (hw _ (List.mem_of_getElem? (i := 3) rfl)) (hw _ (List.mem_of_getElem? (i := 4) rfl)) (hw _ (List.mem_of_getElem? (i := 5) rfl)) (by decide) (rm1 l Z a0 hw [] b1 (Int32.ofNat ps) (1 : Int32) kk k1 bs73 (ps + 1) T73.heap n0 Zs (own_addk ps 1) (by omega) hl73 g_b1 V_b1) (by decide) (by decide) rfl (by rw [hml]; rfl) (rest := []) (Nat.le_of_eq rfl) (by decide) (by decide) (lenOf pd_0 rfl) rfl at_179 (pc' := 182) rfl ?_
    intro T74 v74 L74 X74 hQ74
    obtain ⟨rfl, Nq74, Kq74, bs74, hl74, V_b1⟩ := hQ74
    have N74 := Fr.app N73 Nq74
    have Zs := Nat.le_trans Zs Kq74.1
    show GolF _ _ _ _ _ _ _ T74 m 182 #[.val (.long q0), .second, .val (.int p1), .val (.int p2), .val (.ref b1), .val (.int (Int32.ofNat ps)), .val (.int kk), .val (.int (Int32.ofNat 12)), .unset, .unset, .unset, .unset, .unset, .unset, .unset] []
    refine Gol.aload X74 hx hby at_182 (pc' := 184) rfl rfl rfl ?_
    refine Gol.iload X74 hx hby at_184 (pc' := 186) rfl rfl ?_
    refine Gol.iconst X74 hx hby at_186 (pc' := 187) rfl (z := (2 : Int32)) rfl ?_
    refine Gol.iload X74 hx hby at_187 (pc' := 189) rfl rfl ?_
    refine Gol.callS X74 hx hby hZ hown 0 [(.ref b1), (.int (Int32.ofNat ps)), (.int (2 : Int32)), (.int kk)] (hw _ (List.mem_of_getElem? (i := 2) rfl)) (hw _ (List.mem_of_getElem? (i := 3) rfl)) (hw _ (List.mem_of_getElem? (i := 4) rfl)) (hw _ (List.mem_of_getElem? (i := 5) rfl)) (by decide) (rm1 l Z a0 hw [] b1 (Int32.ofNat ps) (2 : Int32) kk k1 bs74 (ps + 2) T74.heap n0 Zs (own_addk ps 2) (by omega) hl74 g_b1 V_b1) (by decide) (by decide) rfl (by rw [hml]; rfl) (rest := []) (Nat.le_of_eq rfl) (by decide) (by decide) (lenOf pd_0 rfl) rfl at_189 (pc' := 192) rfl ?_
    intro T75 v75 L75 X75 hQ75
    obtain ⟨rfl, Nq75, Kq75, bs75, hl75, V_b1⟩ := hQ75
    have N75 := Fr.app N74 Nq75
    have Zs := Nat.le_trans Zs Kq75.1
    show GolF _ _ _ _ _ _ _ T75 m 192 #[.val (.long q0), .second, .val (.int p1), .val (.int p2), .val (.ref b1), .val (.int (Int32.ofNat ps)), .val (.int kk), .val (.int (Int32.ofNat 12)), .unset, .unset, .unset, .unset, .unset, .unset, .unset] []
    refine Gol.aload X75 hx hby at_192 (pc' := 194) rfl rfl rfl ?_
    refine Gol.iload X75 hx hby at_194 (pc' := 196) rfl rfl ?_
    refine Gol.iconst X75 hx hby at_196 (pc' := 197) rfl (z := (3 : Int32)) rfl ?_
    refine Gol.iload X75 hx hby at_197 (pc' := 199) rfl rfl ?_
    refine Gol.callS X75 hx hby hZ hown 0 [(.ref b1), (.int (Int32.ofNat ps)), (.int (3 : Int32)), (.int kk)] (hw _ (List.mem_of_getElem? (i := 2) rfl)) (hw _ (List.mem_of_getElem? (i := 3) rfl)) (hw _ (List.mem_of_getElem? (i := 4) rfl)) (hw _ (List.mem_of_getElem? (i := 5) rfl)) (by decide) (rm1 l Z a0 hw [] b1 (Int32.ofNat ps) (3 : Int32) kk k1 bs75 (ps + 3) T75.heap n0 Zs (own_addk ps 3) (by omega) hl75 g_b1 V_b1) (by decide) (by decide) rfl (by rw [hml]; rfl) (rest := []) (Nat.le_of_eq rfl) (by decide) (by decide) (lenOf pd_0 rfl) rfl at_199 (pc' := 202) rfl ?_
    intro T76 v76 L76 X76 hQ76
    obtain ⟨rfl, Nq76, Kq76, bs76, hl76, V_b1⟩ := hQ76
    have N76 := Fr.app N75 Nq76
    have Zs := Nat.le_trans Zs Kq76.1
    show GolF _ _ _ _ _ _ _ T76 m 202 #[.val (.long q0), .second, .val (.int p1), .val (.int p2), .val (.ref b1), .val (.int (Int32.ofNat ps)), .val (.int kk), .val (.int (Int32.ofNat 12)), .unset, .unset, .unset, .unset, .unset, .unset, .unset] []
    refine Gol.aload X76 hx hby at_202 (pc' := 204) rfl rfl rfl ?_
    refine Gol.iload X76 hx hby at_204 (pc' := 206) rfl rfl ?_
    refine Gol.iconst X76 hx hby at_206 (pc' := 207) rfl (z := (4 : Int32)) rfl ?_
    refine Gol.iload X76 hx hby at_207 (pc' := 209) rfl rfl ?_
    refine Gol.callS X76 hx hby hZ hown 0 [(.ref b1), (.int (Int32.ofNat ps)), (.int (4 : Int32)), (.int kk)] (hw _ (List.mem_of_getElem? (i := 2) rfl)) (hw _ (List.mem_of_getElem? (i := 3) rfl)) (hw _ (List.mem_of_getElem? (i := 4) rfl)) (hw _ (List.mem_of_getElem? (i := 5) rfl)) (by decide) (rm1 l Z a0 hw [] b1 (Int32.ofNat ps) (4 : Int32) kk k1 bs76 (ps + 4) T76.heap n0 Zs (own_addk ps 4) (by omega) hl76 g_b1 V_b1) (by decide) (by decide) rfl (by rw [hml]; rfl) (rest := []) (Nat.le_of_eq rfl) (by decide) (by decide) (lenOf pd_0 rfl) rfl at_209 (pc' := 212) rfl ?_
    intro T77 v77 L77 X77 hQ77
    obtain ⟨rfl, Nq77, Kq77, bs77, hl77, V_b1⟩ := hQ77
    have N77 := Fr.app N76 Nq77
    have Zs := Nat.le_trans Zs Kq77.1
    show GolF _ _ _ _ _ _ _ T77 m 212 #[.val (.long q0), .second, .val (.int p1), .val (.int p2), .val (.ref b1), .val (.int (Int32.ofNat ps)), .val (.int kk), .val (.int (Int32.ofNat 12)), .unset, .unset, .unset, .unset, .unset, .unset, .unset] []
    refine Gol.aload X77 hx hby at_212 (pc' := 214) rfl rfl rfl ?_
    refine Gol.iload X77 hx hby at_214 (pc' := 216) rfl rfl ?_
    refine Gol.iconst X77 hx hby at_216 (pc' := 217) rfl (z := (5 : Int32)) rfl ?_
    refine Gol.iload X77 hx hby at_217 (pc' := 219) rfl rfl ?_
    refine Gol.callS X77 hx hby hZ hown 0 [(.ref b1), (.int (Int32.ofNat ps)), (.int (5 : Int32)), (.int kk)] (hw _ (List.mem_of_getElem? (i := 2) rfl)) (hw _ (List.mem_of_getElem? (i := 3) rfl)) (hw _ (List.mem_of_getElem? (i := 4) rfl)) (hw _ (List.mem_of_getElem? (i := 5) rfl)) (by decide) (rm1 l Z a0 hw [] b1 (Int32.ofNat ps) (5 : Int32) kk k1 bs77 (ps + 5) T77.heap n0 Zs (own_addk ps 5) (by omega) hl77 g_b1 V_b1) (by decide) (by decide) rfl (by rw [hml]; rfl) (rest := []) (Nat.le_of_eq rfl) (by decide) (by decide) (lenOf pd_0 rfl) rfl at_219 (pc' := 222) rfl ?_
    intro T78 v78 L78 X78 hQ78
    obtain ⟨rfl, Nq78, Kq78, bs78, hl78, V_b1⟩ := hQ78
    have N78 := Fr.app N77 Nq78
    have Zs := Nat.le_trans Zs Kq78.1
    show GolF _ _ _ _ _ _ _ T78 m 222 #[.val (.long q0), .second, .val (.int p1), .val (.int p2), .val (.ref b1), .val (.int (Int32.ofNat ps)), .val (.int kk), .val (.int (Int32.ofNat 12)), .unset, .unset, .unset, .unset, .unset, .unset, .unset] []
    refine Gol.aload X78 hx hby at_222 (pc' := 224) rfl rfl rfl ?_
    refine Gol.iload X78 hx hby at_224 (pc' := 226) rfl rfl ?_
    refine Gol.bipush X78 hx hby at_226 (pc' := 228) rfl (z := (6 : Int32)) rfl ?_
    refine Gol.iload X78 hx hby at_228 (pc' := 230) rfl rfl ?_
    refine Gol.callS X78 hx hby hZ hown 0 [(.ref b1), (.int (Int32.ofNat ps)), (.int (6 : Int32)), (.int kk)] (hw _ (List.mem_of_getElem? (i := 2) rfl)) (hw _ (List.mem_of_getElem? (i := 3) rfl)) (hw _ (List.mem_of_getElem? (i := 4) rfl)) (hw _ (List.mem_of_getElem? (i := 5) rfl)) (by decide) (rm1 l Z a0 hw [] b1 (Int32.ofNat ps) (6 : Int32) kk k1 bs78 (ps + 6) T78.heap n0 Zs (own_addk ps 6) (by omega) hl78 g_b1 V_b1) (by decide) (by decide) rfl (by rw [hml]; rfl) (rest := []) (Nat.le_of_eq rfl) (by decide) (by decide) (lenOf pd_0 rfl) rfl at_230 (pc' := 233) rfl ?_
    intro T79 v79 L79 X79 hQ79
    obtain ⟨rfl, Nq79, Kq79, bs79, hl79, V_b1⟩ := hQ79
    have N79 := Fr.app N78 Nq79
    have Zs := Nat.le_trans Zs Kq79.1
    show GolF _ _ _ _ _ _ _ T79 m 233 #[.val (.long q0), .second, .val (.int p1), .val (.int p2), .val (.ref b1), .val (.int (Int32.ofNat ps)), .val (.int kk), .val (.int (Int32.ofNat 12)), .unset, .unset, .unset, .unset, .unset, .unset, .unset] []
    refine Gol.aload X79 hx hby at_233 (pc' := 235) rfl rfl rfl ?_
    refine Gol.iload X79 hx hby at_235 (pc' := 237) rfl rfl ?_
    refine Gol.bipush X79 hx hby at_237 (pc' := 239) rfl (z := (7 : Int32)) rfl ?_
    refine Gol.iload X79 hx hby at_239 (pc' := 241) rfl rfl ?_
    refine Gol.callS X79 hx hby hZ hown 0 [(.ref b1), (.int (Int32.ofNat ps)), (.int (7 : Int32)), (.int kk)] (hw _ (List.mem_of_getElem? (i := 2) rfl)) (hw _ (List.mem_of_getElem? (i := 3) rfl)) (hw _ (List.mem_of_getElem? (i := 4) rfl)) (hw _ (List.mem_of_getElem? (i := 5) rfl)) (by decide) (rm1 l Z a0 hw [] b1 (Int32.ofNat ps) (7 : Int32) kk k1 bs79 (ps + 7) T79.heap n0 Zs (own_addk ps 7) (by omega) hl79 g_b1 V_b1) (by decide) (by decide) rfl (by rw [hml]; rfl) (rest := []) (Nat.le_of_eq rfl) (by decide) (by decide) (lenOf pd_0 rfl) rfl at_241 (pc' := 244) rfl ?_
    intro T80 v80 L80 X80 hQ80
    obtain ⟨rfl, Nq80, Kq80, bs80, hl80, V_b1⟩ := hQ80
    have N80 := Fr.app N79 Nq80
    have Zs := Nat.le_trans Zs Kq80.1
    show GolF _ _ _ _ _ _ _ T80 m 244 #[.val (.long q0), .second, .val (.int p1), .val (.int p2), .val (.ref b1), .val (.int (Int32.ofNat ps)), .val (.int kk), .val (.int (Int32.ofNat 12)), .unset, .unset, .unset, .unset, .unset, .unset, .unset] []
    refine Gol.aload X80 hx hby at_244 (pc' := 246) rfl rfl rfl ?_
    refine Gol.iload X80 hx hby at_246 (pc' := 248) rfl rfl ?_
    refine Gol.bipush X80 hx hby at_248 (pc' := 250) rfl (z := (8 : Int32)) rfl ?_
    refine Gol.iload X80 hx hby at_250 (pc' := 252) rfl rfl ?_
    refine Gol.callS X80 hx hby hZ hown 0 [(.ref b1), (.int (Int32.ofNat ps)), (.int (8 : Int32)), (.int kk)] (hw _ (List.mem_of_getElem? (i := 2) rfl)) (hw _ (List.mem_of_getElem? (i := 3) rfl)) (hw _ (List.mem_of_getElem? (i := 4) rfl)) (hw _ (List.mem_of_getElem? (i := 5) rfl)) (by decide) (rm1 l Z a0 hw [] b1 (Int32.ofNat ps) (8 : Int32) kk k1 bs80 (ps + 8) T80.heap n0 Zs (own_addk ps 8) (by omega) hl80 g_b1 V_b1) (by decide) (by decide) rfl (by rw [hml]; rfl) (rest := []) (Nat.le_of_eq rfl) (by decide) (by decide) (lenOf pd_0 rfl) rfl at_252 (pc' := 255) rfl ?_
    intro T81 v81 L81 X81 hQ81
    obtain ⟨rfl, Nq81, Kq81, bs81, hl81, V_b1⟩ := hQ81
    have N81 := Fr.app N80 Nq81
    have Zs := Nat.le_trans Zs Kq81.1
    show GolF _ _ _ _ _ _ _ T81 m 255 #[.val (.long q0), .second, .val (.int p1), .val (.int p2), .val (.ref b1), .val (.int (Int32.ofNat ps)), .val (.int kk), .val (.int (Int32.ofNat 12)), .unset, .unset, .unset, .unset, .unset, .unset, .unset] []
    refine Gol.aload X81 hx hby at_255 (pc' := 257) rfl rfl rfl ?_
    refine Gol.iload X81 hx hby at_257 (pc' := 259) rfl rfl ?_
    refine Gol.bipush X81 hx hby at_259 (pc' := 261) rfl (z := (9 : Int32)) rfl ?_
    refine Gol.iload X81 hx hby at_261 (pc' := 263) rfl rfl ?_
    refine Gol.callS X81 hx hby hZ hown 0 [(.ref b1), (.int (Int32.ofNat ps)), (.int (9 : Int32)), (.int kk)] (hw _ (List.mem_of_getElem? (i := 2) rfl)) (hw _ (List.mem_of_getElem? (i := 3) rfl)) (hw _ (List.mem_of_getElem? (i := 4) rfl)) (hw _ (List.mem_of_getElem? (i := 5) rfl)) (by decide) (rm1 l Z a0 hw [] b1 (Int32.ofNat ps) (9 : Int32) kk k1 bs81 (ps + 9) T81.heap n0 Zs (own_addk ps 9) (by omega) hl81 g_b1 V_b1) (by decide) (by decide) rfl (by rw [hml]; rfl) (rest := []) (Nat.le_of_eq rfl) (by decide) (by decide) (lenOf pd_0 rfl) rfl at_263 (pc' := 266) rfl ?_
    intro T82 v82 L82 X82 hQ82
    obtain ⟨rfl, Nq82, Kq82, bs82, hl82, V_b1⟩ := hQ82
    have N82 := Fr.app N81 Nq82
    have Zs := Nat.le_trans Zs Kq82.1
    show GolF _ _ _ _ _ _ _ T82 m 266 #[.val (.long q0), .second, .val (.int p1), .val (.int p2), .val (.ref b1), .val (.int (Int32.ofNat ps)), .val (.int kk), .val (.int (Int32.ofNat 12)), .unset, .unset, .unset, .unset, .unset, .unset, .unset] []
    refine Gol.aload X82 hx hby at_266 (pc' := 268) rfl rfl rfl ?_
    refine Gol.iload X82 hx hby at_268 (pc' := 270) rfl rfl ?_
    refine Gol.callS X82 hx hby hZ hown 0 [(.ref b1), (.int (Int32.ofNat ps))] (hw _ (List.mem_of_getElem? (i := 6) rfl)) (hw _ (List.mem_of_getElem? (i := 7) rfl)) (hw _ (List.mem_of_getElem? (i := 4) rfl)) (hw _ (List.mem_of_getElem? (i := 8) rfl)) (by decide) (rm2 l Z a0 hw [] b1 (Int32.ofNat ps) k1 bs82 ps T82.heap n0 Zs rfl hps V_b1) (by decide) (by decide) rfl (by rw [hml]; rfl) (rest := []) (Nat.le_of_eq rfl) (by decide) (by decide) (lenOf pd_1 rfl) rfl at_270 (pc' := 273) rfl ?_
    intro T83 v83 L83 X83 hQ83
    obtain ⟨rfl, Nq83, eq83⟩ := hQ83
    have N83 := Fr.app N82 Nq83
    show GolF _ _ _ _ _ _ _ T83 m 273 #[.val (.long q0), .second, .val (.int p1), .val (.int p2), .val (.ref b1), .val (.int (Int32.ofNat ps)), .val (.int kk), .val (.int (Int32.ofNat 12)), .unset, .unset, .unset, .unset, .unset, .unset, .unset] [(.int (own_fc bs82 ps))]
    refine Gol.istore X83 hx hby at_273 (pc' := 275) rfl (l' := #[.val (.long q0), .second, .val (.int p1), .val (.int p2), .val (.ref b1), .val (.int (Int32.ofNat ps)), .val (.int kk), .val (.int (Int32.ofNat 12)), .val (.int (own_fc bs82 ps)), .unset, .unset, .unset, .unset, .unset, .unset]) rfl ?_
    refine Gol.iload X83 hx hby at_275 (pc' := 277) rfl rfl ?_
    refine Gol.bipush X83 hx hby at_277 (pc' := 279) rfl (z := (11 : Int32)) rfl ?_
    by_cases hc279_84 : (own_fc bs82 ps) = (11 : Int32)
    · skip
      refine Gol.icmpNo X83 hx hby at_279 (pc' := 282) rfl (teq hc279_84).2 ?_
      refine Gol.ldc2Long X83 hx hby hZ hown at_282 (pc' := 285) rfl (hw _ (List.mem_of_getElem? (i := 46) rfl)) ?_
      refine Gol.lstore X83 hx hby at_285 (pc' := 287) rfl (l' := #[.val (.long q0), .second, .val (.int p1), .val (.int p2), .val (.ref b1), .val (.int (Int32.ofNat ps)), .val (.int kk), .val (.int (Int32.ofNat 12)), .val (.int (own_fc bs82 ps)), .val (.long (-1 : Int64)), .second, .unset, .unset, .unset, .unset]) rfl ?_
      refine Gol.goto X83 hx hby at_287 (pc' := 431) (by decide) ?_
      refine Gol.iload X83 hx hby at_431 (pc' := 433) rfl rfl ?_
      refine Gol.bipush X83 hx hby at_433 (pc' := 435) rfl (z := (10 : Int32)) rfl ?_
      refine Gol.callS X83 hx hby hZ hown 0 [(.int (own_fc bs82 ps)), (.int (10 : Int32))] (hw _ (List.mem_of_getElem? (i := 12) rfl)) (hw _ (List.mem_of_getElem? (i := 13) rfl)) (hw _ (List.mem_of_getElem? (i := 14) rfl)) (hw _ (List.mem_of_getElem? (i := 15) rfl)) (by decide) (rm4 l Z a0 hw [] (own_fc bs82 ps) (10 : Int32)  T82.heap n0 Zs ) (by decide) (by decide) eq83 (by rw [hml]; rfl) (rest := []) (Nat.le_of_eq rfl) (by decide) (by decide) (lenOf pd_2 rfl) rfl at_435 (pc' := 438) rfl ?_
      intro T85 v85 L85 X85 hQ85
      obtain ⟨rfl, Nq85, eq85⟩ := hQ85
      have N85 := Fr.app N83 Nq85
      show GolF _ _ _ _ _ _ _ T85 m 438 #[.val (.long q0), .second, .val (.int p1), .val (.int p2), .val (.ref b1), .val (.int (Int32.ofNat ps)), .val (.int kk), .val (.int (Int32.ofNat 12)), .val (.int (own_fc bs82 ps)), .val (.long (-1 : Int64)), .second, .unset, .unset, .unset, .unset] [(.int (f4 (own_fc bs82 ps) (10 : Int32) ))]
      refine Gol.istore X85 hx hby at_438 (pc' := 440) rfl (l' := #[.val (.long q0), .second, .val (.int p1), .val (.int p2), .val (.ref b1), .val (.int (Int32.ofNat ps)), .val (.int kk), .val (.int (Int32.ofNat 12)), .val (.int (own_fc bs82 ps)), .val (.long (-1 : Int64)), .second, .val (.int (f4 (own_fc bs82 ps) (10 : Int32) )), .unset, .unset, .unset]) rfl ?_
      refine Gol.newO X85 hx hby hZ hown (hw _ (List.mem_of_getElem? (i := 16) rfl)) (hw _ (List.mem_of_getElem? (i := 17) rfl)) (hw _ (List.mem_of_getElem? (i := 18) rfl)) eq85 at_440 (pc' := 443) rfl (by decide) (by decide) ?_
      intro T86 h86 b86 g86 X86 e86 E86 A86 D86
      have lo_b1_b86 : b1 < b86 := Nat.lt_of_lt_of_le V_b1.lt (Nat.le_of_eq g86.symm)
      have ne_b1_b86 : b1 ≠ b86 := Nat.ne_of_lt lo_b1_b86
      have g_b86 : n0 ≤ b86 := Nat.le_trans Zs (Nat.le_of_eq g86.symm)
      have V_b1 := V_b1.ext E86
      have Zs := Nat.le_trans Zs E86.1
      have E_b86 := A86
      have F_b86_bytes : Fld Z h86 b86 "com/example/interleaved_tables/interleavedtables/storage/DataFile$Input" "bytes" "[B" .null := D86 (Or.inr (hw _ (List.mem_of_getElem? (i := 26) rfl))) (ty := (.array .byte)) (by decide)
      have F_b86_position : Fld Z h86 b86 "com/example/interleaved_tables/interleavedtables/storage/DataFile$Input" "position" "I" (.int (0 : Int32)) := D86 (Or.inl (hw _ (List.mem_of_getElem? (i := 28) rfl))) (ty := .int) (by decide)
      have F_b86_end : Fld Z h86 b86 "com/example/interleaved_tables/interleavedtables/storage/DataFile$Input" "end" "I" (.int (0 : Int32)) := D86 (Or.inr (hw _ (List.mem_of_getElem? (i := 30) rfl))) (ty := .int) (by decide)
      refine Gol.dup X86 hx hby at_443 (pc' := 444) rfl rfl ?_
      refine Gol.aload X86 hx hby at_444 (pc' := 446) rfl rfl rfl ?_
      refine Gol.iload X86 hx hby at_446 (pc' := 448) rfl rfl ?_
      refine Gol.iload X86 hx hby at_448 (pc' := 450) rfl rfl ?_
      refine Gol.callI X86 hx hby hZ hown 1 [(.ref b1), (.int (Int32.ofNat ps)), (.int (Int32.ofNat 12))] (a := b86) (hw _ (List.mem_of_getElem? (i := 19) rfl)) (hw _ (List.mem_of_getElem? (i := 20) rfl)) (hw _ (List.mem_of_getElem? (i := 18) rfl)) rfl (hw _ (List.mem_of_getElem? (i := 21) rfl)) rfl (by decide) (rm5 l Z a0 hw [] b86 b1 (Int32.ofNat ps) (Int32.ofNat 12)  h86 n0 Zs ⟨E_b86, F_b86_bytes, F_b86_position, F_b86_end⟩ g_b86) (by decide) (by decide) e86 (by rw [hml]; rfl) (rest := [(.ref b86)]) (Nat.le_of_eq rfl) (by decide) (by decide) (lenOf pd_3 rfl) rfl at_450 (pc' := 453) rfl ?_
      intro T87 v87 L87 X87 hQ87
      obtain ⟨rfl, Nq87, Kq87, Oq87⟩ := hQ87
      have N87 := Fr.app N85 Nq87
      have E_b86 := E_b86.keep Kq87
      have V_b1 := V_b1.keep Kq87 (ninS ne_b1_b86 nin0)
      have Zs := Nat.le_trans Zs Kq87.1
      show GolF _ _ _ _ _ _ _ T87 m 453 #[.val (.long q0), .second, .val (.int p1), .val (.int p2), .val (.ref b1), .val (.int (Int32.ofNat ps)), .val (.int kk), .val (.int (Int32.ofNat 12)), .val (.int (own_fc bs82 ps)), .val (.long (-1 : Int64)), .second, .val (.int (f4 (own_fc bs82 ps) (10 : Int32) )), .unset, .unset, .unset] [(.ref b86)]
      obtain ⟨E_b86, F_b86_bytes, F_b86_position, F_b86_end⟩ := Oq87
      refine Gol.astore X87 hx hby at_453 (pc' := 455) rfl rfl (l' := #[.val (.long q0), .second, .val (.int p1), .val (.int p2), .val (.ref b1), .val (.int (Int32.ofNat ps)), .val (.int kk), .val (.int (Int32.ofNat 12)), .val (.int (own_fc bs82 ps)), .val (.long (-1 : Int64)), .second, .val (.int (f4 (own_fc bs82 ps) (10 : Int32) )), .val (.ref b86), .unset, .unset]) rfl ?_
      refine Gol.aload X87 hx hby at_455 (pc' := 457) rfl rfl rfl ?_
      refine Gol.callV X87 hx hby hZ hown 0 [] (a := b86) (hw _ (List.mem_of_getElem? (i := 31) rfl)) (hw _ (List.mem_of_getElem? (i := 32) rfl)) (notFace_of_selects (args := #[]) (mvT hZ (hw _ (List.mem_of_getElem? (i := 34) rfl)))) (hw _ (List.mem_of_getElem? (i := 34) rfl)) (hw _ (List.mem_of_getElem? (i := 33) rfl)) (hw _ (List.mem_of_getElem? (i := 18) rfl)) (hw _ (List.mem_of_getElem? (i := 35) rfl)) (by decide) E_b86 (rm7 l Z a0 hw [] b86 b1 k1 bs82 ps 12 T87.heap n0 Zs hps (by omega) (by omega) g_b86 ne_b1_b86.symm ⟨E_b86, F_b86_bytes, F_b86_position, F_b86_end⟩ V_b1) (by decide) (by decide) rfl (by rw [hml]; rfl) (rest := []) (Nat.le_of_eq rfl) (by decide) (by decide) (lenOf pd_4 rfl) rfl at_457 (pc' := 460) rfl ?_
      intro T88 v88 L88 X88 hQ88
      obtain ⟨rfl, Nq88, Kq88, Oq88⟩ := hQ88
      have N88 := Fr.app N87 Nq88
      have E_b86 := E_b86.keep Kq88
      have V_b1 := V_b1.keep Kq88 (ninS ne_b1_b86 nin0)
      have Zs := Nat.le_trans Zs Kq88.1
      show GolF _ _ _ _ _ _ _ T88 m 460 #[.val (.long q0), .second, .val (.int p1), .val (.int p2), .val (.ref b1), .val (.int (Int32.ofNat ps)), .val (.int kk), .val (.int (Int32.ofNat 12)), .val (.int (own_fc bs82 ps)), .val (.long (-1 : Int64)), .second, .val (.int (f4 (own_fc bs82 ps) (10 : Int32) )), .val (.ref b86), .unset, .unset] [(.long (own_rn bs82 ps))]
      obtain ⟨E_b86, F_b86_bytes, F_b86_position, F_b86_end⟩ := Oq88
      refine Gol.lstore X88 hx hby at_460 (pc' := 462) rfl (l' := #[.val (.long q0), .second, .val (.int p1), .val (.int p2), .val (.ref b1), .val (.int (Int32.ofNat ps)), .val (.int kk), .val (.int (Int32.ofNat 12)), .val (.int (own_fc bs82 ps)), .val (.long (-1 : Int64)), .second, .val (.int (f4 (own_fc bs82 ps) (10 : Int32) )), .val (.ref b86), .val (.long (own_rn bs82 ps)), .second]) rfl ?_
      refine Gol.lload X88 hx hby at_462 (pc' := 464) rfl rfl ?_
      refine Gol.lload X88 hx hby at_464 (pc' := 466) rfl rfl ?_
      refine Gol.lcmp X88 hx hby at_466 (pc' := 467) rfl ?_
      refine Gol.ifNo X88 hx hby at_467 (pc' := 470) rfl (teqL (own_p11 (own_byte V_b1 (by omega)) hc279_84)).2 ?_
      refine Gol.aload X88 hx hby at_470 (pc' := 472) rfl rfl rfl ?_
      refine Gol.callV X88 hx hby hZ hown 0 [] (a := b86) (hw _ (List.mem_of_getElem? (i := 36) rfl)) (hw _ (List.mem_of_getElem? (i := 37) rfl)) (notFace_of_selects (args := #[]) (mvT hZ (hw _ (List.mem_of_getElem? (i := 39) rfl)))) (hw _ (List.mem_of_getElem? (i := 39) rfl)) (hw _ (List.mem_of_getElem? (i := 38) rfl)) (hw _ (List.mem_of_getElem? (i := 18) rfl)) (hw _ (List.mem_of_getElem? (i := 40) rfl)) (by decide) E_b86 (rm8 l Z a0 hw [] b86 (.ref b1) (Int32.ofNat (ps + own_cn bs82 ps)) (Int32.ofNat 12) T88.heap n0 Zs ⟨E_b86, F_b86_bytes, F_b86_position, F_b86_end⟩) (by decide) (by decide) rfl (by rw [hml]; rfl) (rest := []) (Nat.le_of_eq rfl) (by decide) (by decide) (lenOf pd_5 rfl) rfl at_472 (pc' := 475) rfl ?_
      intro T89 v89 L89 X89 hQ89
      obtain ⟨rfl, Nq89, eq89⟩ := hQ89
      have N89 := Fr.app N88 Nq89
      show GolF _ _ _ _ _ _ _ T89 m 475 #[.val (.long q0), .second, .val (.int p1), .val (.int p2), .val (.ref b1), .val (.int (Int32.ofNat ps)), .val (.int kk), .val (.int (Int32.ofNat 12)), .val (.int (own_fc bs82 ps)), .val (.long (-1 : Int64)), .second, .val (.int (f4 (own_fc bs82 ps) (10 : Int32) )), .val (.ref b86), .val (.long (own_rn bs82 ps)), .second] [(.int (Int32.ofNat (ps + own_cn bs82 ps)))]
      refine Gol.iload X89 hx hby at_475 (pc' := 477) rfl rfl ?_
      refine Gol.iload X89 hx hby at_477 (pc' := 479) rfl rfl ?_
      refine Gol.iadd X89 hx hby at_479 (pc' := 480) rfl rfl ?_
      refine Gol.icmpNo X89 hx hby at_480 (pc' := 483) rfl (teq (own_pos (own_byte V_b1 (by omega)))).2 ?_
      refine Gol.aload X89 hx hby at_483 (pc' := 485) rfl rfl rfl ?_
      refine Gol.callV X89 hx hby hZ hown 0 [] (a := b86) (hw _ (List.mem_of_getElem? (i := 41) rfl)) (hw _ (List.mem_of_getElem? (i := 42) rfl)) (notFace_of_selects (args := #[]) (mvT hZ (hw _ (List.mem_of_getElem? (i := 44) rfl)))) (hw _ (List.mem_of_getElem? (i := 44) rfl)) (hw _ (List.mem_of_getElem? (i := 43) rfl)) (hw _ (List.mem_of_getElem? (i := 18) rfl)) (hw _ (List.mem_of_getElem? (i := 45) rfl)) (by decide) E_b86 (rm9 l Z a0 hw [] b86 (.ref b1) (Int32.ofNat (ps + own_cn bs82 ps)) (Int32.ofNat 12) T88.heap n0 Zs ⟨E_b86, F_b86_bytes, F_b86_position, F_b86_end⟩) (by decide) (by decide) eq89 (by rw [hml]; rfl) (rest := []) (Nat.le_of_eq rfl) (by decide) (by decide) (lenOf pd_5 rfl) rfl at_485 (pc' := 488) rfl ?_
      intro T90 v90 L90 X90 hQ90
      obtain ⟨rfl, Nq90, eq90⟩ := hQ90
      have N90 := Fr.app N89 Nq90
      show GolF _ _ _ _ _ _ _ T90 m 488 #[.val (.long q0), .second, .val (.int p1), .val (.int p2), .val (.ref b1), .val (.int (Int32.ofNat ps)), .val (.int kk), .val (.int (Int32.ofNat 12)), .val (.int (own_fc bs82 ps)), .val (.long (-1 : Int64)), .second, .val (.int (f4 (own_fc bs82 ps) (10 : Int32) )), .val (.ref b86), .val (.long (own_rn bs82 ps)), .second] [(.int ((Int32.ofNat 12) - (Int32.ofNat (ps + own_cn bs82 ps))))]
      refine Gol.iload X90 hx hby at_488 (pc' := 490) rfl rfl ?_
      refine Gol.iload X90 hx hby at_490 (pc' := 492) rfl rfl ?_
      refine Gol.isub X90 hx hby at_492 (pc' := 493) rfl rfl ?_
      refine Gol.iload X90 hx hby at_493 (pc' := 495) rfl rfl ?_
      refine Gol.isub X90 hx hby at_495 (pc' := 496) rfl rfl ?_
      refine Gol.icmpNo X90 hx hby at_496 (pc' := 499) rfl (teq (own_left _ (own_byte V_b1 (by omega)))).2 ?_
      refine Gol.iconst X90 hx hby at_499 (pc' := 500) rfl (z := (1 : Int32)) rfl ?_
      refine Gol.goto X90 hx hby at_500 (pc' := 504) (by decide) ?_
      exact Gol.retN X90 hx hby (t := .boolean) Bd.returns (by simp) Bd.notSynchronized at_504 eq90 ⟨rfl, N90⟩ (by decide) (by decide)
    · skip
      refine Gol.icmpYes X83 hx hby at_279 (pc' := 290) (by decide) (feq hc279_84).2 ?_
      refine Gol.iload X83 hx hby at_290 (pc' := 292) rfl rfl ?_
      refine Gol.bipush X83 hx hby at_292 (pc' := 294) rfl (z := (10 : Int32)) rfl ?_
      by_cases hc294_91 : (own_fc bs82 ps) = (10 : Int32)
      · skip
        refine Gol.icmpNo X83 hx hby at_294 (pc' := 297) rfl (teq hc294_91).2 ?_
        refine Gol.aload X83 hx hby at_297 (pc' := 299) rfl rfl rfl ?_
        refine Gol.iload X83 hx hby at_299 (pc' := 301) rfl rfl ?_
        refine Gol.bipush X83 hx hby at_301 (pc' := 303) rfl (z := (9 : Int32)) rfl ?_
        refine Gol.iadd X83 hx hby at_303 (pc' := 304) rfl rfl ?_
        rw [show Int32.ofNat ps + (9 : Int32) = Int32.ofNat (ps + 9) from own_addk ps 9]
        show GolF _ _ _ _ _ _ _ T83 m 304 #[.val (.long q0), .second, .val (.int p1), .val (.int p2), .val (.ref b1), .val (.int (Int32.ofNat ps)), .val (.int kk), .val (.int (Int32.ofNat 12)), .val (.int (own_fc bs82 ps)), .unset, .unset, .unset, .unset, .unset, .unset] [(.int (Int32.ofNat (ps + 9))), (.ref b1)]
        refine Gol.baload X83 hx hby hZ eq83 V_b1 at_304 (pc' := 305) rfl (own_in (by omega)) (v := (bs82.getD (ps + 9) 0)) (own_at bs82 (by omega)) ?_
        by_cases hc305_92 : (bs82.getD (ps + 9) 0) = (0 : Int32)
        · skip
          refine Gol.ifYes X83 hx hby at_305 (pc' := 316) (by decide) ((if0 _ _).trans (teq hc305_92).1) ?_
          refine Gol.aload X83 hx hby at_316 (pc' := 318) rfl rfl rfl ?_
          refine Gol.iload X83 hx hby at_318 (pc' := 320) rfl rfl ?_
          refine Gol.iconst X83 hx hby at_320 (pc' := 321) rfl (z := (0 : Int32)) rfl ?_
          refine Gol.iload X83 hx hby at_321 (pc' := 323) rfl rfl ?_
          refine Gol.callS X83 hx hby hZ hown 0 [(.ref b1), (.int (Int32.ofNat ps)), (.int (0 : Int32)), (.int (own_fc bs82 ps))] (hw _ (List.mem_of_getElem? (i := 9) rfl)) (hw _ (List.mem_of_getElem? (i := 10) rfl)) (hw _ (List.mem_of_getElem? (i := 4) rfl)) (hw _ (List.mem_of_getElem? (i := 11) rfl)) (by decide) (rm3 l Z a0 hw [] b1 (Int32.ofNat ps) (0 : Int32) (own_fc bs82 ps) k1 bs82 (ps + 0) T82.heap n0 Zs (own_addk ps 0) (by omega) V_b1) (by decide) (by decide) eq83 (by rw [hml]; rfl) (rest := []) (Nat.le_of_eq rfl) (by decide) (by decide) (lenOf pd_6 rfl) rfl at_323 (pc' := 326) rfl ?_
          intro T93 v93 L93 X93 hQ93
          obtain ⟨rfl, Nq93, eq93⟩ := hQ93
          have N93 := Fr.app N83 Nq93
          show GolF _ _ _ _ _ _ _ T93 m 326 #[.val (.long q0), .second, .val (.int p1), .val (.int p2), .val (.ref b1), .val (.int (Int32.ofNat ps)), .val (.int kk), .val (.int (Int32.ofNat 12)), .val (.int (own_fc bs82 ps)), .unset, .unset, .unset, .unset, .unset, .unset] [(.long (own_tm (bs82.getD (ps + 0) 0) (0 : Int32) (own_fc bs82 ps)))]
          refine Gol.aload X93 hx hby at_326 (pc' := 328) rfl rfl rfl ?_
          refine Gol.iload X93 hx hby at_328 (pc' := 330) rfl rfl ?_
          refine Gol.iconst X93 hx hby at_330 (pc' := 331) rfl (z := (1 : Int32)) rfl ?_
          refine Gol.iload X93 hx hby at_331 (pc' := 333) rfl rfl ?_
          refine Gol.callS X93 hx hby hZ hown 2 [(.ref b1), (.int (Int32.ofNat ps)), (.int (1 : Int32)), (.int (own_fc bs82 ps))] (hw _ (List.mem_of_getElem? (i := 9) rfl)) (hw _ (List.mem_of_getElem? (i := 10) rfl)) (hw _ (List.mem_of_getElem? (i := 4) rfl)) (hw _ (List.mem_of_getElem? (i := 11) rfl)) (by decide) (rm3 l Z a0 hw [] b1 (Int32.ofNat ps) (1 : Int32) (own_fc bs82 ps) k1 bs82 (ps + 1) T82.heap n0 Zs (own_addk ps 1) (by omega) V_b1) (by decide) (by decide) eq93 (by rw [hml]; rfl) (rest := [(.long (own_tm (bs82.getD (ps + 0) 0) (0 : Int32) (own_fc bs82 ps)))]) (Nat.le_of_eq rfl) (by decide) (by decide) (lenOf pd_6 rfl) rfl at_333 (pc' := 336) rfl ?_
          intro T94 v94 L94 X94 hQ94
          obtain ⟨rfl, Nq94, eq94⟩ := hQ94
          have N94 := Fr.app N93 Nq94
          show GolF _ _ _ _ _ _ _ T94 m 336 #[.val (.long q0), .second, .val (.int p1), .val (.int p2), .val (.ref b1), .val (.int (Int32.ofNat ps)), .val (.int kk), .val (.int (Int32.ofNat 12)), .val (.int (own_fc bs82 ps)), .unset, .unset, .unset, .unset, .unset, .unset] [(.long (own_tm (bs82.getD (ps + 1) 0) (1 : Int32) (own_fc bs82 ps))), (.long (own_tm (bs82.getD (ps + 0) 0) (0 : Int32) (own_fc bs82 ps)))]
          refine Gol.lor X94 hx hby at_336 (pc' := 337) rfl rfl ?_
          refine Gol.aload X94 hx hby at_337 (pc' := 339) rfl rfl rfl ?_
          refine Gol.iload X94 hx hby at_339 (pc' := 341) rfl rfl ?_
          refine Gol.iconst X94 hx hby at_341 (pc' := 342) rfl (z := (2 : Int32)) rfl ?_
          refine Gol.iload X94 hx hby at_342 (pc' := 344) rfl rfl ?_
          refine Gol.callS X94 hx hby hZ hown 2 [(.ref b1), (.int (Int32.ofNat ps)), (.int (2 : Int32)), (.int (own_fc bs82 ps))] (hw _ (List.mem_of_getElem? (i := 9) rfl)) (hw _ (List.mem_of_getElem? (i := 10) rfl)) (hw _ (List.mem_of_getElem? (i := 4) rfl)) (hw _ (List.mem_of_getElem? (i := 11) rfl)) (by decide) (rm3 l Z a0 hw [] b1 (Int32.ofNat ps) (2 : Int32) (own_fc bs82 ps) k1 bs82 (ps + 2) T82.heap n0 Zs (own_addk ps 2) (by omega) V_b1) (by decide) (by decide) eq94 (by rw [hml]; rfl) (rest := [(.long ((own_tm (bs82.getD (ps + 0) 0) (0 : Int32) (own_fc bs82 ps)) ||| (own_tm (bs82.getD (ps + 1) 0) (1 : Int32) (own_fc bs82 ps))))]) (Nat.le_of_eq rfl) (by decide) (by decide) (lenOf pd_6 rfl) rfl at_344 (pc' := 347) rfl ?_
          intro T95 v95 L95 X95 hQ95
          obtain ⟨rfl, Nq95, eq95⟩ := hQ95
          have N95 := Fr.app N94 Nq95
          show GolF _ _ _ _ _ _ _ T95 m 347 #[.val (.long q0), .second, .val (.int p1), .val (.int p2), .val (.ref b1), .val (.int (Int32.ofNat ps)), .val (.int kk), .val (.int (Int32.ofNat 12)), .val (.int (own_fc bs82 ps)), .unset, .unset, .unset, .unset, .unset, .unset] [(.long (own_tm (bs82.getD (ps + 2) 0) (2 : Int32) (own_fc bs82 ps))), (.long ((own_tm (bs82.getD (ps + 0) 0) (0 : Int32) (own_fc bs82 ps)) ||| (own_tm (bs82.getD (ps + 1) 0) (1 : Int32) (own_fc bs82 ps))))]
          refine Gol.lor X95 hx hby at_347 (pc' := 348) rfl rfl ?_
          refine Gol.aload X95 hx hby at_348 (pc' := 350) rfl rfl rfl ?_
          refine Gol.iload X95 hx hby at_350 (pc' := 352) rfl rfl ?_
          refine Gol.iconst X95 hx hby at_352 (pc' := 353) rfl (z := (3 : Int32)) rfl ?_
          refine Gol.iload X95 hx hby at_353 (pc' := 355) rfl rfl ?_
          refine Gol.callS X95 hx hby hZ hown 2 [(.ref b1), (.int (Int32.ofNat ps)), (.int (3 : Int32)), (.int (own_fc bs82 ps))] (hw _ (List.mem_of_getElem? (i := 9) rfl)) (hw _ (List.mem_of_getElem? (i := 10) rfl)) (hw _ (List.mem_of_getElem? (i := 4) rfl)) (hw _ (List.mem_of_getElem? (i := 11) rfl)) (by decide) (rm3 l Z a0 hw [] b1 (Int32.ofNat ps) (3 : Int32) (own_fc bs82 ps) k1 bs82 (ps + 3) T82.heap n0 Zs (own_addk ps 3) (by omega) V_b1) (by decide) (by decide) eq95 (by rw [hml]; rfl) (rest := [(.long (((own_tm (bs82.getD (ps + 0) 0) (0 : Int32) (own_fc bs82 ps)) ||| (own_tm (bs82.getD (ps + 1) 0) (1 : Int32) (own_fc bs82 ps))) ||| (own_tm (bs82.getD (ps + 2) 0) (2 : Int32) (own_fc bs82 ps))))]) (Nat.le_of_eq rfl) (by decide) (by decide) (lenOf pd_6 rfl) rfl at_355 (pc' := 358) rfl ?_
          intro T96 v96 L96 X96 hQ96
          obtain ⟨rfl, Nq96, eq96⟩ := hQ96
          have N96 := Fr.app N95 Nq96
          show GolF _ _ _ _ _ _ _ T96 m 358 #[.val (.long q0), .second, .val (.int p1), .val (.int p2), .val (.ref b1), .val (.int (Int32.ofNat ps)), .val (.int kk), .val (.int (Int32.ofNat 12)), .val (.int (own_fc bs82 ps)), .unset, .unset, .unset, .unset, .unset, .unset] [(.long (own_tm (bs82.getD (ps + 3) 0) (3 : Int32) (own_fc bs82 ps))), (.long (((own_tm (bs82.getD (ps + 0) 0) (0 : Int32) (own_fc bs82 ps)) ||| (own_tm (bs82.getD (ps + 1) 0) (1 : Int32) (own_fc bs82 ps))) ||| (own_tm (bs82.getD (ps + 2) 0) (2 : Int32) (own_fc bs82 ps))))]
          refine Gol.lor X96 hx hby at_358 (pc' := 359) rfl rfl ?_
          refine Gol.aload X96 hx hby at_359 (pc' := 361) rfl rfl rfl ?_
          refine Gol.iload X96 hx hby at_361 (pc' := 363) rfl rfl ?_
          refine Gol.iconst X96 hx hby at_363 (pc' := 364) rfl (z := (4 : Int32)) rfl ?_
          refine Gol.iload X96 hx hby at_364 (pc' := 366) rfl rfl ?_
          refine Gol.callS X96 hx hby hZ hown 2 [(.ref b1), (.int (Int32.ofNat ps)), (.int (4 : Int32)), (.int (own_fc bs82 ps))] (hw _ (List.mem_of_getElem? (i := 9) rfl)) (hw _ (List.mem_of_getElem? (i := 10) rfl)) (hw _ (List.mem_of_getElem? (i := 4) rfl)) (hw _ (List.mem_of_getElem? (i := 11) rfl)) (by decide) (rm3 l Z a0 hw [] b1 (Int32.ofNat ps) (4 : Int32) (own_fc bs82 ps) k1 bs82 (ps + 4) T82.heap n0 Zs (own_addk ps 4) (by omega) V_b1) (by decide) (by decide) eq96 (by rw [hml]; rfl) (rest := [(.long ((((own_tm (bs82.getD (ps + 0) 0) (0 : Int32) (own_fc bs82 ps)) ||| (own_tm (bs82.getD (ps + 1) 0) (1 : Int32) (own_fc bs82 ps))) ||| (own_tm (bs82.getD (ps + 2) 0) (2 : Int32) (own_fc bs82 ps))) ||| (own_tm (bs82.getD (ps + 3) 0) (3 : Int32) (own_fc bs82 ps))))]) (Nat.le_of_eq rfl) (by decide) (by decide) (lenOf pd_6 rfl) rfl at_366 (pc' := 369) rfl ?_
          intro T97 v97 L97 X97 hQ97
          obtain ⟨rfl, Nq97, eq97⟩ := hQ97
          have N97 := Fr.app N96 Nq97
          show GolF _ _ _ _ _ _ _ T97 m 369 #[.val (.long q0), .second, .val (.int p1), .val (.int p2), .val (.ref b1), .val (.int (Int32.ofNat ps)), .val (.int kk), .val (.int (Int32.ofNat 12)), .val (.int (own_fc bs82 ps)), .unset, .unset, .unset, .unset, .unset, .unset] [(.long (own_tm (bs82.getD (ps + 4) 0) (4 : Int32) (own_fc bs82 ps))), (.long ((((own_tm (bs82.getD (ps + 0) 0) (0 : Int32) (own_fc bs82 ps)) ||| (own_tm (bs82.getD (ps + 1) 0) (1 : Int32) (own_fc bs82 ps))) ||| (own_tm (bs82.getD (ps + 2) 0) (2 : Int32) (own_fc bs82 ps))) ||| (own_tm (bs82.getD (ps + 3) 0) (3 : Int32) (own_fc bs82 ps))))]
          refine Gol.lor X97 hx hby at_369 (pc' := 370) rfl rfl ?_
          refine Gol.aload X97 hx hby at_370 (pc' := 372) rfl rfl rfl ?_
          refine Gol.iload X97 hx hby at_372 (pc' := 374) rfl rfl ?_
          refine Gol.iconst X97 hx hby at_374 (pc' := 375) rfl (z := (5 : Int32)) rfl ?_
          refine Gol.iload X97 hx hby at_375 (pc' := 377) rfl rfl ?_
          refine Gol.callS X97 hx hby hZ hown 2 [(.ref b1), (.int (Int32.ofNat ps)), (.int (5 : Int32)), (.int (own_fc bs82 ps))] (hw _ (List.mem_of_getElem? (i := 9) rfl)) (hw _ (List.mem_of_getElem? (i := 10) rfl)) (hw _ (List.mem_of_getElem? (i := 4) rfl)) (hw _ (List.mem_of_getElem? (i := 11) rfl)) (by decide) (rm3 l Z a0 hw [] b1 (Int32.ofNat ps) (5 : Int32) (own_fc bs82 ps) k1 bs82 (ps + 5) T82.heap n0 Zs (own_addk ps 5) (by omega) V_b1) (by decide) (by decide) eq97 (by rw [hml]; rfl) (rest := [(.long (((((own_tm (bs82.getD (ps + 0) 0) (0 : Int32) (own_fc bs82 ps)) ||| (own_tm (bs82.getD (ps + 1) 0) (1 : Int32) (own_fc bs82 ps))) ||| (own_tm (bs82.getD (ps + 2) 0) (2 : Int32) (own_fc bs82 ps))) ||| (own_tm (bs82.getD (ps + 3) 0) (3 : Int32) (own_fc bs82 ps))) ||| (own_tm (bs82.getD (ps + 4) 0) (4 : Int32) (own_fc bs82 ps))))]) (Nat.le_of_eq rfl) (by decide) (by decide) (lenOf pd_6 rfl) rfl at_377 (pc' := 380) rfl ?_
          intro T98 v98 L98 X98 hQ98
          obtain ⟨rfl, Nq98, eq98⟩ := hQ98
          have N98 := Fr.app N97 Nq98
          show GolF _ _ _ _ _ _ _ T98 m 380 #[.val (.long q0), .second, .val (.int p1), .val (.int p2), .val (.ref b1), .val (.int (Int32.ofNat ps)), .val (.int kk), .val (.int (Int32.ofNat 12)), .val (.int (own_fc bs82 ps)), .unset, .unset, .unset, .unset, .unset, .unset] [(.long (own_tm (bs82.getD (ps + 5) 0) (5 : Int32) (own_fc bs82 ps))), (.long (((((own_tm (bs82.getD (ps + 0) 0) (0 : Int32) (own_fc bs82 ps)) ||| (own_tm (bs82.getD (ps + 1) 0) (1 : Int32) (own_fc bs82 ps))) ||| (own_tm (bs82.getD (ps + 2) 0) (2 : Int32) (own_fc bs82 ps))) ||| (own_tm (bs82.getD (ps + 3) 0) (3 : Int32) (own_fc bs82 ps))) ||| (own_tm (bs82.getD (ps + 4) 0) (4 : Int32) (own_fc bs82 ps))))]
          refine Gol.lor X98 hx hby at_380 (pc' := 381) rfl rfl ?_
          refine Gol.aload X98 hx hby at_381 (pc' := 383) rfl rfl rfl ?_
          refine Gol.iload X98 hx hby at_383 (pc' := 385) rfl rfl ?_
          refine Gol.bipush X98 hx hby at_385 (pc' := 387) rfl (z := (6 : Int32)) rfl ?_
          refine Gol.iload X98 hx hby at_387 (pc' := 389) rfl rfl ?_
          refine Gol.callS X98 hx hby hZ hown 2 [(.ref b1), (.int (Int32.ofNat ps)), (.int (6 : Int32)), (.int (own_fc bs82 ps))] (hw _ (List.mem_of_getElem? (i := 9) rfl)) (hw _ (List.mem_of_getElem? (i := 10) rfl)) (hw _ (List.mem_of_getElem? (i := 4) rfl)) (hw _ (List.mem_of_getElem? (i := 11) rfl)) (by decide) (rm3 l Z a0 hw [] b1 (Int32.ofNat ps) (6 : Int32) (own_fc bs82 ps) k1 bs82 (ps + 6) T82.heap n0 Zs (own_addk ps 6) (by omega) V_b1) (by decide) (by decide) eq98 (by rw [hml]; rfl) (rest := [(.long ((((((own_tm (bs82.getD (ps + 0) 0) (0 : Int32) (own_fc bs82 ps)) ||| (own_tm (bs82.getD (ps + 1) 0) (1 : Int32) (own_fc bs82 ps))) ||| (own_tm (bs82.getD (ps + 2) 0) (2 : Int32) (own_fc bs82 ps))) ||| (own_tm (bs82.getD (ps + 3) 0) (3 : Int32) (own_fc bs82 ps))) ||| (own_tm (bs82.getD (ps + 4) 0) (4 : Int32) (own_fc bs82 ps))) ||| (own_tm (bs82.getD (ps + 5) 0) (5 : Int32) (own_fc bs82 ps))))]) (Nat.le_of_eq rfl) (by decide) (by decide) (lenOf pd_6 rfl) rfl at_389 (pc' := 392) rfl ?_
          intro T99 v99 L99 X99 hQ99
          obtain ⟨rfl, Nq99, eq99⟩ := hQ99
          have N99 := Fr.app N98 Nq99
          show GolF _ _ _ _ _ _ _ T99 m 392 #[.val (.long q0), .second, .val (.int p1), .val (.int p2), .val (.ref b1), .val (.int (Int32.ofNat ps)), .val (.int kk), .val (.int (Int32.ofNat 12)), .val (.int (own_fc bs82 ps)), .unset, .unset, .unset, .unset, .unset, .unset] [(.long (own_tm (bs82.getD (ps + 6) 0) (6 : Int32) (own_fc bs82 ps))), (.long ((((((own_tm (bs82.getD (ps + 0) 0) (0 : Int32) (own_fc bs82 ps)) ||| (own_tm (bs82.getD (ps + 1) 0) (1 : Int32) (own_fc bs82 ps))) ||| (own_tm (bs82.getD (ps + 2) 0) (2 : Int32) (own_fc bs82 ps))) ||| (own_tm (bs82.getD (ps + 3) 0) (3 : Int32) (own_fc bs82 ps))) ||| (own_tm (bs82.getD (ps + 4) 0) (4 : Int32) (own_fc bs82 ps))) ||| (own_tm (bs82.getD (ps + 5) 0) (5 : Int32) (own_fc bs82 ps))))]
          refine Gol.lor X99 hx hby at_392 (pc' := 393) rfl rfl ?_
          refine Gol.aload X99 hx hby at_393 (pc' := 395) rfl rfl rfl ?_
          refine Gol.iload X99 hx hby at_395 (pc' := 397) rfl rfl ?_
          refine Gol.bipush X99 hx hby at_397 (pc' := 399) rfl (z := (7 : Int32)) rfl ?_
          refine Gol.iload X99 hx hby at_399 (pc' := 401) rfl rfl ?_
          refine Gol.callS X99 hx hby hZ hown 2 [(.ref b1), (.int (Int32.ofNat ps)), (.int (7 : Int32)), (.int (own_fc bs82 ps))] (hw _ (List.mem_of_getElem? (i := 9) rfl)) (hw _ (List.mem_of_getElem? (i := 10) rfl)) (hw _ (List.mem_of_getElem? (i := 4) rfl)) (hw _ (List.mem_of_getElem? (i := 11) rfl)) (by decide) (rm3 l Z a0 hw [] b1 (Int32.ofNat ps) (7 : Int32) (own_fc bs82 ps) k1 bs82 (ps + 7) T82.heap n0 Zs (own_addk ps 7) (by omega) V_b1) (by decide) (by decide) eq99 (by rw [hml]; rfl) (rest := [(.long (((((((own_tm (bs82.getD (ps + 0) 0) (0 : Int32) (own_fc bs82 ps)) ||| (own_tm (bs82.getD (ps + 1) 0) (1 : Int32) (own_fc bs82 ps))) ||| (own_tm (bs82.getD (ps + 2) 0) (2 : Int32) (own_fc bs82 ps))) ||| (own_tm (bs82.getD (ps + 3) 0) (3 : Int32) (own_fc bs82 ps))) ||| (own_tm (bs82.getD (ps + 4) 0) (4 : Int32) (own_fc bs82 ps))) ||| (own_tm (bs82.getD (ps + 5) 0) (5 : Int32) (own_fc bs82 ps))) ||| (own_tm (bs82.getD (ps + 6) 0) (6 : Int32) (own_fc bs82 ps))))]) (Nat.le_of_eq rfl) (by decide) (by decide) (lenOf pd_6 rfl) rfl at_401 (pc' := 404) rfl ?_
          intro T100 v100 L100 X100 hQ100
          obtain ⟨rfl, Nq100, eq100⟩ := hQ100
          have N100 := Fr.app N99 Nq100
          show GolF _ _ _ _ _ _ _ T100 m 404 #[.val (.long q0), .second, .val (.int p1), .val (.int p2), .val (.ref b1), .val (.int (Int32.ofNat ps)), .val (.int kk), .val (.int (Int32.ofNat 12)), .val (.int (own_fc bs82 ps)), .unset, .unset, .unset, .unset, .unset, .unset] [(.long (own_tm (bs82.getD (ps + 7) 0) (7 : Int32) (own_fc bs82 ps))), (.long (((((((own_tm (bs82.getD (ps + 0) 0) (0 : Int32) (own_fc bs82 ps)) ||| (own_tm (bs82.getD (ps + 1) 0) (1 : Int32) (own_fc bs82 ps))) ||| (own_tm (bs82.getD (ps + 2) 0) (2 : Int32) (own_fc bs82 ps))) ||| (own_tm (bs82.getD (ps + 3) 0) (3 : Int32) (own_fc bs82 ps))) ||| (own_tm (bs82.getD (ps + 4) 0) (4 : Int32) (own_fc bs82 ps))) ||| (own_tm (bs82.getD (ps + 5) 0) (5 : Int32) (own_fc bs82 ps))) ||| (own_tm (bs82.getD (ps + 6) 0) (6 : Int32) (own_fc bs82 ps))))]
          refine Gol.lor X100 hx hby at_404 (pc' := 405) rfl rfl ?_
          refine Gol.aload X100 hx hby at_405 (pc' := 407) rfl rfl rfl ?_
          refine Gol.iload X100 hx hby at_407 (pc' := 409) rfl rfl ?_
          refine Gol.bipush X100 hx hby at_409 (pc' := 411) rfl (z := (8 : Int32)) rfl ?_
          refine Gol.iload X100 hx hby at_411 (pc' := 413) rfl rfl ?_
          refine Gol.callS X100 hx hby hZ hown 2 [(.ref b1), (.int (Int32.ofNat ps)), (.int (8 : Int32)), (.int (own_fc bs82 ps))] (hw _ (List.mem_of_getElem? (i := 9) rfl)) (hw _ (List.mem_of_getElem? (i := 10) rfl)) (hw _ (List.mem_of_getElem? (i := 4) rfl)) (hw _ (List.mem_of_getElem? (i := 11) rfl)) (by decide) (rm3 l Z a0 hw [] b1 (Int32.ofNat ps) (8 : Int32) (own_fc bs82 ps) k1 bs82 (ps + 8) T82.heap n0 Zs (own_addk ps 8) (by omega) V_b1) (by decide) (by decide) eq100 (by rw [hml]; rfl) (rest := [(.long ((((((((own_tm (bs82.getD (ps + 0) 0) (0 : Int32) (own_fc bs82 ps)) ||| (own_tm (bs82.getD (ps + 1) 0) (1 : Int32) (own_fc bs82 ps))) ||| (own_tm (bs82.getD (ps + 2) 0) (2 : Int32) (own_fc bs82 ps))) ||| (own_tm (bs82.getD (ps + 3) 0) (3 : Int32) (own_fc bs82 ps))) ||| (own_tm (bs82.getD (ps + 4) 0) (4 : Int32) (own_fc bs82 ps))) ||| (own_tm (bs82.getD (ps + 5) 0) (5 : Int32) (own_fc bs82 ps))) ||| (own_tm (bs82.getD (ps + 6) 0) (6 : Int32) (own_fc bs82 ps))) ||| (own_tm (bs82.getD (ps + 7) 0) (7 : Int32) (own_fc bs82 ps))))]) (Nat.le_of_eq rfl) (by decide) (by decide) (lenOf pd_6 rfl) rfl at_413 (pc' := 416) rfl ?_
          intro T101 v101 L101 X101 hQ101
          obtain ⟨rfl, Nq101, eq101⟩ := hQ101
          have N101 := Fr.app N100 Nq101
          show GolF _ _ _ _ _ _ _ T101 m 416 #[.val (.long q0), .second, .val (.int p1), .val (.int p2), .val (.ref b1), .val (.int (Int32.ofNat ps)), .val (.int kk), .val (.int (Int32.ofNat 12)), .val (.int (own_fc bs82 ps)), .unset, .unset, .unset, .unset, .unset, .unset] [(.long (own_tm (bs82.getD (ps + 8) 0) (8 : Int32) (own_fc bs82 ps))), (.long ((((((((own_tm (bs82.getD (ps + 0) 0) (0 : Int32) (own_fc bs82 ps)) ||| (own_tm (bs82.getD (ps + 1) 0) (1 : Int32) (own_fc bs82 ps))) ||| (own_tm (bs82.getD (ps + 2) 0) (2 : Int32) (own_fc bs82 ps))) ||| (own_tm (bs82.getD (ps + 3) 0) (3 : Int32) (own_fc bs82 ps))) ||| (own_tm (bs82.getD (ps + 4) 0) (4 : Int32) (own_fc bs82 ps))) ||| (own_tm (bs82.getD (ps + 5) 0) (5 : Int32) (own_fc bs82 ps))) ||| (own_tm (bs82.getD (ps + 6) 0) (6 : Int32) (own_fc bs82 ps))) ||| (own_tm (bs82.getD (ps + 7) 0) (7 : Int32) (own_fc bs82 ps))))]
          refine Gol.lor X101 hx hby at_416 (pc' := 417) rfl rfl ?_
          refine Gol.aload X101 hx hby at_417 (pc' := 419) rfl rfl rfl ?_
          refine Gol.iload X101 hx hby at_419 (pc' := 421) rfl rfl ?_
          refine Gol.bipush X101 hx hby at_421 (pc' := 423) rfl (z := (9 : Int32)) rfl ?_
          refine Gol.iload X101 hx hby at_423 (pc' := 425) rfl rfl ?_
          refine Gol.callS X101 hx hby hZ hown 2 [(.ref b1), (.int (Int32.ofNat ps)), (.int (9 : Int32)), (.int (own_fc bs82 ps))] (hw _ (List.mem_of_getElem? (i := 9) rfl)) (hw _ (List.mem_of_getElem? (i := 10) rfl)) (hw _ (List.mem_of_getElem? (i := 4) rfl)) (hw _ (List.mem_of_getElem? (i := 11) rfl)) (by decide) (rm3 l Z a0 hw [] b1 (Int32.ofNat ps) (9 : Int32) (own_fc bs82 ps) k1 bs82 (ps + 9) T82.heap n0 Zs (own_addk ps 9) (by omega) V_b1) (by decide) (by decide) eq101 (by rw [hml]; rfl) (rest := [(.long (((((((((own_tm (bs82.getD (ps + 0) 0) (0 : Int32) (own_fc bs82 ps)) ||| (own_tm (bs82.getD (ps + 1) 0) (1 : Int32) (own_fc bs82 ps))) ||| (own_tm (bs82.getD (ps + 2) 0) (2 : Int32) (own_fc bs82 ps))) ||| (own_tm (bs82.getD (ps + 3) 0) (3 : Int32) (own_fc bs82 ps))) ||| (own_tm (bs82.getD (ps + 4) 0) (4 : Int32) (own_fc bs82 ps))) ||| (own_tm (bs82.getD (ps + 5) 0) (5 : Int32) (own_fc bs82 ps))) ||| (own_tm (bs82.getD (ps + 6) 0) (6 : Int32) (own_fc bs82 ps))) ||| (own_tm (bs82.getD (ps + 7) 0) (7 : Int32) (own_fc bs82 ps))) ||| (own_tm (bs82.getD (ps + 8) 0) (8 : Int32) (own_fc bs82 ps))))]) (Nat.le_of_eq rfl) (by decide) (by decide) (lenOf pd_6 rfl) rfl at_425 (pc' := 428) rfl ?_
          intro T102 v102 L102 X102 hQ102
          obtain ⟨rfl, Nq102, eq102⟩ := hQ102
          have N102 := Fr.app N101 Nq102
          show GolF _ _ _ _ _ _ _ T102 m 428 #[.val (.long q0), .second, .val (.int p1), .val (.int p2), .val (.ref b1), .val (.int (Int32.ofNat ps)), .val (.int kk), .val (.int (Int32.ofNat 12)), .val (.int (own_fc bs82 ps)), .unset, .unset, .unset, .unset, .unset, .unset] [(.long (own_tm (bs82.getD (ps + 9) 0) (9 : Int32) (own_fc bs82 ps))), (.long (((((((((own_tm (bs82.getD (ps + 0) 0) (0 : Int32) (own_fc bs82 ps)) ||| (own_tm (bs82.getD (ps + 1) 0) (1 : Int32) (own_fc bs82 ps))) ||| (own_tm (bs82.getD (ps + 2) 0) (2 : Int32) (own_fc bs82 ps))) ||| (own_tm (bs82.getD (ps + 3) 0) (3 : Int32) (own_fc bs82 ps))) ||| (own_tm (bs82.getD (ps + 4) 0) (4 : Int32) (own_fc bs82 ps))) ||| (own_tm (bs82.getD (ps + 5) 0) (5 : Int32) (own_fc bs82 ps))) ||| (own_tm (bs82.getD (ps + 6) 0) (6 : Int32) (own_fc bs82 ps))) ||| (own_tm (bs82.getD (ps + 7) 0) (7 : Int32) (own_fc bs82 ps))) ||| (own_tm (bs82.getD (ps + 8) 0) (8 : Int32) (own_fc bs82 ps))))]
          refine Gol.lor X102 hx hby at_428 (pc' := 429) rfl rfl ?_
          refine Gol.lstore X102 hx hby at_429 (pc' := 431) rfl (l' := #[.val (.long q0), .second, .val (.int p1), .val (.int p2), .val (.ref b1), .val (.int (Int32.ofNat ps)), .val (.int kk), .val (.int (Int32.ofNat 12)), .val (.int (own_fc bs82 ps)), .val (.long ((((((((((own_tm (bs82.getD (ps + 0) 0) (0 : Int32) (own_fc bs82 ps)) ||| (own_tm (bs82.getD (ps + 1) 0) (1 : Int32) (own_fc bs82 ps))) ||| (own_tm (bs82.getD (ps + 2) 0) (2 : Int32) (own_fc bs82 ps))) ||| (own_tm (bs82.getD (ps + 3) 0) (3 : Int32) (own_fc bs82 ps))) ||| (own_tm (bs82.getD (ps + 4) 0) (4 : Int32) (own_fc bs82 ps))) ||| (own_tm (bs82.getD (ps + 5) 0) (5 : Int32) (own_fc bs82 ps))) ||| (own_tm (bs82.getD (ps + 6) 0) (6 : Int32) (own_fc bs82 ps))) ||| (own_tm (bs82.getD (ps + 7) 0) (7 : Int32) (own_fc bs82 ps))) ||| (own_tm (bs82.getD (ps + 8) 0) (8 : Int32) (own_fc bs82 ps))) ||| (own_tm (bs82.getD (ps + 9) 0) (9 : Int32) (own_fc bs82 ps)))), .second, .unset, .unset, .unset, .unset]) rfl ?_
          refine Gol.iload X102 hx hby at_431 (pc' := 433) rfl rfl ?_
          refine Gol.bipush X102 hx hby at_433 (pc' := 435) rfl (z := (10 : Int32)) rfl ?_
          refine Gol.callS X102 hx hby hZ hown 0 [(.int (own_fc bs82 ps)), (.int (10 : Int32))] (hw _ (List.mem_of_getElem? (i := 12) rfl)) (hw _ (List.mem_of_getElem? (i := 13) rfl)) (hw _ (List.mem_of_getElem? (i := 14) rfl)) (hw _ (List.mem_of_getElem? (i := 15) rfl)) (by decide) (rm4 l Z a0 hw [] (own_fc bs82 ps) (10 : Int32)  T82.heap n0 Zs ) (by decide) (by decide) eq102 (by rw [hml]; rfl) (rest := []) (Nat.le_of_eq rfl) (by decide) (by decide) (lenOf pd_2 rfl) rfl at_435 (pc' := 438) rfl ?_
          intro T103 v103 L103 X103 hQ103
          obtain ⟨rfl, Nq103, eq103⟩ := hQ103
          have N103 := Fr.app N102 Nq103
          show GolF _ _ _ _ _ _ _ T103 m 438 #[.val (.long q0), .second, .val (.int p1), .val (.int p2), .val (.ref b1), .val (.int (Int32.ofNat ps)), .val (.int kk), .val (.int (Int32.ofNat 12)), .val (.int (own_fc bs82 ps)), .val (.long ((((((((((own_tm (bs82.getD (ps + 0) 0) (0 : Int32) (own_fc bs82 ps)) ||| (own_tm (bs82.getD (ps + 1) 0) (1 : Int32) (own_fc bs82 ps))) ||| (own_tm (bs82.getD (ps + 2) 0) (2 : Int32) (own_fc bs82 ps))) ||| (own_tm (bs82.getD (ps + 3) 0) (3 : Int32) (own_fc bs82 ps))) ||| (own_tm (bs82.getD (ps + 4) 0) (4 : Int32) (own_fc bs82 ps))) ||| (own_tm (bs82.getD (ps + 5) 0) (5 : Int32) (own_fc bs82 ps))) ||| (own_tm (bs82.getD (ps + 6) 0) (6 : Int32) (own_fc bs82 ps))) ||| (own_tm (bs82.getD (ps + 7) 0) (7 : Int32) (own_fc bs82 ps))) ||| (own_tm (bs82.getD (ps + 8) 0) (8 : Int32) (own_fc bs82 ps))) ||| (own_tm (bs82.getD (ps + 9) 0) (9 : Int32) (own_fc bs82 ps)))), .second, .unset, .unset, .unset, .unset] [(.int (f4 (own_fc bs82 ps) (10 : Int32) ))]
          refine Gol.istore X103 hx hby at_438 (pc' := 440) rfl (l' := #[.val (.long q0), .second, .val (.int p1), .val (.int p2), .val (.ref b1), .val (.int (Int32.ofNat ps)), .val (.int kk), .val (.int (Int32.ofNat 12)), .val (.int (own_fc bs82 ps)), .val (.long ((((((((((own_tm (bs82.getD (ps + 0) 0) (0 : Int32) (own_fc bs82 ps)) ||| (own_tm (bs82.getD (ps + 1) 0) (1 : Int32) (own_fc bs82 ps))) ||| (own_tm (bs82.getD (ps + 2) 0) (2 : Int32) (own_fc bs82 ps))) ||| (own_tm (bs82.getD (ps + 3) 0) (3 : Int32) (own_fc bs82 ps))) ||| (own_tm (bs82.getD (ps + 4) 0) (4 : Int32) (own_fc bs82 ps))) ||| (own_tm (bs82.getD (ps + 5) 0) (5 : Int32) (own_fc bs82 ps))) ||| (own_tm (bs82.getD (ps + 6) 0) (6 : Int32) (own_fc bs82 ps))) ||| (own_tm (bs82.getD (ps + 7) 0) (7 : Int32) (own_fc bs82 ps))) ||| (own_tm (bs82.getD (ps + 8) 0) (8 : Int32) (own_fc bs82 ps))) ||| (own_tm (bs82.getD (ps + 9) 0) (9 : Int32) (own_fc bs82 ps)))), .second, .val (.int (f4 (own_fc bs82 ps) (10 : Int32) )), .unset, .unset, .unset]) rfl ?_
          refine Gol.newO X103 hx hby hZ hown (hw _ (List.mem_of_getElem? (i := 16) rfl)) (hw _ (List.mem_of_getElem? (i := 17) rfl)) (hw _ (List.mem_of_getElem? (i := 18) rfl)) eq103 at_440 (pc' := 443) rfl (by decide) (by decide) ?_
          intro T104 h104 b104 g104 X104 e104 E104 A104 D104
          have lo_b1_b104 : b1 < b104 := Nat.lt_of_lt_of_le V_b1.lt (Nat.le_of_eq g104.symm)
          have ne_b1_b104 : b1 ≠ b104 := Nat.ne_of_lt lo_b1_b104
          have g_b104 : n0 ≤ b104 := Nat.le_trans Zs (Nat.le_of_eq g104.symm)
          have V_b1 := V_b1.ext E104
          have Zs := Nat.le_trans Zs E104.1
          have E_b104 := A104
          have F_b104_bytes : Fld Z h104 b104 "com/example/interleaved_tables/interleavedtables/storage/DataFile$Input" "bytes" "[B" .null := D104 (Or.inr (hw _ (List.mem_of_getElem? (i := 26) rfl))) (ty := (.array .byte)) (by decide)
          have F_b104_position : Fld Z h104 b104 "com/example/interleaved_tables/interleavedtables/storage/DataFile$Input" "position" "I" (.int (0 : Int32)) := D104 (Or.inl (hw _ (List.mem_of_getElem? (i := 28) rfl))) (ty := .int) (by decide)
          have F_b104_end : Fld Z h104 b104 "com/example/interleaved_tables/interleavedtables/storage/DataFile$Input" "end" "I" (.int (0 : Int32)) := D104 (Or.inr (hw _ (List.mem_of_getElem? (i := 30) rfl))) (ty := .int) (by decide)
          refine Gol.dup X104 hx hby at_443 (pc' := 444) rfl rfl ?_
          refine Gol.aload X104 hx hby at_444 (pc' := 446) rfl rfl rfl ?_
          refine Gol.iload X104 hx hby at_446 (pc' := 448) rfl rfl ?_
          refine Gol.iload X104 hx hby at_448 (pc' := 450) rfl rfl ?_
          refine Gol.callI X104 hx hby hZ hown 1 [(.ref b1), (.int (Int32.ofNat ps)), (.int (Int32.ofNat 12))] (a := b104) (hw _ (List.mem_of_getElem? (i := 19) rfl)) (hw _ (List.mem_of_getElem? (i := 20) rfl)) (hw _ (List.mem_of_getElem? (i := 18) rfl)) rfl (hw _ (List.mem_of_getElem? (i := 21) rfl)) rfl (by decide) (rm5 l Z a0 hw [] b104 b1 (Int32.ofNat ps) (Int32.ofNat 12)  h104 n0 Zs ⟨E_b104, F_b104_bytes, F_b104_position, F_b104_end⟩ g_b104) (by decide) (by decide) e104 (by rw [hml]; rfl) (rest := [(.ref b104)]) (Nat.le_of_eq rfl) (by decide) (by decide) (lenOf pd_3 rfl) rfl at_450 (pc' := 453) rfl ?_
          intro T105 v105 L105 X105 hQ105
          obtain ⟨rfl, Nq105, Kq105, Oq105⟩ := hQ105
          have N105 := Fr.app N103 Nq105
          have E_b104 := E_b104.keep Kq105
          have V_b1 := V_b1.keep Kq105 (ninS ne_b1_b104 nin0)
          have Zs := Nat.le_trans Zs Kq105.1
          show GolF _ _ _ _ _ _ _ T105 m 453 #[.val (.long q0), .second, .val (.int p1), .val (.int p2), .val (.ref b1), .val (.int (Int32.ofNat ps)), .val (.int kk), .val (.int (Int32.ofNat 12)), .val (.int (own_fc bs82 ps)), .val (.long ((((((((((own_tm (bs82.getD (ps + 0) 0) (0 : Int32) (own_fc bs82 ps)) ||| (own_tm (bs82.getD (ps + 1) 0) (1 : Int32) (own_fc bs82 ps))) ||| (own_tm (bs82.getD (ps + 2) 0) (2 : Int32) (own_fc bs82 ps))) ||| (own_tm (bs82.getD (ps + 3) 0) (3 : Int32) (own_fc bs82 ps))) ||| (own_tm (bs82.getD (ps + 4) 0) (4 : Int32) (own_fc bs82 ps))) ||| (own_tm (bs82.getD (ps + 5) 0) (5 : Int32) (own_fc bs82 ps))) ||| (own_tm (bs82.getD (ps + 6) 0) (6 : Int32) (own_fc bs82 ps))) ||| (own_tm (bs82.getD (ps + 7) 0) (7 : Int32) (own_fc bs82 ps))) ||| (own_tm (bs82.getD (ps + 8) 0) (8 : Int32) (own_fc bs82 ps))) ||| (own_tm (bs82.getD (ps + 9) 0) (9 : Int32) (own_fc bs82 ps)))), .second, .val (.int (f4 (own_fc bs82 ps) (10 : Int32) )), .unset, .unset, .unset] [(.ref b104)]
          obtain ⟨E_b104, F_b104_bytes, F_b104_position, F_b104_end⟩ := Oq105
          refine Gol.astore X105 hx hby at_453 (pc' := 455) rfl rfl (l' := #[.val (.long q0), .second, .val (.int p1), .val (.int p2), .val (.ref b1), .val (.int (Int32.ofNat ps)), .val (.int kk), .val (.int (Int32.ofNat 12)), .val (.int (own_fc bs82 ps)), .val (.long ((((((((((own_tm (bs82.getD (ps + 0) 0) (0 : Int32) (own_fc bs82 ps)) ||| (own_tm (bs82.getD (ps + 1) 0) (1 : Int32) (own_fc bs82 ps))) ||| (own_tm (bs82.getD (ps + 2) 0) (2 : Int32) (own_fc bs82 ps))) ||| (own_tm (bs82.getD (ps + 3) 0) (3 : Int32) (own_fc bs82 ps))) ||| (own_tm (bs82.getD (ps + 4) 0) (4 : Int32) (own_fc bs82 ps))) ||| (own_tm (bs82.getD (ps + 5) 0) (5 : Int32) (own_fc bs82 ps))) ||| (own_tm (bs82.getD (ps + 6) 0) (6 : Int32) (own_fc bs82 ps))) ||| (own_tm (bs82.getD (ps + 7) 0) (7 : Int32) (own_fc bs82 ps))) ||| (own_tm (bs82.getD (ps + 8) 0) (8 : Int32) (own_fc bs82 ps))) ||| (own_tm (bs82.getD (ps + 9) 0) (9 : Int32) (own_fc bs82 ps)))), .second, .val (.int (f4 (own_fc bs82 ps) (10 : Int32) )), .val (.ref b104), .unset, .unset]) rfl ?_
          refine Gol.aload X105 hx hby at_455 (pc' := 457) rfl rfl rfl ?_
          refine Gol.callV X105 hx hby hZ hown 0 [] (a := b104) (hw _ (List.mem_of_getElem? (i := 31) rfl)) (hw _ (List.mem_of_getElem? (i := 32) rfl)) (notFace_of_selects (args := #[]) (mvT hZ (hw _ (List.mem_of_getElem? (i := 34) rfl)))) (hw _ (List.mem_of_getElem? (i := 34) rfl)) (hw _ (List.mem_of_getElem? (i := 33) rfl)) (hw _ (List.mem_of_getElem? (i := 18) rfl)) (hw _ (List.mem_of_getElem? (i := 35) rfl)) (by decide) E_b104 (rm7 l Z a0 hw [] b104 b1 k1 bs82 ps 12 T105.heap n0 Zs hps (by omega) (by omega) g_b104 ne_b1_b104.symm ⟨E_b104, F_b104_bytes, F_b104_position, F_b104_end⟩ V_b1) (by decide) (by decide) rfl (by rw [hml]; rfl) (rest := []) (Nat.le_of_eq rfl) (by decide) (by decide) (lenOf pd_4 rfl) rfl at_457 (pc' := 460) rfl ?_
          intro T106 v106 L106 X106 hQ106
          obtain ⟨rfl, Nq106, Kq106, Oq106⟩ := hQ106
          have N106 := Fr.app N105 Nq106
          have E_b104 := E_b104.keep Kq106
          have V_b1 := V_b1.keep Kq106 (ninS ne_b1_b104 nin0)
          have Zs := Nat.le_trans Zs Kq106.1
          show GolF _ _ _ _ _ _ _ T106 m 460 #[.val (.long q0), .second, .val (.int p1), .val (.int p2), .val (.ref b1), .val (.int (Int32.ofNat ps)), .val (.int kk), .val (.int (Int32.ofNat 12)), .val (.int (own_fc bs82 ps)), .val (.long ((((((((((own_tm (bs82.getD (ps + 0) 0) (0 : Int32) (own_fc bs82 ps)) ||| (own_tm (bs82.getD (ps + 1) 0) (1 : Int32) (own_fc bs82 ps))) ||| (own_tm (bs82.getD (ps + 2) 0) (2 : Int32) (own_fc bs82 ps))) ||| (own_tm (bs82.getD (ps + 3) 0) (3 : Int32) (own_fc bs82 ps))) ||| (own_tm (bs82.getD (ps + 4) 0) (4 : Int32) (own_fc bs82 ps))) ||| (own_tm (bs82.getD (ps + 5) 0) (5 : Int32) (own_fc bs82 ps))) ||| (own_tm (bs82.getD (ps + 6) 0) (6 : Int32) (own_fc bs82 ps))) ||| (own_tm (bs82.getD (ps + 7) 0) (7 : Int32) (own_fc bs82 ps))) ||| (own_tm (bs82.getD (ps + 8) 0) (8 : Int32) (own_fc bs82 ps))) ||| (own_tm (bs82.getD (ps + 9) 0) (9 : Int32) (own_fc bs82 ps)))), .second, .val (.int (f4 (own_fc bs82 ps) (10 : Int32) )), .val (.ref b104), .unset, .unset] [(.long (own_rn bs82 ps))]
          obtain ⟨E_b104, F_b104_bytes, F_b104_position, F_b104_end⟩ := Oq106
          refine Gol.lstore X106 hx hby at_460 (pc' := 462) rfl (l' := #[.val (.long q0), .second, .val (.int p1), .val (.int p2), .val (.ref b1), .val (.int (Int32.ofNat ps)), .val (.int kk), .val (.int (Int32.ofNat 12)), .val (.int (own_fc bs82 ps)), .val (.long ((((((((((own_tm (bs82.getD (ps + 0) 0) (0 : Int32) (own_fc bs82 ps)) ||| (own_tm (bs82.getD (ps + 1) 0) (1 : Int32) (own_fc bs82 ps))) ||| (own_tm (bs82.getD (ps + 2) 0) (2 : Int32) (own_fc bs82 ps))) ||| (own_tm (bs82.getD (ps + 3) 0) (3 : Int32) (own_fc bs82 ps))) ||| (own_tm (bs82.getD (ps + 4) 0) (4 : Int32) (own_fc bs82 ps))) ||| (own_tm (bs82.getD (ps + 5) 0) (5 : Int32) (own_fc bs82 ps))) ||| (own_tm (bs82.getD (ps + 6) 0) (6 : Int32) (own_fc bs82 ps))) ||| (own_tm (bs82.getD (ps + 7) 0) (7 : Int32) (own_fc bs82 ps))) ||| (own_tm (bs82.getD (ps + 8) 0) (8 : Int32) (own_fc bs82 ps))) ||| (own_tm (bs82.getD (ps + 9) 0) (9 : Int32) (own_fc bs82 ps)))), .second, .val (.int (f4 (own_fc bs82 ps) (10 : Int32) )), .val (.ref b104), .val (.long (own_rn bs82 ps)), .second]) rfl ?_
          refine Gol.lload X106 hx hby at_462 (pc' := 464) rfl rfl ?_
          refine Gol.lload X106 hx hby at_464 (pc' := 466) rfl rfl ?_
          refine Gol.lcmp X106 hx hby at_466 (pc' := 467) rfl ?_
          refine Gol.ifNo X106 hx hby at_467 (pc' := 470) rfl (teqL (own_pok (own_byte V_b1 (by omega)) hc279_84 (fun _ => hc305_92))).2 ?_
          refine Gol.aload X106 hx hby at_470 (pc' := 472) rfl rfl rfl ?_
          refine Gol.callV X106 hx hby hZ hown 0 [] (a := b104) (hw _ (List.mem_of_getElem? (i := 36) rfl)) (hw _ (List.mem_of_getElem? (i := 37) rfl)) (notFace_of_selects (args := #[]) (mvT hZ (hw _ (List.mem_of_getElem? (i := 39) rfl)))) (hw _ (List.mem_of_getElem? (i := 39) rfl)) (hw _ (List.mem_of_getElem? (i := 38) rfl)) (hw _ (List.mem_of_getElem? (i := 18) rfl)) (hw _ (List.mem_of_getElem? (i := 40) rfl)) (by decide) E_b104 (rm8 l Z a0 hw [] b104 (.ref b1) (Int32.ofNat (ps + own_cn bs82 ps)) (Int32.ofNat 12) T106.heap n0 Zs ⟨E_b104, F_b104_bytes, F_b104_position, F_b104_end⟩) (by decide) (by decide) rfl (by rw [hml]; rfl) (rest := []) (Nat.le_of_eq rfl) (by decide) (by decide) (lenOf pd_5 rfl) rfl at_472 (pc' := 475) rfl ?_
          intro T107 v107 L107 X107 hQ107
          obtain ⟨rfl, Nq107, eq107⟩ := hQ107
          have N107 := Fr.app N106 Nq107
          show GolF _ _ _ _ _ _ _ T107 m 475 #[.val (.long q0), .second, .val (.int p1), .val (.int p2), .val (.ref b1), .val (.int (Int32.ofNat ps)), .val (.int kk), .val (.int (Int32.ofNat 12)), .val (.int (own_fc bs82 ps)), .val (.long ((((((((((own_tm (bs82.getD (ps + 0) 0) (0 : Int32) (own_fc bs82 ps)) ||| (own_tm (bs82.getD (ps + 1) 0) (1 : Int32) (own_fc bs82 ps))) ||| (own_tm (bs82.getD (ps + 2) 0) (2 : Int32) (own_fc bs82 ps))) ||| (own_tm (bs82.getD (ps + 3) 0) (3 : Int32) (own_fc bs82 ps))) ||| (own_tm (bs82.getD (ps + 4) 0) (4 : Int32) (own_fc bs82 ps))) ||| (own_tm (bs82.getD (ps + 5) 0) (5 : Int32) (own_fc bs82 ps))) ||| (own_tm (bs82.getD (ps + 6) 0) (6 : Int32) (own_fc bs82 ps))) ||| (own_tm (bs82.getD (ps + 7) 0) (7 : Int32) (own_fc bs82 ps))) ||| (own_tm (bs82.getD (ps + 8) 0) (8 : Int32) (own_fc bs82 ps))) ||| (own_tm (bs82.getD (ps + 9) 0) (9 : Int32) (own_fc bs82 ps)))), .second, .val (.int (f4 (own_fc bs82 ps) (10 : Int32) )), .val (.ref b104), .val (.long (own_rn bs82 ps)), .second] [(.int (Int32.ofNat (ps + own_cn bs82 ps)))]
          refine Gol.iload X107 hx hby at_475 (pc' := 477) rfl rfl ?_
          refine Gol.iload X107 hx hby at_477 (pc' := 479) rfl rfl ?_
          refine Gol.iadd X107 hx hby at_479 (pc' := 480) rfl rfl ?_
          refine Gol.icmpNo X107 hx hby at_480 (pc' := 483) rfl (teq (own_pos (own_byte V_b1 (by omega)))).2 ?_
          refine Gol.aload X107 hx hby at_483 (pc' := 485) rfl rfl rfl ?_
          refine Gol.callV X107 hx hby hZ hown 0 [] (a := b104) (hw _ (List.mem_of_getElem? (i := 41) rfl)) (hw _ (List.mem_of_getElem? (i := 42) rfl)) (notFace_of_selects (args := #[]) (mvT hZ (hw _ (List.mem_of_getElem? (i := 44) rfl)))) (hw _ (List.mem_of_getElem? (i := 44) rfl)) (hw _ (List.mem_of_getElem? (i := 43) rfl)) (hw _ (List.mem_of_getElem? (i := 18) rfl)) (hw _ (List.mem_of_getElem? (i := 45) rfl)) (by decide) E_b104 (rm9 l Z a0 hw [] b104 (.ref b1) (Int32.ofNat (ps + own_cn bs82 ps)) (Int32.ofNat 12) T106.heap n0 Zs ⟨E_b104, F_b104_bytes, F_b104_position, F_b104_end⟩) (by decide) (by decide) eq107 (by rw [hml]; rfl) (rest := []) (Nat.le_of_eq rfl) (by decide) (by decide) (lenOf pd_5 rfl) rfl at_485 (pc' := 488) rfl ?_
          intro T108 v108 L108 X108 hQ108
          obtain ⟨rfl, Nq108, eq108⟩ := hQ108
          have N108 := Fr.app N107 Nq108
          show GolF _ _ _ _ _ _ _ T108 m 488 #[.val (.long q0), .second, .val (.int p1), .val (.int p2), .val (.ref b1), .val (.int (Int32.ofNat ps)), .val (.int kk), .val (.int (Int32.ofNat 12)), .val (.int (own_fc bs82 ps)), .val (.long ((((((((((own_tm (bs82.getD (ps + 0) 0) (0 : Int32) (own_fc bs82 ps)) ||| (own_tm (bs82.getD (ps + 1) 0) (1 : Int32) (own_fc bs82 ps))) ||| (own_tm (bs82.getD (ps + 2) 0) (2 : Int32) (own_fc bs82 ps))) ||| (own_tm (bs82.getD (ps + 3) 0) (3 : Int32) (own_fc bs82 ps))) ||| (own_tm (bs82.getD (ps + 4) 0) (4 : Int32) (own_fc bs82 ps))) ||| (own_tm (bs82.getD (ps + 5) 0) (5 : Int32) (own_fc bs82 ps))) ||| (own_tm (bs82.getD (ps + 6) 0) (6 : Int32) (own_fc bs82 ps))) ||| (own_tm (bs82.getD (ps + 7) 0) (7 : Int32) (own_fc bs82 ps))) ||| (own_tm (bs82.getD (ps + 8) 0) (8 : Int32) (own_fc bs82 ps))) ||| (own_tm (bs82.getD (ps + 9) 0) (9 : Int32) (own_fc bs82 ps)))), .second, .val (.int (f4 (own_fc bs82 ps) (10 : Int32) )), .val (.ref b104), .val (.long (own_rn bs82 ps)), .second] [(.int ((Int32.ofNat 12) - (Int32.ofNat (ps + own_cn bs82 ps))))]
          refine Gol.iload X108 hx hby at_488 (pc' := 490) rfl rfl ?_
          refine Gol.iload X108 hx hby at_490 (pc' := 492) rfl rfl ?_
          refine Gol.isub X108 hx hby at_492 (pc' := 493) rfl rfl ?_
          refine Gol.iload X108 hx hby at_493 (pc' := 495) rfl rfl ?_
          refine Gol.isub X108 hx hby at_495 (pc' := 496) rfl rfl ?_
          refine Gol.icmpNo X108 hx hby at_496 (pc' := 499) rfl (teq (own_left _ (own_byte V_b1 (by omega)))).2 ?_
          refine Gol.iconst X108 hx hby at_499 (pc' := 500) rfl (z := (1 : Int32)) rfl ?_
          refine Gol.goto X108 hx hby at_500 (pc' := 504) (by decide) ?_
          exact Gol.retN X108 hx hby (t := .boolean) Bd.returns (by simp) Bd.notSynchronized at_504 eq108 ⟨rfl, N108⟩ (by decide) (by decide)
        · skip
          refine Gol.ifNo X83 hx hby at_305 (pc' := 308) rfl ((if0 _ _).trans (feq hc305_92).1) ?_
          refine Gol.ldc2Long X83 hx hby hZ hown at_308 (pc' := 311) rfl (hw _ (List.mem_of_getElem? (i := 46) rfl)) ?_
          refine Gol.lstore X83 hx hby at_311 (pc' := 313) rfl (l' := #[.val (.long q0), .second, .val (.int p1), .val (.int p2), .val (.ref b1), .val (.int (Int32.ofNat ps)), .val (.int kk), .val (.int (Int32.ofNat 12)), .val (.int (own_fc bs82 ps)), .val (.long (-1 : Int64)), .second, .unset, .unset, .unset, .unset]) rfl ?_
          refine Gol.goto X83 hx hby at_313 (pc' := 431) (by decide) ?_
          refine Gol.iload X83 hx hby at_431 (pc' := 433) rfl rfl ?_
          refine Gol.bipush X83 hx hby at_433 (pc' := 435) rfl (z := (10 : Int32)) rfl ?_
          refine Gol.callS X83 hx hby hZ hown 0 [(.int (own_fc bs82 ps)), (.int (10 : Int32))] (hw _ (List.mem_of_getElem? (i := 12) rfl)) (hw _ (List.mem_of_getElem? (i := 13) rfl)) (hw _ (List.mem_of_getElem? (i := 14) rfl)) (hw _ (List.mem_of_getElem? (i := 15) rfl)) (by decide) (rm4 l Z a0 hw [] (own_fc bs82 ps) (10 : Int32)  T82.heap n0 Zs ) (by decide) (by decide) eq83 (by rw [hml]; rfl) (rest := []) (Nat.le_of_eq rfl) (by decide) (by decide) (lenOf pd_2 rfl) rfl at_435 (pc' := 438) rfl ?_
          intro T109 v109 L109 X109 hQ109
          obtain ⟨rfl, Nq109, eq109⟩ := hQ109
          have N109 := Fr.app N83 Nq109
          show GolF _ _ _ _ _ _ _ T109 m 438 #[.val (.long q0), .second, .val (.int p1), .val (.int p2), .val (.ref b1), .val (.int (Int32.ofNat ps)), .val (.int kk), .val (.int (Int32.ofNat 12)), .val (.int (own_fc bs82 ps)), .val (.long (-1 : Int64)), .second, .unset, .unset, .unset, .unset] [(.int (f4 (own_fc bs82 ps) (10 : Int32) ))]
          refine Gol.istore X109 hx hby at_438 (pc' := 440) rfl (l' := #[.val (.long q0), .second, .val (.int p1), .val (.int p2), .val (.ref b1), .val (.int (Int32.ofNat ps)), .val (.int kk), .val (.int (Int32.ofNat 12)), .val (.int (own_fc bs82 ps)), .val (.long (-1 : Int64)), .second, .val (.int (f4 (own_fc bs82 ps) (10 : Int32) )), .unset, .unset, .unset]) rfl ?_
          refine Gol.newO X109 hx hby hZ hown (hw _ (List.mem_of_getElem? (i := 16) rfl)) (hw _ (List.mem_of_getElem? (i := 17) rfl)) (hw _ (List.mem_of_getElem? (i := 18) rfl)) eq109 at_440 (pc' := 443) rfl (by decide) (by decide) ?_
          intro T110 h110 b110 g110 X110 e110 E110 A110 D110
          have lo_b1_b110 : b1 < b110 := Nat.lt_of_lt_of_le V_b1.lt (Nat.le_of_eq g110.symm)
          have ne_b1_b110 : b1 ≠ b110 := Nat.ne_of_lt lo_b1_b110
          have g_b110 : n0 ≤ b110 := Nat.le_trans Zs (Nat.le_of_eq g110.symm)
          have V_b1 := V_b1.ext E110
          have Zs := Nat.le_trans Zs E110.1
          have E_b110 := A110
          have F_b110_bytes : Fld Z h110 b110 "com/example/interleaved_tables/interleavedtables/storage/DataFile$Input" "bytes" "[B" .null := D110 (Or.inr (hw _ (List.mem_of_getElem? (i := 26) rfl))) (ty := (.array .byte)) (by decide)
          have F_b110_position : Fld Z h110 b110 "com/example/interleaved_tables/interleavedtables/storage/DataFile$Input" "position" "I" (.int (0 : Int32)) := D110 (Or.inl (hw _ (List.mem_of_getElem? (i := 28) rfl))) (ty := .int) (by decide)
          have F_b110_end : Fld Z h110 b110 "com/example/interleaved_tables/interleavedtables/storage/DataFile$Input" "end" "I" (.int (0 : Int32)) := D110 (Or.inr (hw _ (List.mem_of_getElem? (i := 30) rfl))) (ty := .int) (by decide)
          refine Gol.dup X110 hx hby at_443 (pc' := 444) rfl rfl ?_
          refine Gol.aload X110 hx hby at_444 (pc' := 446) rfl rfl rfl ?_
          refine Gol.iload X110 hx hby at_446 (pc' := 448) rfl rfl ?_
          refine Gol.iload X110 hx hby at_448 (pc' := 450) rfl rfl ?_
          refine Gol.callI X110 hx hby hZ hown 1 [(.ref b1), (.int (Int32.ofNat ps)), (.int (Int32.ofNat 12))] (a := b110) (hw _ (List.mem_of_getElem? (i := 19) rfl)) (hw _ (List.mem_of_getElem? (i := 20) rfl)) (hw _ (List.mem_of_getElem? (i := 18) rfl)) rfl (hw _ (List.mem_of_getElem? (i := 21) rfl)) rfl (by decide) (rm5 l Z a0 hw [] b110 b1 (Int32.ofNat ps) (Int32.ofNat 12)  h110 n0 Zs ⟨E_b110, F_b110_bytes, F_b110_position, F_b110_end⟩ g_b110) (by decide) (by decide) e110 (by rw [hml]; rfl) (rest := [(.ref b110)]) (Nat.le_of_eq rfl) (by decide) (by decide) (lenOf pd_3 rfl) rfl at_450 (pc' := 453) rfl ?_
          intro T111 v111 L111 X111 hQ111
          obtain ⟨rfl, Nq111, Kq111, Oq111⟩ := hQ111
          have N111 := Fr.app N109 Nq111
          have E_b110 := E_b110.keep Kq111
          have V_b1 := V_b1.keep Kq111 (ninS ne_b1_b110 nin0)
          have Zs := Nat.le_trans Zs Kq111.1
          show GolF _ _ _ _ _ _ _ T111 m 453 #[.val (.long q0), .second, .val (.int p1), .val (.int p2), .val (.ref b1), .val (.int (Int32.ofNat ps)), .val (.int kk), .val (.int (Int32.ofNat 12)), .val (.int (own_fc bs82 ps)), .val (.long (-1 : Int64)), .second, .val (.int (f4 (own_fc bs82 ps) (10 : Int32) )), .unset, .unset, .unset] [(.ref b110)]
          obtain ⟨E_b110, F_b110_bytes, F_b110_position, F_b110_end⟩ := Oq111
          refine Gol.astore X111 hx hby at_453 (pc' := 455) rfl rfl (l' := #[.val (.long q0), .second, .val (.int p1), .val (.int p2), .val (.ref b1), .val (.int (Int32.ofNat ps)), .val (.int kk), .val (.int (Int32.ofNat 12)), .val (.int (own_fc bs82 ps)), .val (.long (-1 : Int64)), .second, .val (.int (f4 (own_fc bs82 ps) (10 : Int32) )), .val (.ref b110), .unset, .unset]) rfl ?_
          refine Gol.aload X111 hx hby at_455 (pc' := 457) rfl rfl rfl ?_
          refine Gol.callV X111 hx hby hZ hown 0 [] (a := b110) (hw _ (List.mem_of_getElem? (i := 31) rfl)) (hw _ (List.mem_of_getElem? (i := 32) rfl)) (notFace_of_selects (args := #[]) (mvT hZ (hw _ (List.mem_of_getElem? (i := 34) rfl)))) (hw _ (List.mem_of_getElem? (i := 34) rfl)) (hw _ (List.mem_of_getElem? (i := 33) rfl)) (hw _ (List.mem_of_getElem? (i := 18) rfl)) (hw _ (List.mem_of_getElem? (i := 35) rfl)) (by decide) E_b110 (rm7 l Z a0 hw [] b110 b1 k1 bs82 ps 12 T111.heap n0 Zs hps (by omega) (by omega) g_b110 ne_b1_b110.symm ⟨E_b110, F_b110_bytes, F_b110_position, F_b110_end⟩ V_b1) (by decide) (by decide) rfl (by rw [hml]; rfl) (rest := []) (Nat.le_of_eq rfl) (by decide) (by decide) (lenOf pd_4 rfl) rfl at_457 (pc' := 460) rfl ?_
          intro T112 v112 L112 X112 hQ112
          obtain ⟨rfl, Nq112, Kq112, Oq112⟩ := hQ112
          have N112 := Fr.app N111 Nq112
          have E_b110 := E_b110.keep Kq112
          have V_b1 := V_b1.keep Kq112 (ninS ne_b1_b110 nin0)
          have Zs := Nat.le_trans Zs Kq112.1
          show GolF _ _ _ _ _ _ _ T112 m 460 #[.val (.long q0), .second, .val (.int p1), .val (.int p2), .val (.ref b1), .val (.int (Int32.ofNat ps)), .val (.int kk), .val (.int (Int32.ofNat 12)), .val (.int (own_fc bs82 ps)), .val (.long (-1 : Int64)), .second, .val (.int (f4 (own_fc bs82 ps) (10 : Int32) )), .val (.ref b110), .unset, .unset] [(.long (own_rn bs82 ps))]
          obtain ⟨E_b110, F_b110_bytes, F_b110_position, F_b110_end⟩ := Oq112
          refine Gol.lstore X112 hx hby at_460 (pc' := 462) rfl (l' := #[.val (.long q0), .second, .val (.int p1), .val (.int p2), .val (.ref b1), .val (.int (Int32.ofNat ps)), .val (.int kk), .val (.int (Int32.ofNat 12)), .val (.int (own_fc bs82 ps)), .val (.long (-1 : Int64)), .second, .val (.int (f4 (own_fc bs82 ps) (10 : Int32) )), .val (.ref b110), .val (.long (own_rn bs82 ps)), .second]) rfl ?_
          refine Gol.lload X112 hx hby at_462 (pc' := 464) rfl rfl ?_
          refine Gol.lload X112 hx hby at_464 (pc' := 466) rfl rfl ?_
          refine Gol.lcmp X112 hx hby at_466 (pc' := 467) rfl ?_
          refine Gol.ifNo X112 hx hby at_467 (pc' := 470) rfl (teqL (own_p10 (own_byte V_b1 (by omega)) hc294_91 hc305_92)).2 ?_
          refine Gol.aload X112 hx hby at_470 (pc' := 472) rfl rfl rfl ?_
          refine Gol.callV X112 hx hby hZ hown 0 [] (a := b110) (hw _ (List.mem_of_getElem? (i := 36) rfl)) (hw _ (List.mem_of_getElem? (i := 37) rfl)) (notFace_of_selects (args := #[]) (mvT hZ (hw _ (List.mem_of_getElem? (i := 39) rfl)))) (hw _ (List.mem_of_getElem? (i := 39) rfl)) (hw _ (List.mem_of_getElem? (i := 38) rfl)) (hw _ (List.mem_of_getElem? (i := 18) rfl)) (hw _ (List.mem_of_getElem? (i := 40) rfl)) (by decide) E_b110 (rm8 l Z a0 hw [] b110 (.ref b1) (Int32.ofNat (ps + own_cn bs82 ps)) (Int32.ofNat 12) T112.heap n0 Zs ⟨E_b110, F_b110_bytes, F_b110_position, F_b110_end⟩) (by decide) (by decide) rfl (by rw [hml]; rfl) (rest := []) (Nat.le_of_eq rfl) (by decide) (by decide) (lenOf pd_5 rfl) rfl at_472 (pc' := 475) rfl ?_
          intro T113 v113 L113 X113 hQ113
          obtain ⟨rfl, Nq113, eq113⟩ := hQ113
          have N113 := Fr.app N112 Nq113
          show GolF _ _ _ _ _ _ _ T113 m 475 #[.val (.long q0), .second, .val (.int p1), .val (.int p2), .val (.ref b1), .val (.int (Int32.ofNat ps)), .val (.int kk), .val (.int (Int32.ofNat 12)), .val (.int (own_fc bs82 ps)), .val (.long (-1 : Int64)), .second, .val (.int (f4 (own_fc bs82 ps) (10 : Int32) )), .val (.ref b110), .val (.long (own_rn bs82 ps)), .second] [(.int (Int32.ofNat (ps + own_cn bs82 ps)))]
          refine Gol.iload X113 hx hby at_475 (pc' := 477) rfl rfl ?_
          refine Gol.iload X113 hx hby at_477 (pc' := 479) rfl rfl ?_
          refine Gol.iadd X113 hx hby at_479 (pc' := 480) rfl rfl ?_
          refine Gol.icmpNo X113 hx hby at_480 (pc' := 483) rfl (teq (own_pos (own_byte V_b1 (by omega)))).2 ?_
          refine Gol.aload X113 hx hby at_483 (pc' := 485) rfl rfl rfl ?_
          refine Gol.callV X113 hx hby hZ hown 0 [] (a := b110) (hw _ (List.mem_of_getElem? (i := 41) rfl)) (hw _ (List.mem_of_getElem? (i := 42) rfl)) (notFace_of_selects (args := #[]) (mvT hZ (hw _ (List.mem_of_getElem? (i := 44) rfl)))) (hw _ (List.mem_of_getElem? (i := 44) rfl)) (hw _ (List.mem_of_getElem? (i := 43) rfl)) (hw _ (List.mem_of_getElem? (i := 18) rfl)) (hw _ (List.mem_of_getElem? (i := 45) rfl)) (by decide) E_b110 (rm9 l Z a0 hw [] b110 (.ref b1) (Int32.ofNat (ps + own_cn bs82 ps)) (Int32.ofNat 12) T112.heap n0 Zs ⟨E_b110, F_b110_bytes, F_b110_position, F_b110_end⟩) (by decide) (by decide) eq113 (by rw [hml]; rfl) (rest := []) (Nat.le_of_eq rfl) (by decide) (by decide) (lenOf pd_5 rfl) rfl at_485 (pc' := 488) rfl ?_
          intro T114 v114 L114 X114 hQ114
          obtain ⟨rfl, Nq114, eq114⟩ := hQ114
          have N114 := Fr.app N113 Nq114
          show GolF _ _ _ _ _ _ _ T114 m 488 #[.val (.long q0), .second, .val (.int p1), .val (.int p2), .val (.ref b1), .val (.int (Int32.ofNat ps)), .val (.int kk), .val (.int (Int32.ofNat 12)), .val (.int (own_fc bs82 ps)), .val (.long (-1 : Int64)), .second, .val (.int (f4 (own_fc bs82 ps) (10 : Int32) )), .val (.ref b110), .val (.long (own_rn bs82 ps)), .second] [(.int ((Int32.ofNat 12) - (Int32.ofNat (ps + own_cn bs82 ps))))]
          refine Gol.iload X114 hx hby at_488 (pc' := 490) rfl rfl ?_
          refine Gol.iload X114 hx hby at_490 (pc' := 492) rfl rfl ?_
          refine Gol.isub X114 hx hby at_492 (pc' := 493) rfl rfl ?_
          refine Gol.iload X114 hx hby at_493 (pc' := 495) rfl rfl ?_
          refine Gol.isub X114 hx hby at_495 (pc' := 496) rfl rfl ?_
          refine Gol.icmpNo X114 hx hby at_496 (pc' := 499) rfl (teq (own_left _ (own_byte V_b1 (by omega)))).2 ?_
          refine Gol.iconst X114 hx hby at_499 (pc' := 500) rfl (z := (1 : Int32)) rfl ?_
          refine Gol.goto X114 hx hby at_500 (pc' := 504) (by decide) ?_
          exact Gol.retN X114 hx hby (t := .boolean) Bd.returns (by simp) Bd.notSynchronized at_504 eq114 ⟨rfl, N114⟩ (by decide) (by decide)
      · skip
        refine Gol.icmpYes X83 hx hby at_294 (pc' := 316) (by decide) (feq hc294_91).2 ?_
        refine Gol.aload X83 hx hby at_316 (pc' := 318) rfl rfl rfl ?_
        refine Gol.iload X83 hx hby at_318 (pc' := 320) rfl rfl ?_
        refine Gol.iconst X83 hx hby at_320 (pc' := 321) rfl (z := (0 : Int32)) rfl ?_
        refine Gol.iload X83 hx hby at_321 (pc' := 323) rfl rfl ?_
        refine Gol.callS X83 hx hby hZ hown 0 [(.ref b1), (.int (Int32.ofNat ps)), (.int (0 : Int32)), (.int (own_fc bs82 ps))] (hw _ (List.mem_of_getElem? (i := 9) rfl)) (hw _ (List.mem_of_getElem? (i := 10) rfl)) (hw _ (List.mem_of_getElem? (i := 4) rfl)) (hw _ (List.mem_of_getElem? (i := 11) rfl)) (by decide) (rm3 l Z a0 hw [] b1 (Int32.ofNat ps) (0 : Int32) (own_fc bs82 ps) k1 bs82 (ps + 0) T82.heap n0 Zs (own_addk ps 0) (by omega) V_b1) (by decide) (by decide) eq83 (by rw [hml]; rfl) (rest := []) (Nat.le_of_eq rfl) (by decide) (by decide) (lenOf pd_6 rfl) rfl at_323 (pc' := 326) rfl ?_
        intro T115 v115 L115 X115 hQ115
        obtain ⟨rfl, Nq115, eq115⟩ := hQ115
        have N115 := Fr.app N83 Nq115
        show GolF _ _ _ _ _ _ _ T115 m 326 #[.val (.long q0), .second, .val (.int p1), .val (.int p2), .val (.ref b1), .val (.int (Int32.ofNat ps)), .val (.int kk), .val (.int (Int32.ofNat 12)), .val (.int (own_fc bs82 ps)), .unset, .unset, .unset, .unset, .unset, .unset] [(.long (own_tm (bs82.getD (ps + 0) 0) (0 : Int32) (own_fc bs82 ps)))]
        refine Gol.aload X115 hx hby at_326 (pc' := 328) rfl rfl rfl ?_
        refine Gol.iload X115 hx hby at_328 (pc' := 330) rfl rfl ?_
        refine Gol.iconst X115 hx hby at_330 (pc' := 331) rfl (z := (1 : Int32)) rfl ?_
        refine Gol.iload X115 hx hby at_331 (pc' := 333) rfl rfl ?_
        refine Gol.callS X115 hx hby hZ hown 2 [(.ref b1), (.int (Int32.ofNat ps)), (.int (1 : Int32)), (.int (own_fc bs82 ps))] (hw _ (List.mem_of_getElem? (i := 9) rfl)) (hw _ (List.mem_of_getElem? (i := 10) rfl)) (hw _ (List.mem_of_getElem? (i := 4) rfl)) (hw _ (List.mem_of_getElem? (i := 11) rfl)) (by decide) (rm3 l Z a0 hw [] b1 (Int32.ofNat ps) (1 : Int32) (own_fc bs82 ps) k1 bs82 (ps + 1) T82.heap n0 Zs (own_addk ps 1) (by omega) V_b1) (by decide) (by decide) eq115 (by rw [hml]; rfl) (rest := [(.long (own_tm (bs82.getD (ps + 0) 0) (0 : Int32) (own_fc bs82 ps)))]) (Nat.le_of_eq rfl) (by decide) (by decide) (lenOf pd_6 rfl) rfl at_333 (pc' := 336) rfl ?_
        intro T116 v116 L116 X116 hQ116
        obtain ⟨rfl, Nq116, eq116⟩ := hQ116
        have N116 := Fr.app N115 Nq116
        show GolF _ _ _ _ _ _ _ T116 m 336 #[.val (.long q0), .second, .val (.int p1), .val (.int p2), .val (.ref b1), .val (.int (Int32.ofNat ps)), .val (.int kk), .val (.int (Int32.ofNat 12)), .val (.int (own_fc bs82 ps)), .unset, .unset, .unset, .unset, .unset, .unset] [(.long (own_tm (bs82.getD (ps + 1) 0) (1 : Int32) (own_fc bs82 ps))), (.long (own_tm (bs82.getD (ps + 0) 0) (0 : Int32) (own_fc bs82 ps)))]
        refine Gol.lor X116 hx hby at_336 (pc' := 337) rfl rfl ?_
        refine Gol.aload X116 hx hby at_337 (pc' := 339) rfl rfl rfl ?_
        refine Gol.iload X116 hx hby at_339 (pc' := 341) rfl rfl ?_
        refine Gol.iconst X116 hx hby at_341 (pc' := 342) rfl (z := (2 : Int32)) rfl ?_
        refine Gol.iload X116 hx hby at_342 (pc' := 344) rfl rfl ?_
        refine Gol.callS X116 hx hby hZ hown 2 [(.ref b1), (.int (Int32.ofNat ps)), (.int (2 : Int32)), (.int (own_fc bs82 ps))] (hw _ (List.mem_of_getElem? (i := 9) rfl)) (hw _ (List.mem_of_getElem? (i := 10) rfl)) (hw _ (List.mem_of_getElem? (i := 4) rfl)) (hw _ (List.mem_of_getElem? (i := 11) rfl)) (by decide) (rm3 l Z a0 hw [] b1 (Int32.ofNat ps) (2 : Int32) (own_fc bs82 ps) k1 bs82 (ps + 2) T82.heap n0 Zs (own_addk ps 2) (by omega) V_b1) (by decide) (by decide) eq116 (by rw [hml]; rfl) (rest := [(.long ((own_tm (bs82.getD (ps + 0) 0) (0 : Int32) (own_fc bs82 ps)) ||| (own_tm (bs82.getD (ps + 1) 0) (1 : Int32) (own_fc bs82 ps))))]) (Nat.le_of_eq rfl) (by decide) (by decide) (lenOf pd_6 rfl) rfl at_344 (pc' := 347) rfl ?_
        intro T117 v117 L117 X117 hQ117
        obtain ⟨rfl, Nq117, eq117⟩ := hQ117
        have N117 := Fr.app N116 Nq117
        show GolF _ _ _ _ _ _ _ T117 m 347 #[.val (.long q0), .second, .val (.int p1), .val (.int p2), .val (.ref b1), .val (.int (Int32.ofNat ps)), .val (.int kk), .val (.int (Int32.ofNat 12)), .val (.int (own_fc bs82 ps)), .unset, .unset, .unset, .unset, .unset, .unset] [(.long (own_tm (bs82.getD (ps + 2) 0) (2 : Int32) (own_fc bs82 ps))), (.long ((own_tm (bs82.getD (ps + 0) 0) (0 : Int32) (own_fc bs82 ps)) ||| (own_tm (bs82.getD (ps + 1) 0) (1 : Int32) (own_fc bs82 ps))))]
        refine Gol.lor X117 hx hby at_347 (pc' := 348) rfl rfl ?_
        refine Gol.aload X117 hx hby at_348 (pc' := 350) rfl rfl rfl ?_
        refine Gol.iload X117 hx hby at_350 (pc' := 352) rfl rfl ?_
        refine Gol.iconst X117 hx hby at_352 (pc' := 353) rfl (z := (3 : Int32)) rfl ?_
        refine Gol.iload X117 hx hby at_353 (pc' := 355) rfl rfl ?_
        refine Gol.callS X117 hx hby hZ hown 2 [(.ref b1), (.int (Int32.ofNat ps)), (.int (3 : Int32)), (.int (own_fc bs82 ps))] (hw _ (List.mem_of_getElem? (i := 9) rfl)) (hw _ (List.mem_of_getElem? (i := 10) rfl)) (hw _ (List.mem_of_getElem? (i := 4) rfl)) (hw _ (List.mem_of_getElem? (i := 11) rfl)) (by decide) (rm3 l Z a0 hw [] b1 (Int32.ofNat ps) (3 : Int32) (own_fc bs82 ps) k1 bs82 (ps + 3) T82.heap n0 Zs (own_addk ps 3) (by omega) V_b1) (by decide) (by decide) eq117 (by rw [hml]; rfl) (rest := [(.long (((own_tm (bs82.getD (ps + 0) 0) (0 : Int32) (own_fc bs82 ps)) ||| (own_tm (bs82.getD (ps + 1) 0) (1 : Int32) (own_fc bs82 ps))) ||| (own_tm (bs82.getD (ps + 2) 0) (2 : Int32) (own_fc bs82 ps))))]) (Nat.le_of_eq rfl) (by decide) (by decide) (lenOf pd_6 rfl) rfl at_355 (pc' := 358) rfl ?_
        intro T118 v118 L118 X118 hQ118
        obtain ⟨rfl, Nq118, eq118⟩ := hQ118
        have N118 := Fr.app N117 Nq118
        show GolF _ _ _ _ _ _ _ T118 m 358 #[.val (.long q0), .second, .val (.int p1), .val (.int p2), .val (.ref b1), .val (.int (Int32.ofNat ps)), .val (.int kk), .val (.int (Int32.ofNat 12)), .val (.int (own_fc bs82 ps)), .unset, .unset, .unset, .unset, .unset, .unset] [(.long (own_tm (bs82.getD (ps + 3) 0) (3 : Int32) (own_fc bs82 ps))), (.long (((own_tm (bs82.getD (ps + 0) 0) (0 : Int32) (own_fc bs82 ps)) ||| (own_tm (bs82.getD (ps + 1) 0) (1 : Int32) (own_fc bs82 ps))) ||| (own_tm (bs82.getD (ps + 2) 0) (2 : Int32) (own_fc bs82 ps))))]
        refine Gol.lor X118 hx hby at_358 (pc' := 359) rfl rfl ?_
        refine Gol.aload X118 hx hby at_359 (pc' := 361) rfl rfl rfl ?_
        refine Gol.iload X118 hx hby at_361 (pc' := 363) rfl rfl ?_
        refine Gol.iconst X118 hx hby at_363 (pc' := 364) rfl (z := (4 : Int32)) rfl ?_
        refine Gol.iload X118 hx hby at_364 (pc' := 366) rfl rfl ?_
        refine Gol.callS X118 hx hby hZ hown 2 [(.ref b1), (.int (Int32.ofNat ps)), (.int (4 : Int32)), (.int (own_fc bs82 ps))] (hw _ (List.mem_of_getElem? (i := 9) rfl)) (hw _ (List.mem_of_getElem? (i := 10) rfl)) (hw _ (List.mem_of_getElem? (i := 4) rfl)) (hw _ (List.mem_of_getElem? (i := 11) rfl)) (by decide) (rm3 l Z a0 hw [] b1 (Int32.ofNat ps) (4 : Int32) (own_fc bs82 ps) k1 bs82 (ps + 4) T82.heap n0 Zs (own_addk ps 4) (by omega) V_b1) (by decide) (by decide) eq118 (by rw [hml]; rfl) (rest := [(.long ((((own_tm (bs82.getD (ps + 0) 0) (0 : Int32) (own_fc bs82 ps)) ||| (own_tm (bs82.getD (ps + 1) 0) (1 : Int32) (own_fc bs82 ps))) ||| (own_tm (bs82.getD (ps + 2) 0) (2 : Int32) (own_fc bs82 ps))) ||| (own_tm (bs82.getD (ps + 3) 0) (3 : Int32) (own_fc bs82 ps))))]) (Nat.le_of_eq rfl) (by decide) (by decide) (lenOf pd_6 rfl) rfl at_366 (pc' := 369) rfl ?_
        intro T119 v119 L119 X119 hQ119
        obtain ⟨rfl, Nq119, eq119⟩ := hQ119
        have N119 := Fr.app N118 Nq119
        show GolF _ _ _ _ _ _ _ T119 m 369 #[.val (.long q0), .second, .val (.int p1), .val (.int p2), .val (.ref b1), .val (.int (Int32.ofNat ps)), .val (.int kk), .val (.int (Int32.ofNat 12)), .val (.int (own_fc bs82 ps)), .unset, .unset, .unset, .unset, .unset, .unset] [(.long (own_tm (bs82.getD (ps + 4) 0) (4 : Int32) (own_fc bs82 ps))), (.long ((((own_tm (bs82.getD (ps + 0) 0) (0 : Int32) (own_fc bs82 ps)) ||| (own_tm (bs82.getD (ps + 1) 0) (1 : Int32) (own_fc bs82 ps))) ||| (own_tm (bs82.getD (ps + 2) 0) (2 : Int32) (own_fc bs82 ps))) ||| (own_tm (bs82.getD (ps + 3) 0) (3 : Int32) (own_fc bs82 ps))))]
        refine Gol.lor X119 hx hby at_369 (pc' := 370) rfl rfl ?_
        refine Gol.aload X119 hx hby at_370 (pc' := 372) rfl rfl rfl ?_
        refine Gol.iload X119 hx hby at_372 (pc' := 374) rfl rfl ?_
        refine Gol.iconst X119 hx hby at_374 (pc' := 375) rfl (z := (5 : Int32)) rfl ?_
        refine Gol.iload X119 hx hby at_375 (pc' := 377) rfl rfl ?_
        refine Gol.callS X119 hx hby hZ hown 2 [(.ref b1), (.int (Int32.ofNat ps)), (.int (5 : Int32)), (.int (own_fc bs82 ps))] (hw _ (List.mem_of_getElem? (i := 9) rfl)) (hw _ (List.mem_of_getElem? (i := 10) rfl)) (hw _ (List.mem_of_getElem? (i := 4) rfl)) (hw _ (List.mem_of_getElem? (i := 11) rfl)) (by decide) (rm3 l Z a0 hw [] b1 (Int32.ofNat ps) (5 : Int32) (own_fc bs82 ps) k1 bs82 (ps + 5) T82.heap n0 Zs (own_addk ps 5) (by omega) V_b1) (by decide) (by decide) eq119 (by rw [hml]; rfl) (rest := [(.long (((((own_tm (bs82.getD (ps + 0) 0) (0 : Int32) (own_fc bs82 ps)) ||| (own_tm (bs82.getD (ps + 1) 0) (1 : Int32) (own_fc bs82 ps))) ||| (own_tm (bs82.getD (ps + 2) 0) (2 : Int32) (own_fc bs82 ps))) ||| (own_tm (bs82.getD (ps + 3) 0) (3 : Int32) (own_fc bs82 ps))) ||| (own_tm (bs82.getD (ps + 4) 0) (4 : Int32) (own_fc bs82 ps))))]) (Nat.le_of_eq rfl) (by decide) (by decide) (lenOf pd_6 rfl) rfl at_377 (pc' := 380) rfl ?_
        intro T120 v120 L120 X120 hQ120
        obtain ⟨rfl, Nq120, eq120⟩ := hQ120
        have N120 := Fr.app N119 Nq120
        show GolF _ _ _ _ _ _ _ T120 m 380 #[.val (.long q0), .second, .val (.int p1), .val (.int p2), .val (.ref b1), .val (.int (Int32.ofNat ps)), .val (.int kk), .val (.int (Int32.ofNat 12)), .val (.int (own_fc bs82 ps)), .unset, .unset, .unset, .unset, .unset, .unset] [(.long (own_tm (bs82.getD (ps + 5) 0) (5 : Int32) (own_fc bs82 ps))), (.long (((((own_tm (bs82.getD (ps + 0) 0) (0 : Int32) (own_fc bs82 ps)) ||| (own_tm (bs82.getD (ps + 1) 0) (1 : Int32) (own_fc bs82 ps))) ||| (own_tm (bs82.getD (ps + 2) 0) (2 : Int32) (own_fc bs82 ps))) ||| (own_tm (bs82.getD (ps + 3) 0) (3 : Int32) (own_fc bs82 ps))) ||| (own_tm (bs82.getD (ps + 4) 0) (4 : Int32) (own_fc bs82 ps))))]
        refine Gol.lor X120 hx hby at_380 (pc' := 381) rfl rfl ?_
        refine Gol.aload X120 hx hby at_381 (pc' := 383) rfl rfl rfl ?_
        refine Gol.iload X120 hx hby at_383 (pc' := 385) rfl rfl ?_
        refine Gol.bipush X120 hx hby at_385 (pc' := 387) rfl (z := (6 : Int32)) rfl ?_
        refine Gol.iload X120 hx hby at_387 (pc' := 389) rfl rfl ?_
        refine Gol.callS X120 hx hby hZ hown 2 [(.ref b1), (.int (Int32.ofNat ps)), (.int (6 : Int32)), (.int (own_fc bs82 ps))] (hw _ (List.mem_of_getElem? (i := 9) rfl)) (hw _ (List.mem_of_getElem? (i := 10) rfl)) (hw _ (List.mem_of_getElem? (i := 4) rfl)) (hw _ (List.mem_of_getElem? (i := 11) rfl)) (by decide) (rm3 l Z a0 hw [] b1 (Int32.ofNat ps) (6 : Int32) (own_fc bs82 ps) k1 bs82 (ps + 6) T82.heap n0 Zs (own_addk ps 6) (by omega) V_b1) (by decide) (by decide) eq120 (by rw [hml]; rfl) (rest := [(.long ((((((own_tm (bs82.getD (ps + 0) 0) (0 : Int32) (own_fc bs82 ps)) ||| (own_tm (bs82.getD (ps + 1) 0) (1 : Int32) (own_fc bs82 ps))) ||| (own_tm (bs82.getD (ps + 2) 0) (2 : Int32) (own_fc bs82 ps))) ||| (own_tm (bs82.getD (ps + 3) 0) (3 : Int32) (own_fc bs82 ps))) ||| (own_tm (bs82.getD (ps + 4) 0) (4 : Int32) (own_fc bs82 ps))) ||| (own_tm (bs82.getD (ps + 5) 0) (5 : Int32) (own_fc bs82 ps))))]) (Nat.le_of_eq rfl) (by decide) (by decide) (lenOf pd_6 rfl) rfl at_389 (pc' := 392) rfl ?_
        intro T121 v121 L121 X121 hQ121
        obtain ⟨rfl, Nq121, eq121⟩ := hQ121
        have N121 := Fr.app N120 Nq121
        show GolF _ _ _ _ _ _ _ T121 m 392 #[.val (.long q0), .second, .val (.int p1), .val (.int p2), .val (.ref b1), .val (.int (Int32.ofNat ps)), .val (.int kk), .val (.int (Int32.ofNat 12)), .val (.int (own_fc bs82 ps)), .unset, .unset, .unset, .unset, .unset, .unset] [(.long (own_tm (bs82.getD (ps + 6) 0) (6 : Int32) (own_fc bs82 ps))), (.long ((((((own_tm (bs82.getD (ps + 0) 0) (0 : Int32) (own_fc bs82 ps)) ||| (own_tm (bs82.getD (ps + 1) 0) (1 : Int32) (own_fc bs82 ps))) ||| (own_tm (bs82.getD (ps + 2) 0) (2 : Int32) (own_fc bs82 ps))) ||| (own_tm (bs82.getD (ps + 3) 0) (3 : Int32) (own_fc bs82 ps))) ||| (own_tm (bs82.getD (ps + 4) 0) (4 : Int32) (own_fc bs82 ps))) ||| (own_tm (bs82.getD (ps + 5) 0) (5 : Int32) (own_fc bs82 ps))))]
        refine Gol.lor X121 hx hby at_392 (pc' := 393) rfl rfl ?_
        refine Gol.aload X121 hx hby at_393 (pc' := 395) rfl rfl rfl ?_
        refine Gol.iload X121 hx hby at_395 (pc' := 397) rfl rfl ?_
        refine Gol.bipush X121 hx hby at_397 (pc' := 399) rfl (z := (7 : Int32)) rfl ?_
        refine Gol.iload X121 hx hby at_399 (pc' := 401) rfl rfl ?_
        refine Gol.callS X121 hx hby hZ hown 2 [(.ref b1), (.int (Int32.ofNat ps)), (.int (7 : Int32)), (.int (own_fc bs82 ps))] (hw _ (List.mem_of_getElem? (i := 9) rfl)) (hw _ (List.mem_of_getElem? (i := 10) rfl)) (hw _ (List.mem_of_getElem? (i := 4) rfl)) (hw _ (List.mem_of_getElem? (i := 11) rfl)) (by decide) (rm3 l Z a0 hw [] b1 (Int32.ofNat ps) (7 : Int32) (own_fc bs82 ps) k1 bs82 (ps + 7) T82.heap n0 Zs (own_addk ps 7) (by omega) V_b1) (by decide) (by decide) eq121 (by rw [hml]; rfl) (rest := [(.long (((((((own_tm (bs82.getD (ps + 0) 0) (0 : Int32) (own_fc bs82 ps)) ||| (own_tm (bs82.getD (ps + 1) 0) (1 : Int32) (own_fc bs82 ps))) ||| (own_tm (bs82.getD (ps + 2) 0) (2 : Int32) (own_fc bs82 ps))) ||| (own_tm (bs82.getD (ps + 3) 0) (3 : Int32) (own_fc bs82 ps))) ||| (own_tm (bs82.getD (ps + 4) 0) (4 : Int32) (own_fc bs82 ps))) ||| (own_tm (bs82.getD (ps + 5) 0) (5 : Int32) (own_fc bs82 ps))) ||| (own_tm (bs82.getD (ps + 6) 0) (6 : Int32) (own_fc bs82 ps))))]) (Nat.le_of_eq rfl) (by decide) (by decide) (lenOf pd_6 rfl) rfl at_401 (pc' := 404) rfl ?_
        intro T122 v122 L122 X122 hQ122
        obtain ⟨rfl, Nq122, eq122⟩ := hQ122
        have N122 := Fr.app N121 Nq122
        show GolF _ _ _ _ _ _ _ T122 m 404 #[.val (.long q0), .second, .val (.int p1), .val (.int p2), .val (.ref b1), .val (.int (Int32.ofNat ps)), .val (.int kk), .val (.int (Int32.ofNat 12)), .val (.int (own_fc bs82 ps)), .unset, .unset, .unset, .unset, .unset, .unset] [(.long (own_tm (bs82.getD (ps + 7) 0) (7 : Int32) (own_fc bs82 ps))), (.long (((((((own_tm (bs82.getD (ps + 0) 0) (0 : Int32) (own_fc bs82 ps)) ||| (own_tm (bs82.getD (ps + 1) 0) (1 : Int32) (own_fc bs82 ps))) ||| (own_tm (bs82.getD (ps + 2) 0) (2 : Int32) (own_fc bs82 ps))) ||| (own_tm (bs82.getD (ps + 3) 0) (3 : Int32) (own_fc bs82 ps))) ||| (own_tm (bs82.getD (ps + 4) 0) (4 : Int32) (own_fc bs82 ps))) ||| (own_tm (bs82.getD (ps + 5) 0) (5 : Int32) (own_fc bs82 ps))) ||| (own_tm (bs82.getD (ps + 6) 0) (6 : Int32) (own_fc bs82 ps))))]
        refine Gol.lor X122 hx hby at_404 (pc' := 405) rfl rfl ?_
        refine Gol.aload X122 hx hby at_405 (pc' := 407) rfl rfl rfl ?_
        refine Gol.iload X122 hx hby at_407 (pc' := 409) rfl rfl ?_
        refine Gol.bipush X122 hx hby at_409 (pc' := 411) rfl (z := (8 : Int32)) rfl ?_
        refine Gol.iload X122 hx hby at_411 (pc' := 413) rfl rfl ?_
        refine Gol.callS X122 hx hby hZ hown 2 [(.ref b1), (.int (Int32.ofNat ps)), (.int (8 : Int32)), (.int (own_fc bs82 ps))] (hw _ (List.mem_of_getElem? (i := 9) rfl)) (hw _ (List.mem_of_getElem? (i := 10) rfl)) (hw _ (List.mem_of_getElem? (i := 4) rfl)) (hw _ (List.mem_of_getElem? (i := 11) rfl)) (by decide) (rm3 l Z a0 hw [] b1 (Int32.ofNat ps) (8 : Int32) (own_fc bs82 ps) k1 bs82 (ps + 8) T82.heap n0 Zs (own_addk ps 8) (by omega) V_b1) (by decide) (by decide) eq122 (by rw [hml]; rfl) (rest := [(.long ((((((((own_tm (bs82.getD (ps + 0) 0) (0 : Int32) (own_fc bs82 ps)) ||| (own_tm (bs82.getD (ps + 1) 0) (1 : Int32) (own_fc bs82 ps))) ||| (own_tm (bs82.getD (ps + 2) 0) (2 : Int32) (own_fc bs82 ps))) ||| (own_tm (bs82.getD (ps + 3) 0) (3 : Int32) (own_fc bs82 ps))) ||| (own_tm (bs82.getD (ps + 4) 0) (4 : Int32) (own_fc bs82 ps))) ||| (own_tm (bs82.getD (ps + 5) 0) (5 : Int32) (own_fc bs82 ps))) ||| (own_tm (bs82.getD (ps + 6) 0) (6 : Int32) (own_fc bs82 ps))) ||| (own_tm (bs82.getD (ps + 7) 0) (7 : Int32) (own_fc bs82 ps))))]) (Nat.le_of_eq rfl) (by decide) (by decide) (lenOf pd_6 rfl) rfl at_413 (pc' := 416) rfl ?_
        intro T123 v123 L123 X123 hQ123
        obtain ⟨rfl, Nq123, eq123⟩ := hQ123
        have N123 := Fr.app N122 Nq123
        show GolF _ _ _ _ _ _ _ T123 m 416 #[.val (.long q0), .second, .val (.int p1), .val (.int p2), .val (.ref b1), .val (.int (Int32.ofNat ps)), .val (.int kk), .val (.int (Int32.ofNat 12)), .val (.int (own_fc bs82 ps)), .unset, .unset, .unset, .unset, .unset, .unset] [(.long (own_tm (bs82.getD (ps + 8) 0) (8 : Int32) (own_fc bs82 ps))), (.long ((((((((own_tm (bs82.getD (ps + 0) 0) (0 : Int32) (own_fc bs82 ps)) ||| (own_tm (bs82.getD (ps + 1) 0) (1 : Int32) (own_fc bs82 ps))) ||| (own_tm (bs82.getD (ps + 2) 0) (2 : Int32) (own_fc bs82 ps))) ||| (own_tm (bs82.getD (ps + 3) 0) (3 : Int32) (own_fc bs82 ps))) ||| (own_tm (bs82.getD (ps + 4) 0) (4 : Int32) (own_fc bs82 ps))) ||| (own_tm (bs82.getD (ps + 5) 0) (5 : Int32) (own_fc bs82 ps))) ||| (own_tm (bs82.getD (ps + 6) 0) (6 : Int32) (own_fc bs82 ps))) ||| (own_tm (bs82.getD (ps + 7) 0) (7 : Int32) (own_fc bs82 ps))))]
        refine Gol.lor X123 hx hby at_416 (pc' := 417) rfl rfl ?_
        refine Gol.aload X123 hx hby at_417 (pc' := 419) rfl rfl rfl ?_
        refine Gol.iload X123 hx hby at_419 (pc' := 421) rfl rfl ?_
        refine Gol.bipush X123 hx hby at_421 (pc' := 423) rfl (z := (9 : Int32)) rfl ?_
        refine Gol.iload X123 hx hby at_423 (pc' := 425) rfl rfl ?_
        refine Gol.callS X123 hx hby hZ hown 2 [(.ref b1), (.int (Int32.ofNat ps)), (.int (9 : Int32)), (.int (own_fc bs82 ps))] (hw _ (List.mem_of_getElem? (i := 9) rfl)) (hw _ (List.mem_of_getElem? (i := 10) rfl)) (hw _ (List.mem_of_getElem? (i := 4) rfl)) (hw _ (List.mem_of_getElem? (i := 11) rfl)) (by decide) (rm3 l Z a0 hw [] b1 (Int32.ofNat ps) (9 : Int32) (own_fc bs82 ps) k1 bs82 (ps + 9) T82.heap n0 Zs (own_addk ps 9) (by omega) V_b1) (by decide) (by decide) eq123 (by rw [hml]; rfl) (rest := [(.long (((((((((own_tm (bs82.getD (ps + 0) 0) (0 : Int32) (own_fc bs82 ps)) ||| (own_tm (bs82.getD (ps + 1) 0) (1 : Int32) (own_fc bs82 ps))) ||| (own_tm (bs82.getD (ps + 2) 0) (2 : Int32) (own_fc bs82 ps))) ||| (own_tm (bs82.getD (ps + 3) 0) (3 : Int32) (own_fc bs82 ps))) ||| (own_tm (bs82.getD (ps + 4) 0) (4 : Int32) (own_fc bs82 ps))) ||| (own_tm (bs82.getD (ps + 5) 0) (5 : Int32) (own_fc bs82 ps))) ||| (own_tm (bs82.getD (ps + 6) 0) (6 : Int32) (own_fc bs82 ps))) ||| (own_tm (bs82.getD (ps + 7) 0) (7 : Int32) (own_fc bs82 ps))) ||| (own_tm (bs82.getD (ps + 8) 0) (8 : Int32) (own_fc bs82 ps))))]) (Nat.le_of_eq rfl) (by decide) (by decide) (lenOf pd_6 rfl) rfl at_425 (pc' := 428) rfl ?_
        intro T124 v124 L124 X124 hQ124
        obtain ⟨rfl, Nq124, eq124⟩ := hQ124
        have N124 := Fr.app N123 Nq124
        show GolF _ _ _ _ _ _ _ T124 m 428 #[.val (.long q0), .second, .val (.int p1), .val (.int p2), .val (.ref b1), .val (.int (Int32.ofNat ps)), .val (.int kk), .val (.int (Int32.ofNat 12)), .val (.int (own_fc bs82 ps)), .unset, .unset, .unset, .unset, .unset, .unset] [(.long (own_tm (bs82.getD (ps + 9) 0) (9 : Int32) (own_fc bs82 ps))), (.long (((((((((own_tm (bs82.getD (ps + 0) 0) (0 : Int32) (own_fc bs82 ps)) ||| (own_tm (bs82.getD (ps + 1) 0) (1 : Int32) (own_fc bs82 ps))) ||| (own_tm (bs82.getD (ps + 2) 0) (2 : Int32) (own_fc bs82 ps))) ||| (own_tm (bs82.getD (ps + 3) 0) (3 : Int32) (own_fc bs82 ps))) ||| (own_tm (bs82.getD (ps + 4) 0) (4 : Int32) (own_fc bs82 ps))) ||| (own_tm (bs82.getD (ps + 5) 0) (5 : Int32) (own_fc bs82 ps))) ||| (own_tm (bs82.getD (ps + 6) 0) (6 : Int32) (own_fc bs82 ps))) ||| (own_tm (bs82.getD (ps + 7) 0) (7 : Int32) (own_fc bs82 ps))) ||| (own_tm (bs82.getD (ps + 8) 0) (8 : Int32) (own_fc bs82 ps))))]
        refine Gol.lor X124 hx hby at_428 (pc' := 429) rfl rfl ?_
        refine Gol.lstore X124 hx hby at_429 (pc' := 431) rfl (l' := #[.val (.long q0), .second, .val (.int p1), .val (.int p2), .val (.ref b1), .val (.int (Int32.ofNat ps)), .val (.int kk), .val (.int (Int32.ofNat 12)), .val (.int (own_fc bs82 ps)), .val (.long ((((((((((own_tm (bs82.getD (ps + 0) 0) (0 : Int32) (own_fc bs82 ps)) ||| (own_tm (bs82.getD (ps + 1) 0) (1 : Int32) (own_fc bs82 ps))) ||| (own_tm (bs82.getD (ps + 2) 0) (2 : Int32) (own_fc bs82 ps))) ||| (own_tm (bs82.getD (ps + 3) 0) (3 : Int32) (own_fc bs82 ps))) ||| (own_tm (bs82.getD (ps + 4) 0) (4 : Int32) (own_fc bs82 ps))) ||| (own_tm (bs82.getD (ps + 5) 0) (5 : Int32) (own_fc bs82 ps))) ||| (own_tm (bs82.getD (ps + 6) 0) (6 : Int32) (own_fc bs82 ps))) ||| (own_tm (bs82.getD (ps + 7) 0) (7 : Int32) (own_fc bs82 ps))) ||| (own_tm (bs82.getD (ps + 8) 0) (8 : Int32) (own_fc bs82 ps))) ||| (own_tm (bs82.getD (ps + 9) 0) (9 : Int32) (own_fc bs82 ps)))), .second, .unset, .unset, .unset, .unset]) rfl ?_
        refine Gol.iload X124 hx hby at_431 (pc' := 433) rfl rfl ?_
        refine Gol.bipush X124 hx hby at_433 (pc' := 435) rfl (z := (10 : Int32)) rfl ?_
        refine Gol.callS X124 hx hby hZ hown 0 [(.int (own_fc bs82 ps)), (.int (10 : Int32))] (hw _ (List.mem_of_getElem? (i := 12) rfl)) (hw _ (List.mem_of_getElem? (i := 13) rfl)) (hw _ (List.mem_of_getElem? (i := 14) rfl)) (hw _ (List.mem_of_getElem? (i := 15) rfl)) (by decide) (rm4 l Z a0 hw [] (own_fc bs82 ps) (10 : Int32)  T82.heap n0 Zs ) (by decide) (by decide) eq124 (by rw [hml]; rfl) (rest := []) (Nat.le_of_eq rfl) (by decide) (by decide) (lenOf pd_2 rfl) rfl at_435 (pc' := 438) rfl ?_
        intro T125 v125 L125 X125 hQ125
        obtain ⟨rfl, Nq125, eq125⟩ := hQ125
        have N125 := Fr.app N124 Nq125
        show GolF _ _ _ _ _ _ _ T125 m 438 #[.val (.long q0), .second, .val (.int p1), .val (.int p2), .val (.ref b1), .val (.int (Int32.ofNat ps)), .val (.int kk), .val (.int (Int32.ofNat 12)), .val (.int (own_fc bs82 ps)), .val (.long ((((((((((own_tm (bs82.getD (ps + 0) 0) (0 : Int32) (own_fc bs82 ps)) ||| (own_tm (bs82.getD (ps + 1) 0) (1 : Int32) (own_fc bs82 ps))) ||| (own_tm (bs82.getD (ps + 2) 0) (2 : Int32) (own_fc bs82 ps))) ||| (own_tm (bs82.getD (ps + 3) 0) (3 : Int32) (own_fc bs82 ps))) ||| (own_tm (bs82.getD (ps + 4) 0) (4 : Int32) (own_fc bs82 ps))) ||| (own_tm (bs82.getD (ps + 5) 0) (5 : Int32) (own_fc bs82 ps))) ||| (own_tm (bs82.getD (ps + 6) 0) (6 : Int32) (own_fc bs82 ps))) ||| (own_tm (bs82.getD (ps + 7) 0) (7 : Int32) (own_fc bs82 ps))) ||| (own_tm (bs82.getD (ps + 8) 0) (8 : Int32) (own_fc bs82 ps))) ||| (own_tm (bs82.getD (ps + 9) 0) (9 : Int32) (own_fc bs82 ps)))), .second, .unset, .unset, .unset, .unset] [(.int (f4 (own_fc bs82 ps) (10 : Int32) ))]
        refine Gol.istore X125 hx hby at_438 (pc' := 440) rfl (l' := #[.val (.long q0), .second, .val (.int p1), .val (.int p2), .val (.ref b1), .val (.int (Int32.ofNat ps)), .val (.int kk), .val (.int (Int32.ofNat 12)), .val (.int (own_fc bs82 ps)), .val (.long ((((((((((own_tm (bs82.getD (ps + 0) 0) (0 : Int32) (own_fc bs82 ps)) ||| (own_tm (bs82.getD (ps + 1) 0) (1 : Int32) (own_fc bs82 ps))) ||| (own_tm (bs82.getD (ps + 2) 0) (2 : Int32) (own_fc bs82 ps))) ||| (own_tm (bs82.getD (ps + 3) 0) (3 : Int32) (own_fc bs82 ps))) ||| (own_tm (bs82.getD (ps + 4) 0) (4 : Int32) (own_fc bs82 ps))) ||| (own_tm (bs82.getD (ps + 5) 0) (5 : Int32) (own_fc bs82 ps))) ||| (own_tm (bs82.getD (ps + 6) 0) (6 : Int32) (own_fc bs82 ps))) ||| (own_tm (bs82.getD (ps + 7) 0) (7 : Int32) (own_fc bs82 ps))) ||| (own_tm (bs82.getD (ps + 8) 0) (8 : Int32) (own_fc bs82 ps))) ||| (own_tm (bs82.getD (ps + 9) 0) (9 : Int32) (own_fc bs82 ps)))), .second, .val (.int (f4 (own_fc bs82 ps) (10 : Int32) )), .unset, .unset, .unset]) rfl ?_
        refine Gol.newO X125 hx hby hZ hown (hw _ (List.mem_of_getElem? (i := 16) rfl)) (hw _ (List.mem_of_getElem? (i := 17) rfl)) (hw _ (List.mem_of_getElem? (i := 18) rfl)) eq125 at_440 (pc' := 443) rfl (by decide) (by decide) ?_
        intro T126 h126 b126 g126 X126 e126 E126 A126 D126
        have lo_b1_b126 : b1 < b126 := Nat.lt_of_lt_of_le V_b1.lt (Nat.le_of_eq g126.symm)
        have ne_b1_b126 : b1 ≠ b126 := Nat.ne_of_lt lo_b1_b126
        have g_b126 : n0 ≤ b126 := Nat.le_trans Zs (Nat.le_of_eq g126.symm)
        have V_b1 := V_b1.ext E126
        have Zs := Nat.le_trans Zs E126.1
        have E_b126 := A126
        have F_b126_bytes : Fld Z h126 b126 "com/example/interleaved_tables/interleavedtables/storage/DataFile$Input" "bytes" "[B" .null := D126 (Or.inr (hw _ (List.mem_of_getElem? (i := 26) rfl))) (ty := (.array .byte)) (by decide)
        have F_b126_position : Fld Z h126 b126 "com/example/interleaved_tables/interleavedtables/storage/DataFile$Input" "position" "I" (.int (0 : Int32)) := D126 (Or.inl (hw _ (List.mem_of_getElem? (i := 28) rfl))) (ty := .int) (by decide)
        have F_b126_end : Fld Z h126 b126 "com/example/interleaved_tables/interleavedtables/storage/DataFile$Input" "end" "I" (.int (0 : Int32)) := D126 (Or.inr (hw _ (List.mem_of_getElem? (i := 30) rfl))) (ty := .int) (by decide)
        refine Gol.dup X126 hx hby at_443 (pc' := 444) rfl rfl ?_
        refine Gol.aload X126 hx hby at_444 (pc' := 446) rfl rfl rfl ?_
        refine Gol.iload X126 hx hby at_446 (pc' := 448) rfl rfl ?_
        refine Gol.iload X126 hx hby at_448 (pc' := 450) rfl rfl ?_
        refine Gol.callI X126 hx hby hZ hown 1 [(.ref b1), (.int (Int32.ofNat ps)), (.int (Int32.ofNat 12))] (a := b126) (hw _ (List.mem_of_getElem? (i := 19) rfl)) (hw _ (List.mem_of_getElem? (i := 20) rfl)) (hw _ (List.mem_of_getElem? (i := 18) rfl)) rfl (hw _ (List.mem_of_getElem? (i := 21) rfl)) rfl (by decide) (rm5 l Z a0 hw [] b126 b1 (Int32.ofNat ps) (Int32.ofNat 12)  h126 n0 Zs ⟨E_b126, F_b126_bytes, F_b126_position, F_b126_end⟩ g_b126) (by decide) (by decide) e126 (by rw [hml]; rfl) (rest := [(.ref b126)]) (Nat.le_of_eq rfl) (by decide) (by decide) (lenOf pd_3 rfl) rfl at_450 (pc' := 453) rfl ?_
        intro T127 v127 L127 X127 hQ127
        obtain ⟨rfl, Nq127, Kq127, Oq127⟩ := hQ127
        have N127 := Fr.app N125 Nq127
        have E_b126 := E_b126.keep Kq127
        have V_b1 := V_b1.keep Kq127 (ninS ne_b1_b126 nin0)
        have Zs := Nat.le_trans Zs Kq127.1
        show GolF _ _ _ _ _ _ _ T127 m 453 #[.val (.long q0), .second, .val (.int p1), .val (.int p2), .val (.ref b1), .val (.int (Int32.ofNat ps)), .val (.int kk), .val (.int (Int32.ofNat 12)), .val (.int (own_fc bs82 ps)), .val (.long ((((((((((own_tm (bs82.getD (ps + 0) 0) (0 : Int32) (own_fc bs82 ps)) ||| (own_tm (bs82.getD (ps + 1) 0) (1 : Int32) (own_fc bs82 ps))) ||| (own_tm (bs82.getD (ps + 2) 0) (2 : Int32) (own_fc bs82 ps))) ||| (own_tm (bs82.getD (ps + 3) 0) (3 : Int32) (own_fc bs82 ps))) ||| (own_tm (bs82.getD (ps + 4) 0) (4 : Int32) (own_fc bs82 ps))) ||| (own_tm (bs82.getD (ps + 5) 0) (5 : Int32) (own_fc bs82 ps))) ||| (own_tm (bs82.getD (ps + 6) 0) (6 : Int32) (own_fc bs82 ps))) ||| (own_tm (bs82.getD (ps + 7) 0) (7 : Int32) (own_fc bs82 ps))) ||| (own_tm (bs82.getD (ps + 8) 0) (8 : Int32) (own_fc bs82 ps))) ||| (own_tm (bs82.getD (ps + 9) 0) (9 : Int32) (own_fc bs82 ps)))), .second, .val (.int (f4 (own_fc bs82 ps) (10 : Int32) )), .unset, .unset, .unset] [(.ref b126)]
        obtain ⟨E_b126, F_b126_bytes, F_b126_position, F_b126_end⟩ := Oq127
        refine Gol.astore X127 hx hby at_453 (pc' := 455) rfl rfl (l' := #[.val (.long q0), .second, .val (.int p1), .val (.int p2), .val (.ref b1), .val (.int (Int32.ofNat ps)), .val (.int kk), .val (.int (Int32.ofNat 12)), .val (.int (own_fc bs82 ps)), .val (.long ((((((((((own_tm (bs82.getD (ps + 0) 0) (0 : Int32) (own_fc bs82 ps)) ||| (own_tm (bs82.getD (ps + 1) 0) (1 : Int32) (own_fc bs82 ps))) ||| (own_tm (bs82.getD (ps + 2) 0) (2 : Int32) (own_fc bs82 ps))) ||| (own_tm (bs82.getD (ps + 3) 0) (3 : Int32) (own_fc bs82 ps))) ||| (own_tm (bs82.getD (ps + 4) 0) (4 : Int32) (own_fc bs82 ps))) ||| (own_tm (bs82.getD (ps + 5) 0) (5 : Int32) (own_fc bs82 ps))) ||| (own_tm (bs82.getD (ps + 6) 0) (6 : Int32) (own_fc bs82 ps))) ||| (own_tm (bs82.getD (ps + 7) 0) (7 : Int32) (own_fc bs82 ps))) ||| (own_tm (bs82.getD (ps + 8) 0) (8 : Int32) (own_fc bs82 ps))) ||| (own_tm (bs82.getD (ps + 9) 0) (9 : Int32) (own_fc bs82 ps)))), .second, .val (.int (f4 (own_fc bs82 ps) (10 : Int32) )), .val (.ref b126), .unset, .unset]) rfl ?_
        refine Gol.aload X127 hx hby at_455 (pc' := 457) rfl rfl rfl ?_
        refine Gol.callV X127 hx hby hZ hown 0 [] (a := b126) (hw _ (List.mem_of_getElem? (i := 31) rfl)) (hw _ (List.mem_of_getElem? (i := 32) rfl)) (notFace_of_selects (args := #[]) (mvT hZ (hw _ (List.mem_of_getElem? (i := 34) rfl)))) (hw _ (List.mem_of_getElem? (i := 34) rfl)) (hw _ (List.mem_of_getElem? (i := 33) rfl)) (hw _ (List.mem_of_getElem? (i := 18) rfl)) (hw _ (List.mem_of_getElem? (i := 35) rfl)) (by decide) E_b126 (rm7 l Z a0 hw [] b126 b1 k1 bs82 ps 12 T127.heap n0 Zs hps (by omega) (by omega) g_b126 ne_b1_b126.symm ⟨E_b126, F_b126_bytes, F_b126_position, F_b126_end⟩ V_b1) (by decide) (by decide) rfl (by rw [hml]; rfl) (rest := []) (Nat.le_of_eq rfl) (by decide) (by decide) (lenOf pd_4 rfl) rfl at_457 (pc' := 460) rfl ?_
        intro T128 v128 L128 X128 hQ128
        obtain ⟨rfl, Nq128, Kq128, Oq128⟩ := hQ128
        have N128 := Fr.app N127 Nq128
        have E_b126 := E_b126.keep Kq128
        have V_b1 := V_b1.keep Kq128 (ninS ne_b1_b126 nin0)
        have Zs := Nat.le_trans Zs Kq128.1
        show GolF _ _ _ _ _ _ _ T128 m 460 #[.val (.long q0), .second, .val (.int p1), .val (.int p2), .val (.ref b1), .val (.int (Int32.ofNat ps)), .val (.int kk), .val (.int (Int32.ofNat 12)), .val (.int (own_fc bs82 ps)), .val (.long ((((((((((own_tm (bs82.getD (ps + 0) 0) (0 : Int32) (own_fc bs82 ps)) ||| (own_tm (bs82.getD (ps + 1) 0) (1 : Int32) (own_fc bs82 ps))) ||| (own_tm (bs82.getD (ps + 2) 0) (2 : Int32) (own_fc bs82 ps))) ||| (own_tm (bs82.getD (ps + 3) 0) (3 : Int32) (own_fc bs82 ps))) ||| (own_tm (bs82.getD (ps + 4) 0) (4 : Int32) (own_fc bs82 ps))) ||| (own_tm (bs82.getD (ps + 5) 0) (5 : Int32) (own_fc bs82 ps))) ||| (own_tm (bs82.getD (ps + 6) 0) (6 : Int32) (own_fc bs82 ps))) ||| (own_tm (bs82.getD (ps + 7) 0) (7 : Int32) (own_fc bs82 ps))) ||| (own_tm (bs82.getD (ps + 8) 0) (8 : Int32) (own_fc bs82 ps))) ||| (own_tm (bs82.getD (ps + 9) 0) (9 : Int32) (own_fc bs82 ps)))), .second, .val (.int (f4 (own_fc bs82 ps) (10 : Int32) )), .val (.ref b126), .unset, .unset] [(.long (own_rn bs82 ps))]
        obtain ⟨E_b126, F_b126_bytes, F_b126_position, F_b126_end⟩ := Oq128
        refine Gol.lstore X128 hx hby at_460 (pc' := 462) rfl (l' := #[.val (.long q0), .second, .val (.int p1), .val (.int p2), .val (.ref b1), .val (.int (Int32.ofNat ps)), .val (.int kk), .val (.int (Int32.ofNat 12)), .val (.int (own_fc bs82 ps)), .val (.long ((((((((((own_tm (bs82.getD (ps + 0) 0) (0 : Int32) (own_fc bs82 ps)) ||| (own_tm (bs82.getD (ps + 1) 0) (1 : Int32) (own_fc bs82 ps))) ||| (own_tm (bs82.getD (ps + 2) 0) (2 : Int32) (own_fc bs82 ps))) ||| (own_tm (bs82.getD (ps + 3) 0) (3 : Int32) (own_fc bs82 ps))) ||| (own_tm (bs82.getD (ps + 4) 0) (4 : Int32) (own_fc bs82 ps))) ||| (own_tm (bs82.getD (ps + 5) 0) (5 : Int32) (own_fc bs82 ps))) ||| (own_tm (bs82.getD (ps + 6) 0) (6 : Int32) (own_fc bs82 ps))) ||| (own_tm (bs82.getD (ps + 7) 0) (7 : Int32) (own_fc bs82 ps))) ||| (own_tm (bs82.getD (ps + 8) 0) (8 : Int32) (own_fc bs82 ps))) ||| (own_tm (bs82.getD (ps + 9) 0) (9 : Int32) (own_fc bs82 ps)))), .second, .val (.int (f4 (own_fc bs82 ps) (10 : Int32) )), .val (.ref b126), .val (.long (own_rn bs82 ps)), .second]) rfl ?_
        refine Gol.lload X128 hx hby at_462 (pc' := 464) rfl rfl ?_
        refine Gol.lload X128 hx hby at_464 (pc' := 466) rfl rfl ?_
        refine Gol.lcmp X128 hx hby at_466 (pc' := 467) rfl ?_
        refine Gol.ifNo X128 hx hby at_467 (pc' := 470) rfl (teqL (own_pok (own_byte V_b1 (by omega)) hc279_84 (fun q => absurd q hc294_91))).2 ?_
        refine Gol.aload X128 hx hby at_470 (pc' := 472) rfl rfl rfl ?_
        refine Gol.callV X128 hx hby hZ hown 0 [] (a := b126) (hw _ (List.mem_of_getElem? (i := 36) rfl)) (hw _ (List.mem_of_getElem? (i := 37) rfl)) (notFace_of_selects (args := #[]) (mvT hZ (hw _ (List.mem_of_getElem? (i := 39) rfl)))) (hw _ (List.mem_of_getElem? (i := 39) rfl)) (hw _ (List.mem_of_getElem? (i := 38) rfl)) (hw _ (List.mem_of_getElem? (i := 18) rfl)) (hw _ (List.mem_of_getElem? (i := 40) rfl)) (by decide) E_b126 (rm8 l Z a0 hw [] b126 (.ref b1) (Int32.ofNat (ps + own_cn bs82 ps)) (Int32.ofNat 12) T128.heap n0 Zs ⟨E_b126, F_b126_bytes, F_b126_position, F_b126_end⟩) (by decide) (by decide) rfl (by rw [hml]; rfl) (rest := []) (Nat.le_of_eq rfl) (by decide) (by decide) (lenOf pd_5 rfl) rfl at_472 (pc' := 475) rfl ?_
        intro T129 v129 L129 X129 hQ129
        obtain ⟨rfl, Nq129, eq129⟩ := hQ129
        have N129 := Fr.app N128 Nq129
        show GolF _ _ _ _ _ _ _ T129 m 475 #[.val (.long q0), .second, .val (.int p1), .val (.int p2), .val (.ref b1), .val (.int (Int32.ofNat ps)), .val (.int kk), .val (.int (Int32.ofNat 12)), .val (.int (own_fc bs82 ps)), .val (.long ((((((((((own_tm (bs82.getD (ps + 0) 0) (0 : Int32) (own_fc bs82 ps)) ||| (own_tm (bs82.getD (ps + 1) 0) (1 : Int32) (own_fc bs82 ps))) ||| (own_tm (bs82.getD (ps + 2) 0) (2 : Int32) (own_fc bs82 ps))) ||| (own_tm (bs82.getD (ps + 3) 0) (3 : Int32) (own_fc bs82 ps))) ||| (own_tm (bs82.getD (ps + 4) 0) (4 : Int32) (own_fc bs82 ps))) ||| (own_tm (bs82.getD (ps + 5) 0) (5 : Int32) (own_fc bs82 ps))) ||| (own_tm (bs82.getD (ps + 6) 0) (6 : Int32) (own_fc bs82 ps))) ||| (own_tm (bs82.getD (ps + 7) 0) (7 : Int32) (own_fc bs82 ps))) ||| (own_tm (bs82.getD (ps + 8) 0) (8 : Int32) (own_fc bs82 ps))) ||| (own_tm (bs82.getD (ps + 9) 0) (9 : Int32) (own_fc bs82 ps)))), .second, .val (.int (f4 (own_fc bs82 ps) (10 : Int32) )), .val (.ref b126), .val (.long (own_rn bs82 ps)), .second] [(.int (Int32.ofNat (ps + own_cn bs82 ps)))]
        refine Gol.iload X129 hx hby at_475 (pc' := 477) rfl rfl ?_
        refine Gol.iload X129 hx hby at_477 (pc' := 479) rfl rfl ?_
        refine Gol.iadd X129 hx hby at_479 (pc' := 480) rfl rfl ?_
        refine Gol.icmpNo X129 hx hby at_480 (pc' := 483) rfl (teq (own_pos (own_byte V_b1 (by omega)))).2 ?_
        refine Gol.aload X129 hx hby at_483 (pc' := 485) rfl rfl rfl ?_
        refine Gol.callV X129 hx hby hZ hown 0 [] (a := b126) (hw _ (List.mem_of_getElem? (i := 41) rfl)) (hw _ (List.mem_of_getElem? (i := 42) rfl)) (notFace_of_selects (args := #[]) (mvT hZ (hw _ (List.mem_of_getElem? (i := 44) rfl)))) (hw _ (List.mem_of_getElem? (i := 44) rfl)) (hw _ (List.mem_of_getElem? (i := 43) rfl)) (hw _ (List.mem_of_getElem? (i := 18) rfl)) (hw _ (List.mem_of_getElem? (i := 45) rfl)) (by decide) E_b126 (rm9 l Z a0 hw [] b126 (.ref b1) (Int32.ofNat (ps + own_cn bs82 ps)) (Int32.ofNat 12) T128.heap n0 Zs ⟨E_b126, F_b126_bytes, F_b126_position, F_b126_end⟩) (by decide) (by decide) eq129 (by rw [hml]; rfl) (rest := []) (Nat.le_of_eq rfl) (by decide) (by decide) (lenOf pd_5 rfl) rfl at_485 (pc' := 488) rfl ?_
        intro T130 v130 L130 X130 hQ130
        obtain ⟨rfl, Nq130, eq130⟩ := hQ130
        have N130 := Fr.app N129 Nq130
        show GolF _ _ _ _ _ _ _ T130 m 488 #[.val (.long q0), .second, .val (.int p1), .val (.int p2), .val (.ref b1), .val (.int (Int32.ofNat ps)), .val (.int kk), .val (.int (Int32.ofNat 12)), .val (.int (own_fc bs82 ps)), .val (.long ((((((((((own_tm (bs82.getD (ps + 0) 0) (0 : Int32) (own_fc bs82 ps)) ||| (own_tm (bs82.getD (ps + 1) 0) (1 : Int32) (own_fc bs82 ps))) ||| (own_tm (bs82.getD (ps + 2) 0) (2 : Int32) (own_fc bs82 ps))) ||| (own_tm (bs82.getD (ps + 3) 0) (3 : Int32) (own_fc bs82 ps))) ||| (own_tm (bs82.getD (ps + 4) 0) (4 : Int32) (own_fc bs82 ps))) ||| (own_tm (bs82.getD (ps + 5) 0) (5 : Int32) (own_fc bs82 ps))) ||| (own_tm (bs82.getD (ps + 6) 0) (6 : Int32) (own_fc bs82 ps))) ||| (own_tm (bs82.getD (ps + 7) 0) (7 : Int32) (own_fc bs82 ps))) ||| (own_tm (bs82.getD (ps + 8) 0) (8 : Int32) (own_fc bs82 ps))) ||| (own_tm (bs82.getD (ps + 9) 0) (9 : Int32) (own_fc bs82 ps)))), .second, .val (.int (f4 (own_fc bs82 ps) (10 : Int32) )), .val (.ref b126), .val (.long (own_rn bs82 ps)), .second] [(.int ((Int32.ofNat 12) - (Int32.ofNat (ps + own_cn bs82 ps))))]
        refine Gol.iload X130 hx hby at_488 (pc' := 490) rfl rfl ?_
        refine Gol.iload X130 hx hby at_490 (pc' := 492) rfl rfl ?_
        refine Gol.isub X130 hx hby at_492 (pc' := 493) rfl rfl ?_
        refine Gol.iload X130 hx hby at_493 (pc' := 495) rfl rfl ?_
        refine Gol.isub X130 hx hby at_495 (pc' := 496) rfl rfl ?_
        refine Gol.icmpNo X130 hx hby at_496 (pc' := 499) rfl (teq (own_left _ (own_byte V_b1 (by omega)))).2 ?_
        refine Gol.iconst X130 hx hby at_499 (pc' := 500) rfl (z := (1 : Int32)) rfl ?_
        refine Gol.goto X130 hx hby at_500 (pc' := 504) (by decide) ?_
        exact Gol.retN X130 hx hby (t := .boolean) Bd.returns (by simp) Bd.notSynchronized at_504 eq130 ⟨rfl, N130⟩ (by decide) (by decide)
set_option maxRecDepth 65536 in
set_option maxHeartbeats 40000000 in
theorem comes_1 {Post : Tables → Env → Array Value → State → Outcome → State → Prop} (hpost : ∀ tb e args s v u, (limb_1_1.after args s (.returned v) u = true ∧ limb_1_2.after args s (.returned v) u = true ∧ True) → FrameEnd s (.returned v) u (Jvm.fieldLocs frame_1_writes args s ++ Jvm.arrayLocs frame_1_arrays args s ++ Jvm.staticLocs frame_1_statics s) 16 128 → Post tb e args s (.returned v) u) :
    ArmFor flags0 classFile x code maxLocals ret World_1 tables_1 room_1 Calls_1 rest_1 Pre_1 Post := by
  intro l hfl _ _ p e ha hc hk s m args below hf hA hF happ hP
  obtain ⟨hcalls, hrest, hpre⟩ := hP
  obtain ⟨-, -, -, hnamed, -, -, -, hat⟩ := (Spec.applies_iff hf).mp happ
  obtain ⟨hg, hn⟩ := and_e (Cond.before_iff.mp (show (Jvm.Cond.and given_1 narrow_1).before args s = true from hpre))
  obtain ⟨gc, gr0⟩ := and_e hg
  obtain ⟨gk0, gr1⟩ := and_e gr0
  obtain ⟨gk1, gr2⟩ := and_e gr1
  obtain ⟨w0, w1, w2, rfl⟩ : ∃ w0 w1 w2 : Value, args = #[w0, w1, w2] := by
    have hs : args.size = 3 := by simpa [Cond.value, given_1] using gc
    obtain ⟨L⟩ := args
    match L, hs with
    | [w0, w1, w2], _ => exact ⟨w0, w1, w2, rfl⟩
  have hw := fun d (hd : d ∈ tables_1) => atoms_spec (ws := Jvm.Cond.code x code maxLocals ret :: tables_1) hat d (List.mem_cons_of_mem _ hd)
  have hfit : Fit s := fun {y c} hc i hi => by
    obtain ⟨ha, rfl⟩ := Array.getElem?_eq_some_iff.mp hc
    have q := List.all_eq_true.mp ((Array.all_eq_true_iff_forall_mem.mp hF) _ (Array.getElem_mem ha)) i (List.mem_range.mpr hi)
    simpa [Array.getElem?_eq_getElem hi] using q
  obtain ⟨i0, ei0⟩ := isL_v gk0
  obtain rfl : w0 = (.long i0) := Option.some.inj ei0
  obtain ⟨i1, ei1⟩ := is_v gk1
  obtain rfl : w1 = (.int i1) := Option.some.inj ei1
  obtain ⟨i2, ei2⟩ := is_v gr2
  obtain rfl : w2 = (.int i2) := Option.some.inj ei2
  obtain ⟨n, o, h1, h2, h3, _, L, rfl, ⟨rfl, N⟩, hq⟩ := rm0 l s _ hw tables_1 i0 i1 i2  s.heap s.heap.size (Nat.le_refl _)  p e ha hc hk s m _ below hf ((Spec.applies_iff_loose hf).mp happ).1 ⟨rfl, State.Warmed39.refl s, rfl⟩ trivial
  refine ⟨n, _, h1, h2, h3, hpost _ _ _ _ _ _ ⟨Cond.after_iff.mpr rfl, Cond.after_iff.mpr (eq_i res_at (Term.int_eval (1)) rfl), trivial⟩ ⟨hq.1, hq.2.1, (hq.2.2.sift fun y hy => Or.inr (N y hy)).mono (by decide) (by decide)⟩⟩
theorem main_1_1 : Claimed_1_1 := comes_1 fun _ _ _ _ _ _ h hF => ⟨h.1, hF⟩
theorem main_1_2 : Claimed_1_2 := comes_1 fun _ _ _ _ _ _ h hF => ⟨h.2.1, hF⟩
end Jvm.Pilot.@@N@@
namespace Jvm.Pilot.@@N@@
open Jvm Jvm.ClassFile Sem Op Lib Jvm.Free Jvm.Stand Jvm.Pilot.@@N@@.Jvm.D
/-! MADE BY PROGRAM (witnessworld.py) out of the Statement's table words and the real class files: 8 classes; the members and pool entries that the words name. The judged class is class 1, her method 1. -/
namespace start1
open Jvm.ClassFile
def u (s : String) : CpInfo := .utf8 (stringToUtf16 s)
/-- a pool by its gaps: so many unusable entries, then the entry; so many at the end -/
def gap : Nat → List CpInfo → List CpInfo
  | 0, r => r
  | n + 1, r => .unusable :: gap n r
def poolList (es : List (Nat × CpInfo)) (last : Nat) : List CpInfo := es.foldr (fun e r => gap e.1 (e.2 :: r)) (gap last [])
def pool (es : List (Nat × CpInfo)) (last : Nat) : Array CpInfo := ⟨poolList es last⟩
def fileOf (pool : Array CpInfo) (this : Nat) (attrs : Array Attribute := #[]) (ms : Array MethodInfo := #[]) (fl : Nat := 33) (sup : Nat := 0) (ifs : Array Nat := #[]) (fds : Array FieldInfo := #[]) : ClassFile where
  minorVersion := 0
  majorVersion := 65
  constantPool := pool
  accessFlags := fl
  thisClass := this
  superClass := sup
  interfaces := ifs
  fields := fds
  methods := ms
  attributes := attrs
def plain (name : String) (sup : Option ClassId) : Class where
  name := name
  kind := .ordinary
  loader := none
  accessFlags := 33
  super := sup
  interfaces := #[]
  cf := none
  fields := #[]
  methods := #[]
  instanceTypes := #[]
  staticTypes := #[]
  resolved := #[]
  callSites := []
  init := .initialized
  statics := none
  mirror := none

def pool0 : Array CpInfo := pool [(5, u "<init>"), (0, u "()V"), (1, .class_ 10), (1, u "java/lang/Object")] 113

def k0c0 : Code := { maxStack := 0, maxLocals := 1, code := object_method_1_code, exceptionTable := #[], attributes := #[] }
def k0m0 : Method := { name := "<init>", desc := "()V", sig := { parameters := [], returnType := none }, accessFlags := 1, code := some k0c0 }
/-- java/lang/Object -/
def k0 : Class := { plain "java/lang/Object" none with
  accessFlags := 33
  interfaces := #[]
  cf := some (fileOf pool0 8 #[] #[{ accessFlags := 1, nameIndex := 5, descriptorIndex := 6, attributes := #[] }] 33 0 #[] #[])
  fields := #[]
  methods := #[k0m0]
  instanceTypes := #[]
  staticTypes := #[]
  resolved := Array.replicate 124 none
  statics := none }

def pool1 : Array CpInfo := pool [(2, .class_ 4), (1, u "java/lang/Object"), (0, u "<init>"), (0, u "()V"), (0, .integer 2147483647), (0, .methodref 9 10), (0, .class_ 11), (0, .nameAndType 12 13), (0, u "com/example/interleaved_tables/interleavedtables/storage/InputReadNumberPinLaw"), (0, u "setHigh"), (0, u "([BIII)V"), (0, .methodref 9 15), (0, .nameAndType 16 17), (0, u "firstClear"), (0, u "([BI)I"), (0, .long 18446744073709551615), (1, .methodref 9 21), (0, .nameAndType 22 23), (0, u "term"), (0, u "([BIII)J"), (0, .methodref 25 26), (0, .class_ 27), (0, .nameAndType 28 29), (0, u "java/lang/Math"), (0, u "min"), (0, u "(II)I"), (0, .class_ 31), (0, u "com/example/interleaved_tables/interleavedtables/storage/DataFile$Input"), (0, .methodref 30 33), (0, .nameAndType 5 34), (0, u "([BII)V"), (0, .methodref 30 36), (0, .nameAndType 37 38), (0, u "readNumber"), (0, u "()J"), (0, .methodref 30 40), (0, .nameAndType 41 42), (0, u "position"), (0, u "()I"), (0, .methodref 30 44), (0, .nameAndType 45 42), (0, u "remaining"), (2, u "law"), (0, u "(JII)Z")] 12

def k1m0 : Method := { name := "<init>", desc := "()V", sig := { parameters := [], returnType := none }, accessFlags := 1, code := none }
def k1c1 : Code := { maxStack := 6, maxLocals := 15, code := code, exceptionTable := #[], attributes := #[] }
def k1m1 : Method := { name := "law", desc := "(JII)Z", sig := { parameters := [.long, .int, .int], returnType := some .boolean }, accessFlags := 9, code := some k1c1 }
def k1c2 : Code := { maxStack := 5, maxLocals := 4, code := method_3_code, exceptionTable := #[], attributes := #[] }
def k1m2 : Method := { name := "setHigh", desc := "([BIII)V", sig := { parameters := [(.array .byte), .int, .int, .int], returnType := none }, accessFlags := 10, code := some k1c2 }
def k1c3 : Code := { maxStack := 3, maxLocals := 2, code := method_4_code, exceptionTable := #[], attributes := #[] }
def k1m3 : Method := { name := "firstClear", desc := "([BI)I", sig := { parameters := [(.array .byte), .int], returnType := some .int }, accessFlags := 10, code := some k1c3 }
def k1c4 : Code := { maxStack := 4, maxLocals := 4, code := method_5_code, exceptionTable := #[], attributes := #[] }
def k1m4 : Method := { name := "term", desc := "([BIII)J", sig := { parameters := [(.array .byte), .int, .int, .int], returnType := some .long }, accessFlags := 10, code := some k1c4 }
/-- com/example/interleaved_tables/interleavedtables/storage/InputReadNumberPinLaw -/
def k1 : Class := { plain "com/example/interleaved_tables/interleavedtables/storage/InputReadNumberPinLaw" (some 0) with
  accessFlags := 49
  interfaces := #[]
  cf := some (fileOf pool1 9 #[] #[{ accessFlags := 1, nameIndex := 5, descriptorIndex := 6, attributes := #[] }, { accessFlags := 9, nameIndex := 48, descriptorIndex := 49, attributes := #[] }, { accessFlags := 10, nameIndex := 12, descriptorIndex := 13, attributes := #[] }, { accessFlags := 10, nameIndex := 16, descriptorIndex := 17, attributes := #[] }, { accessFlags := 10, nameIndex := 22, descriptorIndex := 23, attributes := #[] }] 49 2 #[] #[])
  fields := #[]
  methods := #[k1m0, k1m1, k1m2, k1m3, k1m4]
  instanceTypes := #[]
  staticTypes := #[]
  resolved := Array.replicate 62 none
  statics := none }

def pool2 : Array CpInfo := pool [(1, .class_ 2), (0, u "java/lang/Math"), (1, .class_ 6), (1, u "java/lang/Object"), (0, u "<init>"), (0, u "()V"), (89, .class_ 100), (1, u "java/lang/Math$RandomNumberGeneratorHolder"), (71, u "negativeZeroFloatBits"), (0, u "J"), (2, u "negativeZeroDoubleBits"), (24, u "min"), (43, u "$assertionsDisabled"), (0, u "Z"), (88, u "(II)I"), (2, u "twoToTheDoubleScaleDown"), (0, u "D"), (4, u "twoToTheDoubleScaleUp"), (9, u "E"), (3, u "PI"), (2, u "TAU"), (2, u "DEGREES_TO_RADIANS"), (0, u "RADIANS_TO_DEGREES")] 94

def k2m0 : Method := { name := "<init>", desc := "()V", sig := { parameters := [], returnType := none }, accessFlags := 2, code := none }
def k2c1 : Code := { maxStack := 2, maxLocals := 2, code := jdk_29_method_69_code, exceptionTable := #[], attributes := #[] }
def k2m1 : Method := { name := "min", desc := "(II)I", sig := { parameters := [.int, .int], returnType := some .int }, accessFlags := 9, code := some k2c1 }
/-- java/lang/Math -/
def k2 : Class := { plain "java/lang/Math" (some 0) with
  accessFlags := 49
  interfaces := #[]
  cf := some (fileOf pool2 1 #[.nestMembers #[98]] #[{ accessFlags := 2, nameIndex := 7, descriptorIndex := 8, attributes := #[] }, { accessFlags := 9, nameIndex := 201, descriptorIndex := 335, attributes := #[] }] 49 4 #[] #[{ accessFlags := 25, nameIndex := 354, descriptorIndex := 339, attributes := #[] }, { accessFlags := 25, nameIndex := 358, descriptorIndex := 339, attributes := #[] }, { accessFlags := 25, nameIndex := 361, descriptorIndex := 339, attributes := #[] }, { accessFlags := 26, nameIndex := 364, descriptorIndex := 339, attributes := #[] }, { accessFlags := 26, nameIndex := 365, descriptorIndex := 339, attributes := #[] }, { accessFlags := 26, nameIndex := 172, descriptorIndex := 173, attributes := #[] }, { accessFlags := 26, nameIndex := 176, descriptorIndex := 173, attributes := #[] }, { accessFlags := 8, nameIndex := 344, descriptorIndex := 339, attributes := #[] }, { accessFlags := 8, nameIndex := 338, descriptorIndex := 339, attributes := #[] }, { accessFlags := 4120, nameIndex := 245, descriptorIndex := 246, attributes := #[] }])
  fields := #[{ name := "E", type := .double, accessFlags := 25, slot := 0, constantValue := 0 }, { name := "PI", type := .double, accessFlags := 25, slot := 1, constantValue := 0 }, { name := "TAU", type := .double, accessFlags := 25, slot := 2, constantValue := 0 }, { name := "DEGREES_TO_RADIANS", type := .double, accessFlags := 26, slot := 3, constantValue := 0 }, { name := "RADIANS_TO_DEGREES", type := .double, accessFlags := 26, slot := 4, constantValue := 0 }, { name := "negativeZeroFloatBits", type := .long, accessFlags := 26, slot := 5, constantValue := 0 }, { name := "negativeZeroDoubleBits", type := .long, accessFlags := 26, slot := 6, constantValue := 0 }, { name := "twoToTheDoubleScaleUp", type := .double, accessFlags := 8, slot := 7, constantValue := 0 }, { name := "twoToTheDoubleScaleDown", type := .double, accessFlags := 8, slot := 8, constantValue := 0 }, { name := "$assertionsDisabled", type := .boolean, accessFlags := 4120, slot := 9, constantValue := 0 }]
  methods := #[k2m0, k2m1]
  instanceTypes := #[]
  staticTypes := #[.double, .double, .double, .double, .double, .long, .long, .double, .double, .boolean]
  resolved := Array.replicate 460 none
  statics := none }

def pool3 : Array CpInfo := pool [(1, .methodref 2 3), (0, .class_ 4), (0, .nameAndType 5 6), (0, u "java/lang/Object"), (0, u "<init>"), (0, u "()V"), (0, .fieldref 8 9), (0, .class_ 10), (0, .nameAndType 11 12), (0, u "com/example/interleaved_tables/interleavedtables/storage/DataFile$Input"), (0, u "bytes"), (0, u "[B"), (0, .fieldref 8 14), (0, .nameAndType 15 16), (0, u "position"), (0, u "I"), (0, .fieldref 8 18), (0, .nameAndType 19 16), (0, u "end"), (5, .long 18446744073709551615), (3, u "readNumber"), (0, u "()J"), (10, u "([BII)V"), (5, u "()I"), (4, u "remaining"), (4, .class_ 58), (0, u "com/example/interleaved_tables/interleavedtables/storage/DataFile")] 2

def k3c0 : Code := { maxStack := 2, maxLocals := 4, code := prog_70_method_1_code, exceptionTable := #[], attributes := #[] }
def k3m0 : Method := { name := "<init>", desc := "([BII)V", sig := { parameters := [(.array .byte), .int, .int], returnType := none }, accessFlags := 0, code := some k3c0 }
def k3c1 : Code := { maxStack := 5, maxLocals := 5, code := prog_70_method_2_code, exceptionTable := #[], attributes := #[] }
def k3m1 : Method := { name := "readNumber", desc := "()J", sig := { parameters := [], returnType := some .long }, accessFlags := 0, code := some k3c1 }
def k3c2 : Code := { maxStack := 2, maxLocals := 1, code := prog_70_method_6_code, exceptionTable := #[], attributes := #[] }
def k3m2 : Method := { name := "remaining", desc := "()I", sig := { parameters := [], returnType := some .int }, accessFlags := 0, code := some k3c2 }
def k3c3 : Code := { maxStack := 1, maxLocals := 1, code := prog_70_method_7_code, exceptionTable := #[], attributes := #[] }
def k3m3 : Method := { name := "position", desc := "()I", sig := { parameters := [], returnType := some .int }, accessFlags := 0, code := some k3c3 }
/-- com/example/interleaved_tables/interleavedtables/storage/DataFile$Input -/
def k3 : Class := { plain "com/example/interleaved_tables/interleavedtables/storage/DataFile$Input" (some 0) with
  accessFlags := 48
  interfaces := #[]
  cf := some (fileOf pool3 8 #[.nestHost 57] #[{ accessFlags := 0, nameIndex := 5, descriptorIndex := 41, attributes := #[] }, { accessFlags := 0, nameIndex := 29, descriptorIndex := 30, attributes := #[] }, { accessFlags := 0, nameIndex := 52, descriptorIndex := 47, attributes := #[] }, { accessFlags := 0, nameIndex := 15, descriptorIndex := 47, attributes := #[] }] 48 2 #[] #[{ accessFlags := 18, nameIndex := 11, descriptorIndex := 12, attributes := #[] }, { accessFlags := 18, nameIndex := 19, descriptorIndex := 16, attributes := #[] }, { accessFlags := 2, nameIndex := 15, descriptorIndex := 16, attributes := #[] }])
  fields := #[{ name := "bytes", type := (.array .byte), accessFlags := 18, slot := 0, constantValue := 0 }, { name := "end", type := .int, accessFlags := 18, slot := 1, constantValue := 0 }, { name := "position", type := .int, accessFlags := 2, slot := 2, constantValue := 0 }]
  methods := #[k3m0, k3m1, k3m2, k3m3]
  instanceTypes := #[(.array .byte), .int, .int]
  staticTypes := #[]
  resolved := Array.replicate 61 none
  statics := none }

def pool4 : Array CpInfo := pool [(1, u "java/lang/Cloneable"), (0, .class_ 1), (0, u "java/lang/Object"), (0, .class_ 3)] 3

/-- java/lang/Cloneable -/
def k4 : Class := { plain "java/lang/Cloneable" (some 0) with
  accessFlags := 1537
  interfaces := #[]
  cf := some (fileOf pool4 2 #[] #[] 1537 4 #[] #[])
  fields := #[]
  methods := #[]
  instanceTypes := #[]
  staticTypes := #[]
  resolved := Array.replicate 8 none
  statics := none }

def pool5 : Array CpInfo := pool [(1, u "java/io/Serializable"), (0, .class_ 1), (0, u "java/lang/Object"), (0, .class_ 3)] 3

/-- java/io/Serializable -/
def k5 : Class := { plain "java/io/Serializable" (some 0) with
  accessFlags := 1537
  interfaces := #[]
  cf := some (fileOf pool5 2 #[] #[] 1537 4 #[] #[])
  fields := #[]
  methods := #[]
  instanceTypes := #[]
  staticTypes := #[]
  resolved := Array.replicate 8 none
  statics := none }

/-- the primitive byte -/
def k6 : Class := { plain "byte" none with kind := .primitive 'B', accessFlags := 0x411 }
/-- [B -/
def k7 : Class := { plain "[B" (some 0) with kind := .array 6 .byte, interfaces := #[4, 5], accessFlags := 1041 }

def heap : Heap := #[]
def classes : Array Class := #[k0, k1, k2, k3, k4, k5, k6, k7]
def interned : List (Array UInt16 × Addr) := []
def slotsUsed : Nat := 0
def theMethod : MethodId := ⟨1, 1⟩
def args0 : Array Value := #[.long 77, .int 5, .int 13]
def aboutOver (below : List Frame) : State where
  vm := { classes := classes, interned := interned.toArray }
  heap := heap
  slotsUsed := slotsUsed
  threads := #[{ frames := .invoking theMethod args0 :: below }]
def below0 : List Frame := [.native { method := ⟨0, 0⟩, args := #[] }]
def about1 : State := aboutOver below0
def p0 : Program := .bare "" "" ""
def e0 : Env := launch0.env 0 0 0
theorem w_frames : about1.frames = Frame.invoking theMethod args0 :: below0 := rfl
set_option maxRecDepth 65536 in
theorem w_args : argsFit about1.vm theMethod args0 = true := by decide +kernel
set_option maxRecDepth 65536 in
theorem w_heap : heapFits about1 = true := by decide +kernel
set_option maxRecDepth 65536 in
theorem w_runnable : about1.curStatus? = some .runnable := by decide +kernel
set_option maxRecDepth 65536 in
theorem w_alone : about1.alone = true := by decide +kernel
set_option maxRecDepth 65536 in
theorem w_named : about1.methodNamed? x = some theMethod := by decide +kernel
set_option maxRecDepth 65536 in
theorem w_hears : about1.hears theMethod below0 = true := by decide +kernel
set_option maxRecDepth 65536 in
theorem w_ripe : about1.ripe theMethod args0 below0 = true := by decide +kernel
theorem w_running : about1.status = .running := rfl
set_option maxRecDepth 65536 in
theorem w_room : about1.hasRoom e0.platform room_1 = true :=
  launch0.hasRoom_least _ room_1 (by decide +kernel) (by decide +kernel) (by decide +kernel) (by decide +kernel) (by decide +kernel) (by decide +kernel)
theorem allAtoms_all (ts : List Jvm.Cond) (a : Array Jvm.Value) (st : Jvm.State) : (allAtoms ts).before a st = ts.all (fun c => c.before a st) := by
  induction ts with
  | nil => rfl
  | cons c t ih =>
    show (Jvm.Cond.and c (allAtoms t)).before a st = _
    rw [Jvm.Cond.before_and, ih, List.all_cons]
def words1 : List Jvm.Cond := Jvm.Cond.code x code maxLocals ret :: tables_1
/-- a 'code' word, met by the world's own term for the bytes: nothing is compared byte by byte -/
theorem code_word {y : MethodName} {bytes : ByteArray} {mx : Nat} {rt : Option FieldType} {a : Array Value} {s : State} {m : MethodId} {meth : Method} {c : Code} (h1 : s.methodNamed? y = some m) (h2 : s.vm.method? m = some meth) (h3 : meth.code = some c) (h4 : c.code = bytes)
    (h5 : (c.maxLocals == mx && c.exceptionTable.isEmpty && decide (c.maxStack ≤ mostOperands) && decide (meth.sig.returnType = rt) && !meth.locks && decide (parseMethodDescriptor y.desc = some meth.sig)) = true) : (Jvm.Cond.code y bytes mx rt).before a s = true := by
  simp only [Bool.and_eq_true, beq_iff_eq, Bool.not_eq_true', decide_eq_true_eq] at h5
  obtain ⟨⟨⟨⟨⟨g1, g2⟩, g3⟩, g4⟩, g5⟩, g6⟩ := h5
  simp [Cond.before, Cond.holds, Cond.value, h1, h2, h3, h4, g1, g2, g3, g4, g5, g6]
def isCode : Jvm.Cond → Bool
  | .code _ _ _ _ => true
  | _ => false
theorem all_split {L : List Jvm.Cond} {P : Jvm.Cond → Bool} (h1 : L.all (fun c => isCode c || P c) = true) (h2 : ∀ c ∈ L.filter isCode, P c = true) : L.all P = true := by
  refine List.all_eq_true.mpr fun c hc => ?_
  have h := List.all_eq_true.mp h1 c hc
  rcases Bool.eq_false_or_eq_true (isCode c) with hi | hi
  · exact h2 c (List.mem_filter.mpr ⟨hc, hi⟩)
  · simpa [hi] using h
set_option maxRecDepth 65536 in
theorem w_c0 : (Jvm.Cond.code x code maxLocals ret).before args0 about1 = true := code_word (m := ⟨1, 1⟩) (meth := k1m1) (c := k1c1) (by decide +kernel) rfl rfl rfl (by decide +kernel)
set_option maxRecDepth 65536 in
theorem w_c1 : (Jvm.Cond.code ({ cls := "com/example/interleaved_tables/interleavedtables/storage/InputReadNumberPinLaw", name := "setHigh", desc := "([BIII)V" } : Jvm.MethodName) method_3_code (4 : Nat) (Option.none : Option Jvm.ClassFile.FieldType)).before args0 about1 = true := code_word (m := ⟨1, 2⟩) (meth := k1m2) (c := k1c2) (by decide +kernel) rfl rfl rfl (by decide +kernel)
set_option maxRecDepth 65536 in
theorem w_c2 : (Jvm.Cond.code ({ cls := "com/example/interleaved_tables/interleavedtables/storage/InputReadNumberPinLaw", name := "firstClear", desc := "([BI)I" } : Jvm.MethodName) method_4_code (2 : Nat) (Option.some Jvm.ClassFile.FieldType.int)).before args0 about1 = true := code_word (m := ⟨1, 3⟩) (meth := k1m3) (c := k1c3) (by decide +kernel) rfl rfl rfl (by decide +kernel)
set_option maxRecDepth 65536 in
theorem w_c3 : (Jvm.Cond.code ({ cls := "com/example/interleaved_tables/interleavedtables/storage/InputReadNumberPinLaw", name := "term", desc := "([BIII)J" } : Jvm.MethodName) method_5_code (4 : Nat) (Option.some Jvm.ClassFile.FieldType.long)).before args0 about1 = true := code_word (m := ⟨1, 4⟩) (meth := k1m4) (c := k1c4) (by decide +kernel) rfl rfl rfl (by decide +kernel)
set_option maxRecDepth 65536 in
theorem w_c4 : (Jvm.Cond.code ({ cls := "java/lang/Math", name := "min", desc := "(II)I" } : Jvm.MethodName) jdk_29_method_69_code (2 : Nat) (Option.some Jvm.ClassFile.FieldType.int)).before args0 about1 = true := code_word (m := ⟨2, 1⟩) (meth := k2m1) (c := k2c1) (by decide +kernel) rfl rfl rfl (by decide +kernel)
set_option maxRecDepth 65536 in
theorem w_c5 : (Jvm.Cond.code ({ cls := "com/example/interleaved_tables/interleavedtables/storage/DataFile$Input", name := "<init>", desc := "([BII)V" } : Jvm.MethodName) prog_70_method_1_code (4 : Nat) (Option.none : Option Jvm.ClassFile.FieldType)).before args0 about1 = true := code_word (m := ⟨3, 0⟩) (meth := k3m0) (c := k3c0) (by decide +kernel) rfl rfl rfl (by decide +kernel)
set_option maxRecDepth 65536 in
theorem w_c6 : (Jvm.Cond.code ({ cls := "java/lang/Object", name := "<init>", desc := "()V" } : Jvm.MethodName) object_method_1_code (1 : Nat) (Option.none : Option Jvm.ClassFile.FieldType)).before args0 about1 = true := code_word (m := ⟨0, 0⟩) (meth := k0m0) (c := k0c0) (by decide +kernel) rfl rfl rfl (by decide +kernel)
set_option maxRecDepth 65536 in
theorem w_c7 : (Jvm.Cond.code ({ cls := "com/example/interleaved_tables/interleavedtables/storage/DataFile$Input", name := "readNumber", desc := "()J" } : Jvm.MethodName) prog_70_method_2_code (5 : Nat) (Option.some Jvm.ClassFile.FieldType.long)).before args0 about1 = true := code_word (m := ⟨3, 1⟩) (meth := k3m1) (c := k3c1) (by decide +kernel) rfl rfl rfl (by decide +kernel)
set_option maxRecDepth 65536 in
theorem w_c8 : (Jvm.Cond.code ({ cls := "com/example/interleaved_tables/interleavedtables/storage/DataFile$Input", name := "position", desc := "()I" } : Jvm.MethodName) prog_70_method_7_code (1 : Nat) (Option.some Jvm.ClassFile.FieldType.int)).before args0 about1 = true := code_word (m := ⟨3, 3⟩) (meth := k3m3) (c := k3c3) (by decide +kernel) rfl rfl rfl (by decide +kernel)
set_option maxRecDepth 65536 in
theorem w_c9 : (Jvm.Cond.code ({ cls := "com/example/interleaved_tables/interleavedtables/storage/DataFile$Input", name := "remaining", desc := "()I" } : Jvm.MethodName) prog_70_method_6_code (1 : Nat) (Option.some Jvm.ClassFile.FieldType.int)).before args0 about1 = true := code_word (m := ⟨3, 2⟩) (meth := k3m2) (c := k3c2) (by decide +kernel) rfl rfl rfl (by decide +kernel)
def codes1 : List Jvm.Cond := [Jvm.Cond.code x code maxLocals ret, Jvm.Cond.code ({ cls := "com/example/interleaved_tables/interleavedtables/storage/InputReadNumberPinLaw", name := "setHigh", desc := "([BIII)V" } : Jvm.MethodName) method_3_code (4 : Nat) (Option.none : Option Jvm.ClassFile.FieldType), Jvm.Cond.code ({ cls := "com/example/interleaved_tables/interleavedtables/storage/InputReadNumberPinLaw", name := "firstClear", desc := "([BI)I" } : Jvm.MethodName) method_4_code (2 : Nat) (Option.some Jvm.ClassFile.FieldType.int), Jvm.Cond.code ({ cls := "com/example/interleaved_tables/interleavedtables/storage/InputReadNumberPinLaw", name := "term", desc := "([BIII)J" } : Jvm.MethodName) method_5_code (4 : Nat) (Option.some Jvm.ClassFile.FieldType.long), Jvm.Cond.code ({ cls := "java/lang/Math", name := "min", desc := "(II)I" } : Jvm.MethodName) jdk_29_method_69_code (2 : Nat) (Option.some Jvm.ClassFile.FieldType.int), Jvm.Cond.code ({ cls := "com/example/interleaved_tables/interleavedtables/storage/DataFile$Input", name := "<init>", desc := "([BII)V" } : Jvm.MethodName) prog_70_method_1_code (4 : Nat) (Option.none : Option Jvm.ClassFile.FieldType), Jvm.Cond.code ({ cls := "java/lang/Object", name := "<init>", desc := "()V" } : Jvm.MethodName) object_method_1_code (1 : Nat) (Option.none : Option Jvm.ClassFile.FieldType), Jvm.Cond.code ({ cls := "com/example/interleaved_tables/interleavedtables/storage/DataFile$Input", name := "readNumber", desc := "()J" } : Jvm.MethodName) prog_70_method_2_code (5 : Nat) (Option.some Jvm.ClassFile.FieldType.long), Jvm.Cond.code ({ cls := "com/example/interleaved_tables/interleavedtables/storage/DataFile$Input", name := "position", desc := "()I" } : Jvm.MethodName) prog_70_method_7_code (1 : Nat) (Option.some Jvm.ClassFile.FieldType.int), Jvm.Cond.code ({ cls := "com/example/interleaved_tables/interleavedtables/storage/DataFile$Input", name := "remaining", desc := "()I" } : Jvm.MethodName) prog_70_method_6_code (1 : Nat) (Option.some Jvm.ClassFile.FieldType.int)]
set_option maxRecDepth 65536 in
theorem codes_eq : words1.filter isCode = codes1 := rfl
theorem w_codes : ∀ c ∈ words1.filter isCode, c.before args0 about1 = true := by
  rw [codes_eq]
  intro c hc
  simp only [codes1, List.mem_cons, List.not_mem_nil, or_false] at hc
  rcases hc with rfl | rfl | rfl | rfl | rfl | rfl | rfl | rfl | rfl | rfl
  · exact w_c0
  · exact w_c1
  · exact w_c2
  · exact w_c3
  · exact w_c4
  · exact w_c5
  · exact w_c6
  · exact w_c7
  · exact w_c8
  · exact w_c9
set_option maxRecDepth 65536 in
theorem w_t1 : (words1.take 24).all (fun c => isCode c || c.before args0 about1) = true := by decide +kernel
set_option maxRecDepth 65536 in
theorem w_t2 : ((words1.drop 24).take 24).all (fun c => isCode c || c.before args0 about1) = true := by decide +kernel
set_option maxRecDepth 65536 in
theorem w_t3 : ((words1.drop 24).drop 24).all (fun c => isCode c || c.before args0 about1) = true := by decide +kernel
theorem w_tables : (allAtoms (Jvm.Cond.code x code maxLocals ret :: tables_1)).before args0 about1 = true := by
  rw [allAtoms_all]
  show words1.all (fun c => c.before args0 about1) = true
  refine all_split ?_ w_codes
  rw [← List.take_append_drop 24 words1, List.all_append, w_t1, ← List.take_append_drop 24 (words1.drop 24), List.all_append, w_t2, w_t3]
  rfl
set_option maxRecDepth 65536 in
theorem w_case : (Jvm.Cond.and given_1 narrow_1).before args0 about1 = true := by decide +kernel
theorem w_applies : (headSpec (Jvm.Cond.code x code maxLocals ret :: tables_1) room_1).applies x e0.platform about1 = true :=
  (Spec.applies_iff w_frames).mpr ⟨w_running, w_runnable, w_alone, w_named, w_hears, w_ripe, w_room, w_tables⟩
theorem atStart : AtStart classFile x code maxLocals ret World_1 tables_1 room_1 Calls_1 rest_1 Pre_1 launch0 p0 e0 about1 theMethod args0 below0 :=
  ⟨lists_1, trivial, launch0.admits_env _ _ _, launch0.least_env, fairChoices_fair.cas, fairChoices_fair.clock, w_frames, w_args, w_heap, w_applies, trivial, trivial, w_case⟩
end start1
theorem witness_1 : WitnessClaimed_1 := ⟨start1.p0, start1.e0, start1.about1, start1.theMethod, start1.args0, start1.below0, start1.atStart⟩
end Jvm.Pilot.@@N@@
