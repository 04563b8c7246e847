import JvmDerived
import JvmDerived.Pilot.@@N@@Statement
import JvmDerived.Pilot.@@N@@Code
set_option linter.unusedVariables false
set_option linter.unusedSimpArgs false
namespace Jvm.RoadKit
open Sem ClassFile Op Lib Jvm.Stand Jvm.Free Jvm.LawKit
section Own
variable {p : Program} {l : Launch} {e : Env} {R : Room} {s : State} {m : MethodId} {args : Array Value} {below : List Frame} {meth : Method} {c : Code} {T : State} {locs : List Loc} {cells slots : Nat} {Fe : Outcome → State → List Loc → Nat → Nat → Prop} {Qf : Option Value → Heap → List Loc → Prop} {kc ks : Nat} {code : ByteArray} {pc pc' : Nat} {Ls l' : Array Slot} {rest : List Value} {Z : State} {a0 : Array Value} {h : Heap}
/-- from the state S the call ends well: it returns, what is returned and the heap at the end meet Qf, and the frame is kept -/
def Gol (p : Program) (e : Env) (below : List Frame) (Fe : Outcome → State → List Loc → Nat → Nat → Prop) (Qf : Option Value → Heap → List Loc → Prop) (kc ks : Nat) (S : State) : Prop :=
  ∃ s₂ o, Steps p.tables e below S s₂ ∧ s₂.status = .running ∧ Ended s₂ below o ∧ ∃ v L, o = .returned v ∧ Qf v s₂.heap L ∧ Fe o s₂ L kc ks
theorem Gol.step {S S' : State} (st : ∀ t, Steps p.tables e below S' t → Steps p.tables e below S t) (k : Gol p e below Fe Qf kc ks S') : Gol p e below Fe Qf kc ks S := by
  obtain ⟨s₂, o, h, r⟩ := k
  exact ⟨s₂, o, st _ h, r⟩
theorem Gol.dia {S S' : State} (h1 : Gol p e below Fe Qf kc ks S' → Gol p e below Fe Qf kc ks S) (h2 : Gol p e below Fe Qf kc ks S') : Gol p e below Fe Qf kc ks S := h1 h2
theorem Gol.all {A : Type} {B : A → Prop} {S : State} {S' : A → State} (h2 : ∀ a, B a → Gol p e below Fe Qf kc ks (S' a)) (h1 : (∀ a, B a → Gol p e below Fe Qf kc ks (S' a)) → Gol p e below Fe Qf kc ks S) : Gol p e below Fe Qf kc ks S := h1 h2
/-- the run stands at pc -/
abbrev GolF (p : Program) (e : Env) (below : List Frame) (Fe : Outcome → State → List Loc → Nat → Nat → Prop) (Qf : Option Value → Heap → List Loc → Prop) (kc ks : Nat) (T : State) (m : MethodId) (pc : Nat) (Ls : Array Slot) (st : List Value) : Prop := Gol p e below Fe Qf kc ks (T.setTop (mkF m pc Ls st))
theorem Gol.fin (X : Stand p l e R s m args below meth c T locs cells slots) {v : Option Value} (hv : meth.sig.returnType = none → v = none) (hlk : meth.locks = false) {S : State} (eT : T.heap = h) (hq : Qf v h locs) (hc : cells ≤ kc) (hs : slots ≤ ks)
    (st : ∀ fs, (∀ (f : JFrame) (acts : List Action), f.method = m → f.locked = none → f.entered = [] → (doReturn e (T.setTop f) acts v).1 = T.setFrames fs) → Steps p.tables e below S (T.setFrames fs)) : Gol p e below (FrameEnd s) Qf kc ks S := by
  obtain ⟨fs, hr, hrun, hended, hW, hsame⟩ := X.leave (v := v) hv hlk
  refine ⟨_, _, st fs hr, hrun, hended, _, _, rfl, ?_, ⟨_, rfl⟩, hW, hsame.mono hc hs⟩
  show Qf v T.heap locs
  rw [eT]; exact hq
theorem Gol.finW {vm₁ : Vm} (X : Stand p l e R (s.setVm vm₁) m args below meth c T locs cells slots) {n : Nat} (hS : s.Since vm₁ n) (hn : n ≤ T.heap.size) {v : Option Value} (hv : meth.sig.returnType = none → v = none) (hlk : meth.locks = false) {S : State} (eT : T.heap = h) (hq : Qf v h locs) (hc : cells ≤ kc) (hs : slots ≤ ks)
    (st : ∀ fs, (∀ (f : JFrame) (acts : List Action), f.method = m → f.locked = none → f.entered = [] → (doReturn e (T.setTop f) acts v).1 = T.setFrames fs) → Steps p.tables e below S (T.setFrames fs)) : Gol p e below (ReturnedEndW s) Qf kc ks S := by
  obtain ⟨fs, hr, hrun, hended, h1, h2, h3, h4⟩ := X.leaveW hS hn (v := v) hv hlk
  refine ⟨_, _, st fs hr, hrun, hended, _, _, rfl, ?_, h1, h2, h3, h4.mono hc hs⟩
  show Qf v T.heap locs
  rw [eT]; exact hq
theorem Gol.aloadN (X : Stand p l e R s m args below meth c T locs cells slots) (hx : p.tables.exec = Jvm.exec) (hby : c.code = code) {k : Fin 4} {v : Value} (hd : decode code pc = .ok (.aload_n k, 1)) (hp : pc + 1 = pc') (hl : Ls[k.val]? = some (.val v)) (hv : v.isRef = true) (k : GolF p e below Fe Qf kc ks T m pc' Ls (v :: rest)) : GolF p e below Fe Qf kc ks T m pc Ls rest := by
  subst hp
  exact Gol.step (fun _ k => XS.aloadN X.here hx rfl (hb hby hd) hl hv k) k
theorem Gol.aload (X : Stand p l e R s m args below meth c T locs cells slots) (hx : p.tables.exec = Jvm.exec) (hby : c.code = code) {k : Nat} {v : Value} (hd : decode code pc = .ok (.aload k, 2)) (hp : pc + 2 = pc') (hl : Ls[k]? = some (.val v)) (hv : v.isRef = true) (k : GolF p e below Fe Qf kc ks T m pc' Ls (v :: rest)) : GolF p e below Fe Qf kc ks T m pc Ls rest := by
  subst hp
  exact Gol.step (fun _ k => XS.aload X.here hx rfl (hb hby hd) hl hv k) k
theorem Gol.iloadN (X : Stand p l e R s m args below meth c T locs cells slots) (hx : p.tables.exec = Jvm.exec) (hby : c.code = code) {k : Fin 4} {v : Int32} (hd : decode code pc = .ok (.iload_n k, 1)) (hp : pc + 1 = pc') (hl : Ls[k.val]? = some (.val (.int v))) (k : GolF p e below Fe Qf kc ks T m pc' Ls (.int v :: rest)) : GolF p e below Fe Qf kc ks T m pc Ls rest := by
  subst hp
  exact Gol.step (fun _ k => XS.iloadN X.here hx rfl (hb hby hd) hl k) k
theorem Gol.iload (X : Stand p l e R s m args below meth c T locs cells slots) (hx : p.tables.exec = Jvm.exec) (hby : c.code = code) {k : Nat} {v : Int32} (hd : decode code pc = .ok (.iload k, 2)) (hp : pc + 2 = pc') (hl : Ls[k]? = some (.val (.int v))) (k : GolF p e below Fe Qf kc ks T m pc' Ls (.int v :: rest)) : GolF p e below Fe Qf kc ks T m pc Ls rest := by
  subst hp
  exact Gol.step (fun _ k => XS.iload X.here hx rfl (hb hby hd) hl k) k
theorem Gol.istoreN (X : Stand p l e R s m args below meth c T locs cells slots) (hx : p.tables.exec = Jvm.exec) (hby : c.code = code) {k : Fin 4} {x : Int32} (hd : decode code pc = .ok (.istore_n k, 1)) (hp : pc + 1 = pc') (hl : storeLocals Ls k.val (.int x) = some l') (k : GolF p e below Fe Qf kc ks T m pc' l' rest) : GolF p e below Fe Qf kc ks T m pc Ls (.int x :: rest) := by
  subst hp
  exact Gol.step (fun _ k => XS.istoreN X.here hx rfl (hb hby hd) rfl hl k) k
theorem Gol.istore (X : Stand p l e R s m args below meth c T locs cells slots) (hx : p.tables.exec = Jvm.exec) (hby : c.code = code) {k : Nat} {x : Int32} (hd : decode code pc = .ok (.istore k, 2)) (hp : pc + 2 = pc') (hl : storeLocals Ls k (.int x) = some l') (k : GolF p e below Fe Qf kc ks T m pc' l' rest) : GolF p e below Fe Qf kc ks T m pc Ls (.int x :: rest) := by
  subst hp
  exact Gol.step (fun _ k => XS.istore X.here hx rfl (hb hby hd) rfl hl k) k
theorem Gol.lloadN (X : Stand p l e R s m args below meth c T locs cells slots) (hx : p.tables.exec = Jvm.exec) (hby : c.code = code) {k : Fin 4} {v : Int64} (hd : decode code pc = .ok (.lload_n k, 1)) (hp : pc + 1 = pc') (hl : Ls[k.val]? = some (.val (.long v))) (k : GolF p e below Fe Qf kc ks T m pc' Ls (.long v :: rest)) : GolF p e below Fe Qf kc ks T m pc Ls rest := by
  subst hp
  exact Gol.step (fun _ k => XT.lloadN X.here hx rfl (hb hby hd) hl k) k
theorem Gol.lload (X : Stand p l e R s m args below meth c T locs cells slots) (hx : p.tables.exec = Jvm.exec) (hby : c.code = code) {k : Nat} {v : Int64} (hd : decode code pc = .ok (.lload k, 2)) (hp : pc + 2 = pc') (hl : Ls[k]? = some (.val (.long v))) (k : GolF p e below Fe Qf kc ks T m pc' Ls (.long v :: rest)) : GolF p e below Fe Qf kc ks T m pc Ls rest := by
  subst hp
  exact Gol.step (fun _ k => XT.lload X.here hx rfl (hb hby hd) hl k) k
theorem Gol.lstoreN (X : Stand p l e R s m args below meth c T locs cells slots) (hx : p.tables.exec = Jvm.exec) (hby : c.code = code) {k : Fin 4} {x : Int64} (hd : decode code pc = .ok (.lstore_n k, 1)) (hp : pc + 1 = pc') (hl : storeLocals Ls k.val (.long x) = some l') (k : GolF p e below Fe Qf kc ks T m pc' l' rest) : GolF p e below Fe Qf kc ks T m pc Ls (.long x :: rest) := by
  subst hp
  exact Gol.step (fun _ k => XT.lstoreN X.here hx rfl (hb hby hd) rfl hl k) k
theorem Gol.lstore (X : Stand p l e R s m args below meth c T locs cells slots) (hx : p.tables.exec = Jvm.exec) (hby : c.code = code) {k : Nat} {x : Int64} (hd : decode code pc = .ok (.lstore k, 2)) (hp : pc + 2 = pc') (hl : storeLocals Ls k (.long x) = some l') (k : GolF p e below Fe Qf kc ks T m pc' l' rest) : GolF p e below Fe Qf kc ks T m pc Ls (.long x :: rest) := by
  subst hp
  exact Gol.step (fun _ k => XT.lstore X.here hx rfl (hb hby hd) rfl hl k) k
theorem Gol.astoreN (X : Stand p l e R s m args below meth c T locs cells slots) (hx : p.tables.exec = Jvm.exec) (hby : c.code = code) {k : Fin 4} {x : Value} (hd : decode code pc = .ok (.astore_n k, 1)) (hp : pc + 1 = pc') (hv : x.isRef = true) (hl : storeLocals Ls k.val x = some l') (k : GolF p e below Fe Qf kc ks T m pc' l' rest) : GolF p e below Fe Qf kc ks T m pc Ls (x :: rest) := by
  subst hp
  exact Gol.step (fun _ k => XS.astoreN X.here hx rfl (hb hby hd) rfl hv hl k) k
theorem Gol.astore (X : Stand p l e R s m args below meth c T locs cells slots) (hx : p.tables.exec = Jvm.exec) (hby : c.code = code) {k : Nat} {x : Value} (hd : decode code pc = .ok (.astore k, 2)) (hp : pc + 2 = pc') (hv : x.isRef = true) (hl : storeLocals Ls k x = some l') (k : GolF p e below Fe Qf kc ks T m pc' l' rest) : GolF p e below Fe Qf kc ks T m pc Ls (x :: rest) := by
  subst hp
  exact Gol.step (fun _ k => XS.astore X.here hx rfl (hb hby hd) rfl hv hl k) k
theorem Gol.iconst (X : Stand p l e R s m args below meth c T locs cells slots) (hx : p.tables.exec = Jvm.exec) (hby : c.code = code) {i : Int} {z : Int32} (hd : decode code pc = .ok (.iconst i, 1)) (hp : pc + 1 = pc') (hz : Int32.ofInt i = z) (k : GolF p e below Fe Qf kc ks T m pc' Ls (.int z :: rest)) : GolF p e below Fe Qf kc ks T m pc Ls rest := by
  subst hp hz
  exact Gol.step (fun _ k => XS.iconst X.here hx rfl (hb hby hd) k) k
theorem Gol.bipush (X : Stand p l e R s m args below meth c T locs cells slots) (hx : p.tables.exec = Jvm.exec) (hby : c.code = code) {i : Int} {z : Int32} (hd : decode code pc = .ok (.bipush i, 2)) (hp : pc + 2 = pc') (hz : (Int8.ofInt i).toInt32 = z) (k : GolF p e below Fe Qf kc ks T m pc' Ls (.int z :: rest)) : GolF p e below Fe Qf kc ks T m pc Ls rest := by
  subst hp hz
  exact Gol.step (fun _ k => XS.bipush X.here hx rfl (hb hby hd) k) k
theorem Gol.sipush (X : Stand p l e R s m args below meth c T locs cells slots) (hx : p.tables.exec = Jvm.exec) (hby : c.code = code) {i : Int} {z : Int32} (hd : decode code pc = .ok (.sipush i, 3)) (hp : pc + 3 = pc') (hz : (Int16.ofInt i).toInt32 = z) (k : GolF p e below Fe Qf kc ks T m pc' Ls (.int z :: rest)) : GolF p e below Fe Qf kc ks T m pc Ls rest := by
  subst hp hz
  exact Gol.step (fun _ k => XS.sipush X.here hx rfl (hb hby hd) k) k
theorem Gol.lconst (X : Stand p l e R s m args below meth c T locs cells slots) (hx : p.tables.exec = Jvm.exec) (hby : c.code = code) {i : Fin 2} {z : Int64} (hd : decode code pc = .ok (.lconst i, 1)) (hp : pc + 1 = pc') (hz : Int64.ofNat i = z) (k : GolF p e below Fe Qf kc ks T m pc' Ls (.long z :: rest)) : GolF p e below Fe Qf kc ks T m pc Ls rest := by
  subst hp hz
  exact Gol.step (fun _ k => XT.lconst X.here hx rfl (hb hby hd) k) k
theorem Gol.aconstNull (X : Stand p l e R s m args below meth c T locs cells slots) (hx : p.tables.exec = Jvm.exec) (hby : c.code = code) (hd : decode code pc = .ok (.aconst_null, 1)) (hp : pc + 1 = pc') (k : GolF p e below Fe Qf kc ks T m pc' Ls (.null :: rest)) : GolF p e below Fe Qf kc ks T m pc Ls rest := by
  subst hp
  exact Gol.step (fun _ k => XS.aconstNull X.here hx rfl (hb hby hd) k) k
theorem Gol.iadd (X : Stand p l e R s m args below meth c T locs cells slots) (hx : p.tables.exec = Jvm.exec) (hby : c.code = code) {x y z : Int32} (hd : decode code pc = .ok (.iadd, 1)) (hp : pc + 1 = pc') (hz : x + y = z) (k : GolF p e below Fe Qf kc ks T m pc' Ls (.int z :: rest)) : GolF p e below Fe Qf kc ks T m pc Ls (.int y :: .int x :: rest) := by
  subst hp hz
  exact Gol.step (fun _ k => XS.iadd X.here hx rfl (hb hby hd) rfl k) k
theorem Gol.ladd (X : Stand p l e R s m args below meth c T locs cells slots) (hx : p.tables.exec = Jvm.exec) (hby : c.code = code) {x y z : Int64} (hd : decode code pc = .ok (.ladd, 1)) (hp : pc + 1 = pc') (hz : x + y = z) (k : GolF p e below Fe Qf kc ks T m pc' Ls (.long z :: rest)) : GolF p e below Fe Qf kc ks T m pc Ls (.long y :: .long x :: rest) := by
  subst hp hz
  exact Gol.step (fun _ k => XT.ladd X.here hx rfl (hb hby hd) rfl k) k
theorem Gol.isub (X : Stand p l e R s m args below meth c T locs cells slots) (hx : p.tables.exec = Jvm.exec) (hby : c.code = code) {x y z : Int32} (hd : decode code pc = .ok (.isub, 1)) (hp : pc + 1 = pc') (hz : x - y = z) (k : GolF p e below Fe Qf kc ks T m pc' Ls (.int z :: rest)) : GolF p e below Fe Qf kc ks T m pc Ls (.int y :: .int x :: rest) := by
  subst hp hz
  exact Gol.step (fun _ k => XS.isub X.here hx rfl (hb hby hd) rfl k) k
theorem Gol.lsub (X : Stand p l e R s m args below meth c T locs cells slots) (hx : p.tables.exec = Jvm.exec) (hby : c.code = code) {x y z : Int64} (hd : decode code pc = .ok (.lsub, 1)) (hp : pc + 1 = pc') (hz : x - y = z) (k : GolF p e below Fe Qf kc ks T m pc' Ls (.long z :: rest)) : GolF p e below Fe Qf kc ks T m pc Ls (.long y :: .long x :: rest) := by
  subst hp hz
  exact Gol.step (fun _ k => XT.lsub X.here hx rfl (hb hby hd) rfl k) k
theorem Gol.imul (X : Stand p l e R s m args below meth c T locs cells slots) (hx : p.tables.exec = Jvm.exec) (hby : c.code = code) {x y z : Int32} (hd : decode code pc = .ok (.imul, 1)) (hp : pc + 1 = pc') (hz : x * y = z) (k : GolF p e below Fe Qf kc ks T m pc' Ls (.int z :: rest)) : GolF p e below Fe Qf kc ks T m pc Ls (.int y :: .int x :: rest) := by
  subst hp hz
  exact Gol.step (fun _ k => XS.imul X.here hx rfl (hb hby hd) rfl k) k
theorem Gol.lmul (X : Stand p l e R s m args below meth c T locs cells slots) (hx : p.tables.exec = Jvm.exec) (hby : c.code = code) {x y z : Int64} (hd : decode code pc = .ok (.lmul, 1)) (hp : pc + 1 = pc') (hz : x * y = z) (k : GolF p e below Fe Qf kc ks T m pc' Ls (.long z :: rest)) : GolF p e below Fe Qf kc ks T m pc Ls (.long y :: .long x :: rest) := by
  subst hp hz
  exact Gol.step (fun _ k => XT.lmul X.here hx rfl (hb hby hd) rfl k) k
theorem Gol.iand (X : Stand p l e R s m args below meth c T locs cells slots) (hx : p.tables.exec = Jvm.exec) (hby : c.code = code) {x y z : Int32} (hd : decode code pc = .ok (.iand, 1)) (hp : pc + 1 = pc') (hz : x &&& y = z) (k : GolF p e below Fe Qf kc ks T m pc' Ls (.int z :: rest)) : GolF p e below Fe Qf kc ks T m pc Ls (.int y :: .int x :: rest) := by
  subst hp hz
  exact Gol.step (fun _ k => XS.iand X.here hx rfl (hb hby hd) rfl k) k
theorem Gol.land (X : Stand p l e R s m args below meth c T locs cells slots) (hx : p.tables.exec = Jvm.exec) (hby : c.code = code) {x y z : Int64} (hd : decode code pc = .ok (.land, 1)) (hp : pc + 1 = pc') (hz : x &&& y = z) (k : GolF p e below Fe Qf kc ks T m pc' Ls (.long z :: rest)) : GolF p e below Fe Qf kc ks T m pc Ls (.long y :: .long x :: rest) := by
  subst hp hz
  exact Gol.step (fun _ k => XT.land X.here hx rfl (hb hby hd) rfl k) k
theorem Gol.ior (X : Stand p l e R s m args below meth c T locs cells slots) (hx : p.tables.exec = Jvm.exec) (hby : c.code = code) {x y z : Int32} (hd : decode code pc = .ok (.ior, 1)) (hp : pc + 1 = pc') (hz : x ||| y = z) (k : GolF p e below Fe Qf kc ks T m pc' Ls (.int z :: rest)) : GolF p e below Fe Qf kc ks T m pc Ls (.int y :: .int x :: rest) := by
  subst hp hz
  exact Gol.step (fun _ k => XT.ior X.here hx rfl (hb hby hd) rfl k) k
theorem Gol.lor (X : Stand p l e R s m args below meth c T locs cells slots) (hx : p.tables.exec = Jvm.exec) (hby : c.code = code) {x y z : Int64} (hd : decode code pc = .ok (.lor, 1)) (hp : pc + 1 = pc') (hz : x ||| y = z) (k : GolF p e below Fe Qf kc ks T m pc' Ls (.long z :: rest)) : GolF p e below Fe Qf kc ks T m pc Ls (.long y :: .long x :: rest) := by
  subst hp hz
  exact Gol.step (fun _ k => XT.lor X.here hx rfl (hb hby hd) rfl k) k
theorem Gol.ixor (X : Stand p l e R s m args below meth c T locs cells slots) (hx : p.tables.exec = Jvm.exec) (hby : c.code = code) {x y z : Int32} (hd : decode code pc = .ok (.ixor, 1)) (hp : pc + 1 = pc') (hz : x ^^^ y = z) (k : GolF p e below Fe Qf kc ks T m pc' Ls (.int z :: rest)) : GolF p e below Fe Qf kc ks T m pc Ls (.int y :: .int x :: rest) := by
  subst hp hz
  exact Gol.step (fun _ k => XT.ixor X.here hx rfl (hb hby hd) rfl k) k
theorem Gol.lxor (X : Stand p l e R s m args below meth c T locs cells slots) (hx : p.tables.exec = Jvm.exec) (hby : c.code = code) {x y z : Int64} (hd : decode code pc = .ok (.lxor, 1)) (hp : pc + 1 = pc') (hz : x ^^^ y = z) (k : GolF p e below Fe Qf kc ks T m pc' Ls (.long z :: rest)) : GolF p e below Fe Qf kc ks T m pc Ls (.long y :: .long x :: rest) := by
  subst hp hz
  exact Gol.step (fun _ k => XT.lxor X.here hx rfl (hb hby hd) rfl k) k
theorem Gol.ishl (X : Stand p l e R s m args below meth c T locs cells slots) (hx : p.tables.exec = Jvm.exec) (hby : c.code = code) {x y z : Int32} (hd : decode code pc = .ok (.ishl, 1)) (hp : pc + 1 = pc') (hz : x <<< (y &&& 31) = z) (k : GolF p e below Fe Qf kc ks T m pc' Ls (.int z :: rest)) : GolF p e below Fe Qf kc ks T m pc Ls (.int y :: .int x :: rest) := by
  subst hp hz
  exact Gol.step (fun _ k => XT.ishl X.here hx rfl (hb hby hd) rfl k) k
theorem Gol.ishr (X : Stand p l e R s m args below meth c T locs cells slots) (hx : p.tables.exec = Jvm.exec) (hby : c.code = code) {x y z : Int32} (hd : decode code pc = .ok (.ishr, 1)) (hp : pc + 1 = pc') (hz : x >>> (y &&& 31) = z) (k : GolF p e below Fe Qf kc ks T m pc' Ls (.int z :: rest)) : GolF p e below Fe Qf kc ks T m pc Ls (.int y :: .int x :: rest) := by
  subst hp hz
  exact Gol.step (fun _ k => XT.ishr X.here hx rfl (hb hby hd) rfl k) k
theorem Gol.iushr (X : Stand p l e R s m args below meth c T locs cells slots) (hx : p.tables.exec = Jvm.exec) (hby : c.code = code) {x y z : Int32} (hd : decode code pc = .ok (.iushr, 1)) (hp : pc + 1 = pc') (hz : XT.ushr x y = z) (k : GolF p e below Fe Qf kc ks T m pc' Ls (.int z :: rest)) : GolF p e below Fe Qf kc ks T m pc Ls (.int y :: .int x :: rest) := by
  subst hp hz
  exact Gol.step (fun _ k => XT.iushr X.here hx rfl (hb hby hd) rfl k) k
theorem Gol.lshl (X : Stand p l e R s m args below meth c T locs cells slots) (hx : p.tables.exec = Jvm.exec) (hby : c.code = code) {x z : Int64} {y : Int32} (hd : decode code pc = .ok (.lshl, 1)) (hp : pc + 1 = pc') (hz : x <<< (y.toInt64 &&& 63) = z) (k : GolF p e below Fe Qf kc ks T m pc' Ls (.long z :: rest)) : GolF p e below Fe Qf kc ks T m pc Ls (.int y :: .long x :: rest) := by
  subst hp hz
  exact Gol.step (fun _ k => XT.lshl X.here hx rfl (hb hby hd) rfl k) k
theorem Gol.lshr (X : Stand p l e R s m args below meth c T locs cells slots) (hx : p.tables.exec = Jvm.exec) (hby : c.code = code) {x z : Int64} {y : Int32} (hd : decode code pc = .ok (.lshr, 1)) (hp : pc + 1 = pc') (hz : x >>> (y.toInt64 &&& 63) = z) (k : GolF p e below Fe Qf kc ks T m pc' Ls (.long z :: rest)) : GolF p e below Fe Qf kc ks T m pc Ls (.int y :: .long x :: rest) := by
  subst hp hz
  exact Gol.step (fun _ k => XT.lshr X.here hx rfl (hb hby hd) rfl k) k
theorem Gol.lushr (X : Stand p l e R s m args below meth c T locs cells slots) (hx : p.tables.exec = Jvm.exec) (hby : c.code = code) {x z : Int64} {y : Int32} (hd : decode code pc = .ok (.lushr, 1)) (hp : pc + 1 = pc') (hz : XT.ushrL x y = z) (k : GolF p e below Fe Qf kc ks T m pc' Ls (.long z :: rest)) : GolF p e below Fe Qf kc ks T m pc Ls (.int y :: .long x :: rest) := by
  subst hp hz
  exact Gol.step (fun _ k => XT.lushr X.here hx rfl (hb hby hd) rfl k) k
theorem Gol.lcmp (X : Stand p l e R s m args below meth c T locs cells slots) (hx : p.tables.exec = Jvm.exec) (hby : c.code = code) {x y : Int64} (hd : decode code pc = .ok (.lcmp, 1)) (hp : pc + 1 = pc') (k : GolF p e below Fe Qf kc ks T m pc' Ls (.int (XT.cmpL x y) :: rest)) : GolF p e below Fe Qf kc ks T m pc Ls (.long y :: .long x :: rest) := by
  subst hp
  exact Gol.step (fun _ k => XT.lcmp X.here hx rfl (hb hby hd) rfl k) k
theorem Gol.ineg (X : Stand p l e R s m args below meth c T locs cells slots) (hx : p.tables.exec = Jvm.exec) (hby : c.code = code) {x : Int32} {z : Int32} (hd : decode code pc = .ok (.ineg, 1)) (hp : pc + 1 = pc') (hz : -x = z) (k : GolF p e below Fe Qf kc ks T m pc' Ls (.int z :: rest)) : GolF p e below Fe Qf kc ks T m pc Ls (.int x :: rest) := by
  subst hp hz
  exact Gol.step (fun _ k => XS.ineg X.here hx rfl (hb hby hd) rfl k) k
theorem Gol.lneg (X : Stand p l e R s m args below meth c T locs cells slots) (hx : p.tables.exec = Jvm.exec) (hby : c.code = code) {x : Int64} {z : Int64} (hd : decode code pc = .ok (.lneg, 1)) (hp : pc + 1 = pc') (hz : -x = z) (k : GolF p e below Fe Qf kc ks T m pc' Ls (.long z :: rest)) : GolF p e below Fe Qf kc ks T m pc Ls (.long x :: rest) := by
  subst hp hz
  exact Gol.step (fun _ k => XT.lneg X.here hx rfl (hb hby hd) rfl k) k
theorem Gol.i2l (X : Stand p l e R s m args below meth c T locs cells slots) (hx : p.tables.exec = Jvm.exec) (hby : c.code = code) {x : Int32} {z : Int64} (hd : decode code pc = .ok (.i2l, 1)) (hp : pc + 1 = pc') (hz : x.toInt64 = z) (k : GolF p e below Fe Qf kc ks T m pc' Ls (.long z :: rest)) : GolF p e below Fe Qf kc ks T m pc Ls (.int x :: rest) := by
  subst hp hz
  exact Gol.step (fun _ k => XT.i2l X.here hx rfl (hb hby hd) rfl k) k
theorem Gol.l2i (X : Stand p l e R s m args below meth c T locs cells slots) (hx : p.tables.exec = Jvm.exec) (hby : c.code = code) {x : Int64} {z : Int32} (hd : decode code pc = .ok (.l2i, 1)) (hp : pc + 1 = pc') (hz : x.toInt32 = z) (k : GolF p e below Fe Qf kc ks T m pc' Ls (.int z :: rest)) : GolF p e below Fe Qf kc ks T m pc Ls (.long x :: rest) := by
  subst hp hz
  exact Gol.step (fun _ k => XT.l2i X.here hx rfl (hb hby hd) rfl k) k
theorem Gol.i2b (X : Stand p l e R s m args below meth c T locs cells slots) (hx : p.tables.exec = Jvm.exec) (hby : c.code = code) {x : Int32} {z : Int32} (hd : decode code pc = .ok (.i2b, 1)) (hp : pc + 1 = pc') (hz : x.toInt8.toInt32 = z) (k : GolF p e below Fe Qf kc ks T m pc' Ls (.int z :: rest)) : GolF p e below Fe Qf kc ks T m pc Ls (.int x :: rest) := by
  subst hp hz
  exact Gol.step (fun _ k => XT.i2b X.here hx rfl (hb hby hd) rfl k) k
theorem Gol.i2s (X : Stand p l e R s m args below meth c T locs cells slots) (hx : p.tables.exec = Jvm.exec) (hby : c.code = code) {x : Int32} {z : Int32} (hd : decode code pc = .ok (.i2s, 1)) (hp : pc + 1 = pc') (hz : x.toInt16.toInt32 = z) (k : GolF p e below Fe Qf kc ks T m pc' Ls (.int z :: rest)) : GolF p e below Fe Qf kc ks T m pc Ls (.int x :: rest) := by
  subst hp hz
  exact Gol.step (fun _ k => XT.i2s X.here hx rfl (hb hby hd) rfl k) k
theorem Gol.i2c (X : Stand p l e R s m args below meth c T locs cells slots) (hx : p.tables.exec = Jvm.exec) (hby : c.code = code) {x : Int32} {z : Int32} (hd : decode code pc = .ok (.i2c, 1)) (hp : pc + 1 = pc') (hz : x.toUInt32.toUInt16.toUInt32.toInt32 = z) (k : GolF p e below Fe Qf kc ks T m pc' Ls (.int z :: rest)) : GolF p e below Fe Qf kc ks T m pc Ls (.int x :: rest) := by
  subst hp hz
  exact Gol.step (fun _ k => XT.i2c X.here hx rfl (hb hby hd) rfl k) k
theorem Gol.idiv (X : Stand p l e R s m args below meth c T locs cells slots) (hx : p.tables.exec = Jvm.exec) (hby : c.code = code) {x y : Int32} (hd : decode code pc = .ok (.idiv, 1)) (hp : pc + 1 = pc') (hy : y ≠ 0) (k : GolF p e below Fe Qf kc ks T m pc' Ls (.int (x / y) :: rest)) : GolF p e below Fe Qf kc ks T m pc Ls (.int y :: .int x :: rest) := by
  subst hp
  exact Gol.step (fun _ k => XS.idiv X.here hx rfl (hb hby hd) rfl hy k) k
theorem Gol.irem (X : Stand p l e R s m args below meth c T locs cells slots) (hx : p.tables.exec = Jvm.exec) (hby : c.code = code) {x y : Int32} (hd : decode code pc = .ok (.irem, 1)) (hp : pc + 1 = pc') (hy : y ≠ 0) (k : GolF p e below Fe Qf kc ks T m pc' Ls (.int (x % y) :: rest)) : GolF p e below Fe Qf kc ks T m pc Ls (.int y :: .int x :: rest) := by
  subst hp
  exact Gol.step (fun _ k => Jvm.RoadKit.iremM X hx rfl (hb hby hd) rfl hy k) k
theorem Gol.ldiv (X : Stand p l e R s m args below meth c T locs cells slots) (hx : p.tables.exec = Jvm.exec) (hby : c.code = code) {x y : Int64} (hd : decode code pc = .ok (.ldiv, 1)) (hp : pc + 1 = pc') (hy : y ≠ 0) (k : GolF p e below Fe Qf kc ks T m pc' Ls (.long (x / y) :: rest)) : GolF p e below Fe Qf kc ks T m pc Ls (.long y :: .long x :: rest) := by
  subst hp
  exact Gol.step (fun _ k => XT.ldiv X.here hx rfl (hb hby hd) rfl hy k) k
theorem Gol.lrem (X : Stand p l e R s m args below meth c T locs cells slots) (hx : p.tables.exec = Jvm.exec) (hby : c.code = code) {x y : Int64} (hd : decode code pc = .ok (.lrem, 1)) (hp : pc + 1 = pc') (hy : y ≠ 0) (k : GolF p e below Fe Qf kc ks T m pc' Ls (.long (x - (x / y) * y) :: rest)) : GolF p e below Fe Qf kc ks T m pc Ls (.long y :: .long x :: rest) := by
  subst hp
  exact Gol.step (fun _ k => XT.lrem X.here hx rfl (hb hby hd) rfl hy k) k
theorem Gol.iinc (X : Stand p l e R s m args below meth c T locs cells slots) (hx : p.tables.exec = Jvm.exec) (hby : c.code = code) {k : Nat} {cst : Int} {x : Int32} (hd : decode code pc = .ok (.iinc k cst, 3)) (hp : pc + 3 = pc') (hl : Ls[k]? = some (.val (.int x))) (hl' : storeLocals Ls k (.int (x + Int32.ofInt cst)) = some l') (k : GolF p e below Fe Qf kc ks T m pc' l' rest) : GolF p e below Fe Qf kc ks T m pc Ls rest := by
  subst hp
  exact Gol.step (fun _ k => XS.iinc X.here hx rfl (hb hby hd) hl hl' k) k
theorem Gol.dup (X : Stand p l e R s m args below meth c T locs cells slots) (hx : p.tables.exec = Jvm.exec) (hby : c.code = code) {x : Value} (hd : decode code pc = .ok (.dup, 1)) (hp : pc + 1 = pc') (hc : x.category = 1) (k : GolF p e below Fe Qf kc ks T m pc' Ls (x :: x :: rest)) : GolF p e below Fe Qf kc ks T m pc Ls (x :: rest) := by
  subst hp
  exact Gol.step (fun _ k => XS.dup X.here hx rfl (hb hby hd) rfl hc k) k
theorem Gol.pop (X : Stand p l e R s m args below meth c T locs cells slots) (hx : p.tables.exec = Jvm.exec) (hby : c.code = code) {x : Value} (hd : decode code pc = .ok (.pop, 1)) (hp : pc + 1 = pc') (hc : x.category = 1) (k : GolF p e below Fe Qf kc ks T m pc' Ls rest) : GolF p e below Fe Qf kc ks T m pc Ls (x :: rest) := by
  subst hp
  exact Gol.step (fun _ k => XT.pop X.here hx rfl (hb hby hd) rfl hc k) k
theorem Gol.dupX1 (X : Stand p l e R s m args below meth c T locs cells slots) (hx : p.tables.exec = Jvm.exec) (hby : c.code = code) {x y : Value} (hd : decode code pc = .ok (.dup_x1, 1)) (hp : pc + 1 = pc') (hc : x.category = 1) (hc' : y.category = 1) (k : GolF p e below Fe Qf kc ks T m pc' Ls (x :: y :: x :: rest)) : GolF p e below Fe Qf kc ks T m pc Ls (x :: y :: rest) := by
  subst hp
  exact Gol.step (fun _ k => XT.dupX1 X.here hx rfl (hb hby hd) rfl hc hc' k) k
theorem Gol.dup2 (X : Stand p l e R s m args below meth c T locs cells slots) (hx : p.tables.exec = Jvm.exec) (hby : c.code = code) {x y : Value} (hd : decode code pc = .ok (.dup2, 1)) (hp : pc + 1 = pc') (hc : x.category = 1) (hc' : y.category = 1) (k : GolF p e below Fe Qf kc ks T m pc' Ls (x :: y :: x :: y :: rest)) : GolF p e below Fe Qf kc ks T m pc Ls (x :: y :: rest) := by
  subst hp
  exact Gol.step (fun _ k => XT.dup2 X.here hx rfl (hb hby hd) rfl hc hc' k) k
theorem Gol.dup2L (X : Stand p l e R s m args below meth c T locs cells slots) (hx : p.tables.exec = Jvm.exec) (hby : c.code = code) {x : Int64} (hd : decode code pc = .ok (.dup2, 1)) (hp : pc + 1 = pc') (k : GolF p e below Fe Qf kc ks T m pc' Ls (.long x :: .long x :: rest)) : GolF p e below Fe Qf kc ks T m pc Ls (.long x :: rest) := by
  subst hp
  exact Gol.step (fun _ k => XT.dup2L X.here hx rfl (hb hby hd) rfl k) k
theorem Gol.goto (X : Stand p l e R s m args below meth c T locs cells slots) (hx : p.tables.exec = Jvm.exec) (hby : c.code = code) {o : Int} (hd : decode code pc = .ok (.goto o, 3)) (hp : (pc : Int) + o = (pc' : Int)) (k : GolF p e below Fe Qf kc ks T m pc' Ls rest) : GolF p e below Fe Qf kc ks T m pc Ls rest :=
  Gol.step (fun _ k => XS.goto X.here hx rfl (pc0 := pc) rfl (hb hby hd) (by rw [hp]; exact Int.natCast_nonneg _) (by rw [hp]; rfl) k) k
theorem Gol.ifYes (X : Stand p l e R s m args below meth c T locs cells slots) (hx : p.tables.exec = Jvm.exec) (hby : c.code = code) {o : Int} {cd : ClassFile.Cond} {x : Int32} (hd : decode code pc = .ok (.ifCond cd o, 3)) (hp : (pc : Int) + o = (pc' : Int)) (hc : ifCond.holds cd x = true) (k : GolF p e below Fe Qf kc ks T m pc' Ls rest) : GolF p e below Fe Qf kc ks T m pc Ls (.int x :: rest) :=
  Gol.step (fun _ k => XS.ifYes X.here hx rfl (pc0 := pc) rfl (hb hby hd) rfl hc (by rw [hp]; exact Int.natCast_nonneg _) (by rw [hp]; rfl) k) k
theorem Gol.icmpYes (X : Stand p l e R s m args below meth c T locs cells slots) (hx : p.tables.exec = Jvm.exec) (hby : c.code = code) {o : Int} {cd : ClassFile.Cond} {x y : Int32} (hd : decode code pc = .ok (.if_icmp cd o, 3)) (hp : (pc : Int) + o = (pc' : Int)) (hc : if_icmp.holds cd x y = true) (k : GolF p e below Fe Qf kc ks T m pc' Ls rest) : GolF p e below Fe Qf kc ks T m pc Ls (.int y :: .int x :: rest) :=
  Gol.step (fun _ k => XS.icmpYes X.here hx rfl (pc0 := pc) rfl (hb hby hd) rfl hc (by rw [hp]; exact Int.natCast_nonneg _) (by rw [hp]; rfl) k) k
theorem Gol.ifNo (X : Stand p l e R s m args below meth c T locs cells slots) (hx : p.tables.exec = Jvm.exec) (hby : c.code = code) {o : Int} {cd : ClassFile.Cond} {x : Int32} (hd : decode code pc = .ok (.ifCond cd o, 3)) (hp : pc + 3 = pc') (hc : ifCond.holds cd x = false) (k : GolF p e below Fe Qf kc ks T m pc' Ls rest) : GolF p e below Fe Qf kc ks T m pc Ls (.int x :: rest) := by
  subst hp
  exact Gol.step (fun _ k => XS.ifNo X.here hx rfl (hb hby hd) rfl hc k) k
theorem Gol.icmpNo (X : Stand p l e R s m args below meth c T locs cells slots) (hx : p.tables.exec = Jvm.exec) (hby : c.code = code) {o : Int} {cd : ClassFile.Cond} {x y : Int32} (hd : decode code pc = .ok (.if_icmp cd o, 3)) (hp : pc + 3 = pc') (hc : if_icmp.holds cd x y = false) (k : GolF p e below Fe Qf kc ks T m pc' Ls rest) : GolF p e below Fe Qf kc ks T m pc Ls (.int y :: .int x :: rest) := by
  subst hp
  exact Gol.step (fun _ k => XS.icmpNo X.here hx rfl (hb hby hd) rfl hc k) k
theorem Gol.ifnullYes (X : Stand p l e R s m args below meth c T locs cells slots) (hx : p.tables.exec = Jvm.exec) (hby : c.code = code) {o : Int} (hd : decode code pc = .ok (.ifnull o, 3)) (hp : (pc : Int) + o = (pc' : Int)) (k : GolF p e below Fe Qf kc ks T m pc' Ls rest) : GolF p e below Fe Qf kc ks T m pc Ls (.null :: rest) :=
  Gol.step (fun _ k => XS.ifnullYes X.here hx rfl (pc0 := pc) rfl (hb hby hd) rfl (by rw [hp]; exact Int.natCast_nonneg _) (by rw [hp]; rfl) k) k
theorem Gol.ifnullNo (X : Stand p l e R s m args below meth c T locs cells slots) (hx : p.tables.exec = Jvm.exec) (hby : c.code = code) {o : Int} {b : Addr} (hd : decode code pc = .ok (.ifnull o, 3)) (hp : pc + 3 = pc') (k : GolF p e below Fe Qf kc ks T m pc' Ls rest) : GolF p e below Fe Qf kc ks T m pc Ls (.ref b :: rest) := by
  subst hp
  exact Gol.step (fun _ k => XS.ifnullNo X.here hx rfl (hb hby hd) rfl k) k
theorem Gol.ifnonnullYes (X : Stand p l e R s m args below meth c T locs cells slots) (hx : p.tables.exec = Jvm.exec) (hby : c.code = code) {o : Int} {b : Addr} (hd : decode code pc = .ok (.ifnonnull o, 3)) (hp : (pc : Int) + o = (pc' : Int)) (k : GolF p e below Fe Qf kc ks T m pc' Ls rest) : GolF p e below Fe Qf kc ks T m pc Ls (.ref b :: rest) :=
  Gol.step (fun _ k => XT.ifnonnullYes X.here hx rfl (pc0 := pc) rfl (hb hby hd) rfl (by rw [hp]; exact Int.natCast_nonneg _) (by rw [hp]; rfl) k) k
theorem Gol.ifnonnullNo (X : Stand p l e R s m args below meth c T locs cells slots) (hx : p.tables.exec = Jvm.exec) (hby : c.code = code) {o : Int} (hd : decode code pc = .ok (.ifnonnull o, 3)) (hp : pc + 3 = pc') (k : GolF p e below Fe Qf kc ks T m pc' Ls rest) : GolF p e below Fe Qf kc ks T m pc Ls (.null :: rest) := by
  subst hp
  exact Gol.step (fun _ k => XT.ifnonnullNo X.here hx rfl (hb hby hd) rfl k) k
theorem Gol.acmp (X : Stand p l e R s m args below meth c T locs cells slots) (hx : p.tables.exec = Jvm.exec) (hby : c.code = code) {cd : ACond} {o : Int} {x y : Value} (same : Bool) (hd : decode code pc = .ok (.if_acmp cd o, 3)) (h1 : x.isRef = true) (h2 : y.isRef = true) (hq : decide (x = y) = same) (ho : 0 ≤ (pc : Int) + o) (hp : pc' = if acV cd same = true then ((pc : Int) + o).toNat else pc + 3) (k : GolF p e below Fe Qf kc ks T m pc' Ls rest) : GolF p e below Fe Qf kc ks T m pc Ls (y :: x :: rest) :=
  Gol.step (fun _ k => Jvm.RoadKit.acmp (g := mkF m pc Ls (y :: x :: rest)) X hx rfl h1 h2 (pc0 := pc) (pc' := pc') rfl (hb hby hd) rfl hq ho hp k) k
theorem Gol.ldcInt (X : Stand p l e R s m args below meth c T locs cells slots) (hx : p.tables.exec = Jvm.exec) (hby : c.code = code) (hZ : Z.Warmed39 s.vm) {own : String} (hown : s.vm.findClass own = some m.cls) {index : Nat} {v : Int32} (hd : decode code pc = .ok (.ldc index, 2)) (hp : pc + 2 = pc') (w : (Cond.constant own index v).before a0 Z = true) (k : GolF p e below Fe Qf kc ks T m pc' Ls (.int v :: rest)) : GolF p e below Fe Qf kc ks T m pc Ls rest := by
  subst hp
  exact Gol.step (fun _ k => X.ldcInt hx hown (mvT hZ w) (g := mkF m pc Ls rest) rfl (hb hby hd) _ k) k
theorem Gol.ldcwInt (X : Stand p l e R s m args below meth c T locs cells slots) (hx : p.tables.exec = Jvm.exec) (hby : c.code = code) (hZ : Z.Warmed39 s.vm) {own : String} (hown : s.vm.findClass own = some m.cls) {index : Nat} {v : Int32} (hd : decode code pc = .ok (.ldc_w index, 3)) (hp : pc + 3 = pc') (w : (Cond.constant own index v).before a0 Z = true) (k : GolF p e below Fe Qf kc ks T m pc' Ls (.int v :: rest)) : GolF p e below Fe Qf kc ks T m pc Ls rest := by
  subst hp
  exact Gol.step (fun _ k => X.ldcwInt hx hown (mvT hZ w) (g := mkF m pc Ls rest) rfl (hb hby hd) _ k) k
theorem Gol.ldc2Long (X : Stand p l e R s m args below meth c T locs cells slots) (hx : p.tables.exec = Jvm.exec) (hby : c.code = code) (hZ : Z.Warmed39 s.vm) {own : String} (hown : s.vm.findClass own = some m.cls) {index : Nat} {v : Int64} (hd : decode code pc = .ok (.ldc2_w index, 3)) (hp : pc + 3 = pc') (w : (Cond.constantLong own index v).before a0 Z = true) (k : GolF p e below Fe Qf kc ks T m pc' Ls (.long v :: rest)) : GolF p e below Fe Qf kc ks T m pc Ls rest := by
  subst hp
  exact Gol.step (fun _ k => X.ldc2Long hx hown (mvT hZ w) (g := mkF m pc Ls rest) rfl (hb hby hd) _ k) k
theorem Gol.iaload (X : Stand p l e R s m args below meth c T locs cells slots) (hx : p.tables.exec = Jvm.exec) (hby : c.code = code) (hZ : Z.Warmed39 s.vm) (eT : T.heap = h) {a : Addr} {ka : ClassId} {z j : Int32} {vs : List Value} {dv : Value} {v : Int32} (A : Arv Z h a ka .int z vs dv) (hd : decode code pc = .ok (.iaload, 1)) (hp : pc + 1 = pc') (hj : ¬ j < 0 ∧ j < z) (hv : vs.getD j.toNatClampNeg dv = .int v) (k : GolF p e below Fe Qf kc ks T m pc' Ls (.int v :: rest)) : GolF p e below Fe Qf kc ks T m pc Ls (.int j :: .ref a :: rest) := by
  subst hp
  obtain ⟨cl, Ar, -, S, -, Hs, -⟩ := A
  have hin := inb_of S hj
  exact Gol.step (fun _ k => X.iaload hx (by rw [eT]; exact Ar.1) (State.isArrayOf_alike hZ.alike Ar.2.1) Ar.2.2 hin (Has.at Hs hin hv) (g := mkF m pc Ls (.int j :: .ref a :: rest)) rfl rfl (hb hby hd) _ k) k
theorem Gol.baload (X : Stand p l e R s m args below meth c T locs cells slots) (hx : p.tables.exec = Jvm.exec) (hby : c.code = code) (hZ : Z.Warmed39 s.vm) (eT : T.heap = h) {a : Addr} {ka : ClassId} {z j : Int32} {vs : List Value} {dv : Value} {v : Int32} (A : Arv Z h a ka .byte z vs dv) (hd : decode code pc = .ok (.baload, 1)) (hp : pc + 1 = pc') (hj : ¬ j < 0 ∧ j < z) (hv : vs.getD j.toNatClampNeg dv = .int v) (k : GolF p e below Fe Qf kc ks T m pc' Ls (.int v :: rest)) : GolF p e below Fe Qf kc ks T m pc Ls (.int j :: .ref a :: rest) := by
  subst hp
  obtain ⟨cl, Ar, -, S, -, Hs, -⟩ := A
  have hin := inb_of S hj
  exact Gol.step (fun _ k => X.baloadBytes hx (by rw [eT]; exact Ar.1) (State.isArrayOf_alike hZ.alike Ar.2.1) Ar.2.2 hin (Has.at Hs hin hv) (g := mkF m pc Ls (.int j :: .ref a :: rest)) rfl rfl (hb hby hd) _ k) k
theorem Gol.caload (X : Stand p l e R s m args below meth c T locs cells slots) (hx : p.tables.exec = Jvm.exec) (hby : c.code = code) (hZ : Z.Warmed39 s.vm) (eT : T.heap = h) {a : Addr} {ka : ClassId} {z j : Int32} {vs : List Value} {dv : Value} {v : Int32} (A : Arv Z h a ka .char z vs dv) (hd : decode code pc = .ok (.caload, 1)) (hp : pc + 1 = pc') (hj : ¬ j < 0 ∧ j < z) (hv : vs.getD j.toNatClampNeg dv = .int v) (k : GolF p e below Fe Qf kc ks T m pc' Ls (.int v :: rest)) : GolF p e below Fe Qf kc ks T m pc Ls (.int j :: .ref a :: rest) := by
  subst hp
  obtain ⟨cl, Ar, -, S, -, Hs, -⟩ := A
  have hin := inb_of S hj
  exact Gol.step (fun _ k => X.caload hx (by rw [eT]; exact Ar.1) (State.isArrayOf_alike hZ.alike Ar.2.1) Ar.2.2 hin (Has.at Hs hin hv) (g := mkF m pc Ls (.int j :: .ref a :: rest)) rfl rfl (hb hby hd) _ k) k
theorem Gol.laload (X : Stand p l e R s m args below meth c T locs cells slots) (hx : p.tables.exec = Jvm.exec) (hby : c.code = code) (hZ : Z.Warmed39 s.vm) (eT : T.heap = h) {a : Addr} {ka : ClassId} {z j : Int32} {vs : List Value} {dv : Value} {v : Int64} (A : Arv Z h a ka .long z vs dv) (hd : decode code pc = .ok (.laload, 1)) (hp : pc + 1 = pc') (hj : ¬ j < 0 ∧ j < z) (hv : vs.getD j.toNatClampNeg dv = .long v) (k : GolF p e below Fe Qf kc ks T m pc' Ls (.long v :: rest)) : GolF p e below Fe Qf kc ks T m pc Ls (.int j :: .ref a :: rest) := by
  subst hp
  obtain ⟨cl, Ar, -, S, -, Hs, -⟩ := A
  have hin := inb_of S hj
  exact Gol.step (fun _ k => X.laload hx (by rw [eT]; exact Ar.1) (State.isArrayOf_alike hZ.alike Ar.2.1) Ar.2.2 hin (Has.at Hs hin hv) (g := mkF m pc Ls (.int j :: .ref a :: rest)) rfl rfl (hb hby hd) _ k) k
theorem Gol.aaload (X : Stand p l e R s m args below meth c T locs cells slots) (hx : p.tables.exec = Jvm.exec) (hby : c.code = code) (hZ : Z.Warmed39 s.vm) (eT : T.heap = h) {a : Addr} {ka : ClassId} {ty : FieldType} {z j : Int32} {vs : List Value} {dv v : Value} (A : Arv Z h a ka ty z vs dv) (hd : decode code pc = .ok (.aaload, 1)) (hp : pc + 1 = pc') (ht : ty.isReference = true) (hj : ¬ j < 0 ∧ j < z) (hv : vs.getD j.toNatClampNeg dv = v) (k : GolF p e below Fe Qf kc ks T m pc' Ls (v :: rest)) : GolF p e below Fe Qf kc ks T m pc Ls (.int j :: .ref a :: rest) := by
  subst hp
  obtain ⟨cl, Ar, -, S, -, Hs, -⟩ := A
  have hin := inb_of S hj
  exact Gol.step (fun _ k => X.aaload hx (by rw [eT]; exact Ar.1) (State.isArrayOf_alike hZ.alike Ar.2.1) ht Ar.2.2 hin (Has.at Hs hin hv) (g := mkF m pc Ls (.int j :: .ref a :: rest)) rfl rfl (hb hby hd) _ k) k
theorem Gol.alen (X : Stand p l e R s m args below meth c T locs cells slots) (hx : p.tables.exec = Jvm.exec) (hby : c.code = code) (hZ : Z.Warmed39 s.vm) (eT : T.heap = h) {a : Addr} {ka : ClassId} {ty : FieldType} {z : Int32} {vs : List Value} {dv : Value} (A : Arv Z h a ka ty z vs dv) (hd : decode code pc = .ok (.arraylength, 1)) (hp : pc + 1 = pc') (k : GolF p e below Fe Qf kc ks T m pc' Ls (.int z :: rest)) : GolF p e below Fe Qf kc ks T m pc Ls (.ref a :: rest) := by
  subst hp
  obtain ⟨cl, Ar, -, S, M, -, -⟩ := A
  rw [← len_of S M] at k
  exact Gol.step (fun _ k => X.arraylength hx (by rw [eT]; exact Ar.1) (State.isArrayOf_alike hZ.alike Ar.2.1) (g := mkF m pc Ls (.ref a :: rest)) rfl rfl (hb hby hd) _ k) k
theorem Gol.iastore (X : Stand p l e R s m args below meth c T locs cells slots) (hx : p.tables.exec = Jvm.exec) (hby : c.code = code) (hZ : Z.Warmed39 s.vm) (eT : T.heap = h) {a : Addr} {ka : ClassId} {z j : Int32} {x : Int32} {vs : List Value} {dv : Value} (A : Arv Z h a ka .int z vs dv) (hd : decode code pc = .ok (.iastore, 1)) (hp : pc + 1 = pc') (hj : ¬ j < 0 ∧ j < z) (i : Nat) (hi : j.toNatClampNeg = i) (hl : i < vs.length)
    (k : ∀ (T' : State) (h' : Heap), Stand p l e R s m args below meth c T' (locs ++ [⟨a, j.toNatClampNeg⟩]) cells slots → T'.heap = h' → Wr h h' a j.toNatClampNeg (.int x) → Arv Z h' a ka .int z (vs.set i (.int x)) dv → GolF p e below Fe Qf kc ks T' m pc' Ls rest) : GolF p e below Fe Qf kc ks T m pc Ls (.int x :: .int j :: .ref a :: rest) := by
  subst hp
  obtain ⟨cl, Ar, q, S, M, Hs, G⟩ := A
  have hin := inb_of S hj
  obtain ⟨T', h', X', e', W, st⟩ := stI X hx hZ eT Ar (j := j) hin (g := mkF m pc Ls (.int x :: .int j :: .ref a :: rest)) rfl rfl (hb hby hd)
  exact Gol.step st (k T' h' X' e' W (Arv.set Ar q S M Hs G rfl W i hi hl))
theorem Gol.lastore (X : Stand p l e R s m args below meth c T locs cells slots) (hx : p.tables.exec = Jvm.exec) (hby : c.code = code) (hZ : Z.Warmed39 s.vm) (eT : T.heap = h) {a : Addr} {ka : ClassId} {z j : Int32} {x : Int64} {vs : List Value} {dv : Value} (A : Arv Z h a ka .long z vs dv) (hd : decode code pc = .ok (.lastore, 1)) (hp : pc + 1 = pc') (hj : ¬ j < 0 ∧ j < z) (i : Nat) (hi : j.toNatClampNeg = i) (hl : i < vs.length)
    (k : ∀ (T' : State) (h' : Heap), Stand p l e R s m args below meth c T' (locs ++ [⟨a, j.toNatClampNeg⟩]) cells slots → T'.heap = h' → Wr h h' a j.toNatClampNeg (.long x) → Arv Z h' a ka .long z (vs.set i (.long x)) dv → GolF p e below Fe Qf kc ks T' m pc' Ls rest) : GolF p e below Fe Qf kc ks T m pc Ls (.long x :: .int j :: .ref a :: rest) := by
  subst hp
  obtain ⟨cl, Ar, q, S, M, Hs, G⟩ := A
  have hin := inb_of S hj
  obtain ⟨T', h', X', e', W, st⟩ := stJ X hx hZ eT Ar (j := j) hin (g := mkF m pc Ls (.long x :: .int j :: .ref a :: rest)) rfl rfl (hb hby hd)
  exact Gol.step st (k T' h' X' e' W (Arv.set Ar q S M Hs G rfl W i hi hl))
theorem Gol.bastore (X : Stand p l e R s m args below meth c T locs cells slots) (hx : p.tables.exec = Jvm.exec) (hby : c.code = code) (hZ : Z.Warmed39 s.vm) (eT : T.heap = h) {a : Addr} {ka : ClassId} {z j : Int32} {x : Int32} {vs : List Value} {dv : Value} (A : Arv Z h a ka .byte z vs dv) (hd : decode code pc = .ok (.bastore, 1)) (hp : pc + 1 = pc') (hj : ¬ j < 0 ∧ j < z) (i : Nat) (hi : j.toNatClampNeg = i) (hl : i < vs.length)
    (k : ∀ (T' : State) (h' : Heap), Stand p l e R s m args below meth c T' (locs ++ [⟨a, j.toNatClampNeg⟩]) cells slots → T'.heap = h' → Wr h h' a j.toNatClampNeg (.int (nar .byte x)) → Arv Z h' a ka .byte z (vs.set i (.int (nar .byte x))) dv → GolF p e below Fe Qf kc ks T' m pc' Ls rest) : GolF p e below Fe Qf kc ks T m pc Ls (.int x :: .int j :: .ref a :: rest) := by
  subst hp
  obtain ⟨cl, Ar, q, S, M, Hs, G⟩ := A
  have hin := inb_of S hj
  obtain ⟨T', h', X', e', W, st⟩ := stB X hx hZ eT Ar (j := j) hin (g := mkF m pc Ls (.int x :: .int j :: .ref a :: rest)) rfl rfl (hb hby hd)
  exact Gol.step st (k T' h' X' e' W (Arv.set Ar q S M Hs G (fits_nar_byte _) W i hi hl))
theorem Gol.castore (X : Stand p l e R s m args below meth c T locs cells slots) (hx : p.tables.exec = Jvm.exec) (hby : c.code = code) (hZ : Z.Warmed39 s.vm) (eT : T.heap = h) {a : Addr} {ka : ClassId} {z j : Int32} {x : Int32} {vs : List Value} {dv : Value} (A : Arv Z h a ka .char z vs dv) (hd : decode code pc = .ok (.castore, 1)) (hp : pc + 1 = pc') (hj : ¬ j < 0 ∧ j < z) (i : Nat) (hi : j.toNatClampNeg = i) (hl : i < vs.length)
    (k : ∀ (T' : State) (h' : Heap), Stand p l e R s m args below meth c T' (locs ++ [⟨a, j.toNatClampNeg⟩]) cells slots → T'.heap = h' → Wr h h' a j.toNatClampNeg (.int (nar .char x)) → Arv Z h' a ka .char z (vs.set i (.int (nar .char x))) dv → GolF p e below Fe Qf kc ks T' m pc' Ls rest) : GolF p e below Fe Qf kc ks T m pc Ls (.int x :: .int j :: .ref a :: rest) := by
  subst hp
  obtain ⟨cl, Ar, q, S, M, Hs, G⟩ := A
  have hin := inb_of S hj
  obtain ⟨T', h', X', e', W, st⟩ := stC X hx hZ eT Ar (j := j) hin (g := mkF m pc Ls (.int x :: .int j :: .ref a :: rest)) rfl rfl (hb hby hd)
  exact Gol.step st (k T' h' X' e' W (Arv.set Ar q S M Hs G (fits_nar_char _) W i hi hl))
theorem Gol.aastore (X : Stand p l e R s m args below meth c T locs cells slots) (hx : p.tables.exec = Jvm.exec) (hby : c.code = code) (hZ : Z.Warmed39 s.vm) (eT : T.heap = h) {a : Addr} {ka : ClassId} {z j : Int32} {x : Value} {ty : FieldType} {vs : List Value} {dv : Value} (A : Arv Z h a ka ty z vs dv) (hd : decode code pc = .ok (.aastore, 1)) (hp : pc + 1 = pc') (hj : ¬ j < 0 ∧ j < z) (i : Nat) (hi : j.toNatClampNeg = i) (hl : i < vs.length) (ht : ty.isReference = true) (hf : fits ty x = true) (so : ∀ cl : Cell, Arr Z h a cl ty → cl.cls = ka → Sto Z h a x)
    (k : ∀ (T' : State) (h' : Heap), Stand p l e R s m args below meth c T' (locs ++ [⟨a, j.toNatClampNeg⟩]) cells slots → T'.heap = h' → Wr h h' a j.toNatClampNeg x → Arv Z h' a ka ty z (vs.set i x) dv → GolF p e below Fe Qf kc ks T' m pc' Ls rest) : GolF p e below Fe Qf kc ks T m pc Ls (x :: .int j :: .ref a :: rest) := by
  subst hp
  obtain ⟨cl, Ar, q, S, M, Hs, G⟩ := A
  have hin := inb_of S hj
  obtain ⟨T', h', X', e', W, st⟩ := stR X hx hZ eT Ar (j := j) hin ht (so cl Ar q) (g := mkF m pc Ls (x :: .int j :: .ref a :: rest)) rfl rfl (hb hby hd)
  exact Gol.step st (k T' h' X' e' W (Arv.set Ar q S M Hs G hf W i hi hl))
theorem Gol.newarr (X : Stand p l e R s m args below meth c T locs cells slots) (hx : p.tables.exec = Jvm.exec) (hby : c.code = code) (hZ : Z.Warmed39 s.vm) {aty : ArrayType} (w : (Cond.arrayClass (newarray.typeOf aty)).before a0 Z = true) (eT : T.heap = h) {n : Int32} (cap : Nat) (hd : decode code pc = .ok (.newarray aty, 2)) (hp : pc + 2 = pc') (hn : ¬ n < 0) (hcap : n.toNatClampNeg ≤ cap) (hb8 : cap * 8 ≤ 536870912) (hc : cells + 1 ≤ R.cells) (hl : slots + cap ≤ R.slots)
    (k : ∀ (T' : State) (h' : Heap) (ka : ClassId) (b : Addr), b = h.size → Stand p l e R s m args below meth c T' locs (cells + 1) (slots + cap) → T'.heap = h' → Ext h h' → Arv Z h' b ka (newarray.typeOf aty) n [] (defaultValue (newarray.typeOf aty)) → GolF p e below Fe Qf kc ks T' m pc' Ls (.ref b :: rest)) : GolF p e below Fe Qf kc ks T m pc Ls (.int n :: rest) := by
  subst hp
  obtain ⟨T', h', ka, X', e', E, A, st⟩ := newP X hx hZ w eT (g := mkF m pc Ls (.int n :: rest)) rfl (hb hby hd) rfl hn (cap := cap) hcap hb8 hc hl
  exact Gol.step st (k T' h' ka _ rfl X' e' E (Arv.new A hn))
theorem Gol.newref (X : Stand p l e R s m args below meth c T locs cells slots) (hx : p.tables.exec = Jvm.exec) (hby : c.code = code) (hZ : Z.Warmed39 s.vm) {own : String} (hown : s.vm.findClass own = some m.cls) {C : String} {index : Nat} (w1 : (Cond.classLink own index C).before a0 Z = true) (w2 : (Cond.arrayOver (.object C)).before a0 Z = true) (eT : T.heap = h) {n : Int32} (cap : Nat) (hd : decode code pc = .ok (.anewarray index, 3)) (hp : pc + 3 = pc') (hn : ¬ n < 0) (hcap : n.toNatClampNeg ≤ cap) (hb8 : cap * 8 ≤ 536870912) (hc : cells + 1 ≤ R.cells) (hl : slots + cap ≤ R.slots)
    (k : ∀ (T' : State) (h' : Heap) (ka : ClassId) (b : Addr), b = h.size → Stand p l e R s m args below meth c T' locs (cells + 1) (slots + cap) → T'.heap = h' → Ext h h' → Arv Z h' b ka (.object C) n [] .null → Ovr Z ka C → GolF p e below Fe Qf kc ks T' m pc' Ls (.ref b :: rest)) : GolF p e below Fe Qf kc ks T m pc Ls (.int n :: rest) := by
  subst hp
  obtain ⟨T', h', ka, X', e', E, A, O, st⟩ := newR X hx hZ hown w1 w2 eT (g := mkF m pc Ls (.int n :: rest)) rfl (hb hby hd) rfl hn (cap := cap) hcap hb8 hc hl
  exact Gol.step st (k T' h' ka _ rfl X' e' E (Arv.new A hn) O)
theorem Gol.getF (X : Stand p l e R s m args below meth c T locs cells slots) (hx : p.tables.exec = Jvm.exec) (hby : c.code = code) (hZ : Z.Warmed39 s.vm) {own : String} (hown : s.vm.findClass own = some m.cls) {R0 O n d host : String} {index : Nat} (w : (Cond.fieldLink own index R0 n d).before a0 Z = true ∨ (Cond.fieldLinkNest own index R0 n d host).before a0 Z = true) (via : Via Z R0 O n d) (eT : T.heap = h) {a : Addr} {v : Value} (F : Fld Z h a O n d v) (hd : decode code pc = .ok (.getfield index, 3)) (hp : pc + 3 = pc')
    (k : ∀ T' : State, Stand p l e R s m args below meth c T' locs cells slots → T'.heap = h → GolF p e below Fe Qf kc ks T' m pc' Ls (v :: rest)) : GolF p e below Fe Qf kc ks T m pc Ls (.ref a :: rest) := by
  subst hp
  obtain ⟨T', X', e', st⟩ := getF X hx hZ hown (host := host) w via eT F (g := mkF m pc Ls (.ref a :: rest)) rfl rfl (hb hby hd)
  exact Gol.step st (k T' X' e')
theorem Gol.getS (X : Stand p l e R s m args below meth c T locs cells slots) (hx : p.tables.exec = Jvm.exec) (hby : c.code = code) (hZ : Z.Warmed39 s.vm) {own : String} (hown : s.vm.findClass own = some m.cls) {R0 O n d host : String} {index : Nat} (w : (Cond.fieldLink own index R0 n d).before a0 Z = true ∨ (Cond.fieldLinkNest own index R0 n d host).before a0 Z = true) (via : Via Z R0 O n d) (eT : T.heap = h) {v : Value} (F : Sta Z h O n d v) (hd : decode code pc = .ok (.getstatic index, 3)) (hp : pc + 3 = pc')
    (k : ∀ T' : State, Stand p l e R s m args below meth c T' locs cells slots → T'.heap = h → GolF p e below Fe Qf kc ks T' m pc' Ls (v :: rest)) : GolF p e below Fe Qf kc ks T m pc Ls rest := by
  subst hp
  obtain ⟨T', X', e', st⟩ := getS2 X hx hZ hown (host := host) w via eT F (g := mkF m pc Ls rest) rfl (hb hby hd)
  exact Gol.step st (k T' X' e')
theorem Gol.putF (X : Stand p l e R s m args below meth c T locs cells slots) (hx : p.tables.exec = Jvm.exec) (hby : c.code = code) (hZ : Z.Warmed39 s.vm) {own : String} (hown : s.vm.findClass own = some m.cls) {R0 O n d host : String} {index : Nat} (w : (Cond.fieldLink own index R0 n d).before a0 Z = true ∨ (Cond.fieldLinkNest own index R0 n d host).before a0 Z = true) (via : Via Z R0 O n d) (eT : T.heap = h) {C : String} {kk : Nat} {ty : FieldType} {a : Addr} {v old : Value} (F : Fld Z h a O n d old) (E : Exa Z h a C) (L : (Cond.lays C O n d).before a0 Z = true ∨ ((Cond.laysFinal C O n d).before a0 Z = true ∧ own = O ∧ meth.name = "<init>")) (wi : (Cond.instantiable C kk).before a0 Z = true) (hty : parseFieldDescriptor d = some ty) (hn : narrow ty v = v) (hf : fits ty v = true) (hd : decode code pc = .ok (.putfield index, 3)) (hp : pc + 3 = pc')
    (k : ∀ (T' : State) (h' : Heap), Stand p l e R s m args below meth c T' (locs ++ [⟨a, slotOf Z O n d⟩]) cells slots → T'.heap = h' → Wr h h' a (slotOf Z O n d) v → GolF p e below Fe Qf kc ks T' m pc' Ls rest) : GolF p e below Fe Qf kc ks T m pc Ls (v :: .ref a :: rest) := by
  subst hp
  obtain ⟨T', h', X', e', W, st⟩ := putF X hx hZ hown (host := host) w via eT F E L wi hty hn hf (g := mkF m pc Ls (v :: .ref a :: rest)) rfl rfl (hb hby hd)
  exact Gol.step st (k T' h' X' e' W)
theorem Gol.putFN (X : Stand p l e R s m args below meth c T locs cells slots) (hx : p.tables.exec = Jvm.exec) (hby : c.code = code) (hZ : Z.Warmed39 s.vm) {own : String} (hown : s.vm.findClass own = some m.cls) {R0 O n d : String} {index : Nat} (w : (Cond.fieldLink own index R0 n d).before a0 Z = true) (via : Via Z R0 O n d) (eT : T.heap = h) {C : String} {kk : Nat} {ty : FieldType} {a : Addr} {v v' old : Value} (F : Fld Z h a O n d old) (E : Exa Z h a C) (L : (Cond.lays C O n d).before a0 Z = true ∨ ((Cond.laysFinal C O n d).before a0 Z = true ∧ own = O ∧ meth.name = "<init>")) (wi : (Cond.instantiable C kk).before a0 Z = true) (hty : parseFieldDescriptor d = some ty) (hn : narrow ty v = v') (hf : fits ty v' = true) (hd : decode code pc = .ok (.putfield index, 3)) (hp : pc + 3 = pc')
    (k : ∀ (T' : State) (h' : Heap), Stand p l e R s m args below meth c T' (locs ++ [⟨a, slotOf Z O n d⟩]) cells slots → T'.heap = h' → Wr h h' a (slotOf Z O n d) v' → GolF p e below Fe Qf kc ks T' m pc' Ls rest) : GolF p e below Fe Qf kc ks T m pc Ls (v :: .ref a :: rest) := by
  subst hp
  obtain ⟨T', h', X', e', W, st⟩ := putFN X hx hZ hown w via eT F E L wi hty hn hf (g := mkF m pc Ls (v :: .ref a :: rest)) rfl rfl (hb hby hd)
  exact Gol.step st (k T' h' X' e' W)
theorem Gol.newO (X : Stand p l e R s m args below meth c T locs cells slots) (hx : p.tables.exec = Jvm.exec) (hby : c.code = code) (hZ : Z.Warmed39 s.vm) {own : String} (hown : s.vm.findClass own = some m.cls) {C : String} {index n : Nat} (w : (Cond.classLink own index C).before a0 Z = true) (wi : (Cond.instantiable C n).before a0 Z = true) (wz : (Cond.initialized C).before a0 Z = true) (eT : T.heap = h) (hd : decode code pc = .ok (.new index, 3)) (hp : pc + 3 = pc') (hc : cells + 1 ≤ R.cells) (hl : slots + n ≤ R.slots)
    (k : ∀ (T' : State) (h' : Heap) (b : Addr), b = h.size → Stand p l e R s m args below meth c T' locs (cells + 1) (slots + n) → T'.heap = h' → Ext h h' → Exa Z h' b C → (∀ {O nm d : String} {ty : FieldType}, Laid Z a0 C O nm d → parseFieldDescriptor d = some ty → Fld Z h' b O nm d (defaultValue ty)) → GolF p e below Fe Qf kc ks T' m pc' Ls (.ref b :: rest)) : GolF p e below Fe Qf kc ks T m pc Ls rest := by
  subst hp
  obtain ⟨T', h', X', e', E, A, D, -, st⟩ := newO X hx hZ hown w wi wz eT (g := mkF m pc Ls rest) rfl (hb hby hd) hc hl
  exact Gol.step st (k T' h' _ rfl X' e' E A D)
theorem Gol.initO (X : Stand p l e R s m args below meth c T locs cells slots) (hx : p.tables.exec = Jvm.exec) (hby : c.code = code) (hZ : Z.Warmed39 s.vm) {own : String} (hown : s.vm.findClass own = some m.cls) {index : Nat} (w1 : (Cond.methodLink own index Lib.objectInit).before a0 Z = true) (w2 : (Cond.instanceMethod Lib.objectInit).before a0 Z = true) (w3 : (Cond.code Lib.objectInit ⟨#[0xb1]⟩ 1 none).before a0 Z = true) (eT : T.heap = h) (W : Nat) {a : Addr} (hd : decode code pc = .ok (.invokespecial index, 3)) (hp : pc + 3 = pc') (hsz : Ls.size = c.maxLocals) (hf : 1 ≤ R.frames) (hW : (rest.map fun v => v.category).sum ≤ W) (hl : W + 12 ≤ R.locals)
    (k : ∀ T' : State, Stand p l e R s m args below meth c T' locs cells slots → T'.heap = h → GolF p e below Fe Qf kc ks T' m pc' Ls rest) : GolF p e below Fe Qf kc ks T m pc Ls (.ref a :: rest) := by
  subst hp
  obtain ⟨T', X', e', st⟩ := initO X hx hZ hown w1 w2 w3 eT (g := mkF m pc Ls (.ref a :: rest)) rfl hsz rfl (hb hby hd) hf (W := W) (by show 2 * 0 + _ ≤ _; rw [Nat.mul_zero, Nat.zero_add]; exact hW) hl
  exact Gol.step st (k T' X' e')
theorem Gol.castY (X : Stand p l e R s m args below meth c T locs cells slots) (hx : p.tables.exec = Jvm.exec) (hby : c.code = code) (hZ : Z.Warmed39 s.vm) {own : String} (hown : s.vm.findClass own = some m.cls) {K : String} {index : Nat} (w : (Cond.classLink own index K).before a0 Z = true) (eT : T.heap = h) {a : Addr} (F : Ins Z h a K true) (hd : decode code pc = .ok (.checkcast index, 3)) (hp : pc + 3 = pc')
    (k : ∀ T' : State, Stand p l e R s m args below meth c T' locs cells slots → T'.heap = h → GolF p e below Fe Qf kc ks T' m pc' Ls (.ref a :: rest)) : GolF p e below Fe Qf kc ks T m pc Ls (.ref a :: rest) := by
  subst hp
  obtain ⟨T', X', e', st⟩ := castY X hx hZ hown w eT F (g := mkF m pc Ls (.ref a :: rest)) rfl rfl (hb hby hd)
  exact Gol.step st (k T' X' e')
theorem Gol.instY (X : Stand p l e R s m args below meth c T locs cells slots) (hx : p.tables.exec = Jvm.exec) (hby : c.code = code) (hZ : Z.Warmed39 s.vm) {own : String} (hown : s.vm.findClass own = some m.cls) {K : String} {index : Nat} (w : (Cond.classLink own index K).before a0 Z = true) (eT : T.heap = h) {a : Addr} (F : Ins Z h a K true) (hd : decode code pc = .ok (.instanceof index, 3)) (hp : pc + 3 = pc')
    (k : ∀ T' : State, Stand p l e R s m args below meth c T' locs cells slots → T'.heap = h → GolF p e below Fe Qf kc ks T' m pc' Ls (.int 1 :: rest)) : GolF p e below Fe Qf kc ks T m pc Ls (.ref a :: rest) := by
  subst hp
  obtain ⟨T', X', e', st⟩ := instY X hx hZ hown w eT F (g := mkF m pc Ls (.ref a :: rest)) rfl rfl (hb hby hd)
  exact Gol.step st (k T' X' e')
theorem Gol.callS (X : Stand p l e R s m args below meth c T locs cells slots) (hx : p.tables.exec = Jvm.exec) (hby : c.code = code) (hZ : Z.Warmed39 s.vm) {own : String} (hown : s.vm.findClass own = some m.cls) {index : Nat} {y : MethodName} {bytes : ByteArray} {maxL : Nat} {ret : Option FieldType} {rm : Room} {Q : Option Value → Heap → List Loc → Prop} (W : Nat) (argsL : List Value) (wl : (Cond.methodLink own index y).before a0 Z = true) (ws : (Cond.static y).before a0 Z = true) (wz : (Cond.initialized y.cls).before a0 Z = true) (wc : (Cond.code y bytes maxL ret).before a0 Z = true) (hy : y.cls ≠ "java/lang/invoke/MethodHandle" ∧ y.cls ≠ "java/lang/invoke/VarHandle") (hM : MetFree l y (head1 [Cond.code y bytes maxL ret] rm) (fun aa U => aa = argsL.toArray ∧ Z.Warmed39 U.vm ∧ U.heap = h) (fun _ _ _ _ _ => True) (fun _ U o U' => ∃ v L, o = .returned v ∧ Q v U'.heap L ∧ FrameEnd U o U' L rm.cells rm.slots)) (hf : rm.frames + 1 ≤ R.frames) (hl : W + (maxL + 11) + rm.locals ≤ R.locals) (eT : T.heap = h) {st : List Value} (hsz : Ls.size = c.maxLocals) (hW : (rest.map fun v => v.category).sum ≤ W) (hc : cells + rm.cells ≤ R.cells) (hs : slots + rm.slots ≤ R.slots) (hlen : ∀ sig, parseMethodDescriptor y.desc = some sig → argsL.length = sig.parameters.length) (hst : st = argsL.reverse ++ rest) (hd : decode code pc = .ok (.invokestatic index, 3)) (hp : pc + 3 = pc')
    (k : ∀ (T' : State) (v : Option Value) (L : List Loc), Stand p l e R s m args below meth c T' (locs ++ L) (cells + rm.cells) (slots + rm.slots) → Q v T'.heap L → GolF p e below Fe Qf kc ks T' m pc' Ls (v.toList ++ rest)) : GolF p e below Fe Qf kc ks T m pc Ls st := by
  subst hp
  obtain ⟨v, _, ⟨T', L1, k1, n1⟩, -, X', ⟨Lc, hQ, l1, y1, z1⟩, st1⟩ := Jvm.LawKit.callS X hx hown (mvT hZ wl) (mvT hZ ws) (mvT hZ wz) (mvT hZ wc) hy (backOf (W := W) hM hZ wc wz hf hl) (g := mkF m pc Ls st) rfl hsz hlen hst (by show 2 * 0 + _ ≤ _; rw [Nat.mul_zero, Nat.zero_add]; exact hW) (hb hby hd) (fun _ _ => ⟨rfl, eT, hc, hs⟩)
  dsimp only [Pt.U, Pt.locs, Pt.cells, Pt.slots] at X' l1 y1 z1 st1 hQ
  subst l1 y1 z1
  exact Gol.step st1 (k T' v Lc X' hQ)
theorem Gol.callI (X : Stand p l e R s m args below meth c T locs cells slots) (hx : p.tables.exec = Jvm.exec) (hby : c.code = code) (hZ : Z.Warmed39 s.vm) {own : String} (hown : s.vm.findClass own = some m.cls) {index : Nat} {y : MethodName} {bytes : ByteArray} {maxL : Nat} {ret : Option FieldType} {rm : Room} {Q : Option Value → Heap → List Loc → Prop} (W : Nat) (argsL : List Value) {a : Addr} (wl : (Cond.methodLink own index y).before a0 Z = true) (wi : (Cond.instanceMethod y).before a0 Z = true) (wz : (Cond.initialized y.cls).before a0 Z = true) (hrt : ret = none) (wc : (Cond.code y bytes maxL ret).before a0 Z = true) (hn : y.name = "<init>") (hy : y.cls ≠ "java/lang/invoke/MethodHandle" ∧ y.cls ≠ "java/lang/invoke/VarHandle") (hM : MetFree l y (head1 [Cond.code y bytes maxL ret] rm) (fun aa U => aa = (.ref a :: argsL).toArray ∧ Z.Warmed39 U.vm ∧ U.heap = h) (fun _ _ _ _ _ => True) (fun _ U o U' => ∃ v L, o = .returned v ∧ Q v U'.heap L ∧ FrameEnd U o U' L rm.cells rm.slots)) (hf : rm.frames + 1 ≤ R.frames) (hl : W + (maxL + 11) + rm.locals ≤ R.locals) (eT : T.heap = h) {st : List Value} (hsz : Ls.size = c.maxLocals) (hW : (rest.map fun v => v.category).sum ≤ W) (hc : cells + rm.cells ≤ R.cells) (hs : slots + rm.slots ≤ R.slots) (hlen : ∀ sig, parseMethodDescriptor y.desc = some sig → argsL.length = sig.parameters.length) (hst : st = argsL.reverse ++ .ref a :: rest) (hd : decode code pc = .ok (.invokespecial index, 3)) (hp : pc + 3 = pc')
    (k : ∀ (T' : State) (v : Option Value) (L : List Loc), Stand p l e R s m args below meth c T' (locs ++ L) (cells + rm.cells) (slots + rm.slots) → Q v T'.heap L → GolF p e below Fe Qf kc ks T' m pc' Ls (v.toList ++ rest)) : GolF p e below Fe Qf kc ks T m pc Ls st := by
  subst hp hrt
  obtain ⟨v, _, ⟨T', L1, k1, n1⟩, -, X', ⟨Lc, hQ, l1, y1, z1⟩, st1⟩ := X.specialBack hx hn hown (mvT hZ wl) (mvT hZ wi) (mvT hZ wc) hy (backOf (W := W) hM hZ wc wz hf hl) (g := mkF m pc Ls st) rfl hsz (Steps.refl _) (a := a) hlen hst (by show 2 * 0 + _ ≤ _; rw [Nat.mul_zero, Nat.zero_add]; exact hW) (hb hby hd) (fun _ _ => ⟨rfl, eT, hc, hs⟩)
  dsimp only [Pt.U, Pt.locs, Pt.cells, Pt.slots] at X' l1 y1 z1 st1 hQ
  subst l1 y1 z1
  exact Gol.step (fun _ k => st1.trans k) (k T' v Lc X' hQ)
theorem Gol.callV (X : Stand p l e R s m args below meth c T locs cells slots) (hx : p.tables.exec = Jvm.exec) (hby : c.code = code) (hZ : Z.Warmed39 s.vm) {own : String} (hown : s.vm.findClass own = some m.cls) {index : Nat} {y z : MethodName} {C : String} {bytes : ByteArray} {maxL : Nat} {ret : Option FieldType} {rm : Room} {Q : Option Value → Heap → List Loc → Prop} (W : Nat) (argsL : List Value) {a : Addr} (wl : (Cond.methodLink own index y).before a0 Z = true) (wd : (Cond.declares y).before a0 Z = true) (nf : NotFace s y) (wse : (Cond.selects C y z).before a0 Z = true) (wi : (Cond.instanceMethod z).before a0 Z = true) (wz : (Cond.initialized z.cls).before a0 Z = true) (wc : (Cond.code z bytes maxL ret).before a0 Z = true) (hy : y.cls ≠ "java/lang/invoke/MethodHandle" ∧ y.cls ≠ "java/lang/invoke/VarHandle") (E : Exa Z h a C) (hM : MetFree l z (head1 [Cond.code z bytes maxL ret] rm) (fun aa U => aa = (.ref a :: argsL).toArray ∧ Z.Warmed39 U.vm ∧ U.heap = h) (fun _ _ _ _ _ => True) (fun _ U o U' => ∃ v L, o = .returned v ∧ Q v U'.heap L ∧ FrameEnd U o U' L rm.cells rm.slots)) (hf : rm.frames + 1 ≤ R.frames) (hl : W + (maxL + 11) + rm.locals ≤ R.locals) (eT : T.heap = h) {st : List Value} (hsz : Ls.size = c.maxLocals) (hW : (rest.map fun v => v.category).sum ≤ W) (hc : cells + rm.cells ≤ R.cells) (hs : slots + rm.slots ≤ R.slots) (hlen : ∀ sig, parseMethodDescriptor y.desc = some sig → argsL.length = sig.parameters.length) (hst : st = argsL.reverse ++ .ref a :: rest) (hd : decode code pc = .ok (.invokevirtual index, 3)) (hp : pc + 3 = pc')
    (k : ∀ (T' : State) (v : Option Value) (L : List Loc), Stand p l e R s m args below meth c T' (locs ++ L) (cells + rm.cells) (slots + rm.slots) → Q v T'.heap L → GolF p e below Fe Qf kc ks T' m pc' Ls (v.toList ++ rest)) : GolF p e below Fe Qf kc ks T m pc Ls st := by
  subst hp
  obtain ⟨cq, kq, qa, qb, qc⟩ := isOf hZ eT E
  obtain ⟨v, _, ⟨T', L1, k1, n1⟩, -, X', ⟨Lc, hQ, l1, y1, z1⟩, st1⟩ := X.virtualBack hx hown (mvT hZ wl) (mvT hZ wd) nf (mvT hZ wse) (mvT hZ wi) hy (backOf (W := W) hM hZ wc wz hf hl) qa qc (g := mkF m pc Ls st) rfl hsz (Steps.refl _) hlen hst (by show 2 * 0 + _ ≤ _; rw [Nat.mul_zero, Nat.zero_add]; exact hW) (hb hby hd) (fun _ _ => ⟨rfl, eT, hc, hs⟩)
  dsimp only [Pt.U, Pt.locs, Pt.cells, Pt.slots] at X' l1 y1 z1 st1 hQ
  subst l1 y1 z1
  exact Gol.step (fun _ k => st1.trans k) (k T' v Lc X' hQ)
theorem Gol.callF (X : Stand p l e R s m args below meth c T locs cells slots) (hx : p.tables.exec = Jvm.exec) (hby : c.code = code) (hZ : Z.Warmed39 s.vm) {own : String} (hown : s.vm.findClass own = some m.cls) {index count : Nat} {y z : MethodName} {C : String} {bytes : ByteArray} {maxL : Nat} {ret : Option FieldType} {rm : Room} {Q : Option Value → Heap → List Loc → Prop} (W : Nat) (argsL : List Value) {a : Addr} (wl : (Cond.methodLink own index y).before a0 Z = true) (wd : (Cond.declares y).before a0 Z = true) (wf : (Cond.interfaceMethod y.cls y.cls y.name y.desc).before args s = true) (wse : (Cond.selects C y z).before a0 Z = true) (wi : (Cond.instanceMethod z).before a0 Z = true) (wp : (Cond.publicMethod z).before a0 Z = true) (wu : (Cond.unhidden C y.name y.desc).before a0 Z = true) (wt : (Cond.castable C y.cls).before a0 Z = true) (wz : (Cond.initialized z.cls).before a0 Z = true) (wc : (Cond.code z bytes maxL ret).before a0 Z = true) (hy : y.cls ≠ "java/lang/invoke/MethodHandle" ∧ y.cls ≠ "java/lang/invoke/VarHandle") (E : Exa Z h a C) (hM : MetFree l z (head1 [Cond.code z bytes maxL ret] rm) (fun aa U => aa = (.ref a :: argsL).toArray ∧ Z.Warmed39 U.vm ∧ U.heap = h) (fun _ _ _ _ _ => True) (fun _ U o U' => ∃ v L, o = .returned v ∧ Q v U'.heap L ∧ FrameEnd U o U' L rm.cells rm.slots)) (hf : rm.frames + 1 ≤ R.frames) (hl : W + (maxL + 11) + rm.locals ≤ R.locals) (eT : T.heap = h) {st : List Value} (hsz : Ls.size = c.maxLocals) (hW : (rest.map fun v => v.category).sum ≤ W) (hc : cells + rm.cells ≤ R.cells) (hs : slots + rm.slots ≤ R.slots) (hlen : ∀ sig, parseMethodDescriptor y.desc = some sig → argsL.length = sig.parameters.length) (hst : st = argsL.reverse ++ .ref a :: rest) (hd : decode code pc = .ok (.invokeinterface index count, 5)) (hp : pc + 5 = pc')
    (k : ∀ (T' : State) (v : Option Value) (L : List Loc), Stand p l e R s m args below meth c T' (locs ++ L) (cells + rm.cells) (slots + rm.slots) → Q v T'.heap L → GolF p e below Fe Qf kc ks T' m pc' Ls (v.toList ++ rest)) : GolF p e below Fe Qf kc ks T m pc Ls st := by
  subst hp
  obtain ⟨cq, kq, qa, qb, qc⟩ := isOf hZ eT E
  obtain ⟨v, _, ⟨T', L1, k1, n1⟩, -, X', ⟨Lc, hQ, l1, y1, z1⟩, st1⟩ := X.interfaceBack hx hown (mvT hZ wl) (mvT hZ wd) wf (mvT hZ wse) (mvT hZ wi) (mvT hZ wp) (mvT hZ wu) (mvT hZ wt) hy (backOf (W := W) hM hZ wc wz hf hl) qa qb qc (g := mkF m pc Ls st) rfl hsz (Steps.refl _) hlen hst (by show 2 * 0 + _ ≤ _; rw [Nat.mul_zero, Nat.zero_add]; exact hW) (hb hby hd) (fun _ _ => ⟨rfl, eT, hc, hs⟩)
  dsimp only [Pt.U, Pt.locs, Pt.cells, Pt.slots] at X' l1 y1 z1 st1 hQ
  subst l1 y1 z1
  exact Gol.step (fun _ k => st1.trans k) (k T' v Lc X' hQ)
theorem Gol.callP (X : Stand p l e R s m args below meth c T locs cells slots) (hx : p.tables.exec = Jvm.exec) (hby : c.code = code) (hZ : Z.Warmed39 s.vm) {own : String} (hown : s.vm.findClass own = some m.cls) {index : Nat} {y : MethodName} {C : String} {bytes : ByteArray} {maxL : Nat} {ret : Option FieldType} {rm : Room} {Q : Option Value → Heap → List Loc → Prop} (W : Nat) (argsL : List Value) {a : Addr} (wl : (Cond.methodLink own index y).before a0 Z = true) (wi : (Cond.instanceMethod y).before a0 Z = true) (wse : (Cond.selects y.cls y y).before a0 Z = true) (wp : (Cond.privateMethod y).before a0 Z = true) (wz : (Cond.initialized y.cls).before a0 Z = true) (wc : (Cond.code y bytes maxL ret).before a0 Z = true) (hy : y.cls ≠ "java/lang/invoke/MethodHandle" ∧ y.cls ≠ "java/lang/invoke/VarHandle") (E : Exa Z h a C) (hM : MetFree l y (head1 [Cond.code y bytes maxL ret] rm) (fun aa U => aa = (.ref a :: argsL).toArray ∧ Z.Warmed39 U.vm ∧ U.heap = h) (fun _ _ _ _ _ => True) (fun _ U o U' => ∃ v L, o = .returned v ∧ Q v U'.heap L ∧ FrameEnd U o U' L rm.cells rm.slots)) (hf : rm.frames + 1 ≤ R.frames) (hl : W + (maxL + 11) + rm.locals ≤ R.locals) (eT : T.heap = h) {st : List Value} (hsz : Ls.size = c.maxLocals) (hW : (rest.map fun v => v.category).sum ≤ W) (hc : cells + rm.cells ≤ R.cells) (hs : slots + rm.slots ≤ R.slots) (hlen : ∀ sig, parseMethodDescriptor y.desc = some sig → argsL.length = sig.parameters.length) (hst : st = argsL.reverse ++ .ref a :: rest) (hd : decode code pc = .ok (.invokevirtual index, 3)) (hp : pc + 3 = pc')
    (k : ∀ (T' : State) (v : Option Value) (L : List Loc), Stand p l e R s m args below meth c T' (locs ++ L) (cells + rm.cells) (slots + rm.slots) → Q v T'.heap L → GolF p e below Fe Qf kc ks T' m pc' Ls (v.toList ++ rest)) : GolF p e below Fe Qf kc ks T m pc Ls st := by
  subst hp
  obtain ⟨cq, qa, qb⟩ := E.cell
  obtain ⟨v, _, ⟨T', L1, k1, n1⟩, -, X', ⟨Lc, hQ, l1, y1, z1⟩, st1⟩ := X.privateBack hx hown (mvT hZ wl) (mvT hZ wi) (mvT hZ wse) (Cond.privateMethod_at (mvP hZ wp (args := #[]))) (mvT hZ wc) hy (backOf (W := W) hM hZ wc wz hf hl) (g := mkF m pc Ls st) rfl hsz (Steps.refl _) (a := a) (by rw [eT]; exact qa) qb hlen hst (by show 2 * 0 + _ ≤ _; rw [Nat.mul_zero, Nat.zero_add]; exact hW) (hb hby hd) (fun _ _ => ⟨rfl, eT, hc, hs⟩)
  dsimp only [Pt.U, Pt.locs, Pt.cells, Pt.slots] at X' l1 y1 z1 st1 hQ
  subst l1 y1 z1
  exact Gol.step (fun _ k => st1.trans k) (k T' v Lc X' hQ)
theorem Gol.callB (X : Stand p l e R s m args below meth c T locs cells slots) (hx : p.tables.exec = Jvm.exec) (hby : c.code = code) (hZ : Z.Warmed39 s.vm) {own : String} (hown : s.vm.findClass own = some m.cls) {index : Nat} {y : MethodName} {bytes : ByteArray} {maxL : Nat} {Q : Option Value → Heap → List Loc → Prop} (W : Nat) (argsL : List Value) {a : Addr} {ck cn : Nat} (wl : (Cond.methodLink own index y).before a0 Z = true) (wi : (Cond.instanceMethod y).before a0 Z = true) (wc : (Cond.code y bytes maxL none).before a0 Z = true) (hn : y.name = "<init>") (hy : y.cls ≠ "java/lang/invoke/MethodHandle" ∧ y.cls ≠ "java/lang/invoke/VarHandle")
    (hK : Back l R p e below s args y 3 W (fun A aa => aa = (.ref a :: argsL).toArray ∧ A.U.heap = h ∧ A.cells + ck ≤ R.cells ∧ A.slots + cn ≤ R.slots) (fun A _ v B => ∃ L, Q v B.U.heap L ∧ B.locs = A.locs ++ L ∧ B.cells = A.cells + ck ∧ B.slots = A.slots + cn)) (eT : T.heap = h) {st : List Value} (hsz : Ls.size = c.maxLocals) (hW : (rest.map fun v => v.category).sum ≤ W) (hc : cells + ck ≤ R.cells) (hs : slots + cn ≤ R.slots) (hlen : ∀ sig, parseMethodDescriptor y.desc = some sig → argsL.length = sig.parameters.length) (hst : st = argsL.reverse ++ .ref a :: rest) (hd : decode code pc = .ok (.invokespecial index, 3)) (hp : pc + 3 = pc')
    (k : ∀ (T' : State) (v : Option Value) (L : List Loc), Stand p l e R s m args below meth c T' (locs ++ L) (cells + ck) (slots + cn) → Q v T'.heap L → GolF p e below Fe Qf kc ks T' m pc' Ls (v.toList ++ rest)) : GolF p e below Fe Qf kc ks T m pc Ls st := by
  subst hp
  obtain ⟨v, _, ⟨T', L1, k1, n1⟩, -, X', ⟨Lc, hQ, l1, y1, z1⟩, st1⟩ := X.specialBack hx hn hown (mvT hZ wl) (mvT hZ wi) (mvT hZ wc) hy hK (g := mkF m pc Ls st) rfl hsz (Steps.refl _) (a := a) hlen hst (by show 2 * 0 + _ ≤ _; rw [Nat.mul_zero, Nat.zero_add]; exact hW) (hb hby hd) (fun _ _ => ⟨rfl, eT, hc, hs⟩)
  dsimp only [Pt.U, Pt.locs, Pt.cells, Pt.slots] at X' l1 y1 z1 st1 hQ
  subst l1 y1 z1
  exact Gol.step (fun _ k => st1.trans k) (k T' v Lc X' hQ)
theorem Gol.retN (X : Stand p l e R s m args below meth c T locs cells slots) (hx : p.tables.exec = Jvm.exec) (hby : c.code = code) {z : Int32} {t : FieldType} (hret : meth.sig.returnType = some t) (ht : t = .boolean ∨ t = .byte ∨ t = .char ∨ t = .short) (hlk : meth.locks = false) (hd : decode code pc = .ok (.ireturn, 1)) (eT : T.heap = h) (hq : Qf (some (.int (nar t z))) h locs) (hc : cells ≤ kc) (hs : slots ≤ ks) : GolF p e below (FrameEnd s) Qf kc ks T m pc Ls (.int z :: rest) :=
  Gol.fin X (fun h => by rw [hret] at h; cases h) hlk eT hq hc hs fun fs hr => Jvm.RoadKit.retN X hx hret ht (hb hby hd) hr
theorem Gol.retI (X : Stand p l e R s m args below meth c T locs cells slots) (hx : p.tables.exec = Jvm.exec) (hby : c.code = code) {z : Int32} (hret : meth.sig.returnType = some .int) (hlk : meth.locks = false) (hd : decode code pc = .ok (.ireturn, 1)) (eT : T.heap = h) (hq : Qf (some (.int z)) h locs) (hc : cells ≤ kc) (hs : slots ≤ ks) : GolF p e below (FrameEnd s) Qf kc ks T m pc Ls (.int z :: rest) :=
  Gol.fin X (fun h => by rw [hret] at h; cases h) hlk eT hq hc hs fun fs hr => Jvm.RoadKit.retOut X hx hret rfl (Or.inl ⟨rfl, Or.inl rfl, _, rfl⟩) (hb hby hd) hr
theorem Gol.retL (X : Stand p l e R s m args below meth c T locs cells slots) (hx : p.tables.exec = Jvm.exec) (hby : c.code = code) {z : Int64} (hret : meth.sig.returnType = some .long) (hlk : meth.locks = false) (hd : decode code pc = .ok (.lreturn, 1)) (eT : T.heap = h) (hq : Qf (some (.long z)) h locs) (hc : cells ≤ kc) (hs : slots ≤ ks) : GolF p e below (FrameEnd s) Qf kc ks T m pc Ls (.long z :: rest) :=
  Gol.fin X (fun h => by rw [hret] at h; cases h) hlk eT hq hc hs fun fs hr => Jvm.RoadKit.retOut X hx hret rfl (Or.inr (Or.inl ⟨rfl, rfl, _, rfl⟩)) (hb hby hd) hr
theorem Gol.retA (X : Stand p l e R s m args below meth c T locs cells slots) (hx : p.tables.exec = Jvm.exec) (hby : c.code = code) {w : Value} {t : FieldType} (hret : meth.sig.returnType = some t) (ht : t.isReference = true) (hw : w.isRef = true) (hlk : meth.locks = false) (hd : decode code pc = .ok (.areturn, 1)) (eT : T.heap = h) (hq : Qf (some w) h locs) (hc : cells ≤ kc) (hs : slots ≤ ks) : GolF p e below (FrameEnd s) Qf kc ks T m pc Ls (w :: rest) :=
  Gol.fin X (fun h => by rw [hret] at h; cases h) hlk eT hq hc hs fun fs hr => Jvm.RoadKit.retOut X hx hret (by rcases ref_cases hw with rfl | ⟨a, rfl⟩ <;> cases t <;> first | rfl | (simp [FieldType.isReference] at ht)) (Or.inr (Or.inr (Or.inr (Or.inr ⟨rfl, ht, hw⟩)))) (hb hby hd) hr
theorem Gol.ret0 (X : Stand p l e R s m args below meth c T locs cells slots) (hx : p.tables.exec = Jvm.exec) (hby : c.code = code) (hret : meth.sig.returnType = none) (hlk : meth.locks = false) (hd : decode code pc = .ok (.return_, 1)) (eT : T.heap = h) (hq : Qf none h locs) (hc : cells ≤ kc) (hs : slots ≤ ks) : GolF p e below (FrameEnd s) Qf kc ks T m pc Ls [] :=
  Gol.fin X (fun _ => rfl) hlk eT hq hc hs fun fs hr => X.returnOut hx hret (hb hby hd) hr
theorem Gol.retNW {vm₁ : Vm} (X : Stand p l e R (s.setVm vm₁) m args below meth c T locs cells slots) (hx : p.tables.exec = Jvm.exec) (hby : c.code = code) {n : Nat} (hS : s.Since vm₁ n) (hn : n ≤ h.size) {z : Int32} {t : FieldType} (hret : meth.sig.returnType = some t) (ht : t = .boolean ∨ t = .byte ∨ t = .char ∨ t = .short) (hlk : meth.locks = false) (hd : decode code pc = .ok (.ireturn, 1)) (eT : T.heap = h) (hq : Qf (some (.int (nar t z))) h locs) (hc : cells ≤ kc) (hs : slots ≤ ks) : GolF p e below (ReturnedEndW s) Qf kc ks T m pc Ls (.int z :: rest) :=
  Gol.finW X hS (eT ▸ hn) (fun h => by rw [hret] at h; cases h) hlk eT hq hc hs fun fs hr => Jvm.RoadKit.retN X hx hret ht (hb hby hd) hr
theorem Gol.ldcStr {vm₁ : Vm} (X : Stand p l e R (s.setVm vm₁) m args below meth c T locs cells slots) (hx : p.tables.exec = Jvm.exec) (hby : c.code = code) {own text : String} {index : Nat} (hZ : Z.Warmed39 vm₁) (hown : vm₁.findClass own = some m.cls) (w : (Cond.stringLink own index text).before a0 Z = true) (wS : ∀ a ∈ Bundle.stringAtoms, a.before a0 Z = true) (eT : T.heap = h) {k0 : Nat} (hS : s.Since vm₁ k0) (hk : k0 ≤ h.size) (n : Nat) (hd : decode code pc = .ok (.ldc index, 2)) (hp : pc + 2 = pc') (hn : 4 * text.toList.length ≤ n) (hbig : n ≤ 536870912) (hc : cells + 2 ≤ R.cells) (hl : slots + (n + 4) ≤ R.slots)
    (k : ∀ (a : Addr) (T' : State) (h' : Heap) (k1 : Nat), Stand p l e R (s.setVm T'.vm) m args below meth c T' locs (cells + 2) (slots + (n + 4)) → T'.heap = h' → Ext h h' → s.Since T'.vm k1 → k1 ≤ h'.size → Z.Warmed39 (s.setVm T'.vm).vm → (s.setVm T'.vm).vm.findClass own = some m.cls → GolF p e below Fe Qf kc ks T' m pc' Ls (.ref a :: rest)) : GolF p e below Fe Qf kc ks T m pc Ls rest := by
  subst hp
  obtain ⟨a, T', h', k1, X', e', E, S', K', Z', O', st⟩ := ldcS X hx hZ hown w wS eT hS hk (g := mkF m pc Ls rest) rfl (hb hby hd) (n := n) hn hbig hc hl
  exact Gol.step st (k a T' h' k1 X' e' E S' K' Z' O')
theorem nar_ite {P : Prop} [Decidable P] {a b : Int32} (ha : nar .boolean a = a) (hb : nar .boolean b = b) : nar .boolean (if P then a else b) = (if P then a else b) := by
  split <;> assumption
theorem tltL {x y : Int64} (h : x < y) : ifCond.holds .lt (XT.cmpL x y) = true ∧ ifCond.holds .ge (XT.cmpL x y) = false := by
  have h1 : ¬ y < x := fun q => Int64.lt_irrefl (Int64.lt_trans h q)
  have h2 : ¬ x = y := fun q => Int64.lt_irrefl (q ▸ h)
  simp [XT.cmpL, h1, h2, ifCond.holds]
theorem fltL {x y : Int64} (h : ¬ x < y) : ifCond.holds .lt (XT.cmpL x y) = false ∧ ifCond.holds .ge (XT.cmpL x y) = true := by
  by_cases h1 : y < x
  · simp [XT.cmpL, h1, ifCond.holds]
  · have h2 : x = y := Int64.le_antisymm (Int64.not_lt.mp h1) (Int64.not_lt.mp h)
    simp [XT.cmpL, h2, ifCond.holds, Int64.lt_irrefl]
theorem tgtL {x y : Int64} (h : y < x) : ifCond.holds .gt (XT.cmpL x y) = true ∧ ifCond.holds .le (XT.cmpL x y) = false := by
  simp [XT.cmpL, h, ifCond.holds]
theorem fgtL {x y : Int64} (h : ¬ y < x) : ifCond.holds .gt (XT.cmpL x y) = false ∧ ifCond.holds .le (XT.cmpL x y) = true := by
  by_cases h2 : x = y <;> simp [XT.cmpL, h, h2, ifCond.holds, Int64.lt_irrefl]
theorem teqL {x y : Int64} (h : x = y) : ifCond.holds .eq (XT.cmpL x y) = true ∧ ifCond.holds .ne (XT.cmpL x y) = false := by
  subst h; simp [XT.cmpL, Int64.lt_irrefl, ifCond.holds]
theorem feqL {x y : Int64} (h : ¬ x = y) : ifCond.holds .eq (XT.cmpL x y) = false ∧ ifCond.holds .ne (XT.cmpL x y) = true := by
  by_cases h1 : y < x <;> simp [XT.cmpL, h, h1, ifCond.holds]
end Own
end Jvm.RoadKit
namespace Jvm.Pilot.@@N@@
open Jvm Jvm.ClassFile Sem Op Lib Jvm.Free Jvm.Stand Jvm.LawKit Jvm.RoadKit Bundle Jvm.Pilot.@@N@@.Jvm.D
abbrev Ob (Z : State) (h : Heap) (a : Addr) (v0 : Value) (v1 : Value) (v2 : Value) (v3 : Value) : Prop := Exa Z h a "com/example/ballast/ballast/runtime/Outbox" ∧ Fld Z h a "com/example/ballast/ballast/runtime/Outbox" "lastSent" "J" v0 ∧ Fld Z h a "com/example/ballast/ballast/runtime/Outbox" "awaitingFlush" "Z" v1 ∧ Fld Z h a "com/example/ballast/ballast/runtime/Outbox" "held" "Ljava/util/List;" v2 ∧ Fld Z h a "com/example/ballast/ballast/runtime/Outbox" "deferredMove" "I" v3
theorem d1_0 : decode prog_120_method_1_code 0 = .ok (.aload_n 0, 1) := by decide +kernel
theorem d1_1 : decode prog_120_method_1_code 1 = .ok (.invokespecial 1, 3) := by decide +kernel
theorem d1_4 : decode prog_120_method_1_code 4 = .ok (.aload_n 0, 1) := by decide +kernel
theorem d1_5 : decode prog_120_method_1_code 5 = .ok (.ldc2_w 7, 3) := by decide +kernel
theorem d1_8 : decode prog_120_method_1_code 8 = .ok (.putfield 9, 3) := by decide +kernel
theorem d1_11 : decode prog_120_method_1_code 11 = .ok (.aload_n 0, 1) := by decide +kernel
theorem d1_12 : decode prog_120_method_1_code 12 = .ok (.iconst (-1), 1) := by decide +kernel
theorem d1_13 : decode prog_120_method_1_code 13 = .ok (.putfield 15, 3) := by decide +kernel
theorem d1_16 : decode prog_120_method_1_code 16 = .ok (.return_, 1) := by decide +kernel
theorem pd_0 : parseMethodDescriptor "()Z" = some ⟨[], some .boolean⟩ := by decide +kernel
theorem pd_1 : parseMethodDescriptor "()V" = some ⟨[], none⟩ := by decide +kernel
theorem pd_2 : parseMethodDescriptor "(J)V" = some ⟨[.long], none⟩ := by decide +kernel
theorem pd_3 : parseMethodDescriptor "(Lcom/example/ballast/ballast/runtime/Outbox;II)I" = some ⟨[(.object "com/example/ballast/ballast/runtime/Outbox"), .int, .int], some .int⟩ := by decide +kernel
theorem pd_4 : parseMethodDescriptor "()J" = some ⟨[], some .long⟩ := by decide +kernel
theorem pd_5 : parseMethodDescriptor "()I" = some ⟨[], some .int⟩ := by decide +kernel
theorem pn_1 : plainName "com/example/ballast/ballast/runtime/Outbox" = true := by first | (simp [plainName, overriddenIn]; done) | decide +kernel
theorem ef_1 (m : MethodId) (r0 : Addr) : entryFrame m #[(.ref r0)] 1 = mkF m 0 #[.val (.ref r0)] [] := by first | (simp [entryFrame, mkF, argsToLocals, Value.category]; done) | rfl
abbrev Q1 (Z : State) (r0 : Addr) (h0 : Heap) (n0 : Nat) (v : Option Value) (h : Heap) (L : List Loc) : Prop := v = none ∧ Fr n0 L ∧ Keep h0 h [r0] ∧ Ob Z h r0 (.long (-1 : Int64)) (.int (0 : Int32)) .null (.int (-1 : Int32))
set_option maxRecDepth 65536 in
set_option maxHeartbeats 40000000 in
theorem rm1 (l : Launch) (Z : State) (a0 : Array Value) (hw : ∀ d ∈ tables_1, d.before a0 Z = true) (ws : List Jvm.Cond) (r0 : Addr) (h0 : Heap) (n0 : Nat) (Z0 : n0 ≤ h0.size) (O0 : Ob Z h0 r0 (.long (0 : Int64)) (.int (0 : Int32)) .null (.int (0 : Int32))) (g_r0 : n0 ≤ r0) :
    MetFree l (⟨"com/example/ballast/ballast/runtime/Outbox", "<init>", "()V"⟩ : MethodName) (head1 (Jvm.Cond.code (⟨"com/example/ballast/ballast/runtime/Outbox", "<init>", "()V"⟩ : MethodName) prog_120_method_1_code 1 none :: ws) ({ frames := 1, cells := 0, slots := 0, locals := 12 } : Room)) (fun a U => a = #[(.ref r0)] ∧ Z.Warmed39 U.vm ∧ U.heap = h0) (fun _ _ _ _ _ => True) (fun _ U o U' => ∃ v L, o = .returned v ∧ Q1 Z r0 h0 n0 v U'.heap L ∧ FrameEnd U o U' L 0 0) := by
  refine MetFree.of_bodySF (plainFor_of_name pn_1) hisR ?_
  intro p ev s m args below meth c s₁ Bd hml0 hP hK
  obtain ⟨rfl, hZ, hh⟩ := hP
  have hx := Bd.exec
  have hby := Bd.bytes
  have hml : c.maxLocals = 1 := hml0
  have hown : s.vm.findClass "com/example/ballast/ballast/runtime/Outbox" = some m.cls := findClass_of_methodNamed Bd.named
  have hnm := (name_of_methodNamed Bd.named Bd.method).1
  have X0 : Stand p l ev ({ frames := 1, cells := 0, slots := 0, locals := 12 } : Room) s m #[(.ref r0)] below meth c s₁ [] 0 0 := Stand.of_body Bd
  have eh0 : s₁.heap = h0 := by rw [← hh, Bd.state]; rfl
  have N0 := Fr.nil n0
  have Zs := Z0
  show Gol p ev below (FrameEnd s) (Q1 Z r0 h0 n0) 0 0 (s₁.setTop (entryFrame m #[(.ref r0)] 1))
  rw [ef_1]
  obtain ⟨E_r0, F_r0_lastSent, F_r0_awaitingFlush, F_r0_held, F_r0_deferredMove⟩ := O0
  have K := Keep.refl h0 [r0]
  show GolF _ _ _ _ _ _ _ s₁ m 0 #[.val (.ref r0)] []
  refine Gol.aloadN X0 hx hby d1_0 (pc' := 1) rfl rfl rfl ?_
  refine Gol.initO X0 hx hby hZ hown (hw _ (List.mem_of_getElem? (i := 6) rfl)) (hw _ (List.mem_of_getElem? (i := 7) rfl)) (hw _ (List.mem_of_getElem? (i := 8) rfl)) eh0 0 d1_1 (pc' := 4) rfl (by rw [hml]; rfl) (by decide) (Nat.le_of_eq rfl) (by decide) ?_
  intro T1 X1 e1
  refine Gol.aloadN X1 hx hby d1_4 (pc' := 5) rfl rfl rfl ?_
  refine Gol.ldc2Long X1 hx hby hZ hown d1_5 (pc' := 8) rfl (hw _ (List.mem_of_getElem? (i := 9) rfl)) ?_
  refine Gol.putF X1 hx hby hZ hown (host := "") (Or.inl (hw _ (List.mem_of_getElem? (i := 10) rfl))) Via.refl e1 F_r0_lastSent E_r0 (Or.inl (hw _ (List.mem_of_getElem? (i := 11) rfl))) (hw _ (List.mem_of_getElem? (i := 1) rfl)) (ty := .long) (by decide) rfl rfl d1_8 (pc' := 11) rfl ?_
  intro T2 h2 X2 e2 W2
  have E_r0 := E_r0.wr W2
  have F_r0_lastSent := F_r0_lastSent.same W2
  have F_r0_awaitingFlush := F_r0_awaitingFlush.other W2 (Or.inr (slot_ne (Or.inl (hw _ (List.mem_of_getElem? (i := 29) rfl))) (Or.inl (hw _ (List.mem_of_getElem? (i := 11) rfl))) (by decide) (t := .boolean) (t' := .long) (by decide) (by decide)))
  have F_r0_held := F_r0_held.other W2 (Or.inr (slot_ne (Or.inl (hw _ (List.mem_of_getElem? (i := 41) rfl))) (Or.inl (hw _ (List.mem_of_getElem? (i := 11) rfl))) (by decide) (t := (.object "java/util/List")) (t' := .long) (by decide) (by decide)))
  have F_r0_deferredMove := F_r0_deferredMove.other W2 (Or.inr (slot_ne (Or.inl (hw _ (List.mem_of_getElem? (i := 13) rfl))) (Or.inl (hw _ (List.mem_of_getElem? (i := 11) rfl))) (by decide) (t := .int) (t' := .long) (by decide) (by decide)))
  have K := K.wr W2 (Or.inl (List.mem_of_getElem? (i := 0) rfl))
  have Zs := Nat.le_trans Zs (Keep.of_wr W2).1
  have N2 := Fr.snoc X2 N0 g_r0
  refine Gol.aloadN X2 hx hby d1_11 (pc' := 12) rfl rfl rfl ?_
  refine Gol.iconst X2 hx hby d1_12 (pc' := 13) rfl (z := (-1 : Int32)) rfl ?_
  refine Gol.putF X2 hx hby hZ hown (host := "") (Or.inl (hw _ (List.mem_of_getElem? (i := 12) rfl))) Via.refl e2 F_r0_deferredMove E_r0 (Or.inl (hw _ (List.mem_of_getElem? (i := 13) rfl))) (hw _ (List.mem_of_getElem? (i := 1) rfl)) (ty := .int) (by decide) rfl rfl d1_13 (pc' := 16) rfl ?_
  intro T3 h3 X3 e3 W3
  have E_r0 := E_r0.wr W3
  have F_r0_lastSent := F_r0_lastSent.other W3 (Or.inr (slot_ne (Or.inl (hw _ (List.mem_of_getElem? (i := 11) rfl))) (Or.inl (hw _ (List.mem_of_getElem? (i := 13) rfl))) (by decide) (t := .long) (t' := .int) (by decide) (by decide)))
  have F_r0_awaitingFlush := F_r0_awaitingFlush.other W3 (Or.inr (slot_ne (Or.inl (hw _ (List.mem_of_getElem? (i := 29) rfl))) (Or.inl (hw _ (List.mem_of_getElem? (i := 13) rfl))) (by decide) (t := .boolean) (t' := .int) (by decide) (by decide)))
  have F_r0_held := F_r0_held.other W3 (Or.inr (slot_ne (Or.inl (hw _ (List.mem_of_getElem? (i := 41) rfl))) (Or.inl (hw _ (List.mem_of_getElem? (i := 13) rfl))) (by decide) (t := (.object "java/util/List")) (t' := .int) (by decide) (by decide)))
  have F_r0_deferredMove := F_r0_deferredMove.same W3
  have K := K.wr W3 (Or.inl (List.mem_of_getElem? (i := 0) rfl))
  have Zs := Nat.le_trans Zs (Keep.of_wr W3).1
  have N3 := Fr.snoc X3 N2 g_r0
  exact Gol.ret0 X3 hx hby Bd.returns Bd.notSynchronized d1_16 e3 ⟨rfl, N3, K, ⟨E_r0, F_r0_lastSent, F_r0_awaitingFlush, F_r0_held, F_r0_deferredMove⟩⟩ (by decide) (by decide)
theorem d3_0 : decode prog_120_method_2_code 0 = .ok (.aload_n 0, 1) := by decide +kernel
theorem d3_1 : decode prog_120_method_2_code 1 = .ok (.lload_n 1, 1) := by decide +kernel
theorem d3_2 : decode prog_120_method_2_code 2 = .ok (.putfield 9, 3) := by decide +kernel
theorem d3_5 : decode prog_120_method_2_code 5 = .ok (.return_, 1) := by decide +kernel
theorem pn_3 : plainName "com/example/ballast/ballast/runtime/Outbox" = true := by first | (simp [plainName, overriddenIn]; done) | decide +kernel
theorem ef_3 (m : MethodId) (r0 : Addr) (q1 : Int64) : entryFrame m #[(.ref r0), (.long q1)] 3 = mkF m 0 #[.val (.ref r0), .val (.long q1), .second] [] := by first | (simp [entryFrame, mkF, argsToLocals, Value.category]; done) | rfl
abbrev Q3 (Z : State) (r0 : Addr) (q1 : Int64) (v0 : Value) (v1 : Value) (v2 : Value) (v3 : Value) (h0 : Heap) (n0 : Nat) (v : Option Value) (h : Heap) (L : List Loc) : Prop := v = none ∧ Fr n0 L ∧ Keep h0 h [r0] ∧ Ob Z h r0 (.long q1) v1 v2 v3
set_option maxRecDepth 65536 in
set_option maxHeartbeats 40000000 in
theorem rm3 (l : Launch) (Z : State) (a0 : Array Value) (hw : ∀ d ∈ tables_1, d.before a0 Z = true) (ws : List Jvm.Cond) (r0 : Addr) (q1 : Int64) (v0 : Value) (v1 : Value) (v2 : Value) (v3 : Value) (h0 : Heap) (n0 : Nat) (Z0 : n0 ≤ h0.size) (O0 : Ob Z h0 r0 v0 v1 v2 v3) (g_r0 : n0 ≤ r0) :
    MetFree l (⟨"com/example/ballast/ballast/runtime/Outbox", "sent", "(J)V"⟩ : MethodName) (head1 (Jvm.Cond.code (⟨"com/example/ballast/ballast/runtime/Outbox", "sent", "(J)V"⟩ : MethodName) prog_120_method_2_code 3 none :: ws) ({ frames := 0, cells := 0, slots := 0, locals := 0 } : Room)) (fun a U => a = #[(.ref r0), (.long q1)] ∧ Z.Warmed39 U.vm ∧ U.heap = h0) (fun _ _ _ _ _ => True) (fun _ U o U' => ∃ v L, o = .returned v ∧ Q3 Z r0 q1 v0 v1 v2 v3 h0 n0 v U'.heap L ∧ FrameEnd U o U' L 0 0) := by
  refine MetFree.of_bodySF (plainFor_of_name pn_3) hisR ?_
  intro p ev s m args below meth c s₁ Bd hml0 hP hK
  obtain ⟨rfl, hZ, hh⟩ := hP
  have hx := Bd.exec
  have hby := Bd.bytes
  have hml : c.maxLocals = 3 := hml0
  have hown : s.vm.findClass "com/example/ballast/ballast/runtime/Outbox" = some m.cls := findClass_of_methodNamed Bd.named
  have hnm := (name_of_methodNamed Bd.named Bd.method).1
  have X0 : Stand p l ev ({ frames := 0, cells := 0, slots := 0, locals := 0 } : Room) s m #[(.ref r0), (.long q1)] below meth c s₁ [] 0 0 := Stand.of_body Bd
  have eh0 : s₁.heap = h0 := by rw [← hh, Bd.state]; rfl
  have N0 := Fr.nil n0
  have Zs := Z0
  show Gol p ev below (FrameEnd s) (Q3 Z r0 q1 v0 v1 v2 v3 h0 n0) 0 0 (s₁.setTop (entryFrame m #[(.ref r0), (.long q1)] 3))
  rw [ef_3]
  obtain ⟨E_r0, F_r0_lastSent, F_r0_awaitingFlush, F_r0_held, F_r0_deferredMove⟩ := O0
  have K := Keep.refl h0 [r0]
  show GolF _ _ _ _ _ _ _ s₁ m 0 #[.val (.ref r0), .val (.long q1), .second] []
  refine Gol.aloadN X0 hx hby d3_0 (pc' := 1) rfl rfl rfl ?_
  refine Gol.lloadN X0 hx hby d3_1 (pc' := 2) rfl rfl ?_
  refine Gol.putF X0 hx hby hZ hown (host := "") (Or.inl (hw _ (List.mem_of_getElem? (i := 10) rfl))) Via.refl eh0 F_r0_lastSent E_r0 (Or.inl (hw _ (List.mem_of_getElem? (i := 11) rfl))) (hw _ (List.mem_of_getElem? (i := 1) rfl)) (ty := .long) (by decide) rfl rfl d3_2 (pc' := 5) rfl ?_
  intro T1 h1 X1 e1 W1
  have E_r0 := E_r0.wr W1
  have F_r0_lastSent := F_r0_lastSent.same W1
  have F_r0_awaitingFlush := F_r0_awaitingFlush.other W1 (Or.inr (slot_ne (Or.inl (hw _ (List.mem_of_getElem? (i := 29) rfl))) (Or.inl (hw _ (List.mem_of_getElem? (i := 11) rfl))) (by decide) (t := .boolean) (t' := .long) (by decide) (by decide)))
  have F_r0_held := F_r0_held.other W1 (Or.inr (slot_ne (Or.inl (hw _ (List.mem_of_getElem? (i := 41) rfl))) (Or.inl (hw _ (List.mem_of_getElem? (i := 11) rfl))) (by decide) (t := (.object "java/util/List")) (t' := .long) (by decide) (by decide)))
  have F_r0_deferredMove := F_r0_deferredMove.other W1 (Or.inr (slot_ne (Or.inl (hw _ (List.mem_of_getElem? (i := 13) rfl))) (Or.inl (hw _ (List.mem_of_getElem? (i := 11) rfl))) (by decide) (t := .int) (t' := .long) (by decide) (by decide)))
  have K := K.wr W1 (Or.inl (List.mem_of_getElem? (i := 0) rfl))
  have Zs := Nat.le_trans Zs (Keep.of_wr W1).1
  have N1 := Fr.snoc X1 N0 g_r0
  exact Gol.ret0 X1 hx hby Bd.returns Bd.notSynchronized d3_5 e1 ⟨rfl, N1, K, ⟨E_r0, F_r0_lastSent, F_r0_awaitingFlush, F_r0_held, F_r0_deferredMove⟩⟩ (by decide) (by decide)
theorem d5_0 : decode prog_120_method_4_code 0 = .ok (.aload_n 0, 1) := by decide +kernel
theorem d5_1 : decode prog_120_method_4_code 1 = .ok (.getfield 19, 3) := by decide +kernel
theorem d5_4 : decode prog_120_method_4_code 4 = .ok (.ifCond .eq 5, 3) := by decide +kernel
theorem d5_9 : decode prog_120_method_4_code 9 = .ok (.aload_n 0, 1) := by decide +kernel
theorem d5_10 : decode prog_120_method_4_code 10 = .ok (.iconst 1, 1) := by decide +kernel
theorem d5_11 : decode prog_120_method_4_code 11 = .ok (.putfield 19, 3) := by decide +kernel
theorem d5_14 : decode prog_120_method_4_code 14 = .ok (.iconst 1, 1) := by decide +kernel
theorem d5_15 : decode prog_120_method_4_code 15 = .ok (.ireturn, 1) := by decide +kernel
theorem pn_5 : plainName "com/example/ballast/ballast/runtime/Outbox" = true := by first | (simp [plainName, overriddenIn]; done) | decide +kernel
theorem ef_5 (m : MethodId) (r0 : Addr) : entryFrame m #[(.ref r0)] 1 = mkF m 0 #[.val (.ref r0)] [] := by first | (simp [entryFrame, mkF, argsToLocals, Value.category]; done) | rfl
abbrev Q5a (Z : State) (r0 : Addr) (v0 : Value) (v2 : Value) (v3 : Value) (h0 : Heap) (n0 : Nat) (v : Option Value) (h : Heap) (L : List Loc) : Prop := v = some (.int (1 : Int32)) ∧ Fr n0 L ∧ Keep h0 h [r0] ∧ Ob Z h r0 v0 (.int (1 : Int32)) v2 v3
set_option maxRecDepth 65536 in
set_option maxHeartbeats 40000000 in
theorem rm5a (l : Launch) (Z : State) (a0 : Array Value) (hw : ∀ d ∈ tables_1, d.before a0 Z = true) (ws : List Jvm.Cond) (r0 : Addr) (v0 : Value) (v2 : Value) (v3 : Value) (h0 : Heap) (n0 : Nat) (Z0 : n0 ≤ h0.size) (O0 : Ob Z h0 r0 v0 (.int (0 : Int32)) v2 v3) (g_r0 : n0 ≤ r0) :
    MetFree l (⟨"com/example/ballast/ballast/runtime/Outbox", "awaitFlush", "()Z"⟩ : MethodName) (head1 (Jvm.Cond.code (⟨"com/example/ballast/ballast/runtime/Outbox", "awaitFlush", "()Z"⟩ : MethodName) prog_120_method_4_code 1 (some .boolean) :: ws) ({ frames := 0, cells := 0, slots := 0, locals := 0 } : Room)) (fun a U => a = #[(.ref r0)] ∧ Z.Warmed39 U.vm ∧ U.heap = h0) (fun _ _ _ _ _ => True) (fun _ U o U' => ∃ v L, o = .returned v ∧ Q5a Z r0 v0 v2 v3 h0 n0 v U'.heap L ∧ FrameEnd U o U' L 0 0) := by
  refine MetFree.of_bodySF (plainFor_of_name pn_5) hisR ?_
  intro p ev s m args below meth c s₁ Bd hml0 hP hK
  obtain ⟨rfl, hZ, hh⟩ := hP
  have hx := Bd.exec
  have hby := Bd.bytes
  have hml : c.maxLocals = 1 := hml0
  have hown : s.vm.findClass "com/example/ballast/ballast/runtime/Outbox" = some m.cls := findClass_of_methodNamed Bd.named
  have hnm := (name_of_methodNamed Bd.named Bd.method).1
  have X0 : Stand p l ev ({ frames := 0, cells := 0, slots := 0, locals := 0 } : Room) s m #[(.ref r0)] below meth c s₁ [] 0 0 := Stand.of_body Bd
  have eh0 : s₁.heap = h0 := by rw [← hh, Bd.state]; rfl
  have N0 := Fr.nil n0
  have Zs := Z0
  show Gol p ev below (FrameEnd s) (Q5a Z r0 v0 v2 v3 h0 n0) 0 0 (s₁.setTop (entryFrame m #[(.ref r0)] 1))
  rw [ef_5]
  obtain ⟨E_r0, F_r0_lastSent, F_r0_awaitingFlush, F_r0_held, F_r0_deferredMove⟩ := O0
  have K := Keep.refl h0 [r0]
  show GolF _ _ _ _ _ _ _ s₁ m 0 #[.val (.ref r0)] []
  refine Gol.aloadN X0 hx hby d5_0 (pc' := 1) rfl rfl rfl ?_
  refine Gol.getF X0 hx hby hZ hown (host := "") (Or.inl (hw _ (List.mem_of_getElem? (i := 28) rfl))) Via.refl eh0 F_r0_awaitingFlush d5_1 (pc' := 4) rfl ?_
  intro T1 X1 e1
  refine Gol.ifYes X1 hx hby d5_4 (pc' := 9) (by decide) ((if0 _ _).trans (teq (by decide : (0 : Int32) = (0 : Int32))).1) ?_
  refine Gol.aloadN X1 hx hby d5_9 (pc' := 10) rfl rfl rfl ?_
  refine Gol.iconst X1 hx hby d5_10 (pc' := 11) rfl (z := (1 : Int32)) rfl ?_
  refine Gol.putFN X1 hx hby hZ hown (hw _ (List.mem_of_getElem? (i := 28) rfl)) Via.refl e1 F_r0_awaitingFlush E_r0 (Or.inl (hw _ (List.mem_of_getElem? (i := 29) rfl))) (hw _ (List.mem_of_getElem? (i := 1) rfl)) (ty := .boolean) (v' := (.int (1 : Int32))) (by decide) rfl (by decide) d5_11 (pc' := 14) rfl ?_
  intro T2 h2 X2 e2 W2
  have E_r0 := E_r0.wr W2
  have F_r0_lastSent := F_r0_lastSent.other W2 (Or.inr (slot_ne (Or.inl (hw _ (List.mem_of_getElem? (i := 11) rfl))) (Or.inl (hw _ (List.mem_of_getElem? (i := 29) rfl))) (by decide) (t := .long) (t' := .boolean) (by decide) (by decide)))
  have F_r0_awaitingFlush := F_r0_awaitingFlush.same W2
  have F_r0_held := F_r0_held.other W2 (Or.inr (slot_ne (Or.inl (hw _ (List.mem_of_getElem? (i := 41) rfl))) (Or.inl (hw _ (List.mem_of_getElem? (i := 29) rfl))) (by decide) (t := (.object "java/util/List")) (t' := .boolean) (by decide) (by decide)))
  have F_r0_deferredMove := F_r0_deferredMove.other W2 (Or.inr (slot_ne (Or.inl (hw _ (List.mem_of_getElem? (i := 13) rfl))) (Or.inl (hw _ (List.mem_of_getElem? (i := 29) rfl))) (by decide) (t := .int) (t' := .boolean) (by decide) (by decide)))
  have K := K.wr W2 (Or.inl (List.mem_of_getElem? (i := 0) rfl))
  have Zs := Nat.le_trans Zs (Keep.of_wr W2).1
  have N2 := Fr.snoc X2 N0 g_r0
  refine Gol.iconst X2 hx hby d5_14 (pc' := 15) rfl (z := (1 : Int32)) rfl ?_
  exact Gol.retN X2 hx hby (t := .boolean) Bd.returns (by simp) Bd.notSynchronized d5_15 e2 ⟨rfl, N2, K, ⟨E_r0, F_r0_lastSent, F_r0_awaitingFlush, F_r0_held, F_r0_deferredMove⟩⟩ (by decide) (by decide)
theorem d5_7 : decode prog_120_method_4_code 7 = .ok (.iconst 0, 1) := by decide +kernel
theorem d5_8 : decode prog_120_method_4_code 8 = .ok (.ireturn, 1) := by decide +kernel
abbrev Q5b (Z : State) (r0 : Addr) (v0 : Value) (v2 : Value) (v3 : Value) (h0 : Heap) (n0 : Nat) (v : Option Value) (h : Heap) (L : List Loc) : Prop := v = some (.int (0 : Int32)) ∧ Fr n0 L ∧ h = h0
set_option maxRecDepth 65536 in
set_option maxHeartbeats 40000000 in
theorem rm5b (l : Launch) (Z : State) (a0 : Array Value) (hw : ∀ d ∈ tables_1, d.before a0 Z = true) (ws : List Jvm.Cond) (r0 : Addr) (v0 : Value) (v2 : Value) (v3 : Value) (h0 : Heap) (n0 : Nat) (Z0 : n0 ≤ h0.size) (O0 : Ob Z h0 r0 v0 (.int (1 : Int32)) v2 v3) (g_r0 : n0 ≤ r0) :
    MetFree l (⟨"com/example/ballast/ballast/runtime/Outbox", "awaitFlush", "()Z"⟩ : MethodName) (head1 (Jvm.Cond.code (⟨"com/example/ballast/ballast/runtime/Outbox", "awaitFlush", "()Z"⟩ : MethodName) prog_120_method_4_code 1 (some .boolean) :: ws) ({ frames := 0, cells := 0, slots := 0, locals := 0 } : Room)) (fun a U => a = #[(.ref r0)] ∧ Z.Warmed39 U.vm ∧ U.heap = h0) (fun _ _ _ _ _ => True) (fun _ U o U' => ∃ v L, o = .returned v ∧ Q5b Z r0 v0 v2 v3 h0 n0 v U'.heap L ∧ FrameEnd U o U' L 0 0) := by
  refine MetFree.of_bodySF (plainFor_of_name pn_5) hisR ?_
  intro p ev s m args below meth c s₁ Bd hml0 hP hK
  obtain ⟨rfl, hZ, hh⟩ := hP
  have hx := Bd.exec
  have hby := Bd.bytes
  have hml : c.maxLocals = 1 := hml0
  have hown : s.vm.findClass "com/example/ballast/ballast/runtime/Outbox" = some m.cls := findClass_of_methodNamed Bd.named
  have hnm := (name_of_methodNamed Bd.named Bd.method).1
  have X0 : Stand p l ev ({ frames := 0, cells := 0, slots := 0, locals := 0 } : Room) s m #[(.ref r0)] below meth c s₁ [] 0 0 := Stand.of_body Bd
  have eh0 : s₁.heap = h0 := by rw [← hh, Bd.state]; rfl
  have N0 := Fr.nil n0
  have Zs := Z0
  show Gol p ev below (FrameEnd s) (Q5b Z r0 v0 v2 v3 h0 n0) 0 0 (s₁.setTop (entryFrame m #[(.ref r0)] 1))
  rw [ef_5]
  obtain ⟨E_r0, F_r0_lastSent, F_r0_awaitingFlush, F_r0_held, F_r0_deferredMove⟩ := O0
  have K := Keep.refl h0 [r0]
  show GolF _ _ _ _ _ _ _ s₁ m 0 #[.val (.ref r0)] []
  refine Gol.aloadN X0 hx hby d5_0 (pc' := 1) rfl rfl rfl ?_
  refine Gol.getF X0 hx hby hZ hown (host := "") (Or.inl (hw _ (List.mem_of_getElem? (i := 28) rfl))) Via.refl eh0 F_r0_awaitingFlush d5_1 (pc' := 4) rfl ?_
  intro T1 X1 e1
  refine Gol.ifNo X1 hx hby d5_4 (pc' := 7) rfl ((if0 _ _).trans (feq (by decide : ¬ ((1 : Int32) = (0 : Int32)))).1) ?_
  refine Gol.iconst X1 hx hby d5_7 (pc' := 8) rfl (z := (0 : Int32)) rfl ?_
  exact Gol.retN X1 hx hby (t := .boolean) Bd.returns (by simp) Bd.notSynchronized d5_8 e1 ⟨rfl, N0, rfl⟩ (by decide) (by decide)
theorem d9_0 : decode prog_120_method_5_code 0 = .ok (.aload_n 0, 1) := by decide +kernel
theorem d9_1 : decode prog_120_method_5_code 1 = .ok (.iconst 0, 1) := by decide +kernel
theorem d9_2 : decode prog_120_method_5_code 2 = .ok (.putfield 19, 3) := by decide +kernel
theorem d9_5 : decode prog_120_method_5_code 5 = .ok (.return_, 1) := by decide +kernel
theorem pn_9 : plainName "com/example/ballast/ballast/runtime/Outbox" = true := by first | (simp [plainName, overriddenIn]; done) | decide +kernel
theorem ef_9 (m : MethodId) (r0 : Addr) : entryFrame m #[(.ref r0)] 1 = mkF m 0 #[.val (.ref r0)] [] := by first | (simp [entryFrame, mkF, argsToLocals, Value.category]; done) | rfl
abbrev Q9 (Z : State) (r0 : Addr) (v0 : Value) (v1 : Value) (v2 : Value) (v3 : Value) (h0 : Heap) (n0 : Nat) (v : Option Value) (h : Heap) (L : List Loc) : Prop := v = none ∧ Fr n0 L ∧ Keep h0 h [r0] ∧ Ob Z h r0 v0 (.int (0 : Int32)) v2 v3
set_option maxRecDepth 65536 in
set_option maxHeartbeats 40000000 in
theorem rm9 (l : Launch) (Z : State) (a0 : Array Value) (hw : ∀ d ∈ tables_1, d.before a0 Z = true) (ws : List Jvm.Cond) (r0 : Addr) (v0 : Value) (v1 : Value) (v2 : Value) (v3 : Value) (h0 : Heap) (n0 : Nat) (Z0 : n0 ≤ h0.size) (O0 : Ob Z h0 r0 v0 v1 v2 v3) (g_r0 : n0 ≤ r0) :
    MetFree l (⟨"com/example/ballast/ballast/runtime/Outbox", "flushed", "()V"⟩ : MethodName) (head1 (Jvm.Cond.code (⟨"com/example/ballast/ballast/runtime/Outbox", "flushed", "()V"⟩ : MethodName) prog_120_method_5_code 1 none :: ws) ({ frames := 0, cells := 0, slots := 0, locals := 0 } : Room)) (fun a U => a = #[(.ref r0)] ∧ Z.Warmed39 U.vm ∧ U.heap = h0) (fun _ _ _ _ _ => True) (fun _ U o U' => ∃ v L, o = .returned v ∧ Q9 Z r0 v0 v1 v2 v3 h0 n0 v U'.heap L ∧ FrameEnd U o U' L 0 0) := by
  refine MetFree.of_bodySF (plainFor_of_name pn_9) hisR ?_
  intro p ev s m args below meth c s₁ Bd hml0 hP hK
  obtain ⟨rfl, hZ, hh⟩ := hP
  have hx := Bd.exec
  have hby := Bd.bytes
  have hml : c.maxLocals = 1 := hml0
  have hown : s.vm.findClass "com/example/ballast/ballast/runtime/Outbox" = some m.cls := findClass_of_methodNamed Bd.named
  have hnm := (name_of_methodNamed Bd.named Bd.method).1
  have X0 : Stand p l ev ({ frames := 0, cells := 0, slots := 0, locals := 0 } : Room) s m #[(.ref r0)] below meth c s₁ [] 0 0 := Stand.of_body Bd
  have eh0 : s₁.heap = h0 := by rw [← hh, Bd.state]; rfl
  have N0 := Fr.nil n0
  have Zs := Z0
  show Gol p ev below (FrameEnd s) (Q9 Z r0 v0 v1 v2 v3 h0 n0) 0 0 (s₁.setTop (entryFrame m #[(.ref r0)] 1))
  rw [ef_9]
  obtain ⟨E_r0, F_r0_lastSent, F_r0_awaitingFlush, F_r0_held, F_r0_deferredMove⟩ := O0
  have K := Keep.refl h0 [r0]
  show GolF _ _ _ _ _ _ _ s₁ m 0 #[.val (.ref r0)] []
  refine Gol.aloadN X0 hx hby d9_0 (pc' := 1) rfl rfl rfl ?_
  refine Gol.iconst X0 hx hby d9_1 (pc' := 2) rfl (z := (0 : Int32)) rfl ?_
  refine Gol.putFN X0 hx hby hZ hown (hw _ (List.mem_of_getElem? (i := 28) rfl)) Via.refl eh0 F_r0_awaitingFlush E_r0 (Or.inl (hw _ (List.mem_of_getElem? (i := 29) rfl))) (hw _ (List.mem_of_getElem? (i := 1) rfl)) (ty := .boolean) (v' := (.int (0 : Int32))) (by decide) rfl (by decide) d9_2 (pc' := 5) rfl ?_
  intro T1 h1 X1 e1 W1
  have E_r0 := E_r0.wr W1
  have F_r0_lastSent := F_r0_lastSent.other W1 (Or.inr (slot_ne (Or.inl (hw _ (List.mem_of_getElem? (i := 11) rfl))) (Or.inl (hw _ (List.mem_of_getElem? (i := 29) rfl))) (by decide) (t := .long) (t' := .boolean) (by decide) (by decide)))
  have F_r0_awaitingFlush := F_r0_awaitingFlush.same W1
  have F_r0_held := F_r0_held.other W1 (Or.inr (slot_ne (Or.inl (hw _ (List.mem_of_getElem? (i := 41) rfl))) (Or.inl (hw _ (List.mem_of_getElem? (i := 29) rfl))) (by decide) (t := (.object "java/util/List")) (t' := .boolean) (by decide) (by decide)))
  have F_r0_deferredMove := F_r0_deferredMove.other W1 (Or.inr (slot_ne (Or.inl (hw _ (List.mem_of_getElem? (i := 13) rfl))) (Or.inl (hw _ (List.mem_of_getElem? (i := 29) rfl))) (by decide) (t := .int) (t' := .boolean) (by decide) (by decide)))
  have K := K.wr W1 (Or.inl (List.mem_of_getElem? (i := 0) rfl))
  have Zs := Nat.le_trans Zs (Keep.of_wr W1).1
  have N1 := Fr.snoc X1 N0 g_r0
  exact Gol.ret0 X1 hx hby Bd.returns Bd.notSynchronized d9_5 e1 ⟨rfl, N1, K, ⟨E_r0, F_r0_lastSent, F_r0_awaitingFlush, F_r0_held, F_r0_deferredMove⟩⟩ (by decide) (by decide)
theorem d6_0 : decode prog_120_method_3_code 0 = .ok (.aload_n 0, 1) := by decide +kernel
theorem d6_1 : decode prog_120_method_3_code 1 = .ok (.getfield 9, 3) := by decide +kernel
theorem d6_4 : decode prog_120_method_3_code 4 = .ok (.lreturn, 1) := by decide +kernel
theorem pn_6 : plainName "com/example/ballast/ballast/runtime/Outbox" = true := by first | (simp [plainName, overriddenIn]; done) | decide +kernel
theorem ef_6 (m : MethodId) (r0 : Addr) : entryFrame m #[(.ref r0)] 1 = mkF m 0 #[.val (.ref r0)] [] := by first | (simp [entryFrame, mkF, argsToLocals, Value.category]; done) | rfl
abbrev Q6 (Z : State) (r0 : Addr) (ls : Int64) (v1 : Value) (v2 : Value) (v3 : Value) (h0 : Heap) (n0 : Nat) (v : Option Value) (h : Heap) (L : List Loc) : Prop := v = some (.long ls) ∧ Fr n0 L ∧ h = h0
set_option maxRecDepth 65536 in
set_option maxHeartbeats 40000000 in
theorem rm6 (l : Launch) (Z : State) (a0 : Array Value) (hw : ∀ d ∈ tables_1, d.before a0 Z = true) (ws : List Jvm.Cond) (r0 : Addr) (ls : Int64) (v1 : Value) (v2 : Value) (v3 : Value) (h0 : Heap) (n0 : Nat) (Z0 : n0 ≤ h0.size) (O0 : Ob Z h0 r0 (.long ls) v1 v2 v3) (g_r0 : n0 ≤ r0) :
    MetFree l (⟨"com/example/ballast/ballast/runtime/Outbox", "lastSent", "()J"⟩ : MethodName) (head1 (Jvm.Cond.code (⟨"com/example/ballast/ballast/runtime/Outbox", "lastSent", "()J"⟩ : MethodName) prog_120_method_3_code 1 (some .long) :: ws) ({ frames := 0, cells := 0, slots := 0, locals := 0 } : Room)) (fun a U => a = #[(.ref r0)] ∧ Z.Warmed39 U.vm ∧ U.heap = h0) (fun _ _ _ _ _ => True) (fun _ U o U' => ∃ v L, o = .returned v ∧ Q6 Z r0 ls v1 v2 v3 h0 n0 v U'.heap L ∧ FrameEnd U o U' L 0 0) := by
  refine MetFree.of_bodySF (plainFor_of_name pn_6) hisR ?_
  intro p ev s m args below meth c s₁ Bd hml0 hP hK
  obtain ⟨rfl, hZ, hh⟩ := hP
  have hx := Bd.exec
  have hby := Bd.bytes
  have hml : c.maxLocals = 1 := hml0
  have hown : s.vm.findClass "com/example/ballast/ballast/runtime/Outbox" = some m.cls := findClass_of_methodNamed Bd.named
  have hnm := (name_of_methodNamed Bd.named Bd.method).1
  have X0 : Stand p l ev ({ frames := 0, cells := 0, slots := 0, locals := 0 } : Room) s m #[(.ref r0)] below meth c s₁ [] 0 0 := Stand.of_body Bd
  have eh0 : s₁.heap = h0 := by rw [← hh, Bd.state]; rfl
  have N0 := Fr.nil n0
  have Zs := Z0
  show Gol p ev below (FrameEnd s) (Q6 Z r0 ls v1 v2 v3 h0 n0) 0 0 (s₁.setTop (entryFrame m #[(.ref r0)] 1))
  rw [ef_6]
  obtain ⟨E_r0, F_r0_lastSent, F_r0_awaitingFlush, F_r0_held, F_r0_deferredMove⟩ := O0
  have K := Keep.refl h0 [r0]
  show GolF _ _ _ _ _ _ _ s₁ m 0 #[.val (.ref r0)] []
  refine Gol.aloadN X0 hx hby d6_0 (pc' := 1) rfl rfl rfl ?_
  refine Gol.getF X0 hx hby hZ hown (host := "") (Or.inl (hw _ (List.mem_of_getElem? (i := 10) rfl))) Via.refl eh0 F_r0_lastSent d6_1 (pc' := 4) rfl ?_
  intro T1 X1 e1
  exact Gol.retL X1 hx hby Bd.returns Bd.notSynchronized d6_4 e1 ⟨rfl, N0, rfl⟩ (by decide) (by decide)
theorem d7_0 : decode prog_120_method_7_code 0 = .ok (.aload_n 0, 1) := by decide +kernel
theorem d7_1 : decode prog_120_method_7_code 1 = .ok (.getfield 26, 3) := by decide +kernel
theorem d7_4 : decode prog_120_method_7_code 4 = .ok (.ifnull 7, 3) := by decide +kernel
theorem d7_11 : decode prog_120_method_7_code 11 = .ok (.iconst 0, 1) := by decide +kernel
theorem d7_12 : decode prog_120_method_7_code 12 = .ok (.ireturn, 1) := by decide +kernel
theorem pn_7 : plainName "com/example/ballast/ballast/runtime/Outbox" = true := by first | (simp [plainName, overriddenIn]; done) | decide +kernel
theorem ef_7 (m : MethodId) (r0 : Addr) : entryFrame m #[(.ref r0)] 1 = mkF m 0 #[.val (.ref r0)] [] := by first | (simp [entryFrame, mkF, argsToLocals, Value.category]; done) | rfl
abbrev Q7 (Z : State) (r0 : Addr) (v0 : Value) (v1 : Value) (v3 : Value) (h0 : Heap) (n0 : Nat) (v : Option Value) (h : Heap) (L : List Loc) : Prop := v = some (.int (0 : Int32)) ∧ Fr n0 L ∧ h = h0
set_option maxRecDepth 65536 in
set_option maxHeartbeats 40000000 in
theorem rm7 (l : Launch) (Z : State) (a0 : Array Value) (hw : ∀ d ∈ tables_1, d.before a0 Z = true) (ws : List Jvm.Cond) (r0 : Addr) (v0 : Value) (v1 : Value) (v3 : Value) (h0 : Heap) (n0 : Nat) (Z0 : n0 ≤ h0.size) (O0 : Ob Z h0 r0 v0 v1 .null v3) (g_r0 : n0 ≤ r0) :
    MetFree l (⟨"com/example/ballast/ballast/runtime/Outbox", "isHolding", "()Z"⟩ : MethodName) (head1 (Jvm.Cond.code (⟨"com/example/ballast/ballast/runtime/Outbox", "isHolding", "()Z"⟩ : MethodName) prog_120_method_7_code 1 (some .boolean) :: ws) ({ frames := 0, cells := 0, slots := 0, locals := 0 } : Room)) (fun a U => a = #[(.ref r0)] ∧ Z.Warmed39 U.vm ∧ U.heap = h0) (fun _ _ _ _ _ => True) (fun _ U o U' => ∃ v L, o = .returned v ∧ Q7 Z r0 v0 v1 v3 h0 n0 v U'.heap L ∧ FrameEnd U o U' L 0 0) := by
  refine MetFree.of_bodySF (plainFor_of_name pn_7) hisR ?_
  intro p ev s m args below meth c s₁ Bd hml0 hP hK
  obtain ⟨rfl, hZ, hh⟩ := hP
  have hx := Bd.exec
  have hby := Bd.bytes
  have hml : c.maxLocals = 1 := hml0
  have hown : s.vm.findClass "com/example/ballast/ballast/runtime/Outbox" = some m.cls := findClass_of_methodNamed Bd.named
  have hnm := (name_of_methodNamed Bd.named Bd.method).1
  have X0 : Stand p l ev ({ frames := 0, cells := 0, slots := 0, locals := 0 } : Room) s m #[(.ref r0)] below meth c s₁ [] 0 0 := Stand.of_body Bd
  have eh0 : s₁.heap = h0 := by rw [← hh, Bd.state]; rfl
  have N0 := Fr.nil n0
  have Zs := Z0
  show Gol p ev below (FrameEnd s) (Q7 Z r0 v0 v1 v3 h0 n0) 0 0 (s₁.setTop (entryFrame m #[(.ref r0)] 1))
  rw [ef_7]
  obtain ⟨E_r0, F_r0_lastSent, F_r0_awaitingFlush, F_r0_held, F_r0_deferredMove⟩ := O0
  have K := Keep.refl h0 [r0]
  show GolF _ _ _ _ _ _ _ s₁ m 0 #[.val (.ref r0)] []
  refine Gol.aloadN X0 hx hby d7_0 (pc' := 1) rfl rfl rfl ?_
  refine Gol.getF X0 hx hby hZ hown (host := "") (Or.inl (hw _ (List.mem_of_getElem? (i := 40) rfl))) Via.refl eh0 F_r0_held d7_1 (pc' := 4) rfl ?_
  intro T1 X1 e1
  refine Gol.ifnullYes X1 hx hby d7_4 (pc' := 11) (by decide) ?_
  refine Gol.iconst X1 hx hby d7_11 (pc' := 12) rfl (z := (0 : Int32)) rfl ?_
  exact Gol.retN X1 hx hby (t := .boolean) Bd.returns (by simp) Bd.notSynchronized d7_12 e1 ⟨rfl, N0, rfl⟩ (by decide) (by decide)
theorem d8_0 : decode prog_120_method_11_code 0 = .ok (.aload_n 0, 1) := by decide +kernel
theorem d8_1 : decode prog_120_method_11_code 1 = .ok (.getfield 15, 3) := by decide +kernel
theorem d8_4 : decode prog_120_method_11_code 4 = .ok (.istore_n 1, 1) := by decide +kernel
theorem d8_5 : decode prog_120_method_11_code 5 = .ok (.aload_n 0, 1) := by decide +kernel
theorem d8_6 : decode prog_120_method_11_code 6 = .ok (.iconst (-1), 1) := by decide +kernel
theorem d8_7 : decode prog_120_method_11_code 7 = .ok (.putfield 15, 3) := by decide +kernel
theorem d8_10 : decode prog_120_method_11_code 10 = .ok (.iload_n 1, 1) := by decide +kernel
theorem d8_11 : decode prog_120_method_11_code 11 = .ok (.ireturn, 1) := by decide +kernel
theorem pn_8 : plainName "com/example/ballast/ballast/runtime/Outbox" = true := by first | (simp [plainName, overriddenIn]; done) | decide +kernel
theorem ef_8 (m : MethodId) (r0 : Addr) : entryFrame m #[(.ref r0)] 2 = mkF m 0 #[.val (.ref r0), .unset] [] := by first | (simp [entryFrame, mkF, argsToLocals, Value.category]; done) | rfl
abbrev Q8 (Z : State) (r0 : Addr) (v0 : Value) (v1 : Value) (v2 : Value) (dm : Int32) (h0 : Heap) (n0 : Nat) (v : Option Value) (h : Heap) (L : List Loc) : Prop := v = some (.int dm) ∧ Fr n0 L ∧ Keep h0 h [r0] ∧ Ob Z h r0 v0 v1 v2 (.int (-1 : Int32))
set_option maxRecDepth 65536 in
set_option maxHeartbeats 40000000 in
theorem rm8 (l : Launch) (Z : State) (a0 : Array Value) (hw : ∀ d ∈ tables_1, d.before a0 Z = true) (ws : List Jvm.Cond) (r0 : Addr) (v0 : Value) (v1 : Value) (v2 : Value) (dm : Int32) (h0 : Heap) (n0 : Nat) (Z0 : n0 ≤ h0.size) (O0 : Ob Z h0 r0 v0 v1 v2 (.int dm)) (g_r0 : n0 ≤ r0) :
    MetFree l (⟨"com/example/ballast/ballast/runtime/Outbox", "takeDeferredMove", "()I"⟩ : MethodName) (head1 (Jvm.Cond.code (⟨"com/example/ballast/ballast/runtime/Outbox", "takeDeferredMove", "()I"⟩ : MethodName) prog_120_method_11_code 2 (some .int) :: ws) ({ frames := 0, cells := 0, slots := 0, locals := 0 } : Room)) (fun a U => a = #[(.ref r0)] ∧ Z.Warmed39 U.vm ∧ U.heap = h0) (fun _ _ _ _ _ => True) (fun _ U o U' => ∃ v L, o = .returned v ∧ Q8 Z r0 v0 v1 v2 dm h0 n0 v U'.heap L ∧ FrameEnd U o U' L 0 0) := by
  refine MetFree.of_bodySF (plainFor_of_name pn_8) hisR ?_
  intro p ev s m args below meth c s₁ Bd hml0 hP hK
  obtain ⟨rfl, hZ, hh⟩ := hP
  have hx := Bd.exec
  have hby := Bd.bytes
  have hml : c.maxLocals = 2 := hml0
  have hown : s.vm.findClass "com/example/ballast/ballast/runtime/Outbox" = some m.cls := findClass_of_methodNamed Bd.named
  have hnm := (name_of_methodNamed Bd.named Bd.method).1
  have X0 : Stand p l ev ({ frames := 0, cells := 0, slots := 0, locals := 0 } : Room) s m #[(.ref r0)] below meth c s₁ [] 0 0 := Stand.of_body Bd
  have eh0 : s₁.heap = h0 := by rw [← hh, Bd.state]; rfl
  have N0 := Fr.nil n0
  have Zs := Z0
  show Gol p ev below (FrameEnd s) (Q8 Z r0 v0 v1 v2 dm h0 n0) 0 0 (s₁.setTop (entryFrame m #[(.ref r0)] 2))
  rw [ef_8]
  obtain ⟨E_r0, F_r0_lastSent, F_r0_awaitingFlush, F_r0_held, F_r0_deferredMove⟩ := O0
  have K := Keep.refl h0 [r0]
  show GolF _ _ _ _ _ _ _ s₁ m 0 #[.val (.ref r0), .unset] []
  refine Gol.aloadN X0 hx hby d8_0 (pc' := 1) rfl rfl rfl ?_
  refine Gol.getF X0 hx hby hZ hown (host := "") (Or.inl (hw _ (List.mem_of_getElem? (i := 12) rfl))) Via.refl eh0 F_r0_deferredMove d8_1 (pc' := 4) rfl ?_
  intro T1 X1 e1
  refine Gol.istoreN X1 hx hby d8_4 (pc' := 5) rfl (l' := #[.val (.ref r0), .val (.int dm)]) rfl ?_
  refine Gol.aloadN X1 hx hby d8_5 (pc' := 6) rfl rfl rfl ?_
  refine Gol.iconst X1 hx hby d8_6 (pc' := 7) rfl (z := (-1 : Int32)) rfl ?_
  refine Gol.putF X1 hx hby hZ hown (host := "") (Or.inl (hw _ (List.mem_of_getElem? (i := 12) rfl))) Via.refl e1 F_r0_deferredMove E_r0 (Or.inl (hw _ (List.mem_of_getElem? (i := 13) rfl))) (hw _ (List.mem_of_getElem? (i := 1) rfl)) (ty := .int) (by decide) rfl rfl d8_7 (pc' := 10) rfl ?_
  intro T2 h2 X2 e2 W2
  have E_r0 := E_r0.wr W2
  have F_r0_lastSent := F_r0_lastSent.other W2 (Or.inr (slot_ne (Or.inl (hw _ (List.mem_of_getElem? (i := 11) rfl))) (Or.inl (hw _ (List.mem_of_getElem? (i := 13) rfl))) (by decide) (t := .long) (t' := .int) (by decide) (by decide)))
  have F_r0_awaitingFlush := F_r0_awaitingFlush.other W2 (Or.inr (slot_ne (Or.inl (hw _ (List.mem_of_getElem? (i := 29) rfl))) (Or.inl (hw _ (List.mem_of_getElem? (i := 13) rfl))) (by decide) (t := .boolean) (t' := .int) (by decide) (by decide)))
  have F_r0_held := F_r0_held.other W2 (Or.inr (slot_ne (Or.inl (hw _ (List.mem_of_getElem? (i := 41) rfl))) (Or.inl (hw _ (List.mem_of_getElem? (i := 13) rfl))) (by decide) (t := (.object "java/util/List")) (t' := .int) (by decide) (by decide)))
  have F_r0_deferredMove := F_r0_deferredMove.same W2
  have K := K.wr W2 (Or.inl (List.mem_of_getElem? (i := 0) rfl))
  have Zs := Nat.le_trans Zs (Keep.of_wr W2).1
  have N2 := Fr.snoc X2 N0 g_r0
  refine Gol.iloadN X2 hx hby d8_10 (pc' := 11) rfl rfl ?_
  exact Gol.retI X2 hx hby Bd.returns Bd.notSynchronized d8_11 e2 ⟨rfl, N2, K, ⟨E_r0, F_r0_lastSent, F_r0_awaitingFlush, F_r0_held, F_r0_deferredMove⟩⟩ (by decide) (by decide)
theorem d4_0 : decode method_3_code 0 = .ok (.iload_n 2, 1) := by decide +kernel
theorem d4_1 : decode method_3_code 1 = .ok (.iconst 1, 1) := by decide +kernel
theorem d4_2 : decode method_3_code 2 = .ok (.iand, 1) := by decide +kernel
theorem d4_3 : decode method_3_code 3 = .ok (.ifCond .eq 7, 3) := by decide +kernel
theorem d4_6 : decode method_3_code 6 = .ok (.iconst 1, 1) := by decide +kernel
theorem d4_7 : decode method_3_code 7 = .ok (.goto 4, 3) := by decide +kernel
theorem d4_10 : decode method_3_code 10 = .ok (.iconst 0, 1) := by decide +kernel
theorem d4_11 : decode method_3_code 11 = .ok (.istore_n 3, 1) := by decide +kernel
theorem d4_12 : decode method_3_code 12 = .ok (.iload_n 2, 1) := by decide +kernel
theorem d4_13 : decode method_3_code 13 = .ok (.iconst 2, 1) := by decide +kernel
theorem d4_14 : decode method_3_code 14 = .ok (.iand, 1) := by decide +kernel
theorem d4_15 : decode method_3_code 15 = .ok (.istore 4, 2) := by decide +kernel
theorem d4_17 : decode method_3_code 17 = .ok (.iload_n 1, 1) := by decide +kernel
theorem d4_18 : decode method_3_code 18 = .ok (.ifCond .eq 10, 3) := by decide +kernel
theorem d4_21 : decode method_3_code 21 = .ok (.aload_n 0, 1) := by decide +kernel
theorem d4_22 : decode method_3_code 22 = .ok (.invokevirtual 32, 3) := by decide +kernel
theorem d4_25 : decode method_3_code 25 = .ok (.iload 4, 2) := by decide +kernel
theorem d4_27 : decode method_3_code 27 = .ok (.ireturn, 1) := by decide +kernel
theorem d4_28 : decode method_3_code 28 = .ok (.aload_n 0, 1) := by decide +kernel
theorem d4_29 : decode method_3_code 29 = .ok (.invokevirtual 35, 3) := by decide +kernel
theorem d4_32 : decode method_3_code 32 = .ok (.istore 5, 2) := by decide +kernel
theorem d4_34 : decode method_3_code 34 = .ok (.iload 5, 2) := by decide +kernel
theorem d4_36 : decode method_3_code 36 = .ok (.iload_n 3, 1) := by decide +kernel
theorem d4_37 : decode method_3_code 37 = .ok (.if_icmp .ne 6, 3) := by decide +kernel
theorem d4_43 : decode method_3_code 43 = .ok (.iload 4, 2) := by decide +kernel
theorem d4_45 : decode method_3_code 45 = .ok (.iconst 1, 1) := by decide +kernel
theorem d4_46 : decode method_3_code 46 = .ok (.ior, 1) := by decide +kernel
theorem d4_47 : decode method_3_code 47 = .ok (.ireturn, 1) := by decide +kernel
theorem pn_4 : plainName "com/example/ballast/ballast/runtime/OutboxAwaitFlushPinLaw" = true := by first | (simp [plainName, overriddenIn]; done) | decide +kernel
theorem ef_4 (m : MethodId) (r0 : Addr) (p1 : Int32) (p2 : Int32) : entryFrame m #[(.ref r0), (.int p1), (.int p2)] 6 = mkF m 0 #[.val (.ref r0), .val (.int p1), .val (.int p2), .unset, .unset, .unset] [] := by first | (simp [entryFrame, mkF, argsToLocals, Value.category]; done) | rfl
abbrev Q4 (Z : State) (r0 : Addr) (p1 : Int32) (p2 : Int32) (v0 : Value) (v2 : Value) (v3 : Value) (h0 : Heap) (n0 : Nat) (v : Option Value) (h : Heap) (L : List Loc) : Prop := ∃ z : Int32, v = some (.int z) ∧ (z = 0 ∨ z = 1) ∧ Fr n0 L ∧ Keep h0 h [r0] ∧ Ob Z h r0 v0 (.int z) v2 v3
set_option maxRecDepth 65536 in
set_option maxHeartbeats 40000000 in
theorem rm4 (l : Launch) (Z : State) (a0 : Array Value) (hw : ∀ d ∈ tables_1, d.before a0 Z = true) (ws : List Jvm.Cond) (r0 : Addr) (p1 : Int32) (p2 : Int32) (v0 : Value) (v2 : Value) (v3 : Value) (h0 : Heap) (n0 : Nat) (Z0 : n0 ≤ h0.size) (hs2 : p2 = 0 ∨ p2 = 1) (O0 : Ob Z h0 r0 v0 (.int p2) v2 v3) (g_r0 : n0 ≤ r0) :
    MetFree l (⟨"com/example/ballast/ballast/runtime/OutboxAwaitFlushPinLaw", "step", "(Lcom/example/ballast/ballast/runtime/Outbox;II)I"⟩ : MethodName) (head1 (Jvm.Cond.code (⟨"com/example/ballast/ballast/runtime/OutboxAwaitFlushPinLaw", "step", "(Lcom/example/ballast/ballast/runtime/Outbox;II)I"⟩ : MethodName) method_3_code 6 (some .int) :: ws) ({ frames := 1, cells := 0, slots := 0, locals := 12 } : Room)) (fun a U => a = #[(.ref r0), (.int p1), (.int p2)] ∧ Z.Warmed39 U.vm ∧ U.heap = h0) (fun _ _ _ _ _ => True) (fun _ U o U' => ∃ v L, o = .returned v ∧ Q4 Z r0 p1 p2 v0 v2 v3 h0 n0 v U'.heap L ∧ FrameEnd U o U' L 0 0) := by
  refine MetFree.of_bodySF (plainFor_of_name pn_4) hisR ?_
  intro p ev s m args below meth c s₁ Bd hml0 hP hK
  obtain ⟨rfl, hZ, hh⟩ := hP
  have hx := Bd.exec
  have hby := Bd.bytes
  have hml : c.maxLocals = 6 := hml0
  have hown : s.vm.findClass "com/example/ballast/ballast/runtime/OutboxAwaitFlushPinLaw" = some m.cls := findClass_of_methodNamed Bd.named
  have hnm := (name_of_methodNamed Bd.named Bd.method).1
  have X0 : Stand p l ev ({ frames := 1, cells := 0, slots := 0, locals := 12 } : Room) s m #[(.ref r0), (.int p1), (.int p2)] below meth c s₁ [] 0 0 := Stand.of_body Bd
  have eh0 : s₁.heap = h0 := by rw [← hh, Bd.state]; rfl
  have N0 := Fr.nil n0
  have Zs := Z0
  show Gol p ev below (FrameEnd s) (Q4 Z r0 p1 p2 v0 v2 v3 h0 n0) 0 0 (s₁.setTop (entryFrame m #[(.ref r0), (.int p1), (.int p2)] 6))
  rw [ef_4]
  obtain ⟨E_r0, F_r0_lastSent, F_r0_awaitingFlush, F_r0_held, F_r0_deferredMove⟩ := O0
  have K := Keep.refl h0 [r0]
  show GolF _ _ _ _ _ _ _ s₁ m 0 #[.val (.ref r0), .val (.int p1), .val (.int p2), .unset, .unset, .unset] []
  rcases hs2 with rfl | rfl
  · skip
    show GolF _ _ _ _ _ _ _ s₁ m 0 #[.val (.ref r0), .val (.int p1), .val (.int (0 : Int32)), .unset, .unset, .unset] []
    refine Gol.iloadN X0 hx hby d4_0 (pc' := 1) rfl rfl ?_
    refine Gol.iconst X0 hx hby d4_1 (pc' := 2) rfl (z := (1 : Int32)) rfl ?_
    refine Gol.iand X0 hx hby d4_2 (pc' := 3) rfl (z := (0 : Int32)) rfl ?_
    refine Gol.ifYes X0 hx hby d4_3 (pc' := 10) (by decide) ((if0 _ _).trans (teq (by decide : (0 : Int32) = (0 : Int32))).1) ?_
    refine Gol.iconst X0 hx hby d4_10 (pc' := 11) rfl (z := (0 : Int32)) rfl ?_
    refine Gol.istoreN X0 hx hby d4_11 (pc' := 12) rfl (l' := #[.val (.ref r0), .val (.int p1), .val (.int (0 : Int32)), .val (.int (0 : Int32)), .unset, .unset]) rfl ?_
    refine Gol.iloadN X0 hx hby d4_12 (pc' := 13) rfl rfl ?_
    refine Gol.iconst X0 hx hby d4_13 (pc' := 14) rfl (z := (2 : Int32)) rfl ?_
    refine Gol.iand X0 hx hby d4_14 (pc' := 15) rfl (z := (0 : Int32)) rfl ?_
    refine Gol.istore X0 hx hby d4_15 (pc' := 17) rfl (l' := #[.val (.ref r0), .val (.int p1), .val (.int (0 : Int32)), .val (.int (0 : Int32)), .val (.int (0 : Int32)), .unset]) rfl ?_
    refine Gol.iloadN X0 hx hby d4_17 (pc' := 18) rfl rfl ?_
    by_cases hc18_1 : p1 = (0 : Int32)
    · skip
      refine Gol.ifYes X0 hx hby d4_18 (pc' := 28) (by decide) ((if0 _ _).trans (teq hc18_1).1) ?_
      refine Gol.aloadN X0 hx hby d4_28 (pc' := 29) rfl rfl rfl ?_
      refine Gol.callV X0 hx hby hZ hown 0 [] (a := r0) (hw _ (List.mem_of_getElem? (i := 23) rfl)) (hw _ (List.mem_of_getElem? (i := 24) rfl)) (notFace_of_selects (args := #[]) (mvT hZ (hw _ (List.mem_of_getElem? (i := 26) rfl)))) (hw _ (List.mem_of_getElem? (i := 26) rfl)) (hw _ (List.mem_of_getElem? (i := 25) rfl)) (hw _ (List.mem_of_getElem? (i := 2) rfl)) (hw _ (List.mem_of_getElem? (i := 27) rfl)) (by decide) E_r0 (rm5a l Z a0 hw [] r0 v0 v2 v3 h0 n0 Zs ⟨E_r0, F_r0_lastSent, F_r0_awaitingFlush, F_r0_held, F_r0_deferredMove⟩ g_r0) (by decide) (by decide) eh0 (by rw [hml]; rfl) (rest := []) (Nat.le_of_eq rfl) (by decide) (by decide) (lenOf pd_0 rfl) rfl d4_29 (pc' := 32) rfl ?_
      intro T2 v2 L2 X2 hQ2
      obtain ⟨rfl, Nq2, Kq2, Oq2⟩ := hQ2
      have N2 := Fr.app N0 Nq2
      have E_r0 := E_r0.keep Kq2
      have K := K.trans Kq2 (allS (Or.inl (List.mem_of_getElem? (i := 0) rfl)) all0)
      have Zs := Nat.le_trans Zs Kq2.1
      show GolF _ _ _ _ _ _ _ T2 m 32 #[.val (.ref r0), .val (.int p1), .val (.int (0 : Int32)), .val (.int (0 : Int32)), .val (.int (0 : Int32)), .unset] [(.int (1 : Int32))]
      obtain ⟨E_r0, F_r0_lastSent, F_r0_awaitingFlush, F_r0_held, F_r0_deferredMove⟩ := Oq2
      refine Gol.istore X2 hx hby d4_32 (pc' := 34) rfl (l' := #[.val (.ref r0), .val (.int p1), .val (.int (0 : Int32)), .val (.int (0 : Int32)), .val (.int (0 : Int32)), .val (.int (1 : Int32))]) rfl ?_
      refine Gol.iload X2 hx hby d4_34 (pc' := 36) rfl rfl ?_
      refine Gol.iloadN X2 hx hby d4_36 (pc' := 37) rfl rfl ?_
      refine Gol.icmpYes X2 hx hby d4_37 (pc' := 43) (by decide) (feq (by decide : ¬ ((1 : Int32) = (0 : Int32)))).2 ?_
      refine Gol.iload X2 hx hby d4_43 (pc' := 45) rfl rfl ?_
      refine Gol.iconst X2 hx hby d4_45 (pc' := 46) rfl (z := (1 : Int32)) rfl ?_
      refine Gol.ior X2 hx hby d4_46 (pc' := 47) rfl (z := (1 : Int32)) rfl ?_
      exact Gol.retI X2 hx hby Bd.returns Bd.notSynchronized d4_47 rfl ⟨(1 : Int32), rfl, Or.inr rfl, N2, K, ⟨E_r0, F_r0_lastSent, F_r0_awaitingFlush, F_r0_held, F_r0_deferredMove⟩⟩ (by decide) (by decide)
    · skip
      refine Gol.ifNo X0 hx hby d4_18 (pc' := 21) rfl ((if0 _ _).trans (feq hc18_1).1) ?_
      refine Gol.aloadN X0 hx hby d4_21 (pc' := 22) rfl rfl rfl ?_
      refine Gol.callV X0 hx hby hZ hown 0 [] (a := r0) (hw _ (List.mem_of_getElem? (i := 47) rfl)) (hw _ (List.mem_of_getElem? (i := 48) rfl)) (notFace_of_selects (args := #[]) (mvT hZ (hw _ (List.mem_of_getElem? (i := 50) rfl)))) (hw _ (List.mem_of_getElem? (i := 50) rfl)) (hw _ (List.mem_of_getElem? (i := 49) rfl)) (hw _ (List.mem_of_getElem? (i := 2) rfl)) (hw _ (List.mem_of_getElem? (i := 51) rfl)) (by decide) E_r0 (rm9 l Z a0 hw [] r0 v0 (.int (0 : Int32)) v2 v3 h0 n0 Zs ⟨E_r0, F_r0_lastSent, F_r0_awaitingFlush, F_r0_held, F_r0_deferredMove⟩ g_r0) (by decide) (by decide) eh0 (by rw [hml]; rfl) (rest := []) (Nat.le_of_eq rfl) (by decide) (by decide) (lenOf pd_1 rfl) rfl d4_22 (pc' := 25) rfl ?_
      intro T3 v3 L3 X3 hQ3
      obtain ⟨rfl, Nq3, Kq3, Oq3⟩ := hQ3
      have N3 := Fr.app N0 Nq3
      have E_r0 := E_r0.keep Kq3
      have K := K.trans Kq3 (allS (Or.inl (List.mem_of_getElem? (i := 0) rfl)) all0)
      have Zs := Nat.le_trans Zs Kq3.1
      show GolF _ _ _ _ _ _ _ T3 m 25 #[.val (.ref r0), .val (.int p1), .val (.int (0 : Int32)), .val (.int (0 : Int32)), .val (.int (0 : Int32)), .unset] []
      obtain ⟨E_r0, F_r0_lastSent, F_r0_awaitingFlush, F_r0_held, F_r0_deferredMove⟩ := Oq3
      refine Gol.iload X3 hx hby d4_25 (pc' := 27) rfl rfl ?_
      exact Gol.retI X3 hx hby Bd.returns Bd.notSynchronized d4_27 rfl ⟨(0 : Int32), rfl, Or.inl rfl, N3, K, ⟨E_r0, F_r0_lastSent, F_r0_awaitingFlush, F_r0_held, F_r0_deferredMove⟩⟩ (by decide) (by decide)
  · skip
    show GolF _ _ _ _ _ _ _ s₁ m 0 #[.val (.ref r0), .val (.int p1), .val (.int (1 : Int32)), .unset, .unset, .unset] []
    refine Gol.iloadN X0 hx hby d4_0 (pc' := 1) rfl rfl ?_
    refine Gol.iconst X0 hx hby d4_1 (pc' := 2) rfl (z := (1 : Int32)) rfl ?_
    refine Gol.iand X0 hx hby d4_2 (pc' := 3) rfl (z := (1 : Int32)) rfl ?_
    refine Gol.ifNo X0 hx hby d4_3 (pc' := 6) rfl ((if0 _ _).trans (feq (by decide : ¬ ((1 : Int32) = (0 : Int32)))).1) ?_
    refine Gol.iconst X0 hx hby d4_6 (pc' := 7) rfl (z := (1 : Int32)) rfl ?_
    refine Gol.goto X0 hx hby d4_7 (pc' := 11) (by decide) ?_
    refine Gol.istoreN X0 hx hby d4_11 (pc' := 12) rfl (l' := #[.val (.ref r0), .val (.int p1), .val (.int (1 : Int32)), .val (.int (1 : Int32)), .unset, .unset]) rfl ?_
    refine Gol.iloadN X0 hx hby d4_12 (pc' := 13) rfl rfl ?_
    refine Gol.iconst X0 hx hby d4_13 (pc' := 14) rfl (z := (2 : Int32)) rfl ?_
    refine Gol.iand X0 hx hby d4_14 (pc' := 15) rfl (z := (0 : Int32)) rfl ?_
    refine Gol.istore X0 hx hby d4_15 (pc' := 17) rfl (l' := #[.val (.ref r0), .val (.int p1), .val (.int (1 : Int32)), .val (.int (1 : Int32)), .val (.int (0 : Int32)), .unset]) rfl ?_
    refine Gol.iloadN X0 hx hby d4_17 (pc' := 18) rfl rfl ?_
    by_cases hc18_4 : p1 = (0 : Int32)
    · skip
      refine Gol.ifYes X0 hx hby d4_18 (pc' := 28) (by decide) ((if0 _ _).trans (teq hc18_4).1) ?_
      refine Gol.aloadN X0 hx hby d4_28 (pc' := 29) rfl rfl rfl ?_
      refine Gol.callV X0 hx hby hZ hown 0 [] (a := r0) (hw _ (List.mem_of_getElem? (i := 23) rfl)) (hw _ (List.mem_of_getElem? (i := 24) rfl)) (notFace_of_selects (args := #[]) (mvT hZ (hw _ (List.mem_of_getElem? (i := 26) rfl)))) (hw _ (List.mem_of_getElem? (i := 26) rfl)) (hw _ (List.mem_of_getElem? (i := 25) rfl)) (hw _ (List.mem_of_getElem? (i := 2) rfl)) (hw _ (List.mem_of_getElem? (i := 27) rfl)) (by decide) E_r0 (rm5b l Z a0 hw [] r0 v0 v2 v3 h0 n0 Zs ⟨E_r0, F_r0_lastSent, F_r0_awaitingFlush, F_r0_held, F_r0_deferredMove⟩ g_r0) (by decide) (by decide) eh0 (by rw [hml]; rfl) (rest := []) (Nat.le_of_eq rfl) (by decide) (by decide) (lenOf pd_0 rfl) rfl d4_29 (pc' := 32) rfl ?_
      intro T5 v5 L5 X5 hQ5
      obtain ⟨rfl, Nq5, eq5⟩ := hQ5
      have N5 := Fr.app N0 Nq5
      show GolF _ _ _ _ _ _ _ T5 m 32 #[.val (.ref r0), .val (.int p1), .val (.int (1 : Int32)), .val (.int (1 : Int32)), .val (.int (0 : Int32)), .unset] [(.int (0 : Int32))]
      refine Gol.istore X5 hx hby d4_32 (pc' := 34) rfl (l' := #[.val (.ref r0), .val (.int p1), .val (.int (1 : Int32)), .val (.int (1 : Int32)), .val (.int (0 : Int32)), .val (.int (0 : Int32))]) rfl ?_
      refine Gol.iload X5 hx hby d4_34 (pc' := 36) rfl rfl ?_
      refine Gol.iloadN X5 hx hby d4_36 (pc' := 37) rfl rfl ?_
      refine Gol.icmpYes X5 hx hby d4_37 (pc' := 43) (by decide) (feq (by decide : ¬ ((0 : Int32) = (1 : Int32)))).2 ?_
      refine Gol.iload X5 hx hby d4_43 (pc' := 45) rfl rfl ?_
      refine Gol.iconst X5 hx hby d4_45 (pc' := 46) rfl (z := (1 : Int32)) rfl ?_
      refine Gol.ior X5 hx hby d4_46 (pc' := 47) rfl (z := (1 : Int32)) rfl ?_
      exact Gol.retI X5 hx hby Bd.returns Bd.notSynchronized d4_47 eq5 ⟨(1 : Int32), rfl, Or.inr rfl, N5, K, ⟨E_r0, F_r0_lastSent, F_r0_awaitingFlush, F_r0_held, F_r0_deferredMove⟩⟩ (by decide) (by decide)
    · skip
      refine Gol.ifNo X0 hx hby d4_18 (pc' := 21) rfl ((if0 _ _).trans (feq hc18_4).1) ?_
      refine Gol.aloadN X0 hx hby d4_21 (pc' := 22) rfl rfl rfl ?_
      refine Gol.callV X0 hx hby hZ hown 0 [] (a := r0) (hw _ (List.mem_of_getElem? (i := 47) rfl)) (hw _ (List.mem_of_getElem? (i := 48) rfl)) (notFace_of_selects (args := #[]) (mvT hZ (hw _ (List.mem_of_getElem? (i := 50) rfl)))) (hw _ (List.mem_of_getElem? (i := 50) rfl)) (hw _ (List.mem_of_getElem? (i := 49) rfl)) (hw _ (List.mem_of_getElem? (i := 2) rfl)) (hw _ (List.mem_of_getElem? (i := 51) rfl)) (by decide) E_r0 (rm9 l Z a0 hw [] r0 v0 (.int (1 : Int32)) v2 v3 h0 n0 Zs ⟨E_r0, F_r0_lastSent, F_r0_awaitingFlush, F_r0_held, F_r0_deferredMove⟩ g_r0) (by decide) (by decide) eh0 (by rw [hml]; rfl) (rest := []) (Nat.le_of_eq rfl) (by decide) (by decide) (lenOf pd_1 rfl) rfl d4_22 (pc' := 25) rfl ?_
      intro T6 v6 L6 X6 hQ6
      obtain ⟨rfl, Nq6, Kq6, Oq6⟩ := hQ6
      have N6 := Fr.app N0 Nq6
      have E_r0 := E_r0.keep Kq6
      have K := K.trans Kq6 (allS (Or.inl (List.mem_of_getElem? (i := 0) rfl)) all0)
      have Zs := Nat.le_trans Zs Kq6.1
      show GolF _ _ _ _ _ _ _ T6 m 25 #[.val (.ref r0), .val (.int p1), .val (.int (1 : Int32)), .val (.int (1 : Int32)), .val (.int (0 : Int32)), .unset] []
      obtain ⟨E_r0, F_r0_lastSent, F_r0_awaitingFlush, F_r0_held, F_r0_deferredMove⟩ := Oq6
      refine Gol.iload X6 hx hby d4_25 (pc' := 27) rfl rfl ?_
      exact Gol.retI X6 hx hby Bd.returns Bd.notSynchronized d4_27 rfl ⟨(0 : Int32), rfl, Or.inl rfl, N6, K, ⟨E_r0, F_r0_lastSent, F_r0_awaitingFlush, F_r0_held, F_r0_deferredMove⟩⟩ (by decide) (by decide)
theorem own_and2 {z : Int32} (h : z = 0 ∨ z = 1) : (z &&& (2 : Int32)) = (0 : Int32) := by rcases h with rfl | rfl <;> decide
theorem pn_0 : plainName "com/example/ballast/ballast/runtime/OutboxAwaitFlushPinLaw" = true := by first | (simp [plainName, overriddenIn]; done) | decide +kernel
theorem ef_0 (m : MethodId) (p0 : Int32) (q1 : Int64) : entryFrame m #[(.int p0), (.long q1)] maxLocals = mkF m 0 #[.val (.int p0), .val (.long q1), .second, .unset, .unset] [] := by first | (simp [entryFrame, mkF, argsToLocals, Value.category, maxLocals]; done) | rfl
abbrev Q0 (Z : State) (p0 : Int32) (q1 : Int64) (h0 : Heap) (n0 : Nat) (v : Option Value) (h : Heap) (L : List Loc) : Prop := v = some (.int 1) ∧ Fr n0 L
set_option maxRecDepth 65536 in
set_option maxHeartbeats 40000000 in
theorem rm0 (l : Launch) (Z : State) (a0 : Array Value) (hw : ∀ d ∈ tables_1, d.before a0 Z = true) (ws : List Jvm.Cond) (p0 : Int32) (q1 : Int64) (h0 : Heap) (n0 : Nat) (Z0 : n0 ≤ h0.size) :
    MetFree l x (head1 (Jvm.Cond.code x code maxLocals ret :: ws) room_1) (fun a U => a = #[(.int p0), (.long q1)] ∧ Z.Warmed39 U.vm ∧ U.heap = h0) (fun _ _ _ _ _ => True) (fun _ U o U' => ∃ v L, o = .returned v ∧ Q0 Z p0 q1 h0 n0 v U'.heap L ∧ FrameEnd U o U' L 1 4) := by
  refine MetFree.of_bodySF (plainFor_of_name pn_0) hisR ?_
  intro p ev s m args below meth c s₁ Bd hml0 hP hK
  obtain ⟨rfl, hZ, hh⟩ := hP
  have hx := Bd.exec
  have hby := Bd.bytes
  have hml : c.maxLocals = 5 := hml0
  have hown : s.vm.findClass "com/example/ballast/ballast/runtime/OutboxAwaitFlushPinLaw" = some m.cls := findClass_of_methodNamed Bd.named
  have hnm := (name_of_methodNamed Bd.named Bd.method).1
  have X0 : Stand p l ev room_1 s m #[(.int p0), (.long q1)] below meth c s₁ [] 0 0 := Stand.of_body Bd
  have eh0 : s₁.heap = h0 := by rw [← hh, Bd.state]; rfl
  have N0 := Fr.nil n0
  have Zs := Z0
  show Gol p ev below (FrameEnd s) (Q0 Z p0 q1 h0 n0) 1 4 (s₁.setTop (entryFrame m #[(.int p0), (.long q1)] maxLocals))
  rw [ef_0]
  show GolF _ _ _ _ _ _ _ s₁ m 0 #[.val (.int p0), .val (.long q1), .second, .unset, .unset] []
  refine Gol.newO X0 hx hby hZ hown (hw _ (List.mem_of_getElem? (i := 0) rfl)) (hw _ (List.mem_of_getElem? (i := 1) rfl)) (hw _ (List.mem_of_getElem? (i := 2) rfl)) eh0 at_0 (pc' := 3) rfl (by decide) (by decide) ?_
  intro T1 h1 b1 g1 X1 e1 E1 A1 D1
  have g_b1 : n0 ≤ b1 := Nat.le_trans Zs (Nat.le_of_eq g1.symm)
  have Zs := Nat.le_trans Zs E1.1
  have E_b1 := A1
  have F_b1_lastSent : Fld Z h1 b1 "com/example/ballast/ballast/runtime/Outbox" "lastSent" "J" (.long (0 : Int64)) := D1 (Or.inl (hw _ (List.mem_of_getElem? (i := 11) rfl))) (ty := .long) (by decide)
  have F_b1_deferredMove : Fld Z h1 b1 "com/example/ballast/ballast/runtime/Outbox" "deferredMove" "I" (.int (0 : Int32)) := D1 (Or.inl (hw _ (List.mem_of_getElem? (i := 13) rfl))) (ty := .int) (by decide)
  have F_b1_awaitingFlush : Fld Z h1 b1 "com/example/ballast/ballast/runtime/Outbox" "awaitingFlush" "Z" (.int (0 : Int32)) := D1 (Or.inl (hw _ (List.mem_of_getElem? (i := 29) rfl))) (ty := .boolean) (by decide)
  have F_b1_held : Fld Z h1 b1 "com/example/ballast/ballast/runtime/Outbox" "held" "Ljava/util/List;" .null := D1 (Or.inl (hw _ (List.mem_of_getElem? (i := 41) rfl))) (ty := (.object "java/util/List")) (by decide)
  refine Gol.dup X1 hx hby at_3 (pc' := 4) rfl rfl ?_
  refine Gol.callI X1 hx hby hZ hown 1 [] (a := b1) (hw _ (List.mem_of_getElem? (i := 3) rfl)) (hw _ (List.mem_of_getElem? (i := 4) rfl)) (hw _ (List.mem_of_getElem? (i := 2) rfl)) rfl (hw _ (List.mem_of_getElem? (i := 5) rfl)) rfl (by decide) (rm1 l Z a0 hw [] b1  h1 n0 Zs ⟨E_b1, F_b1_lastSent, F_b1_awaitingFlush, F_b1_held, F_b1_deferredMove⟩ g_b1) (by decide) (by decide) e1 (by rw [hml]; rfl) (rest := [(.ref b1)]) (Nat.le_of_eq rfl) (by decide) (by decide) (lenOf pd_1 rfl) rfl at_4 (pc' := 7) rfl ?_
  intro T2 v2 L2 X2 hQ2
  obtain ⟨rfl, Nq2, Kq2, Oq2⟩ := hQ2
  have N2 := Fr.app N0 Nq2
  have E_b1 := E_b1.keep Kq2
  have Zs := Nat.le_trans Zs Kq2.1
  show GolF _ _ _ _ _ _ _ T2 m 7 #[.val (.int p0), .val (.long q1), .second, .unset, .unset] [(.ref b1)]
  obtain ⟨E_b1, F_b1_lastSent, F_b1_awaitingFlush, F_b1_held, F_b1_deferredMove⟩ := Oq2
  refine Gol.astoreN X2 hx hby at_7 (pc' := 8) rfl rfl (l' := #[.val (.int p0), .val (.long q1), .second, .val (.ref b1), .unset]) rfl ?_
  refine Gol.aloadN X2 hx hby at_8 (pc' := 9) rfl rfl rfl ?_
  refine Gol.lloadN X2 hx hby at_9 (pc' := 10) rfl rfl ?_
  refine Gol.callV X2 hx hby hZ hown 0 [(.long q1)] (a := b1) (hw _ (List.mem_of_getElem? (i := 14) rfl)) (hw _ (List.mem_of_getElem? (i := 15) rfl)) (notFace_of_selects (args := #[]) (mvT hZ (hw _ (List.mem_of_getElem? (i := 17) rfl)))) (hw _ (List.mem_of_getElem? (i := 17) rfl)) (hw _ (List.mem_of_getElem? (i := 16) rfl)) (hw _ (List.mem_of_getElem? (i := 2) rfl)) (hw _ (List.mem_of_getElem? (i := 18) rfl)) (by decide) E_b1 (rm3 l Z a0 hw [] b1 q1 (.long (-1 : Int64)) (.int (0 : Int32)) .null (.int (-1 : Int32)) T2.heap n0 Zs ⟨E_b1, F_b1_lastSent, F_b1_awaitingFlush, F_b1_held, F_b1_deferredMove⟩ g_b1) (by decide) (by decide) rfl (by rw [hml]; rfl) (rest := []) (Nat.le_of_eq rfl) (by decide) (by decide) (lenOf pd_2 rfl) rfl at_10 (pc' := 13) rfl ?_
  intro T3 v3 L3 X3 hQ3
  obtain ⟨rfl, Nq3, Kq3, Oq3⟩ := hQ3
  have N3 := Fr.app N2 Nq3
  have E_b1 := E_b1.keep Kq3
  have Zs := Nat.le_trans Zs Kq3.1
  show GolF _ _ _ _ _ _ _ T3 m 13 #[.val (.int p0), .val (.long q1), .second, .val (.ref b1), .unset] []
  obtain ⟨E_b1, F_b1_lastSent, F_b1_awaitingFlush, F_b1_held, F_b1_deferredMove⟩ := Oq3
  refine Gol.iconst X3 hx hby at_13 (pc' := 14) rfl (z := (0 : Int32)) rfl ?_
  refine Gol.istore X3 hx hby at_14 (pc' := 16) rfl (l' := #[.val (.int p0), .val (.long q1), .second, .val (.ref b1), .val (.int (0 : Int32))]) rfl ?_
  refine Gol.aloadN X3 hx hby at_16 (pc' := 17) rfl rfl rfl ?_
  refine Gol.iloadN X3 hx hby at_17 (pc' := 18) rfl rfl ?_
  refine Gol.iconst X3 hx hby at_18 (pc' := 19) rfl (z := (1 : Int32)) rfl ?_
  refine Gol.iand X3 hx hby at_19 (pc' := 20) rfl rfl ?_
  refine Gol.iload X3 hx hby at_20 (pc' := 22) rfl rfl ?_
  refine Gol.callS X3 hx hby hZ hown 0 [(.ref b1), (.int (p0 &&& (1 : Int32))), (.int (0 : Int32))] (hw _ (List.mem_of_getElem? (i := 19) rfl)) (hw _ (List.mem_of_getElem? (i := 20) rfl)) (hw _ (List.mem_of_getElem? (i := 21) rfl)) (hw _ (List.mem_of_getElem? (i := 22) rfl)) (by decide) (rm4 l Z a0 hw [] b1 (p0 &&& (1 : Int32)) (0 : Int32) (.long q1) .null (.int (-1 : Int32)) T3.heap n0 Zs (Or.inl rfl) ⟨E_b1, F_b1_lastSent, F_b1_awaitingFlush, F_b1_held, F_b1_deferredMove⟩ g_b1) (by decide) (by decide) rfl (by rw [hml]; rfl) (rest := []) (Nat.le_of_eq rfl) (by decide) (by decide) (lenOf pd_3 rfl) rfl at_22 (pc' := 25) rfl ?_
  intro T4 v4 L4 X4 hQ4
  obtain ⟨z4, rfl, hz4, Nq4, Kq4, Oq4⟩ := hQ4
  have N4 := Fr.app N3 Nq4
  have E_b1 := E_b1.keep Kq4
  have Zs := Nat.le_trans Zs Kq4.1
  show GolF _ _ _ _ _ _ _ T4 m 25 #[.val (.int p0), .val (.long q1), .second, .val (.ref b1), .val (.int (0 : Int32))] [(.int z4)]
  obtain ⟨E_b1, F_b1_lastSent, F_b1_awaitingFlush, F_b1_held, F_b1_deferredMove⟩ := Oq4
  refine Gol.istore X4 hx hby at_25 (pc' := 27) rfl (l' := #[.val (.int p0), .val (.long q1), .second, .val (.ref b1), .val (.int z4)]) rfl ?_
  refine Gol.aloadN X4 hx hby at_27 (pc' := 28) rfl rfl rfl ?_
  refine Gol.iloadN X4 hx hby at_28 (pc' := 29) rfl rfl ?_
  refine Gol.iconst X4 hx hby at_29 (pc' := 30) rfl (z := (1 : Int32)) rfl ?_
  refine Gol.iushr X4 hx hby at_30 (pc' := 31) rfl rfl ?_
  refine Gol.iconst X4 hx hby at_31 (pc' := 32) rfl (z := (1 : Int32)) rfl ?_
  refine Gol.iand X4 hx hby at_32 (pc' := 33) rfl rfl ?_
  refine Gol.iload X4 hx hby at_33 (pc' := 35) rfl rfl ?_
  refine Gol.callS X4 hx hby hZ hown 0 [(.ref b1), (.int ((XT.ushr p0 (1 : Int32)) &&& (1 : Int32))), (.int z4)] (hw _ (List.mem_of_getElem? (i := 19) rfl)) (hw _ (List.mem_of_getElem? (i := 20) rfl)) (hw _ (List.mem_of_getElem? (i := 21) rfl)) (hw _ (List.mem_of_getElem? (i := 22) rfl)) (by decide) (rm4 l Z a0 hw [] b1 ((XT.ushr p0 (1 : Int32)) &&& (1 : Int32)) z4 (.long q1) .null (.int (-1 : Int32)) T4.heap n0 Zs hz4 ⟨E_b1, F_b1_lastSent, F_b1_awaitingFlush, F_b1_held, F_b1_deferredMove⟩ g_b1) (by decide) (by decide) rfl (by rw [hml]; rfl) (rest := []) (Nat.le_of_eq rfl) (by decide) (by decide) (lenOf pd_3 rfl) rfl at_35 (pc' := 38) rfl ?_
  intro T5 v5 L5 X5 hQ5
  obtain ⟨z5, rfl, hz5, Nq5, Kq5, Oq5⟩ := hQ5
  have N5 := Fr.app N4 Nq5
  have E_b1 := E_b1.keep Kq5
  have Zs := Nat.le_trans Zs Kq5.1
  show GolF _ _ _ _ _ _ _ T5 m 38 #[.val (.int p0), .val (.long q1), .second, .val (.ref b1), .val (.int z4)] [(.int z5)]
  obtain ⟨E_b1, F_b1_lastSent, F_b1_awaitingFlush, F_b1_held, F_b1_deferredMove⟩ := Oq5
  refine Gol.istore X5 hx hby at_38 (pc' := 40) rfl (l' := #[.val (.int p0), .val (.long q1), .second, .val (.ref b1), .val (.int z5)]) rfl ?_
  refine Gol.aloadN X5 hx hby at_40 (pc' := 41) rfl rfl rfl ?_
  refine Gol.iloadN X5 hx hby at_41 (pc' := 42) rfl rfl ?_
  refine Gol.iconst X5 hx hby at_42 (pc' := 43) rfl (z := (2 : Int32)) rfl ?_
  refine Gol.iushr X5 hx hby at_43 (pc' := 44) rfl rfl ?_
  refine Gol.iconst X5 hx hby at_44 (pc' := 45) rfl (z := (1 : Int32)) rfl ?_
  refine Gol.iand X5 hx hby at_45 (pc' := 46) rfl rfl ?_
  refine Gol.iload X5 hx hby at_46 (pc' := 48) rfl rfl ?_
  refine Gol.callS X5 hx hby hZ hown 0 [(.ref b1), (.int ((XT.ushr p0 (2 : Int32)) &&& (1 : Int32))), (.int z5)] (hw _ (List.mem_of_getElem? (i := 19) rfl)) (hw _ (List.mem_of_getElem? (i := 20) rfl)) (hw _ (List.mem_of_getElem? (i := 21) rfl)) (hw _ (List.mem_of_getElem? (i := 22) rfl)) (by decide) (rm4 l Z a0 hw [] b1 ((XT.ushr p0 (2 : Int32)) &&& (1 : Int32)) z5 (.long q1) .null (.int (-1 : Int32)) T5.heap n0 Zs hz5 ⟨E_b1, F_b1_lastSent, F_b1_awaitingFlush, F_b1_held, F_b1_deferredMove⟩ g_b1) (by decide) (by decide) rfl (by rw [hml]; rfl) (rest := []) (Nat.le_of_eq rfl) (by decide) (by decide) (lenOf pd_3 rfl) rfl at_48 (pc' := 51) rfl ?_
  intro T6 v6 L6 X6 hQ6
  obtain ⟨z6, rfl, hz6, Nq6, Kq6, Oq6⟩ := hQ6
  have N6 := Fr.app N5 Nq6
  have E_b1 := E_b1.keep Kq6
  have Zs := Nat.le_trans Zs Kq6.1
  show GolF _ _ _ _ _ _ _ T6 m 51 #[.val (.int p0), .val (.long q1), .second, .val (.ref b1), .val (.int z5)] [(.int z6)]
  obtain ⟨E_b1, F_b1_lastSent, F_b1_awaitingFlush, F_b1_held, F_b1_deferredMove⟩ := Oq6
  refine Gol.istore X6 hx hby at_51 (pc' := 53) rfl (l' := #[.val (.int p0), .val (.long q1), .second, .val (.ref b1), .val (.int z6)]) rfl ?_
  refine Gol.aloadN X6 hx hby at_53 (pc' := 54) rfl rfl rfl ?_
  refine Gol.iloadN X6 hx hby at_54 (pc' := 55) rfl rfl ?_
  refine Gol.iconst X6 hx hby at_55 (pc' := 56) rfl (z := (3 : Int32)) rfl ?_
  refine Gol.iushr X6 hx hby at_56 (pc' := 57) rfl rfl ?_
  refine Gol.iconst X6 hx hby at_57 (pc' := 58) rfl (z := (1 : Int32)) rfl ?_
  refine Gol.iand X6 hx hby at_58 (pc' := 59) rfl rfl ?_
  refine Gol.iload X6 hx hby at_59 (pc' := 61) rfl rfl ?_
  refine Gol.callS X6 hx hby hZ hown 0 [(.ref b1), (.int ((XT.ushr p0 (3 : Int32)) &&& (1 : Int32))), (.int z6)] (hw _ (List.mem_of_getElem? (i := 19) rfl)) (hw _ (List.mem_of_getElem? (i := 20) rfl)) (hw _ (List.mem_of_getElem? (i := 21) rfl)) (hw _ (List.mem_of_getElem? (i := 22) rfl)) (by decide) (rm4 l Z a0 hw [] b1 ((XT.ushr p0 (3 : Int32)) &&& (1 : Int32)) z6 (.long q1) .null (.int (-1 : Int32)) T6.heap n0 Zs hz6 ⟨E_b1, F_b1_lastSent, F_b1_awaitingFlush, F_b1_held, F_b1_deferredMove⟩ g_b1) (by decide) (by decide) rfl (by rw [hml]; rfl) (rest := []) (Nat.le_of_eq rfl) (by decide) (by decide) (lenOf pd_3 rfl) rfl at_61 (pc' := 64) rfl ?_
  intro T7 v7 L7 X7 hQ7
  obtain ⟨z7, rfl, hz7, Nq7, Kq7, Oq7⟩ := hQ7
  have N7 := Fr.app N6 Nq7
  have E_b1 := E_b1.keep Kq7
  have Zs := Nat.le_trans Zs Kq7.1
  show GolF _ _ _ _ _ _ _ T7 m 64 #[.val (.int p0), .val (.long q1), .second, .val (.ref b1), .val (.int z6)] [(.int z7)]
  obtain ⟨E_b1, F_b1_lastSent, F_b1_awaitingFlush, F_b1_held, F_b1_deferredMove⟩ := Oq7
  refine Gol.istore X7 hx hby at_64 (pc' := 66) rfl (l' := #[.val (.int p0), .val (.long q1), .second, .val (.ref b1), .val (.int z7)]) rfl ?_
  refine Gol.iload X7 hx hby at_66 (pc' := 68) rfl rfl ?_
  refine Gol.iconst X7 hx hby at_68 (pc' := 69) rfl (z := (2 : Int32)) rfl ?_
  refine Gol.iand X7 hx hby at_69 (pc' := 70) rfl rfl ?_
  refine Gol.ifNo X7 hx hby at_70 (pc' := 73) rfl ((if0 _ _).trans (teq (own_and2 hz7)).2) ?_
  refine Gol.aloadN X7 hx hby at_73 (pc' := 74) rfl rfl rfl ?_
  refine Gol.callV X7 hx hby hZ hown 0 [] (a := b1) (hw _ (List.mem_of_getElem? (i := 30) rfl)) (hw _ (List.mem_of_getElem? (i := 31) rfl)) (notFace_of_selects (args := #[]) (mvT hZ (hw _ (List.mem_of_getElem? (i := 33) rfl)))) (hw _ (List.mem_of_getElem? (i := 33) rfl)) (hw _ (List.mem_of_getElem? (i := 32) rfl)) (hw _ (List.mem_of_getElem? (i := 2) rfl)) (hw _ (List.mem_of_getElem? (i := 34) rfl)) (by decide) E_b1 (rm6 l Z a0 hw [] b1 q1 (.int z7) .null (.int (-1 : Int32)) T7.heap n0 Zs ⟨E_b1, F_b1_lastSent, F_b1_awaitingFlush, F_b1_held, F_b1_deferredMove⟩ g_b1) (by decide) (by decide) rfl (by rw [hml]; rfl) (rest := []) (Nat.le_of_eq rfl) (by decide) (by decide) (lenOf pd_4 rfl) rfl at_74 (pc' := 77) rfl ?_
  intro T8 v8 L8 X8 hQ8
  obtain ⟨rfl, Nq8, eq8⟩ := hQ8
  have N8 := Fr.app N7 Nq8
  show GolF _ _ _ _ _ _ _ T8 m 77 #[.val (.int p0), .val (.long q1), .second, .val (.ref b1), .val (.int z7)] [(.long q1)]
  refine Gol.lloadN X8 hx hby at_77 (pc' := 78) rfl rfl ?_
  refine Gol.lcmp X8 hx hby at_78 (pc' := 79) rfl ?_
  refine Gol.ifNo X8 hx hby at_79 (pc' := 82) rfl (teqL (rfl : q1 = q1)).2 ?_
  refine Gol.aloadN X8 hx hby at_82 (pc' := 83) rfl rfl rfl ?_
  refine Gol.callV X8 hx hby hZ hown 0 [] (a := b1) (hw _ (List.mem_of_getElem? (i := 35) rfl)) (hw _ (List.mem_of_getElem? (i := 36) rfl)) (notFace_of_selects (args := #[]) (mvT hZ (hw _ (List.mem_of_getElem? (i := 38) rfl)))) (hw _ (List.mem_of_getElem? (i := 38) rfl)) (hw _ (List.mem_of_getElem? (i := 37) rfl)) (hw _ (List.mem_of_getElem? (i := 2) rfl)) (hw _ (List.mem_of_getElem? (i := 39) rfl)) (by decide) E_b1 (rm7 l Z a0 hw [] b1 (.long q1) (.int z7) (.int (-1 : Int32)) T7.heap n0 Zs ⟨E_b1, F_b1_lastSent, F_b1_awaitingFlush, F_b1_held, F_b1_deferredMove⟩ g_b1) (by decide) (by decide) eq8 (by rw [hml]; rfl) (rest := []) (Nat.le_of_eq rfl) (by decide) (by decide) (lenOf pd_0 rfl) rfl at_83 (pc' := 86) rfl ?_
  intro T9 v9 L9 X9 hQ9
  obtain ⟨rfl, Nq9, eq9⟩ := hQ9
  have N9 := Fr.app N8 Nq9
  show GolF _ _ _ _ _ _ _ T9 m 86 #[.val (.int p0), .val (.long q1), .second, .val (.ref b1), .val (.int z7)] [(.int (0 : Int32))]
  refine Gol.ifNo X9 hx hby at_86 (pc' := 89) rfl ((if0 _ _).trans (teq (by decide : (0 : Int32) = (0 : Int32))).2) ?_
  refine Gol.aloadN X9 hx hby at_89 (pc' := 90) rfl rfl rfl ?_
  refine Gol.callV X9 hx hby hZ hown 0 [] (a := b1) (hw _ (List.mem_of_getElem? (i := 42) rfl)) (hw _ (List.mem_of_getElem? (i := 43) rfl)) (notFace_of_selects (args := #[]) (mvT hZ (hw _ (List.mem_of_getElem? (i := 45) rfl)))) (hw _ (List.mem_of_getElem? (i := 45) rfl)) (hw _ (List.mem_of_getElem? (i := 44) rfl)) (hw _ (List.mem_of_getElem? (i := 2) rfl)) (hw _ (List.mem_of_getElem? (i := 46) rfl)) (by decide) E_b1 (rm8 l Z a0 hw [] b1 (.long q1) (.int z7) .null (-1 : Int32) T7.heap n0 Zs ⟨E_b1, F_b1_lastSent, F_b1_awaitingFlush, F_b1_held, F_b1_deferredMove⟩ g_b1) (by decide) (by decide) eq9 (by rw [hml]; rfl) (rest := []) (Nat.le_of_eq rfl) (by decide) (by decide) (lenOf pd_5 rfl) rfl at_90 (pc' := 93) rfl ?_
  intro T10 v10 L10 X10 hQ10
  obtain ⟨rfl, Nq10, Kq10, Oq10⟩ := hQ10
  have N10 := Fr.app N9 Nq10
  have E_b1 := E_b1.keep Kq10
  have Zs := Nat.le_trans Zs Kq10.1
  show GolF _ _ _ _ _ _ _ T10 m 93 #[.val (.int p0), .val (.long q1), .second, .val (.ref b1), .val (.int z7)] [(.int (-1 : Int32))]
  obtain ⟨E_b1, F_b1_lastSent, F_b1_awaitingFlush, F_b1_held, F_b1_deferredMove⟩ := Oq10
  refine Gol.iconst X10 hx hby at_93 (pc' := 94) rfl (z := (-1 : Int32)) rfl ?_
  refine Gol.icmpNo X10 hx hby at_94 (pc' := 97) rfl (teq (by decide : (-1 : Int32) = (-1 : Int32))).2 ?_
  refine Gol.iconst X10 hx hby at_97 (pc' := 98) rfl (z := (1 : Int32)) rfl ?_
  refine Gol.goto X10 hx hby at_98 (pc' := 102) (by decide) ?_
  exact Gol.retN X10 hx hby (t := .boolean) Bd.returns (by simp) Bd.notSynchronized at_102 rfl ⟨rfl, N10⟩ (by decide) (by decide)
set_option maxRecDepth 65536 in
set_option maxHeartbeats 40000000 in
theorem comes_1 {Post : Tables → Env → Array Value → State → Outcome → State → Prop} (hpost : ∀ tb e args s v u, (limb_1_1.after args s (.returned v) u = true ∧ limb_1_2.after args s (.returned v) u = true ∧ True) → FrameEnd s (.returned v) u (Jvm.fieldLocs frame_1_writes args s ++ Jvm.arrayLocs frame_1_arrays args s ++ Jvm.staticLocs frame_1_statics s) 16 128 → Post tb e args s (.returned v) u) :
    ArmFor flags0 classFile x code maxLocals ret World_1 tables_1 room_1 Calls_1 rest_1 Pre_1 Post := by
  intro l hfl _ _ p e ha hc hk s m args below hf hA hF happ hP
  obtain ⟨hcalls, hrest, hpre⟩ := hP
  obtain ⟨-, -, -, hnamed, -, -, -, hat⟩ := (Spec.applies_iff hf).mp happ
  obtain ⟨hg, hn⟩ := and_e (Cond.before_iff.mp (show (Jvm.Cond.and given_1 narrow_1).before args s = true from hpre))
  obtain ⟨gc, gr0⟩ := and_e hg
  obtain ⟨gk0, gr1⟩ := and_e gr0
  obtain ⟨w0, w1, rfl⟩ : ∃ w0 w1 : Value, args = #[w0, w1] := by
    have hs : args.size = 2 := by simpa [Cond.value, given_1] using gc
    obtain ⟨L⟩ := args
    match L, hs with
    | [w0, w1], _ => exact ⟨w0, w1, rfl⟩
  have hw := fun d (hd : d ∈ tables_1) => atoms_spec (ws := Jvm.Cond.code x code maxLocals ret :: tables_1) hat d (List.mem_cons_of_mem _ hd)
  have hfit : Fit s := fun {y c} hc i hi => by
    obtain ⟨ha, rfl⟩ := Array.getElem?_eq_some_iff.mp hc
    have q := List.all_eq_true.mp ((Array.all_eq_true_iff_forall_mem.mp hF) _ (Array.getElem_mem ha)) i (List.mem_range.mpr hi)
    simpa [Array.getElem?_eq_getElem hi] using q
  obtain ⟨i0, ei0⟩ := is_v gk0
  obtain rfl : w0 = (.int i0) := Option.some.inj ei0
  obtain ⟨i1, ei1⟩ := isL_v gr1
  obtain rfl : w1 = (.long i1) := Option.some.inj ei1
  obtain ⟨n, o, h1, h2, h3, _, L, rfl, ⟨rfl, N⟩, hq⟩ := rm0 l s _ hw tables_1 i0 i1  s.heap s.heap.size (Nat.le_refl _)  p e ha hc hk s m _ below hf ((Spec.applies_iff_loose hf).mp happ).1 ⟨rfl, State.Warmed39.refl s, rfl⟩ trivial
  refine ⟨n, _, h1, h2, h3, hpost _ _ _ _ _ _ ⟨Cond.after_iff.mpr rfl, Cond.after_iff.mpr (eq_i res_at (Term.int_eval (1)) rfl), trivial⟩ ⟨hq.1, hq.2.1, (hq.2.2.sift fun y hy => Or.inr (N y hy)).mono (by decide) (by decide)⟩⟩
theorem main_1_1 : Claimed_1_1 := comes_1 fun _ _ _ _ _ _ h hF => ⟨h.1, hF⟩
theorem main_1_2 : Claimed_1_2 := comes_1 fun _ _ _ _ _ _ h hF => ⟨h.2.1, hF⟩
end Jvm.Pilot.@@N@@
namespace Jvm.Pilot.@@N@@
open Jvm Jvm.ClassFile Sem Op Lib Jvm.Free Jvm.Stand Jvm.Pilot.@@N@@.Jvm.D
/-! MADE BY PROGRAM (witnessworld.py) out of the Statement's table words and the real class files: 7 classes; the members and pool entries that the words name. The judged class is class 1, her method 1. -/
namespace start1
open Jvm.ClassFile
def u (s : String) : CpInfo := .utf8 (stringToUtf16 s)
/-- a pool by its gaps: so many unusable entries, then the entry; so many at the end -/
def gap : Nat → List CpInfo → List CpInfo
  | 0, r => r
  | n + 1, r => .unusable :: gap n r
def poolList (es : List (Nat × CpInfo)) (last : Nat) : List CpInfo := es.foldr (fun e r => gap e.1 (e.2 :: r)) (gap last [])
def pool (es : List (Nat × CpInfo)) (last : Nat) : Array CpInfo := ⟨poolList es last⟩
def fileOf (pool : Array CpInfo) (this : Nat) (attrs : Array Attribute := #[]) (ms : Array MethodInfo := #[]) (fl : Nat := 33) (sup : Nat := 0) (ifs : Array Nat := #[]) (fds : Array FieldInfo := #[]) : ClassFile where
  minorVersion := 0
  majorVersion := 65
  constantPool := pool
  accessFlags := fl
  thisClass := this
  superClass := sup
  interfaces := ifs
  fields := fds
  methods := ms
  attributes := attrs
def plain (name : String) (sup : Option ClassId) : Class where
  name := name
  kind := .ordinary
  loader := none
  accessFlags := 33
  super := sup
  interfaces := #[]
  cf := none
  fields := #[]
  methods := #[]
  instanceTypes := #[]
  staticTypes := #[]
  resolved := #[]
  callSites := []
  init := .initialized
  statics := none
  mirror := none

def pool0 : Array CpInfo := pool [(5, u "<init>"), (0, u "()V"), (1, .class_ 10), (1, u "java/lang/Object")] 113

def k0c0 : Code := { maxStack := 0, maxLocals := 1, code := object_method_1_code, exceptionTable := #[], attributes := #[] }
def k0m0 : Method := { name := "<init>", desc := "()V", sig := { parameters := [], returnType := none }, accessFlags := 1, code := some k0c0 }
/-- java/lang/Object -/
def k0 : Class := { plain "java/lang/Object" none with
  accessFlags := 33
  interfaces := #[]
  cf := some (fileOf pool0 8 #[] #[{ accessFlags := 1, nameIndex := 5, descriptorIndex := 6, attributes := #[] }] 33 0 #[] #[])
  fields := #[]
  methods := #[k0m0]
  instanceTypes := #[]
  staticTypes := #[]
  resolved := Array.replicate 124 none
  statics := none }

def pool1 : Array CpInfo := pool [(2, .class_ 4), (0, .nameAndType 5 6), (0, u "java/lang/Object"), (0, u "<init>"), (0, u "()V"), (0, .class_ 8), (0, u "com/example/ballast/ballast/runtime/Outbox"), (0, .methodref 7 3), (0, .methodref 7 11), (0, .nameAndType 12 13), (0, u "sent"), (0, u "(J)V"), (0, .methodref 15 16), (0, .class_ 17), (0, .nameAndType 18 19), (0, u "com/example/ballast/ballast/runtime/OutboxAwaitFlushPinLaw"), (0, u "step"), (0, u "(Lcom/example/ballast/ballast/runtime/Outbox;II)I"), (0, .methodref 7 21), (0, .nameAndType 22 23), (0, u "lastSent"), (0, u "()J"), (0, .methodref 7 25), (0, .nameAndType 26 27), (0, u "isHolding"), (0, u "()Z"), (0, .methodref 7 29), (0, .nameAndType 30 31), (0, u "takeDeferredMove"), (0, u "()I"), (0, .methodref 7 33), (0, .nameAndType 34 6), (0, u "flushed"), (0, .methodref 7 36), (0, .nameAndType 37 27), (0, u "awaitFlush"), (2, u "law"), (0, u "(IJ)Z")] 3

def k1m0 : Method := { name := "<init>", desc := "()V", sig := { parameters := [], returnType := none }, accessFlags := 1, code := none }
def k1c1 : Code := { maxStack := 4, maxLocals := 5, code := code, exceptionTable := #[], attributes := #[] }
def k1m1 : Method := { name := "law", desc := "(IJ)Z", sig := { parameters := [.int, .long], returnType := some .boolean }, accessFlags := 9, code := some k1c1 }
def k1c2 : Code := { maxStack := 2, maxLocals := 6, code := method_3_code, exceptionTable := #[], attributes := #[] }
def k1m2 : Method := { name := "step", desc := "(Lcom/example/ballast/ballast/runtime/Outbox;II)I", sig := { parameters := [(.object "com/example/ballast/ballast/runtime/Outbox"), .int, .int], returnType := some .int }, accessFlags := 10, code := some k1c2 }
/-- com/example/ballast/ballast/runtime/OutboxAwaitFlushPinLaw -/
def k1 : Class := { plain "com/example/ballast/ballast/runtime/OutboxAwaitFlushPinLaw" (some 0) with
  accessFlags := 49
  interfaces := #[]
  cf := some (fileOf pool1 15 #[] #[{ accessFlags := 1, nameIndex := 5, descriptorIndex := 6, attributes := #[] }, { accessFlags := 9, nameIndex := 40, descriptorIndex := 41, attributes := #[] }, { accessFlags := 10, nameIndex := 18, descriptorIndex := 19, attributes := #[] }] 49 2 #[] #[])
  fields := #[]
  methods := #[k1m0, k1m1, k1m2]
  instanceTypes := #[]
  staticTypes := #[]
  resolved := Array.replicate 45 none
  statics := none }

def pool2 : Array CpInfo := pool [(1, .methodref 2 3), (0, .class_ 4), (0, .nameAndType 5 6), (0, u "java/lang/Object"), (0, u "<init>"), (0, u "()V"), (0, .long 18446744073709551615), (1, .fieldref 10 11), (0, .class_ 12), (0, .nameAndType 13 14), (0, u "com/example/ballast/ballast/runtime/Outbox"), (0, u "lastSent"), (0, u "J"), (0, .fieldref 10 16), (0, .nameAndType 17 18), (0, u "deferredMove"), (0, u "I"), (0, .fieldref 10 20), (0, .nameAndType 21 22), (0, u "awaitingFlush"), (0, u "Z"), (3, .fieldref 10 27), (0, .nameAndType 28 29), (0, u "held"), (0, u "Ljava/util/List;"), (0, .class_ 31), (0, u "com/example/ballast/ballast/runtime/Outbox$Held"), (13, u "sent"), (0, u "(J)V"), (0, u "()J"), (0, u "awaitFlush"), (0, u "()Z"), (1, u "flushed"), (1, u "isHolding"), (6, u "takeDeferredMove"), (0, u "()I")] 5

def k2c0 : Code := { maxStack := 3, maxLocals := 1, code := prog_120_method_1_code, exceptionTable := #[], attributes := #[] }
def k2m0 : Method := { name := "<init>", desc := "()V", sig := { parameters := [], returnType := none }, accessFlags := 0, code := some k2c0 }
def k2c1 : Code := { maxStack := 3, maxLocals := 3, code := prog_120_method_2_code, exceptionTable := #[], attributes := #[] }
def k2m1 : Method := { name := "sent", desc := "(J)V", sig := { parameters := [.long], returnType := none }, accessFlags := 0, code := some k2c1 }
def k2c2 : Code := { maxStack := 2, maxLocals := 1, code := prog_120_method_3_code, exceptionTable := #[], attributes := #[] }
def k2m2 : Method := { name := "lastSent", desc := "()J", sig := { parameters := [], returnType := some .long }, accessFlags := 0, code := some k2c2 }
def k2c3 : Code := { maxStack := 2, maxLocals := 1, code := prog_120_method_4_code, exceptionTable := #[], attributes := #[] }
def k2m3 : Method := { name := "awaitFlush", desc := "()Z", sig := { parameters := [], returnType := some .boolean }, accessFlags := 0, code := some k2c3 }
def k2c4 : Code := { maxStack := 2, maxLocals := 1, code := prog_120_method_5_code, exceptionTable := #[], attributes := #[] }
def k2m4 : Method := { name := "flushed", desc := "()V", sig := { parameters := [], returnType := none }, accessFlags := 0, code := some k2c4 }
def k2c5 : Code := { maxStack := 1, maxLocals := 1, code := prog_120_method_7_code, exceptionTable := #[], attributes := #[] }
def k2m5 : Method := { name := "isHolding", desc := "()Z", sig := { parameters := [], returnType := some .boolean }, accessFlags := 0, code := some k2c5 }
def k2c6 : Code := { maxStack := 2, maxLocals := 2, code := prog_120_method_11_code, exceptionTable := #[], attributes := #[] }
def k2m6 : Method := { name := "takeDeferredMove", desc := "()I", sig := { parameters := [], returnType := some .int }, accessFlags := 0, code := some k2c6 }
/-- com/example/ballast/ballast/runtime/Outbox -/
def k2 : Class := { plain "com/example/ballast/ballast/runtime/Outbox" (some 0) with
  accessFlags := 48
  interfaces := #[]
  cf := some (fileOf pool2 10 #[.nestMembers #[30]] #[{ accessFlags := 0, nameIndex := 5, descriptorIndex := 6, attributes := #[] }, { accessFlags := 0, nameIndex := 45, descriptorIndex := 46, attributes := #[] }, { accessFlags := 0, nameIndex := 13, descriptorIndex := 47, attributes := #[] }, { accessFlags := 0, nameIndex := 48, descriptorIndex := 49, attributes := #[] }, { accessFlags := 0, nameIndex := 51, descriptorIndex := 6, attributes := #[] }, { accessFlags := 0, nameIndex := 53, descriptorIndex := 49, attributes := #[] }, { accessFlags := 0, nameIndex := 60, descriptorIndex := 61, attributes := #[] }] 48 2 #[] #[{ accessFlags := 2, nameIndex := 13, descriptorIndex := 14, attributes := #[] }, { accessFlags := 2, nameIndex := 21, descriptorIndex := 22, attributes := #[] }, { accessFlags := 2, nameIndex := 28, descriptorIndex := 29, attributes := #[] }, { accessFlags := 2, nameIndex := 17, descriptorIndex := 18, attributes := #[] }])
  fields := #[{ name := "lastSent", type := .long, accessFlags := 2, slot := 0, constantValue := 0 }, { name := "awaitingFlush", type := .boolean, accessFlags := 2, slot := 1, constantValue := 0 }, { name := "held", type := (.object "java/util/List"), accessFlags := 2, slot := 2, constantValue := 0 }, { name := "deferredMove", type := .int, accessFlags := 2, slot := 3, constantValue := 0 }]
  methods := #[k2m0, k2m1, k2m2, k2m3, k2m4, k2m5, k2m6]
  instanceTypes := #[.long, .boolean, (.object "java/util/List"), .int]
  staticTypes := #[]
  resolved := Array.replicate 67 none
  statics := none }

def pool3 : Array CpInfo := pool [(1, u "java/lang/Cloneable"), (0, .class_ 1), (0, u "java/lang/Object"), (0, .class_ 3)] 3

/-- java/lang/Cloneable -/
def k3 : Class := { plain "java/lang/Cloneable" (some 0) with
  accessFlags := 1537
  interfaces := #[]
  cf := some (fileOf pool3 2 #[] #[] 1537 4 #[] #[])
  fields := #[]
  methods := #[]
  instanceTypes := #[]
  staticTypes := #[]
  resolved := Array.replicate 8 none
  statics := none }

def pool4 : Array CpInfo := pool [(1, u "java/io/Serializable"), (0, .class_ 1), (0, u "java/lang/Object"), (0, .class_ 3)] 3

/-- java/io/Serializable -/
def k4 : Class := { plain "java/io/Serializable" (some 0) with
  accessFlags := 1537
  interfaces := #[]
  cf := some (fileOf pool4 2 #[] #[] 1537 4 #[] #[])
  fields := #[]
  methods := #[]
  instanceTypes := #[]
  staticTypes := #[]
  resolved := Array.replicate 8 none
  statics := none }

/-- the primitive byte -/
def k5 : Class := { plain "byte" none with kind := .primitive 'B', accessFlags := 0x411 }
/-- [B -/
def k6 : Class := { plain "[B" (some 0) with kind := .array 5 .byte, interfaces := #[3, 4], accessFlags := 1041 }

def heap : Heap := #[]
def classes : Array Class := #[k0, k1, k2, k3, k4, k5, k6]
def interned : List (Array UInt16 × Addr) := []
def slotsUsed : Nat := 0
def theMethod : MethodId := ⟨1, 1⟩
def args0 : Array Value := #[.int 5, .long 7]
def aboutOver (below : List Frame) : State where
  vm := { classes := classes, interned := interned.toArray }
  heap := heap
  slotsUsed := slotsUsed
  threads := #[{ frames := .invoking theMethod args0 :: below }]
def below0 : List Frame := [.native { method := ⟨0, 0⟩, args := #[] }]
def about1 : State := aboutOver below0
def p0 : Program := .bare "" "" ""
def e0 : Env := launch0.env 0 0 0
theorem w_frames : about1.frames = Frame.invoking theMethod args0 :: below0 := rfl
set_option maxRecDepth 65536 in
theorem w_args : argsFit about1.vm theMethod args0 = true := by decide +kernel
set_option maxRecDepth 65536 in
theorem w_heap : heapFits about1 = true := by decide +kernel
set_option maxRecDepth 65536 in
theorem w_runnable : about1.curStatus? = some .runnable := by decide +kernel
set_option maxRecDepth 65536 in
theorem w_alone : about1.alone = true := by decide +kernel
set_option maxRecDepth 65536 in
theorem w_named : about1.methodNamed? x = some theMethod := by decide +kernel
set_option maxRecDepth 65536 in
theorem w_hears : about1.hears theMethod below0 = true := by decide +kernel
set_option maxRecDepth 65536 in
theorem w_ripe : about1.ripe theMethod args0 below0 = true := by decide +kernel
theorem w_running : about1.status = .running := rfl
set_option maxRecDepth 65536 in
theorem w_room : about1.hasRoom e0.platform room_1 = true :=
  launch0.hasRoom_least _ room_1 (by decide +kernel) (by decide +kernel) (by decide +kernel) (by decide +kernel) (by decide +kernel) (by decide +kernel)
theorem allAtoms_all (ts : List Jvm.Cond) (a : Array Jvm.Value) (st : Jvm.State) : (allAtoms ts).before a st = ts.all (fun c => c.before a st) := by
  induction ts with
  | nil => rfl
  | cons c t ih =>
    show (Jvm.Cond.and c (allAtoms t)).before a st = _
    rw [Jvm.Cond.before_and, ih, List.all_cons]
def words1 : List Jvm.Cond := Jvm.Cond.code x code maxLocals ret :: tables_1
/-- a 'code' word, met by the world's own term for the bytes: nothing is compared byte by byte -/
theorem code_word {y : MethodName} {bytes : ByteArray} {mx : Nat} {rt : Option FieldType} {a : Array Value} {s : State} {m : MethodId} {meth : Method} {c : Code} (h1 : s.methodNamed? y = some m) (h2 : s.vm.method? m = some meth) (h3 : meth.code = some c) (h4 : c.code = bytes)
    (h5 : (c.maxLocals == mx && c.exceptionTable.isEmpty && decide (c.maxStack ≤ mostOperands) && decide (meth.sig.returnType = rt) && !meth.locks && decide (parseMethodDescriptor y.desc = some meth.sig)) = true) : (Jvm.Cond.code y bytes mx rt).before a s = true := by
  simp only [Bool.and_eq_true, beq_iff_eq, Bool.not_eq_true', decide_eq_true_eq] at h5
  obtain ⟨⟨⟨⟨⟨g1, g2⟩, g3⟩, g4⟩, g5⟩, g6⟩ := h5
  simp [Cond.before, Cond.holds, Cond.value, h1, h2, h3, h4, g1, g2, g3, g4, g5, g6]
def isCode : Jvm.Cond → Bool
  | .code _ _ _ _ => true
  | _ => false
theorem all_split {L : List Jvm.Cond} {P : Jvm.Cond → Bool} (h1 : L.all (fun c => isCode c || P c) = true) (h2 : ∀ c ∈ L.filter isCode, P c = true) : L.all P = true := by
  refine List.all_eq_true.mpr fun c hc => ?_
  have h := List.all_eq_true.mp h1 c hc
  rcases Bool.eq_false_or_eq_true (isCode c) with hi | hi
  · exact h2 c (List.mem_filter.mpr ⟨hc, hi⟩)
  · simpa [hi] using h
set_option maxRecDepth 65536 in
theorem w_c0 : (Jvm.Cond.code x code maxLocals ret).before args0 about1 = true := code_word (m := ⟨1, 1⟩) (meth := k1m1) (c := k1c1) (by decide +kernel) rfl rfl rfl (by decide +kernel)
set_option maxRecDepth 65536 in
theorem w_c1 : (Jvm.Cond.code ({ cls := "com/example/ballast/ballast/runtime/Outbox", name := "<init>", desc := "()V" } : Jvm.MethodName) prog_120_method_1_code (1 : Nat) (Option.none : Option Jvm.ClassFile.FieldType)).before args0 about1 = true := code_word (m := ⟨2, 0⟩) (meth := k2m0) (c := k2c0) (by decide +kernel) rfl rfl rfl (by decide +kernel)
set_option maxRecDepth 65536 in
theorem w_c2 : (Jvm.Cond.code ({ cls := "java/lang/Object", name := "<init>", desc := "()V" } : Jvm.MethodName) object_method_1_code (1 : Nat) (Option.none : Option Jvm.ClassFile.FieldType)).before args0 about1 = true := code_word (m := ⟨0, 0⟩) (meth := k0m0) (c := k0c0) (by decide +kernel) rfl rfl rfl (by decide +kernel)
set_option maxRecDepth 65536 in
theorem w_c3 : (Jvm.Cond.code ({ cls := "com/example/ballast/ballast/runtime/Outbox", name := "sent", desc := "(J)V" } : Jvm.MethodName) prog_120_method_2_code (3 : Nat) (Option.none : Option Jvm.ClassFile.FieldType)).before args0 about1 = true := code_word (m := ⟨2, 1⟩) (meth := k2m1) (c := k2c1) (by decide +kernel) rfl rfl rfl (by decide +kernel)
set_option maxRecDepth 65536 in
theorem w_c4 : (Jvm.Cond.code ({ cls := "com/example/ballast/ballast/runtime/OutboxAwaitFlushPinLaw", name := "step", desc := "(Lcom/example/ballast/ballast/runtime/Outbox;II)I" } : Jvm.MethodName) method_3_code (6 : Nat) (Option.some Jvm.ClassFile.FieldType.int)).before args0 about1 = true := code_word (m := ⟨1, 2⟩) (meth := k1m2) (c := k1c2) (by decide +kernel) rfl rfl rfl (by decide +kernel)
set_option maxRecDepth 65536 in
theorem w_c5 : (Jvm.Cond.code ({ cls := "com/example/ballast/ballast/runtime/Outbox", name := "awaitFlush", desc := "()Z" } : Jvm.MethodName) prog_120_method_4_code (1 : Nat) (Option.some Jvm.ClassFile.FieldType.boolean)).before args0 about1 = true := code_word (m := ⟨2, 3⟩) (meth := k2m3) (c := k2c3) (by decide +kernel) rfl rfl rfl (by decide +kernel)
set_option maxRecDepth 65536 in
theorem w_c6 : (Jvm.Cond.code ({ cls := "com/example/ballast/ballast/runtime/Outbox", name := "lastSent", desc := "()J" } : Jvm.MethodName) prog_120_method_3_code (1 : Nat) (Option.some Jvm.ClassFile.FieldType.long)).before args0 about1 = true := code_word (m := ⟨2, 2⟩) (meth := k2m2) (c := k2c2) (by decide +kernel) rfl rfl rfl (by decide +kernel)
set_option maxRecDepth 65536 in
theorem w_c7 : (Jvm.Cond.code ({ cls := "com/example/ballast/ballast/runtime/Outbox", name := "isHolding", desc := "()Z" } : Jvm.MethodName) prog_120_method_7_code (1 : Nat) (Option.some Jvm.ClassFile.FieldType.boolean)).before args0 about1 = true := code_word (m := ⟨2, 5⟩) (meth := k2m5) (c := k2c5) (by decide +kernel) rfl rfl rfl (by decide +kernel)
set_option maxRecDepth 65536 in
theorem w_c8 : (Jvm.Cond.code ({ cls := "com/example/ballast/ballast/runtime/Outbox", name := "takeDeferredMove", desc := "()I" } : Jvm.MethodName) prog_120_method_11_code (2 : Nat) (Option.some Jvm.ClassFile.FieldType.int)).before args0 about1 = true := code_word (m := ⟨2, 6⟩) (meth := k2m6) (c := k2c6) (by decide +kernel) rfl rfl rfl (by decide +kernel)
set_option maxRecDepth 65536 in
theorem w_c9 : (Jvm.Cond.code ({ cls := "com/example/ballast/ballast/runtime/Outbox", name := "flushed", desc := "()V" } : Jvm.MethodName) prog_120_method_5_code (1 : Nat) (Option.none : Option Jvm.ClassFile.FieldType)).before args0 about1 = true := code_word (m := ⟨2, 4⟩) (meth := k2m4) (c := k2c4) (by decide +kernel) rfl rfl rfl (by decide +kernel)
def codes1 : List Jvm.Cond := [Jvm.Cond.code x code maxLocals ret, Jvm.Cond.code ({ cls := "com/example/ballast/ballast/runtime/Outbox", name := "<init>", desc := "()V" } : Jvm.MethodName) prog_120_method_1_code (1 : Nat) (Option.none : Option Jvm.ClassFile.FieldType), Jvm.Cond.code ({ cls := "java/lang/Object", name := "<init>", desc := "()V" } : Jvm.MethodName) object_method_1_code (1 : Nat) (Option.none : Option Jvm.ClassFile.FieldType), Jvm.Cond.code ({ cls := "com/example/ballast/ballast/runtime/Outbox", name := "sent", desc := "(J)V" } : Jvm.MethodName) prog_120_method_2_code (3 : Nat) (Option.none : Option Jvm.ClassFile.FieldType), Jvm.Cond.code ({ cls := "com/example/ballast/ballast/runtime/OutboxAwaitFlushPinLaw", name := "step", desc := "(Lcom/example/ballast/ballast/runtime/Outbox;II)I" } : Jvm.MethodName) method_3_code (6 : Nat) (Option.some Jvm.ClassFile.FieldType.int), Jvm.Cond.code ({ cls := "com/example/ballast/ballast/runtime/Outbox", name := "awaitFlush", desc := "()Z" } : Jvm.MethodName) prog_120_method_4_code (1 : Nat) (Option.some Jvm.ClassFile.FieldType.boolean), Jvm.Cond.code ({ cls := "com/example/ballast/ballast/runtime/Outbox", name := "lastSent", desc := "()J" } : Jvm.MethodName) prog_120_method_3_code (1 : Nat) (Option.some Jvm.ClassFile.FieldType.long), Jvm.Cond.code ({ cls := "com/example/ballast/ballast/runtime/Outbox", name := "isHolding", desc := "()Z" } : Jvm.MethodName) prog_120_method_7_code (1 : Nat) (Option.some Jvm.ClassFile.FieldType.boolean), Jvm.Cond.code ({ cls := "com/example/ballast/ballast/runtime/Outbox", name := "takeDeferredMove", desc := "()I" } : Jvm.MethodName) prog_120_method_11_code (2 : Nat) (Option.some Jvm.ClassFile.FieldType.int), Jvm.Cond.code ({ cls := "com/example/ballast/ballast/runtime/Outbox", name := "flushed", desc := "()V" } : Jvm.MethodName) prog_120_method_5_code (1 : Nat) (Option.none : Option Jvm.ClassFile.FieldType)]
set_option maxRecDepth 65536 in
theorem codes_eq : words1.filter isCode = codes1 := rfl
theorem w_codes : ∀ c ∈ words1.filter isCode, c.before args0 about1 = true := by
  rw [codes_eq]
  intro c hc
  simp only [codes1, List.mem_cons, List.not_mem_nil, or_false] at hc
  rcases hc with rfl | rfl | rfl | rfl | rfl | rfl | rfl | rfl | rfl | rfl
  · exact w_c0
  · exact w_c1
  · exact w_c2
  · exact w_c3
  · exact w_c4
  · exact w_c5
  · exact w_c6
  · exact w_c7
  · exact w_c8
  · exact w_c9
set_option maxRecDepth 65536 in
theorem w_t1 : (words1.take 24).all (fun c => isCode c || c.before args0 about1) = true := by decide +kernel
set_option maxRecDepth 65536 in
theorem w_t2 : ((words1.drop 24).take 24).all (fun c => isCode c || c.before args0 about1) = true := by decide +kernel
set_option maxRecDepth 65536 in
theorem w_t3 : ((words1.drop 24).drop 24).all (fun c => isCode c || c.before args0 about1) = true := by decide +kernel
theorem w_tables : (allAtoms (Jvm.Cond.code x code maxLocals ret :: tables_1)).before args0 about1 = true := by
  rw [allAtoms_all]
  show words1.all (fun c => c.before args0 about1) = true
  refine all_split ?_ w_codes
  rw [← List.take_append_drop 24 words1, List.all_append, w_t1, ← List.take_append_drop 24 (words1.drop 24), List.all_append, w_t2, w_t3]
  rfl
set_option maxRecDepth 65536 in
theorem w_case : (Jvm.Cond.and given_1 narrow_1).before args0 about1 = true := by decide +kernel
theorem w_applies : (headSpec (Jvm.Cond.code x code maxLocals ret :: tables_1) room_1).applies x e0.platform about1 = true :=
  (Spec.applies_iff w_frames).mpr ⟨w_running, w_runnable, w_alone, w_named, w_hears, w_ripe, w_room, w_tables⟩
theorem atStart : AtStart classFile x code maxLocals ret World_1 tables_1 room_1 Calls_1 rest_1 Pre_1 launch0 p0 e0 about1 theMethod args0 below0 :=
  ⟨lists_1, trivial, launch0.admits_env _ _ _, launch0.least_env, fairChoices_fair.cas, fairChoices_fair.clock, w_frames, w_args, w_heap, w_applies, trivial, trivial, w_case⟩
end start1
theorem witness_1 : WitnessClaimed_1 := ⟨start1.p0, start1.e0, start1.about1, start1.theMethod, start1.args0, start1.below0, start1.atStart⟩
end Jvm.Pilot.@@N@@
