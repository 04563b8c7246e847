import JvmDerived
import JvmDerived.Pilot.@@N@@Statement
import JvmDerived.Pilot.@@N@@Code
set_option linter.unusedVariables false
set_option linter.unusedSimpArgs false
namespace Jvm.RoadKit
open Sem ClassFile Op Lib Jvm.Stand Jvm.Free Jvm.LawKit
section Own
variable {p : Program} {l : Launch} {e : Env} {R : Room} {s : State} {m : MethodId} {args : Array Value} {below : List Frame} {meth : Method} {c : Code} {T : State} {locs : List Loc} {cells slots : Nat} {Fe : Outcome → State → List Loc → Nat → Nat → Prop} {Qf : Option Value → Heap → List Loc → Prop} {kc ks : Nat} {code : ByteArray} {pc pc' : Nat} {Ls l' : Array Slot} {rest : List Value} {Z : State} {a0 : Array Value} {h : Heap}
/-- from the state S the call ends well: it returns, what is returned and the heap at the end meet Qf, and the frame is kept -/
def Gol (p : Program) (e : Env) (below : List Frame) (Fe : Outcome → State → List Loc → Nat → Nat → Prop) (Qf : Option Value → Heap → List Loc → Prop) (kc ks : Nat) (S : State) : Prop :=
  ∃ s₂ o, Steps p.tables e below S s₂ ∧ s₂.status = .running ∧ Ended s₂ below o ∧ ∃ v L, o = .returned v ∧ Qf v s₂.heap L ∧ Fe o s₂ L kc ks
theorem Gol.step {S S' : State} (st : ∀ t, Steps p.tables e below S' t → Steps p.tables e below S t) (k : Gol p e below Fe Qf kc ks S') : Gol p e below Fe Qf kc ks S := by
  obtain ⟨s₂, o, h, r⟩ := k
  exact ⟨s₂, o, st _ h, r⟩
theorem Gol.dia {S S' : State} (h1 : Gol p e below Fe Qf kc ks S' → Gol p e below Fe Qf kc ks S) (h2 : Gol p e below Fe Qf kc ks S') : Gol p e below Fe Qf kc ks S := h1 h2
theorem Gol.all {A : Type} {B : A → Prop} {S : State} {S' : A → State} (h2 : ∀ a, B a → Gol p e below Fe Qf kc ks (S' a)) (h1 : (∀ a, B a → Gol p e below Fe Qf kc ks (S' a)) → Gol p e below Fe Qf kc ks S) : Gol p e below Fe Qf kc ks S := h1 h2
/-- the run stands at pc -/
abbrev GolF (p : Program) (e : Env) (below : List Frame) (Fe : Outcome → State → List Loc → Nat → Nat → Prop) (Qf : Option Value → Heap → List Loc → Prop) (kc ks : Nat) (T : State) (m : MethodId) (pc : Nat) (Ls : Array Slot) (st : List Value) : Prop := Gol p e below Fe Qf kc ks (T.setTop (mkF m pc Ls st))
theorem Gol.fin (X : Stand p l e R s m args below meth c T locs cells slots) {v : Option Value} (hv : meth.sig.returnType = none → v = none) (hlk : meth.locks = false) {S : State} (eT : T.heap = h) (hq : Qf v h locs) (hc : cells ≤ kc) (hs : slots ≤ ks)
    (st : ∀ fs, (∀ (f : JFrame) (acts : List Action), f.method = m → f.locked = none → f.entered = [] → (doReturn e (T.setTop f) acts v).1 = T.setFrames fs) → Steps p.tables e below S (T.setFrames fs)) : Gol p e below (FrameEnd s) Qf kc ks S := by
  obtain ⟨fs, hr, hrun, hended, hW, hsame⟩ := X.leave (v := v) hv hlk
  refine ⟨_, _, st fs hr, hrun, hended, _, _, rfl, ?_, ⟨_, rfl⟩, hW, hsame.mono hc hs⟩
  show Qf v T.heap locs
  rw [eT]; exact hq
theorem Gol.finW {vm₁ : Vm} (X : Stand p l e R (s.setVm vm₁) m args below meth c T locs cells slots) {n : Nat} (hS : s.Since vm₁ n) (hn : n ≤ T.heap.size) {v : Option Value} (hv : meth.sig.returnType = none → v = none) (hlk : meth.locks = false) {S : State} (eT : T.heap = h) (hq : Qf v h locs) (hc : cells ≤ kc) (hs : slots ≤ ks)
    (st : ∀ fs, (∀ (f : JFrame) (acts : List Action), f.method = m → f.locked = none → f.entered = [] → (doReturn e (T.setTop f) acts v).1 = T.setFrames fs) → Steps p.tables e below S (T.setFrames fs)) : Gol p e below (ReturnedEndW s) Qf kc ks S := by
  obtain ⟨fs, hr, hrun, hended, h1, h2, h3, h4⟩ := X.leaveW hS hn (v := v) hv hlk
  refine ⟨_, _, st fs hr, hrun, hended, _, _, rfl, ?_, h1, h2, h3, h4.mono hc hs⟩
  show Qf v T.heap locs
  rw [eT]; exact hq
theorem Gol.aloadN (X : Stand p l e R s m args below meth c T locs cells slots) (hx : p.tables.exec = Jvm.exec) (hby : c.code = code) {k : Fin 4} {v : Value} (hd : decode code pc = .ok (.aload_n k, 1)) (hp : pc + 1 = pc') (hl : Ls[k.val]? = some (.val v)) (hv : v.isRef = true) (k : GolF p e below Fe Qf kc ks T m pc' Ls (v :: rest)) : GolF p e below Fe Qf kc ks T m pc Ls rest := by
  subst hp
  exact Gol.step (fun _ k => XS.aloadN X.here hx rfl (hb hby hd) hl hv k) k
theorem Gol.aload (X : Stand p l e R s m args below meth c T locs cells slots) (hx : p.tables.exec = Jvm.exec) (hby : c.code = code) {k : Nat} {v : Value} (hd : decode code pc = .ok (.aload k, 2)) (hp : pc + 2 = pc') (hl : Ls[k]? = some (.val v)) (hv : v.isRef = true) (k : GolF p e below Fe Qf kc ks T m pc' Ls (v :: rest)) : GolF p e below Fe Qf kc ks T m pc Ls rest := by
  subst hp
  exact Gol.step (fun _ k => XS.aload X.here hx rfl (hb hby hd) hl hv k) k
theorem Gol.iloadN (X : Stand p l e R s m args below meth c T locs cells slots) (hx : p.tables.exec = Jvm.exec) (hby : c.code = code) {k : Fin 4} {v : Int32} (hd : decode code pc = .ok (.iload_n k, 1)) (hp : pc + 1 = pc') (hl : Ls[k.val]? = some (.val (.int v))) (k : GolF p e below Fe Qf kc ks T m pc' Ls (.int v :: rest)) : GolF p e below Fe Qf kc ks T m pc Ls rest := by
  subst hp
  exact Gol.step (fun _ k => XS.iloadN X.here hx rfl (hb hby hd) hl k) k
theorem Gol.iload (X : Stand p l e R s m args below meth c T locs cells slots) (hx : p.tables.exec = Jvm.exec) (hby : c.code = code) {k : Nat} {v : Int32} (hd : decode code pc = .ok (.iload k, 2)) (hp : pc + 2 = pc') (hl : Ls[k]? = some (.val (.int v))) (k : GolF p e below Fe Qf kc ks T m pc' Ls (.int v :: rest)) : GolF p e below Fe Qf kc ks T m pc Ls rest := by
  subst hp
  exact Gol.step (fun _ k => XS.iload X.here hx rfl (hb hby hd) hl k) k
theorem Gol.istoreN (X : Stand p l e R s m args below meth c T locs cells slots) (hx : p.tables.exec = Jvm.exec) (hby : c.code = code) {k : Fin 4} {x : Int32} (hd : decode code pc = .ok (.istore_n k, 1)) (hp : pc + 1 = pc') (hl : storeLocals Ls k.val (.int x) = some l') (k : GolF p e below Fe Qf kc ks T m pc' l' rest) : GolF p e below Fe Qf kc ks T m pc Ls (.int x :: rest) := by
  subst hp
  exact Gol.step (fun _ k => XS.istoreN X.here hx rfl (hb hby hd) rfl hl k) k
theorem Gol.istore (X : Stand p l e R s m args below meth c T locs cells slots) (hx : p.tables.exec = Jvm.exec) (hby : c.code = code) {k : Nat} {x : Int32} (hd : decode code pc = .ok (.istore k, 2)) (hp : pc + 2 = pc') (hl : storeLocals Ls k (.int x) = some l') (k : GolF p e below Fe Qf kc ks T m pc' l' rest) : GolF p e below Fe Qf kc ks T m pc Ls (.int x :: rest) := by
  subst hp
  exact Gol.step (fun _ k => XS.istore X.here hx rfl (hb hby hd) rfl hl k) k
theorem Gol.lloadN (X : Stand p l e R s m args below meth c T locs cells slots) (hx : p.tables.exec = Jvm.exec) (hby : c.code = code) {k : Fin 4} {v : Int64} (hd : decode code pc = .ok (.lload_n k, 1)) (hp : pc + 1 = pc') (hl : Ls[k.val]? = some (.val (.long v))) (k : GolF p e below Fe Qf kc ks T m pc' Ls (.long v :: rest)) : GolF p e below Fe Qf kc ks T m pc Ls rest := by
  subst hp
  exact Gol.step (fun _ k => XT.lloadN X.here hx rfl (hb hby hd) hl k) k
theorem Gol.lload (X : Stand p l e R s m args below meth c T locs cells slots) (hx : p.tables.exec = Jvm.exec) (hby : c.code = code) {k : Nat} {v : Int64} (hd : decode code pc = .ok (.lload k, 2)) (hp : pc + 2 = pc') (hl : Ls[k]? = some (.val (.long v))) (k : GolF p e below Fe Qf kc ks T m pc' Ls (.long v :: rest)) : GolF p e below Fe Qf kc ks T m pc Ls rest := by
  subst hp
  exact Gol.step (fun _ k => XT.lload X.here hx rfl (hb hby hd) hl k) k
theorem Gol.lstoreN (X : Stand p l e R s m args below meth c T locs cells slots) (hx : p.tables.exec = Jvm.exec) (hby : c.code = code) {k : Fin 4} {x : Int64} (hd : decode code pc = .ok (.lstore_n k, 1)) (hp : pc + 1 = pc') (hl : storeLocals Ls k.val (.long x) = some l') (k : GolF p e below Fe Qf kc ks T m pc' l' rest) : GolF p e below Fe Qf kc ks T m pc Ls (.long x :: rest) := by
  subst hp
  exact Gol.step (fun _ k => XT.lstoreN X.here hx rfl (hb hby hd) rfl hl k) k
theorem Gol.lstore (X : Stand p l e R s m args below meth c T locs cells slots) (hx : p.tables.exec = Jvm.exec) (hby : c.code = code) {k : Nat} {x : Int64} (hd : decode code pc = .ok (.lstore k, 2)) (hp : pc + 2 = pc') (hl : storeLocals Ls k (.long x) = some l') (k : GolF p e below Fe Qf kc ks T m pc' l' rest) : GolF p e below Fe Qf kc ks T m pc Ls (.long x :: rest) := by
  subst hp
  exact Gol.step (fun _ k => XT.lstore X.here hx rfl (hb hby hd) rfl hl k) k
theorem Gol.astoreN (X : Stand p l e R s m args below meth c T locs cells slots) (hx : p.tables.exec = Jvm.exec) (hby : c.code = code) {k : Fin 4} {x : Value} (hd : decode code pc = .ok (.astore_n k, 1)) (hp : pc + 1 = pc') (hv : x.isRef = true) (hl : storeLocals Ls k.val x = some l') (k : GolF p e below Fe Qf kc ks T m pc' l' rest) : GolF p e below Fe Qf kc ks T m pc Ls (x :: rest) := by
  subst hp
  exact Gol.step (fun _ k => XS.astoreN X.here hx rfl (hb hby hd) rfl hv hl k) k
theorem Gol.astore (X : Stand p l e R s m args below meth c T locs cells slots) (hx : p.tables.exec = Jvm.exec) (hby : c.code = code) {k : Nat} {x : Value} (hd : decode code pc = .ok (.astore k, 2)) (hp : pc + 2 = pc') (hv : x.isRef = true) (hl : storeLocals Ls k x = some l') (k : GolF p e below Fe Qf kc ks T m pc' l' rest) : GolF p e below Fe Qf kc ks T m pc Ls (x :: rest) := by
  subst hp
  exact Gol.step (fun _ k => XS.astore X.here hx rfl (hb hby hd) rfl hv hl k) k
theorem Gol.iconst (X : Stand p l e R s m args below meth c T locs cells slots) (hx : p.tables.exec = Jvm.exec) (hby : c.code = code) {i : Int} {z : Int32} (hd : decode code pc = .ok (.iconst i, 1)) (hp : pc + 1 = pc') (hz : Int32.ofInt i = z) (k : GolF p e below Fe Qf kc ks T m pc' Ls (.int z :: rest)) : GolF p e below Fe Qf kc ks T m pc Ls rest := by
  subst hp hz
  exact Gol.step (fun _ k => XS.iconst X.here hx rfl (hb hby hd) k) k
theorem Gol.bipush (X : Stand p l e R s m args below meth c T locs cells slots) (hx : p.tables.exec = Jvm.exec) (hby : c.code = code) {i : Int} {z : Int32} (hd : decode code pc = .ok (.bipush i, 2)) (hp : pc + 2 = pc') (hz : (Int8.ofInt i).toInt32 = z) (k : GolF p e below Fe Qf kc ks T m pc' Ls (.int z :: rest)) : GolF p e below Fe Qf kc ks T m pc Ls rest := by
  subst hp hz
  exact Gol.step (fun _ k => XS.bipush X.here hx rfl (hb hby hd) k) k
theorem Gol.sipush (X : Stand p l e R s m args below meth c T locs cells slots) (hx : p.tables.exec = Jvm.exec) (hby : c.code = code) {i : Int} {z : Int32} (hd : decode code pc = .ok (.sipush i, 3)) (hp : pc + 3 = pc') (hz : (Int16.ofInt i).toInt32 = z) (k : GolF p e below Fe Qf kc ks T m pc' Ls (.int z :: rest)) : GolF p e below Fe Qf kc ks T m pc Ls rest := by
  subst hp hz
  exact Gol.step (fun _ k => XS.sipush X.here hx rfl (hb hby hd) k) k
theorem Gol.lconst (X : Stand p l e R s m args below meth c T locs cells slots) (hx : p.tables.exec = Jvm.exec) (hby : c.code = code) {i : Fin 2} {z : Int64} (hd : decode code pc = .ok (.lconst i, 1)) (hp : pc + 1 = pc') (hz : Int64.ofNat i = z) (k : GolF p e below Fe Qf kc ks T m pc' Ls (.long z :: rest)) : GolF p e below Fe Qf kc ks T m pc Ls rest := by
  subst hp hz
  exact Gol.step (fun _ k => XT.lconst X.here hx rfl (hb hby hd) k) k
theorem Gol.aconstNull (X : Stand p l e R s m args below meth c T locs cells slots) (hx : p.tables.exec = Jvm.exec) (hby : c.code = code) (hd : decode code pc = .ok (.aconst_null, 1)) (hp : pc + 1 = pc') (k : GolF p e below Fe Qf kc ks T m pc' Ls (.null :: rest)) : GolF p e below Fe Qf kc ks T m pc Ls rest := by
  subst hp
  exact Gol.step (fun _ k => XS.aconstNull X.here hx rfl (hb hby hd) k) k
theorem Gol.iadd (X : Stand p l e R s m args below meth c T locs cells slots) (hx : p.tables.exec = Jvm.exec) (hby : c.code = code) {x y z : Int32} (hd : decode code pc = .ok (.iadd, 1)) (hp : pc + 1 = pc') (hz : x + y = z) (k : GolF p e below Fe Qf kc ks T m pc' Ls (.int z :: rest)) : GolF p e below Fe Qf kc ks T m pc Ls (.int y :: .int x :: rest) := by
  subst hp hz
  exact Gol.step (fun _ k => XS.iadd X.here hx rfl (hb hby hd) rfl k) k
theorem Gol.ladd (X : Stand p l e R s m args below meth c T locs cells slots) (hx : p.tables.exec = Jvm.exec) (hby : c.code = code) {x y z : Int64} (hd : decode code pc = .ok (.ladd, 1)) (hp : pc + 1 = pc') (hz : x + y = z) (k : GolF p e below Fe Qf kc ks T m pc' Ls (.long z :: rest)) : GolF p e below Fe Qf kc ks T m pc Ls (.long y :: .long x :: rest) := by
  subst hp hz
  exact Gol.step (fun _ k => XT.ladd X.here hx rfl (hb hby hd) rfl k) k
theorem Gol.isub (X : Stand p l e R s m args below meth c T locs cells slots) (hx : p.tables.exec = Jvm.exec) (hby : c.code = code) {x y z : Int32} (hd : decode code pc = .ok (.isub, 1)) (hp : pc + 1 = pc') (hz : x - y = z) (k : GolF p e below Fe Qf kc ks T m pc' Ls (.int z :: rest)) : GolF p e below Fe Qf kc ks T m pc Ls (.int y :: .int x :: rest) := by
  subst hp hz
  exact Gol.step (fun _ k => XS.isub X.here hx rfl (hb hby hd) rfl k) k
theorem Gol.lsub (X : Stand p l e R s m args below meth c T locs cells slots) (hx : p.tables.exec = Jvm.exec) (hby : c.code = code) {x y z : Int64} (hd : decode code pc = .ok (.lsub, 1)) (hp : pc + 1 = pc') (hz : x - y = z) (k : GolF p e below Fe Qf kc ks T m pc' Ls (.long z :: rest)) : GolF p e below Fe Qf kc ks T m pc Ls (.long y :: .long x :: rest) := by
  subst hp hz
  exact Gol.step (fun _ k => XT.lsub X.here hx rfl (hb hby hd) rfl k) k
theorem Gol.imul (X : Stand p l e R s m args below meth c T locs cells slots) (hx : p.tables.exec = Jvm.exec) (hby : c.code = code) {x y z : Int32} (hd : decode code pc = .ok (.imul, 1)) (hp : pc + 1 = pc') (hz : x * y = z) (k : GolF p e below Fe Qf kc ks T m pc' Ls (.int z :: rest)) : GolF p e below Fe Qf kc ks T m pc Ls (.int y :: .int x :: rest) := by
  subst hp hz
  exact Gol.step (fun _ k => XS.imul X.here hx rfl (hb hby hd) rfl k) k
theorem Gol.lmul (X : Stand p l e R s m args below meth c T locs cells slots) (hx : p.tables.exec = Jvm.exec) (hby : c.code = code) {x y z : Int64} (hd : decode code pc = .ok (.lmul, 1)) (hp : pc + 1 = pc') (hz : x * y = z) (k : GolF p e below Fe Qf kc ks T m pc' Ls (.long z :: rest)) : GolF p e below Fe Qf kc ks T m pc Ls (.long y :: .long x :: rest) := by
  subst hp hz
  exact Gol.step (fun _ k => XT.lmul X.here hx rfl (hb hby hd) rfl k) k
theorem Gol.iand (X : Stand p l e R s m args below meth c T locs cells slots) (hx : p.tables.exec = Jvm.exec) (hby : c.code = code) {x y z : Int32} (hd : decode code pc = .ok (.iand, 1)) (hp : pc + 1 = pc') (hz : x &&& y = z) (k : GolF p e below Fe Qf kc ks T m pc' Ls (.int z :: rest)) : GolF p e below Fe Qf kc ks T m pc Ls (.int y :: .int x :: rest) := by
  subst hp hz
  exact Gol.step (fun _ k => XS.iand X.here hx rfl (hb hby hd) rfl k) k
theorem Gol.land (X : Stand p l e R s m args below meth c T locs cells slots) (hx : p.tables.exec = Jvm.exec) (hby : c.code = code) {x y z : Int64} (hd : decode code pc = .ok (.land, 1)) (hp : pc + 1 = pc') (hz : x &&& y = z) (k : GolF p e below Fe Qf kc ks T m pc' Ls (.long z :: rest)) : GolF p e below Fe Qf kc ks T m pc Ls (.long y :: .long x :: rest) := by
  subst hp hz
  exact Gol.step (fun _ k => XT.land X.here hx rfl (hb hby hd) rfl k) k
theorem Gol.ior (X : Stand p l e R s m args below meth c T locs cells slots) (hx : p.tables.exec = Jvm.exec) (hby : c.code = code) {x y z : Int32} (hd : decode code pc = .ok (.ior, 1)) (hp : pc + 1 = pc') (hz : x ||| y = z) (k : GolF p e below Fe Qf kc ks T m pc' Ls (.int z :: rest)) : GolF p e below Fe Qf kc ks T m pc Ls (.int y :: .int x :: rest) := by
  subst hp hz
  exact Gol.step (fun _ k => XT.ior X.here hx rfl (hb hby hd) rfl k) k
theorem Gol.lor (X : Stand p l e R s m args below meth c T locs cells slots) (hx : p.tables.exec = Jvm.exec) (hby : c.code = code) {x y z : Int64} (hd : decode code pc = .ok (.lor, 1)) (hp : pc + 1 = pc') (hz : x ||| y = z) (k : GolF p e below Fe Qf kc ks T m pc' Ls (.long z :: rest)) : GolF p e below Fe Qf kc ks T m pc Ls (.long y :: .long x :: rest) := by
  subst hp hz
  exact Gol.step (fun _ k => XT.lor X.here hx rfl (hb hby hd) rfl k) k
theorem Gol.ixor (X : Stand p l e R s m args below meth c T locs cells slots) (hx : p.tables.exec = Jvm.exec) (hby : c.code = code) {x y z : Int32} (hd : decode code pc = .ok (.ixor, 1)) (hp : pc + 1 = pc') (hz : x ^^^ y = z) (k : GolF p e below Fe Qf kc ks T m pc' Ls (.int z :: rest)) : GolF p e below Fe Qf kc ks T m pc Ls (.int y :: .int x :: rest) := by
  subst hp hz
  exact Gol.step (fun _ k => XT.ixor X.here hx rfl (hb hby hd) rfl k) k
theorem Gol.lxor (X : Stand p l e R s m args below meth c T locs cells slots) (hx : p.tables.exec = Jvm.exec) (hby : c.code = code) {x y z : Int64} (hd : decode code pc = .ok (.lxor, 1)) (hp : pc + 1 = pc') (hz : x ^^^ y = z) (k : GolF p e below Fe Qf kc ks T m pc' Ls (.long z :: rest)) : GolF p e below Fe Qf kc ks T m pc Ls (.long y :: .long x :: rest) := by
  subst hp hz
  exact Gol.step (fun _ k => XT.lxor X.here hx rfl (hb hby hd) rfl k) k
theorem Gol.ishl (X : Stand p l e R s m args below meth c T locs cells slots) (hx : p.tables.exec = Jvm.exec) (hby : c.code = code) {x y z : Int32} (hd : decode code pc = .ok (.ishl, 1)) (hp : pc + 1 = pc') (hz : x <<< (y &&& 31) = z) (k : GolF p e below Fe Qf kc ks T m pc' Ls (.int z :: rest)) : GolF p e below Fe Qf kc ks T m pc Ls (.int y :: .int x :: rest) := by
  subst hp hz
  exact Gol.step (fun _ k => XT.ishl X.here hx rfl (hb hby hd) rfl k) k
theorem Gol.ishr (X : Stand p l e R s m args below meth c T locs cells slots) (hx : p.tables.exec = Jvm.exec) (hby : c.code = code) {x y z : Int32} (hd : decode code pc = .ok (.ishr, 1)) (hp : pc + 1 = pc') (hz : x >>> (y &&& 31) = z) (k : GolF p e below Fe Qf kc ks T m pc' Ls (.int z :: rest)) : GolF p e below Fe Qf kc ks T m pc Ls (.int y :: .int x :: rest) := by
  subst hp hz
  exact Gol.step (fun _ k => XT.ishr X.here hx rfl (hb hby hd) rfl k) k
theorem Gol.iushr (X : Stand p l e R s m args below meth c T locs cells slots) (hx : p.tables.exec = Jvm.exec) (hby : c.code = code) {x y z : Int32} (hd : decode code pc = .ok (.iushr, 1)) (hp : pc + 1 = pc') (hz : XT.ushr x y = z) (k : GolF p e below Fe Qf kc ks T m pc' Ls (.int z :: rest)) : GolF p e below Fe Qf kc ks T m pc Ls (.int y :: .int x :: rest) := by
  subst hp hz
  exact Gol.step (fun _ k => XT.iushr X.here hx rfl (hb hby hd) rfl k) k
theorem Gol.lshl (X : Stand p l e R s m args below meth c T locs cells slots) (hx : p.tables.exec = Jvm.exec) (hby : c.code = code) {x z : Int64} {y : Int32} (hd : decode code pc = .ok (.lshl, 1)) (hp : pc + 1 = pc') (hz : x <<< (y.toInt64 &&& 63) = z) (k : GolF p e below Fe Qf kc ks T m pc' Ls (.long z :: rest)) : GolF p e below Fe Qf kc ks T m pc Ls (.int y :: .long x :: rest) := by
  subst hp hz
  exact Gol.step (fun _ k => XT.lshl X.here hx rfl (hb hby hd) rfl k) k
theorem Gol.lshr (X : Stand p l e R s m args below meth c T locs cells slots) (hx : p.tables.exec = Jvm.exec) (hby : c.code = code) {x z : Int64} {y : Int32} (hd : decode code pc = .ok (.lshr, 1)) (hp : pc + 1 = pc') (hz : x >>> (y.toInt64 &&& 63) = z) (k : GolF p e below Fe Qf kc ks T m pc' Ls (.long z :: rest)) : GolF p e below Fe Qf kc ks T m pc Ls (.int y :: .long x :: rest) := by
  subst hp hz
  exact Gol.step (fun _ k => XT.lshr X.here hx rfl (hb hby hd) rfl k) k
theorem Gol.lushr (X : Stand p l e R s m args below meth c T locs cells slots) (hx : p.tables.exec = Jvm.exec) (hby : c.code = code) {x z : Int64} {y : Int32} (hd : decode code pc = .ok (.lushr, 1)) (hp : pc + 1 = pc') (hz : XT.ushrL x y = z) (k : GolF p e below Fe Qf kc ks T m pc' Ls (.long z :: rest)) : GolF p e below Fe Qf kc ks T m pc Ls (.int y :: .long x :: rest) := by
  subst hp hz
  exact Gol.step (fun _ k => XT.lushr X.here hx rfl (hb hby hd) rfl k) k
theorem Gol.lcmp (X : Stand p l e R s m args below meth c T locs cells slots) (hx : p.tables.exec = Jvm.exec) (hby : c.code = code) {x y : Int64} (hd : decode code pc = .ok (.lcmp, 1)) (hp : pc + 1 = pc') (k : GolF p e below Fe Qf kc ks T m pc' Ls (.int (XT.cmpL x y) :: rest)) : GolF p e below Fe Qf kc ks T m pc Ls (.long y :: .long x :: rest) := by
  subst hp
  exact Gol.step (fun _ k => XT.lcmp X.here hx rfl (hb hby hd) rfl k) k
theorem Gol.ineg (X : Stand p l e R s m args below meth c T locs cells slots) (hx : p.tables.exec = Jvm.exec) (hby : c.code = code) {x : Int32} {z : Int32} (hd : decode code pc = .ok (.ineg, 1)) (hp : pc + 1 = pc') (hz : -x = z) (k : GolF p e below Fe Qf kc ks T m pc' Ls (.int z :: rest)) : GolF p e below Fe Qf kc ks T m pc Ls (.int x :: rest) := by
  subst hp hz
  exact Gol.step (fun _ k => XS.ineg X.here hx rfl (hb hby hd) rfl k) k
theorem Gol.lneg (X : Stand p l e R s m args below meth c T locs cells slots) (hx : p.tables.exec = Jvm.exec) (hby : c.code = code) {x : Int64} {z : Int64} (hd : decode code pc = .ok (.lneg, 1)) (hp : pc + 1 = pc') (hz : -x = z) (k : GolF p e below Fe Qf kc ks T m pc' Ls (.long z :: rest)) : GolF p e below Fe Qf kc ks T m pc Ls (.long x :: rest) := by
  subst hp hz
  exact Gol.step (fun _ k => XT.lneg X.here hx rfl (hb hby hd) rfl k) k
theorem Gol.i2l (X : Stand p l e R s m args below meth c T locs cells slots) (hx : p.tables.exec = Jvm.exec) (hby : c.code = code) {x : Int32} {z : Int64} (hd : decode code pc = .ok (.i2l, 1)) (hp : pc + 1 = pc') (hz : x.toInt64 = z) (k : GolF p e below Fe Qf kc ks T m pc' Ls (.long z :: rest)) : GolF p e below Fe Qf kc ks T m pc Ls (.int x :: rest) := by
  subst hp hz
  exact Gol.step (fun _ k => XT.i2l X.here hx rfl (hb hby hd) rfl k) k
theorem Gol.l2i (X : Stand p l e R s m args below meth c T locs cells slots) (hx : p.tables.exec = Jvm.exec) (hby : c.code = code) {x : Int64} {z : Int32} (hd : decode code pc = .ok (.l2i, 1)) (hp : pc + 1 = pc') (hz : x.toInt32 = z) (k : GolF p e below Fe Qf kc ks T m pc' Ls (.int z :: rest)) : GolF p e below Fe Qf kc ks T m pc Ls (.long x :: rest) := by
  subst hp hz
  exact Gol.step (fun _ k => XT.l2i X.here hx rfl (hb hby hd) rfl k) k
theorem Gol.i2b (X : Stand p l e R s m args below meth c T locs cells slots) (hx : p.tables.exec = Jvm.exec) (hby : c.code = code) {x : Int32} {z : Int32} (hd : decode code pc = .ok (.i2b, 1)) (hp : pc + 1 = pc') (hz : x.toInt8.toInt32 = z) (k : GolF p e below Fe Qf kc ks T m pc' Ls (.int z :: rest)) : GolF p e below Fe Qf kc ks T m pc Ls (.int x :: rest) := by
  subst hp hz
  exact Gol.step (fun _ k => XT.i2b X.here hx rfl (hb hby hd) rfl k) k
theorem Gol.i2s (X : Stand p l e R s m args below meth c T locs cells slots) (hx : p.tables.exec = Jvm.exec) (hby : c.code = code) {x : Int32} {z : Int32} (hd : decode code pc = .ok (.i2s, 1)) (hp : pc + 1 = pc') (hz : x.toInt16.toInt32 = z) (k : GolF p e below Fe Qf kc ks T m pc' Ls (.int z :: rest)) : GolF p e below Fe Qf kc ks T m pc Ls (.int x :: rest) := by
  subst hp hz
  exact Gol.step (fun _ k => XT.i2s X.here hx rfl (hb hby hd) rfl k) k
theorem Gol.i2c (X : Stand p l e R s m args below meth c T locs cells slots) (hx : p.tables.exec = Jvm.exec) (hby : c.code = code) {x : Int32} {z : Int32} (hd : decode code pc = .ok (.i2c, 1)) (hp : pc + 1 = pc') (hz : x.toUInt32.toUInt16.toUInt32.toInt32 = z) (k : GolF p e below Fe Qf kc ks T m pc' Ls (.int z :: rest)) : GolF p e below Fe Qf kc ks T m pc Ls (.int x :: rest) := by
  subst hp hz
  exact Gol.step (fun _ k => XT.i2c X.here hx rfl (hb hby hd) rfl k) k
theorem Gol.idiv (X : Stand p l e R s m args below meth c T locs cells slots) (hx : p.tables.exec = Jvm.exec) (hby : c.code = code) {x y : Int32} (hd : decode code pc = .ok (.idiv, 1)) (hp : pc + 1 = pc') (hy : y ≠ 0) (k : GolF p e below Fe Qf kc ks T m pc' Ls (.int (x / y) :: rest)) : GolF p e below Fe Qf kc ks T m pc Ls (.int y :: .int x :: rest) := by
  subst hp
  exact Gol.step (fun _ k => XS.idiv X.here hx rfl (hb hby hd) rfl hy k) k
theorem Gol.irem (X : Stand p l e R s m args below meth c T locs cells slots) (hx : p.tables.exec = Jvm.exec) (hby : c.code = code) {x y : Int32} (hd : decode code pc = .ok (.irem, 1)) (hp : pc + 1 = pc') (hy : y ≠ 0) (k : GolF p e below Fe Qf kc ks T m pc' Ls (.int (x % y) :: rest)) : GolF p e below Fe Qf kc ks T m pc Ls (.int y :: .int x :: rest) := by
  subst hp
  exact Gol.step (fun _ k => Jvm.RoadKit.iremM X hx rfl (hb hby hd) rfl hy k) k
theorem Gol.ldiv (X : Stand p l e R s m args below meth c T locs cells slots) (hx : p.tables.exec = Jvm.exec) (hby : c.code = code) {x y : Int64} (hd : decode code pc = .ok (.ldiv, 1)) (hp : pc + 1 = pc') (hy : y ≠ 0) (k : GolF p e below Fe Qf kc ks T m pc' Ls (.long (x / y) :: rest)) : GolF p e below Fe Qf kc ks T m pc Ls (.long y :: .long x :: rest) := by
  subst hp
  exact Gol.step (fun _ k => XT.ldiv X.here hx rfl (hb hby hd) rfl hy k) k
theorem Gol.lrem (X : Stand p l e R s m args below meth c T locs cells slots) (hx : p.tables.exec = Jvm.exec) (hby : c.code = code) {x y : Int64} (hd : decode code pc = .ok (.lrem, 1)) (hp : pc + 1 = pc') (hy : y ≠ 0) (k : GolF p e below Fe Qf kc ks T m pc' Ls (.long (x - (x / y) * y) :: rest)) : GolF p e below Fe Qf kc ks T m pc Ls (.long y :: .long x :: rest) := by
  subst hp
  exact Gol.step (fun _ k => XT.lrem X.here hx rfl (hb hby hd) rfl hy k) k
theorem Gol.iinc (X : Stand p l e R s m args below meth c T locs cells slots) (hx : p.tables.exec = Jvm.exec) (hby : c.code = code) {k : Nat} {cst : Int} {x : Int32} (hd : decode code pc = .ok (.iinc k cst, 3)) (hp : pc + 3 = pc') (hl : Ls[k]? = some (.val (.int x))) (hl' : storeLocals Ls k (.int (x + Int32.ofInt cst)) = some l') (k : GolF p e below Fe Qf kc ks T m pc' l' rest) : GolF p e below Fe Qf kc ks T m pc Ls rest := by
  subst hp
  exact Gol.step (fun _ k => XS.iinc X.here hx rfl (hb hby hd) hl hl' k) k
theorem Gol.dup (X : Stand p l e R s m args below meth c T locs cells slots) (hx : p.tables.exec = Jvm.exec) (hby : c.code = code) {x : Value} (hd : decode code pc = .ok (.dup, 1)) (hp : pc + 1 = pc') (hc : x.category = 1) (k : GolF p e below Fe Qf kc ks T m pc' Ls (x :: x :: rest)) : GolF p e below Fe Qf kc ks T m pc Ls (x :: rest) := by
  subst hp
  exact Gol.step (fun _ k => XS.dup X.here hx rfl (hb hby hd) rfl hc k) k
theorem Gol.pop (X : Stand p l e R s m args below meth c T locs cells slots) (hx : p.tables.exec = Jvm.exec) (hby : c.code = code) {x : Value} (hd : decode code pc = .ok (.pop, 1)) (hp : pc + 1 = pc') (hc : x.category = 1) (k : GolF p e below Fe Qf kc ks T m pc' Ls rest) : GolF p e below Fe Qf kc ks T m pc Ls (x :: rest) := by
  subst hp
  exact Gol.step (fun _ k => XT.pop X.here hx rfl (hb hby hd) rfl hc k) k
theorem Gol.dupX1 (X : Stand p l e R s m args below meth c T locs cells slots) (hx : p.tables.exec = Jvm.exec) (hby : c.code = code) {x y : Value} (hd : decode code pc = .ok (.dup_x1, 1)) (hp : pc + 1 = pc') (hc : x.category = 1) (hc' : y.category = 1) (k : GolF p e below Fe Qf kc ks T m pc' Ls (x :: y :: x :: rest)) : GolF p e below Fe Qf kc ks T m pc Ls (x :: y :: rest) := by
  subst hp
  exact Gol.step (fun _ k => XT.dupX1 X.here hx rfl (hb hby hd) rfl hc hc' k) k
theorem Gol.dup2 (X : Stand p l e R s m args below meth c T locs cells slots) (hx : p.tables.exec = Jvm.exec) (hby : c.code = code) {x y : Value} (hd : decode code pc = .ok (.dup2, 1)) (hp : pc + 1 = pc') (hc : x.category = 1) (hc' : y.category = 1) (k : GolF p e below Fe Qf kc ks T m pc' Ls (x :: y :: x :: y :: rest)) : GolF p e below Fe Qf kc ks T m pc Ls (x :: y :: rest) := by
  subst hp
  exact Gol.step (fun _ k => XT.dup2 X.here hx rfl (hb hby hd) rfl hc hc' k) k
theorem Gol.dup2L (X : Stand p l e R s m args below meth c T locs cells slots) (hx : p.tables.exec = Jvm.exec) (hby : c.code = code) {x : Int64} (hd : decode code pc = .ok (.dup2, 1)) (hp : pc + 1 = pc') (k : GolF p e below Fe Qf kc ks T m pc' Ls (.long x :: .long x :: rest)) : GolF p e below Fe Qf kc ks T m pc Ls (.long x :: rest) := by
  subst hp
  exact Gol.step (fun _ k => XT.dup2L X.here hx rfl (hb hby hd) rfl k) k
theorem Gol.goto (X : Stand p l e R s m args below meth c T locs cells slots) (hx : p.tables.exec = Jvm.exec) (hby : c.code = code) {o : Int} (hd : decode code pc = .ok (.goto o, 3)) (hp : (pc : Int) + o = (pc' : Int)) (k : GolF p e below Fe Qf kc ks T m pc' Ls rest) : GolF p e below Fe Qf kc ks T m pc Ls rest :=
  Gol.step (fun _ k => XS.goto X.here hx rfl (pc0 := pc) rfl (hb hby hd) (by rw [hp]; exact Int.natCast_nonneg _) (by rw [hp]; rfl) k) k
theorem Gol.ifYes (X : Stand p l e R s m args below meth c T locs cells slots) (hx : p.tables.exec = Jvm.exec) (hby : c.code = code) {o : Int} {cd : ClassFile.Cond} {x : Int32} (hd : decode code pc = .ok (.ifCond cd o, 3)) (hp : (pc : Int) + o = (pc' : Int)) (hc : ifCond.holds cd x = true) (k : GolF p e below Fe Qf kc ks T m pc' Ls rest) : GolF p e below Fe Qf kc ks T m pc Ls (.int x :: rest) :=
  Gol.step (fun _ k => XS.ifYes X.here hx rfl (pc0 := pc) rfl (hb hby hd) rfl hc (by rw [hp]; exact Int.natCast_nonneg _) (by rw [hp]; rfl) k) k
theorem Gol.icmpYes (X : Stand p l e R s m args below meth c T locs cells slots) (hx : p.tables.exec = Jvm.exec) (hby : c.code = code) {o : Int} {cd : ClassFile.Cond} {x y : Int32} (hd : decode code pc = .ok (.if_icmp cd o, 3)) (hp : (pc : Int) + o = (pc' : Int)) (hc : if_icmp.holds cd x y = true) (k : GolF p e below Fe Qf kc ks T m pc' Ls rest) : GolF p e below Fe Qf kc ks T m pc Ls (.int y :: .int x :: rest) :=
  Gol.step (fun _ k => XS.icmpYes X.here hx rfl (pc0 := pc) rfl (hb hby hd) rfl hc (by rw [hp]; exact Int.natCast_nonneg _) (by rw [hp]; rfl) k) k
theorem Gol.ifNo (X : Stand p l e R s m args below meth c T locs cells slots) (hx : p.tables.exec = Jvm.exec) (hby : c.code = code) {o : Int} {cd : ClassFile.Cond} {x : Int32} (hd : decode code pc = .ok (.ifCond cd o, 3)) (hp : pc + 3 = pc') (hc : ifCond.holds cd x = false) (k : GolF p e below Fe Qf kc ks T m pc' Ls rest) : GolF p e below Fe Qf kc ks T m pc Ls (.int x :: rest) := by
  subst hp
  exact Gol.step (fun _ k => XS.ifNo X.here hx rfl (hb hby hd) rfl hc k) k
theorem Gol.icmpNo (X : Stand p l e R s m args below meth c T locs cells slots) (hx : p.tables.exec = Jvm.exec) (hby : c.code = code) {o : Int} {cd : ClassFile.Cond} {x y : Int32} (hd : decode code pc = .ok (.if_icmp cd o, 3)) (hp : pc + 3 = pc') (hc : if_icmp.holds cd x y = false) (k : GolF p e below Fe Qf kc ks T m pc' Ls rest) : GolF p e below Fe Qf kc ks T m pc Ls (.int y :: .int x :: rest) := by
  subst hp
  exact Gol.step (fun _ k => XS.icmpNo X.here hx rfl (hb hby hd) rfl hc k) k
theorem Gol.ifnullYes (X : Stand p l e R s m args below meth c T locs cells slots) (hx : p.tables.exec = Jvm.exec) (hby : c.code = code) {o : Int} (hd : decode code pc = .ok (.ifnull o, 3)) (hp : (pc : Int) + o = (pc' : Int)) (k : GolF p e below Fe Qf kc ks T m pc' Ls rest) : GolF p e below Fe Qf kc ks T m pc Ls (.null :: rest) :=
  Gol.step (fun _ k => XS.ifnullYes X.here hx rfl (pc0 := pc) rfl (hb hby hd) rfl (by rw [hp]; exact Int.natCast_nonneg _) (by rw [hp]; rfl) k) k
theorem Gol.ifnullNo (X : Stand p l e R s m args below meth c T locs cells slots) (hx : p.tables.exec = Jvm.exec) (hby : c.code = code) {o : Int} {b : Addr} (hd : decode code pc = .ok (.ifnull o, 3)) (hp : pc + 3 = pc') (k : GolF p e below Fe Qf kc ks T m pc' Ls rest) : GolF p e below Fe Qf kc ks T m pc Ls (.ref b :: rest) := by
  subst hp
  exact Gol.step (fun _ k => XS.ifnullNo X.here hx rfl (hb hby hd) rfl k) k
theorem Gol.ifnonnullYes (X : Stand p l e R s m args below meth c T locs cells slots) (hx : p.tables.exec = Jvm.exec) (hby : c.code = code) {o : Int} {b : Addr} (hd : decode code pc = .ok (.ifnonnull o, 3)) (hp : (pc : Int) + o = (pc' : Int)) (k : GolF p e below Fe Qf kc ks T m pc' Ls rest) : GolF p e below Fe Qf kc ks T m pc Ls (.ref b :: rest) :=
  Gol.step (fun _ k => XT.ifnonnullYes X.here hx rfl (pc0 := pc) rfl (hb hby hd) rfl (by rw [hp]; exact Int.natCast_nonneg _) (by rw [hp]; rfl) k) k
theorem Gol.ifnonnullNo (X : Stand p l e R s m args below meth c T locs cells slots) (hx : p.tables.exec = Jvm.exec) (hby : c.code = code) {o : Int} (hd : decode code pc = .ok (.ifnonnull o, 3)) (hp : pc + 3 = pc') (k : GolF p e below Fe Qf kc ks T m pc' Ls rest) : GolF p e below Fe Qf kc ks T m pc Ls (.null :: rest) := by
  subst hp
  exact Gol.step (fun _ k => XT.ifnonnullNo X.here hx rfl (hb hby hd) rfl k) k
theorem Gol.acmp (X : Stand p l e R s m args below meth c T locs cells slots) (hx : p.tables.exec = Jvm.exec) (hby : c.code = code) {cd : ACond} {o : Int} {x y : Value} (same : Bool) (hd : decode code pc = .ok (.if_acmp cd o, 3)) (h1 : x.isRef = true) (h2 : y.isRef = true) (hq : decide (x = y) = same) (ho : 0 ≤ (pc : Int) + o) (hp : pc' = if acV cd same = true then ((pc : Int) + o).toNat else pc + 3) (k : GolF p e below Fe Qf kc ks T m pc' Ls rest) : GolF p e below Fe Qf kc ks T m pc Ls (y :: x :: rest) :=
  Gol.step (fun _ k => Jvm.RoadKit.acmp (g := mkF m pc Ls (y :: x :: rest)) X hx rfl h1 h2 (pc0 := pc) (pc' := pc') rfl (hb hby hd) rfl hq ho hp k) k
theorem Gol.ldcInt (X : Stand p l e R s m args below meth c T locs cells slots) (hx : p.tables.exec = Jvm.exec) (hby : c.code = code) (hZ : Z.Warmed39 s.vm) {own : String} (hown : s.vm.findClass own = some m.cls) {index : Nat} {v : Int32} (hd : decode code pc = .ok (.ldc index, 2)) (hp : pc + 2 = pc') (w : (Cond.constant own index v).before a0 Z = true) (k : GolF p e below Fe Qf kc ks T m pc' Ls (.int v :: rest)) : GolF p e below Fe Qf kc ks T m pc Ls rest := by
  subst hp
  exact Gol.step (fun _ k => X.ldcInt hx hown (mvT hZ w) (g := mkF m pc Ls rest) rfl (hb hby hd) _ k) k
theorem Gol.ldcwInt (X : Stand p l e R s m args below meth c T locs cells slots) (hx : p.tables.exec = Jvm.exec) (hby : c.code = code) (hZ : Z.Warmed39 s.vm) {own : String} (hown : s.vm.findClass own = some m.cls) {index : Nat} {v : Int32} (hd : decode code pc = .ok (.ldc_w index, 3)) (hp : pc + 3 = pc') (w : (Cond.constant own index v).before a0 Z = true) (k : GolF p e below Fe Qf kc ks T m pc' Ls (.int v :: rest)) : GolF p e below Fe Qf kc ks T m pc Ls rest := by
  subst hp
  exact Gol.step (fun _ k => X.ldcwInt hx hown (mvT hZ w) (g := mkF m pc Ls rest) rfl (hb hby hd) _ k) k
theorem Gol.ldc2Long (X : Stand p l e R s m args below meth c T locs cells slots) (hx : p.tables.exec = Jvm.exec) (hby : c.code = code) (hZ : Z.Warmed39 s.vm) {own : String} (hown : s.vm.findClass own = some m.cls) {index : Nat} {v : Int64} (hd : decode code pc = .ok (.ldc2_w index, 3)) (hp : pc + 3 = pc') (w : (Cond.constantLong own index v).before a0 Z = true) (k : GolF p e below Fe Qf kc ks T m pc' Ls (.long v :: rest)) : GolF p e below Fe Qf kc ks T m pc Ls rest := by
  subst hp
  exact Gol.step (fun _ k => X.ldc2Long hx hown (mvT hZ w) (g := mkF m pc Ls rest) rfl (hb hby hd) _ k) k
theorem Gol.iaload (X : Stand p l e R s m args below meth c T locs cells slots) (hx : p.tables.exec = Jvm.exec) (hby : c.code = code) (hZ : Z.Warmed39 s.vm) (eT : T.heap = h) {a : Addr} {ka : ClassId} {z j : Int32} {vs : List Value} {dv : Value} {v : Int32} (A : Arv Z h a ka .int z vs dv) (hd : decode code pc = .ok (.iaload, 1)) (hp : pc + 1 = pc') (hj : ¬ j < 0 ∧ j < z) (hv : vs.getD j.toNatClampNeg dv = .int v) (k : GolF p e below Fe Qf kc ks T m pc' Ls (.int v :: rest)) : GolF p e below Fe Qf kc ks T m pc Ls (.int j :: .ref a :: rest) := by
  subst hp
  obtain ⟨cl, Ar, -, S, -, Hs, -⟩ := A
  have hin := inb_of S hj
  exact Gol.step (fun _ k => X.iaload hx (by rw [eT]; exact Ar.1) (State.isArrayOf_alike hZ.alike Ar.2.1) Ar.2.2 hin (Has.at Hs hin hv) (g := mkF m pc Ls (.int j :: .ref a :: rest)) rfl rfl (hb hby hd) _ k) k
theorem Gol.baload (X : Stand p l e R s m args below meth c T locs cells slots) (hx : p.tables.exec = Jvm.exec) (hby : c.code = code) (hZ : Z.Warmed39 s.vm) (eT : T.heap = h) {a : Addr} {ka : ClassId} {z j : Int32} {vs : List Value} {dv : Value} {v : Int32} (A : Arv Z h a ka .byte z vs dv) (hd : decode code pc = .ok (.baload, 1)) (hp : pc + 1 = pc') (hj : ¬ j < 0 ∧ j < z) (hv : vs.getD j.toNatClampNeg dv = .int v) (k : GolF p e below Fe Qf kc ks T m pc' Ls (.int v :: rest)) : GolF p e below Fe Qf kc ks T m pc Ls (.int j :: .ref a :: rest) := by
  subst hp
  obtain ⟨cl, Ar, -, S, -, Hs, -⟩ := A
  have hin := inb_of S hj
  exact Gol.step (fun _ k => X.baloadBytes hx (by rw [eT]; exact Ar.1) (State.isArrayOf_alike hZ.alike Ar.2.1) Ar.2.2 hin (Has.at Hs hin hv) (g := mkF m pc Ls (.int j :: .ref a :: rest)) rfl rfl (hb hby hd) _ k) k
theorem Gol.caload (X : Stand p l e R s m args below meth c T locs cells slots) (hx : p.tables.exec = Jvm.exec) (hby : c.code = code) (hZ : Z.Warmed39 s.vm) (eT : T.heap = h) {a : Addr} {ka : ClassId} {z j : Int32} {vs : List Value} {dv : Value} {v : Int32} (A : Arv Z h a ka .char z vs dv) (hd : decode code pc = .ok (.caload, 1)) (hp : pc + 1 = pc') (hj : ¬ j < 0 ∧ j < z) (hv : vs.getD j.toNatClampNeg dv = .int v) (k : GolF p e below Fe Qf kc ks T m pc' Ls (.int v :: rest)) : GolF p e below Fe Qf kc ks T m pc Ls (.int j :: .ref a :: rest) := by
  subst hp
  obtain ⟨cl, Ar, -, S, -, Hs, -⟩ := A
  have hin := inb_of S hj
  exact Gol.step (fun _ k => X.caload hx (by rw [eT]; exact Ar.1) (State.isArrayOf_alike hZ.alike Ar.2.1) Ar.2.2 hin (Has.at Hs hin hv) (g := mkF m pc Ls (.int j :: .ref a :: rest)) rfl rfl (hb hby hd) _ k) k
theorem Gol.laload (X : Stand p l e R s m args below meth c T locs cells slots) (hx : p.tables.exec = Jvm.exec) (hby : c.code = code) (hZ : Z.Warmed39 s.vm) (eT : T.heap = h) {a : Addr} {ka : ClassId} {z j : Int32} {vs : List Value} {dv : Value} {v : Int64} (A : Arv Z h a ka .long z vs dv) (hd : decode code pc = .ok (.laload, 1)) (hp : pc + 1 = pc') (hj : ¬ j < 0 ∧ j < z) (hv : vs.getD j.toNatClampNeg dv = .long v) (k : GolF p e below Fe Qf kc ks T m pc' Ls (.long v :: rest)) : GolF p e below Fe Qf kc ks T m pc Ls (.int j :: .ref a :: rest) := by
  subst hp
  obtain ⟨cl, Ar, -, S, -, Hs, -⟩ := A
  have hin := inb_of S hj
  exact Gol.step (fun _ k => X.laload hx (by rw [eT]; exact Ar.1) (State.isArrayOf_alike hZ.alike Ar.2.1) Ar.2.2 hin (Has.at Hs hin hv) (g := mkF m pc Ls (.int j :: .ref a :: rest)) rfl rfl (hb hby hd) _ k) k
theorem Gol.aaload (X : Stand p l e R s m args below meth c T locs cells slots) (hx : p.tables.exec = Jvm.exec) (hby : c.code = code) (hZ : Z.Warmed39 s.vm) (eT : T.heap = h) {a : Addr} {ka : ClassId} {ty : FieldType} {z j : Int32} {vs : List Value} {dv v : Value} (A : Arv Z h a ka ty z vs dv) (hd : decode code pc = .ok (.aaload, 1)) (hp : pc + 1 = pc') (ht : ty.isReference = true) (hj : ¬ j < 0 ∧ j < z) (hv : vs.getD j.toNatClampNeg dv = v) (k : GolF p e below Fe Qf kc ks T m pc' Ls (v :: rest)) : GolF p e below Fe Qf kc ks T m pc Ls (.int j :: .ref a :: rest) := by
  subst hp
  obtain ⟨cl, Ar, -, S, -, Hs, -⟩ := A
  have hin := inb_of S hj
  exact Gol.step (fun _ k => X.aaload hx (by rw [eT]; exact Ar.1) (State.isArrayOf_alike hZ.alike Ar.2.1) ht Ar.2.2 hin (Has.at Hs hin hv) (g := mkF m pc Ls (.int j :: .ref a :: rest)) rfl rfl (hb hby hd) _ k) k
theorem Gol.alen (X : Stand p l e R s m args below meth c T locs cells slots) (hx : p.tables.exec = Jvm.exec) (hby : c.code = code) (hZ : Z.Warmed39 s.vm) (eT : T.heap = h) {a : Addr} {ka : ClassId} {ty : FieldType} {z : Int32} {vs : List Value} {dv : Value} (A : Arv Z h a ka ty z vs dv) (hd : decode code pc = .ok (.arraylength, 1)) (hp : pc + 1 = pc') (k : GolF p e below Fe Qf kc ks T m pc' Ls (.int z :: rest)) : GolF p e below Fe Qf kc ks T m pc Ls (.ref a :: rest) := by
  subst hp
  obtain ⟨cl, Ar, -, S, M, -, -⟩ := A
  rw [← len_of S M] at k
  exact Gol.step (fun _ k => X.arraylength hx (by rw [eT]; exact Ar.1) (State.isArrayOf_alike hZ.alike Ar.2.1) (g := mkF m pc Ls (.ref a :: rest)) rfl rfl (hb hby hd) _ k) k
theorem Gol.iastore (X : Stand p l e R s m args below meth c T locs cells slots) (hx : p.tables.exec = Jvm.exec) (hby : c.code = code) (hZ : Z.Warmed39 s.vm) (eT : T.heap = h) {a : Addr} {ka : ClassId} {z j : Int32} {x : Int32} {vs : List Value} {dv : Value} (A : Arv Z h a ka .int z vs dv) (hd : decode code pc = .ok (.iastore, 1)) (hp : pc + 1 = pc') (hj : ¬ j < 0 ∧ j < z) (i : Nat) (hi : j.toNatClampNeg = i) (hl : i < vs.length)
    (k : ∀ (T' : State) (h' : Heap), Stand p l e R s m args below meth c T' (locs ++ [⟨a, j.toNatClampNeg⟩]) cells slots → T'.heap = h' → Wr h h' a j.toNatClampNeg (.int x) → Arv Z h' a ka .int z (vs.set i (.int x)) dv → GolF p e below Fe Qf kc ks T' m pc' Ls rest) : GolF p e below Fe Qf kc ks T m pc Ls (.int x :: .int j :: .ref a :: rest) := by
  subst hp
  obtain ⟨cl, Ar, q, S, M, Hs, G⟩ := A
  have hin := inb_of S hj
  obtain ⟨T', h', X', e', W, st⟩ := stI X hx hZ eT Ar (j := j) hin (g := mkF m pc Ls (.int x :: .int j :: .ref a :: rest)) rfl rfl (hb hby hd)
  exact Gol.step st (k T' h' X' e' W (Arv.set Ar q S M Hs G rfl W i hi hl))
theorem Gol.lastore (X : Stand p l e R s m args below meth c T locs cells slots) (hx : p.tables.exec = Jvm.exec) (hby : c.code = code) (hZ : Z.Warmed39 s.vm) (eT : T.heap = h) {a : Addr} {ka : ClassId} {z j : Int32} {x : Int64} {vs : List Value} {dv : Value} (A : Arv Z h a ka .long z vs dv) (hd : decode code pc = .ok (.lastore, 1)) (hp : pc + 1 = pc') (hj : ¬ j < 0 ∧ j < z) (i : Nat) (hi : j.toNatClampNeg = i) (hl : i < vs.length)
    (k : ∀ (T' : State) (h' : Heap), Stand p l e R s m args below meth c T' (locs ++ [⟨a, j.toNatClampNeg⟩]) cells slots → T'.heap = h' → Wr h h' a j.toNatClampNeg (.long x) → Arv Z h' a ka .long z (vs.set i (.long x)) dv → GolF p e below Fe Qf kc ks T' m pc' Ls rest) : GolF p e below Fe Qf kc ks T m pc Ls (.long x :: .int j :: .ref a :: rest) := by
  subst hp
  obtain ⟨cl, Ar, q, S, M, Hs, G⟩ := A
  have hin := inb_of S hj
  obtain ⟨T', h', X', e', W, st⟩ := stJ X hx hZ eT Ar (j := j) hin (g := mkF m pc Ls (.long x :: .int j :: .ref a :: rest)) rfl rfl (hb hby hd)
  exact Gol.step st (k T' h' X' e' W (Arv.set Ar q S M Hs G rfl W i hi hl))
theorem Gol.bastore (X : Stand p l e R s m args below meth c T locs cells slots) (hx : p.tables.exec = Jvm.exec) (hby : c.code = code) (hZ : Z.Warmed39 s.vm) (eT : T.heap = h) {a : Addr} {ka : ClassId} {z j : Int32} {x : Int32} {vs : List Value} {dv : Value} (A : Arv Z h a ka .byte z vs dv) (hd : decode code pc = .ok (.bastore, 1)) (hp : pc + 1 = pc') (hj : ¬ j < 0 ∧ j < z) (i : Nat) (hi : j.toNatClampNeg = i) (hl : i < vs.length)
    (k : ∀ (T' : State) (h' : Heap), Stand p l e R s m args below meth c T' (locs ++ [⟨a, j.toNatClampNeg⟩]) cells slots → T'.heap = h' → Wr h h' a j.toNatClampNeg (.int (nar .byte x)) → Arv Z h' a ka .byte z (vs.set i (.int (nar .byte x))) dv → GolF p e below Fe Qf kc ks T' m pc' Ls rest) : GolF p e below Fe Qf kc ks T m pc Ls (.int x :: .int j :: .ref a :: rest) := by
  subst hp
  obtain ⟨cl, Ar, q, S, M, Hs, G⟩ := A
  have hin := inb_of S hj
  obtain ⟨T', h', X', e', W, st⟩ := stB X hx hZ eT Ar (j := j) hin (g := mkF m pc Ls (.int x :: .int j :: .ref a :: rest)) rfl rfl (hb hby hd)
  exact Gol.step st (k T' h' X' e' W (Arv.set Ar q S M Hs G (fits_nar_byte _) W i hi hl))
theorem Gol.castore (X : Stand p l e R s m args below meth c T locs cells slots) (hx : p.tables.exec = Jvm.exec) (hby : c.code = code) (hZ : Z.Warmed39 s.vm) (eT : T.heap = h) {a : Addr} {ka : ClassId} {z j : Int32} {x : Int32} {vs : List Value} {dv : Value} (A : Arv Z h a ka .char z vs dv) (hd : decode code pc = .ok (.castore, 1)) (hp : pc + 1 = pc') (hj : ¬ j < 0 ∧ j < z) (i : Nat) (hi : j.toNatClampNeg = i) (hl : i < vs.length)
    (k : ∀ (T' : State) (h' : Heap), Stand p l e R s m args below meth c T' (locs ++ [⟨a, j.toNatClampNeg⟩]) cells slots → T'.heap = h' → Wr h h' a j.toNatClampNeg (.int (nar .char x)) → Arv Z h' a ka .char z (vs.set i (.int (nar .char x))) dv → GolF p e below Fe Qf kc ks T' m pc' Ls rest) : GolF p e below Fe Qf kc ks T m pc Ls (.int x :: .int j :: .ref a :: rest) := by
  subst hp
  obtain ⟨cl, Ar, q, S, M, Hs, G⟩ := A
  have hin := inb_of S hj
  obtain ⟨T', h', X', e', W, st⟩ := stC X hx hZ eT Ar (j := j) hin (g := mkF m pc Ls (.int x :: .int j :: .ref a :: rest)) rfl rfl (hb hby hd)
  exact Gol.step st (k T' h' X' e' W (Arv.set Ar q S M Hs G (fits_nar_char _) W i hi hl))
theorem Gol.aastore (X : Stand p l e R s m args below meth c T locs cells slots) (hx : p.tables.exec = Jvm.exec) (hby : c.code = code) (hZ : Z.Warmed39 s.vm) (eT : T.heap = h) {a : Addr} {ka : ClassId} {z j : Int32} {x : Value} {ty : FieldType} {vs : List Value} {dv : Value} (A : Arv Z h a ka ty z vs dv) (hd : decode code pc = .ok (.aastore, 1)) (hp : pc + 1 = pc') (hj : ¬ j < 0 ∧ j < z) (i : Nat) (hi : j.toNatClampNeg = i) (hl : i < vs.length) (ht : ty.isReference = true) (hf : fits ty x = true) (so : ∀ cl : Cell, Arr Z h a cl ty → cl.cls = ka → Sto Z h a x)
    (k : ∀ (T' : State) (h' : Heap), Stand p l e R s m args below meth c T' (locs ++ [⟨a, j.toNatClampNeg⟩]) cells slots → T'.heap = h' → Wr h h' a j.toNatClampNeg x → Arv Z h' a ka ty z (vs.set i x) dv → GolF p e below Fe Qf kc ks T' m pc' Ls rest) : GolF p e below Fe Qf kc ks T m pc Ls (x :: .int j :: .ref a :: rest) := by
  subst hp
  obtain ⟨cl, Ar, q, S, M, Hs, G⟩ := A
  have hin := inb_of S hj
  obtain ⟨T', h', X', e', W, st⟩ := stR X hx hZ eT Ar (j := j) hin ht (so cl Ar q) (g := mkF m pc Ls (x :: .int j :: .ref a :: rest)) rfl rfl (hb hby hd)
  exact Gol.step st (k T' h' X' e' W (Arv.set Ar q S M Hs G hf W i hi hl))
theorem Gol.newarr (X : Stand p l e R s m args below meth c T locs cells slots) (hx : p.tables.exec = Jvm.exec) (hby : c.code = code) (hZ : Z.Warmed39 s.vm) {aty : ArrayType} (w : (Cond.arrayClass (newarray.typeOf aty)).before a0 Z = true) (eT : T.heap = h) {n : Int32} (cap : Nat) (hd : decode code pc = .ok (.newarray aty, 2)) (hp : pc + 2 = pc') (hn : ¬ n < 0) (hcap : n.toNatClampNeg ≤ cap) (hb8 : cap * 8 ≤ 536870912) (hc : cells + 1 ≤ R.cells) (hl : slots + cap ≤ R.slots)
    (k : ∀ (T' : State) (h' : Heap) (ka : ClassId) (b : Addr), b = h.size → Stand p l e R s m args below meth c T' locs (cells + 1) (slots + cap) → T'.heap = h' → Ext h h' → Arv Z h' b ka (newarray.typeOf aty) n [] (defaultValue (newarray.typeOf aty)) → GolF p e below Fe Qf kc ks T' m pc' Ls (.ref b :: rest)) : GolF p e below Fe Qf kc ks T m pc Ls (.int n :: rest) := by
  subst hp
  obtain ⟨T', h', ka, X', e', E, A, st⟩ := newP X hx hZ w eT (g := mkF m pc Ls (.int n :: rest)) rfl (hb hby hd) rfl hn (cap := cap) hcap hb8 hc hl
  exact Gol.step st (k T' h' ka _ rfl X' e' E (Arv.new A hn))
theorem Gol.newref (X : Stand p l e R s m args below meth c T locs cells slots) (hx : p.tables.exec = Jvm.exec) (hby : c.code = code) (hZ : Z.Warmed39 s.vm) {own : String} (hown : s.vm.findClass own = some m.cls) {C : String} {index : Nat} (w1 : (Cond.classLink own index C).before a0 Z = true) (w2 : (Cond.arrayOver (.object C)).before a0 Z = true) (eT : T.heap = h) {n : Int32} (cap : Nat) (hd : decode code pc = .ok (.anewarray index, 3)) (hp : pc + 3 = pc') (hn : ¬ n < 0) (hcap : n.toNatClampNeg ≤ cap) (hb8 : cap * 8 ≤ 536870912) (hc : cells + 1 ≤ R.cells) (hl : slots + cap ≤ R.slots)
    (k : ∀ (T' : State) (h' : Heap) (ka : ClassId) (b : Addr), b = h.size → Stand p l e R s m args below meth c T' locs (cells + 1) (slots + cap) → T'.heap = h' → Ext h h' → Arv Z h' b ka (.object C) n [] .null → Ovr Z ka C → GolF p e below Fe Qf kc ks T' m pc' Ls (.ref b :: rest)) : GolF p e below Fe Qf kc ks T m pc Ls (.int n :: rest) := by
  subst hp
  obtain ⟨T', h', ka, X', e', E, A, O, st⟩ := newR X hx hZ hown w1 w2 eT (g := mkF m pc Ls (.int n :: rest)) rfl (hb hby hd) rfl hn (cap := cap) hcap hb8 hc hl
  exact Gol.step st (k T' h' ka _ rfl X' e' E (Arv.new A hn) O)
theorem Gol.getF (X : Stand p l e R s m args below meth c T locs cells slots) (hx : p.tables.exec = Jvm.exec) (hby : c.code = code) (hZ : Z.Warmed39 s.vm) {own : String} (hown : s.vm.findClass own = some m.cls) {R0 O n d host : String} {index : Nat} (w : (Cond.fieldLink own index R0 n d).before a0 Z = true ∨ (Cond.fieldLinkNest own index R0 n d host).before a0 Z = true) (via : Via Z R0 O n d) (eT : T.heap = h) {a : Addr} {v : Value} (F : Fld Z h a O n d v) (hd : decode code pc = .ok (.getfield index, 3)) (hp : pc + 3 = pc')
    (k : ∀ T' : State, Stand p l e R s m args below meth c T' locs cells slots → T'.heap = h → GolF p e below Fe Qf kc ks T' m pc' Ls (v :: rest)) : GolF p e below Fe Qf kc ks T m pc Ls (.ref a :: rest) := by
  subst hp
  obtain ⟨T', X', e', st⟩ := getF X hx hZ hown (host := host) w via eT F (g := mkF m pc Ls (.ref a :: rest)) rfl rfl (hb hby hd)
  exact Gol.step st (k T' X' e')
theorem Gol.getS (X : Stand p l e R s m args below meth c T locs cells slots) (hx : p.tables.exec = Jvm.exec) (hby : c.code = code) (hZ : Z.Warmed39 s.vm) {own : String} (hown : s.vm.findClass own = some m.cls) {R0 O n d host : String} {index : Nat} (w : (Cond.fieldLink own index R0 n d).before a0 Z = true ∨ (Cond.fieldLinkNest own index R0 n d host).before a0 Z = true) (via : Via Z R0 O n d) (eT : T.heap = h) {v : Value} (F : Sta Z h O n d v) (hd : decode code pc = .ok (.getstatic index, 3)) (hp : pc + 3 = pc')
    (k : ∀ T' : State, Stand p l e R s m args below meth c T' locs cells slots → T'.heap = h → GolF p e below Fe Qf kc ks T' m pc' Ls (v :: rest)) : GolF p e below Fe Qf kc ks T m pc Ls rest := by
  subst hp
  obtain ⟨T', X', e', st⟩ := getS2 X hx hZ hown (host := host) w via eT F (g := mkF m pc Ls rest) rfl (hb hby hd)
  exact Gol.step st (k T' X' e')
theorem Gol.putF (X : Stand p l e R s m args below meth c T locs cells slots) (hx : p.tables.exec = Jvm.exec) (hby : c.code = code) (hZ : Z.Warmed39 s.vm) {own : String} (hown : s.vm.findClass own = some m.cls) {R0 O n d host : String} {index : Nat} (w : (Cond.fieldLink own index R0 n d).before a0 Z = true ∨ (Cond.fieldLinkNest own index R0 n d host).before a0 Z = true) (via : Via Z R0 O n d) (eT : T.heap = h) {C : String} {kk : Nat} {ty : FieldType} {a : Addr} {v old : Value} (F : Fld Z h a O n d old) (E : Exa Z h a C) (L : (Cond.lays C O n d).before a0 Z = true ∨ ((Cond.laysFinal C O n d).before a0 Z = true ∧ own = O ∧ meth.name = "<init>")) (wi : (Cond.instantiable C kk).before a0 Z = true) (hty : parseFieldDescriptor d = some ty) (hn : narrow ty v = v) (hf : fits ty v = true) (hd : decode code pc = .ok (.putfield index, 3)) (hp : pc + 3 = pc')
    (k : ∀ (T' : State) (h' : Heap), Stand p l e R s m args below meth c T' (locs ++ [⟨a, slotOf Z O n d⟩]) cells slots → T'.heap = h' → Wr h h' a (slotOf Z O n d) v → GolF p e below Fe Qf kc ks T' m pc' Ls rest) : GolF p e below Fe Qf kc ks T m pc Ls (v :: .ref a :: rest) := by
  subst hp
  obtain ⟨T', h', X', e', W, st⟩ := putF X hx hZ hown (host := host) w via eT F E L wi hty hn hf (g := mkF m pc Ls (v :: .ref a :: rest)) rfl rfl (hb hby hd)
  exact Gol.step st (k T' h' X' e' W)
theorem Gol.putFN (X : Stand p l e R s m args below meth c T locs cells slots) (hx : p.tables.exec = Jvm.exec) (hby : c.code = code) (hZ : Z.Warmed39 s.vm) {own : String} (hown : s.vm.findClass own = some m.cls) {R0 O n d : String} {index : Nat} (w : (Cond.fieldLink own index R0 n d).before a0 Z = true) (via : Via Z R0 O n d) (eT : T.heap = h) {C : String} {kk : Nat} {ty : FieldType} {a : Addr} {v v' old : Value} (F : Fld Z h a O n d old) (E : Exa Z h a C) (L : (Cond.lays C O n d).before a0 Z = true ∨ ((Cond.laysFinal C O n d).before a0 Z = true ∧ own = O ∧ meth.name = "<init>")) (wi : (Cond.instantiable C kk).before a0 Z = true) (hty : parseFieldDescriptor d = some ty) (hn : narrow ty v = v') (hf : fits ty v' = true) (hd : decode code pc = .ok (.putfield index, 3)) (hp : pc + 3 = pc')
    (k : ∀ (T' : State) (h' : Heap), Stand p l e R s m args below meth c T' (locs ++ [⟨a, slotOf Z O n d⟩]) cells slots → T'.heap = h' → Wr h h' a (slotOf Z O n d) v' → GolF p e below Fe Qf kc ks T' m pc' Ls rest) : GolF p e below Fe Qf kc ks T m pc Ls (v :: .ref a :: rest) := by
  subst hp
  obtain ⟨T', h', X', e', W, st⟩ := putFN X hx hZ hown w via eT F E L wi hty hn hf (g := mkF m pc Ls (v :: .ref a :: rest)) rfl rfl (hb hby hd)
  exact Gol.step st (k T' h' X' e' W)
theorem Gol.newO (X : Stand p l e R s m args below meth c T locs cells slots) (hx : p.tables.exec = Jvm.exec) (hby : c.code = code) (hZ : Z.Warmed39 s.vm) {own : String} (hown : s.vm.findClass own = some m.cls) {C : String} {index n : Nat} (w : (Cond.classLink own index C).before a0 Z = true) (wi : (Cond.instantiable C n).before a0 Z = true) (wz : (Cond.initialized C).before a0 Z = true) (eT : T.heap = h) (hd : decode code pc = .ok (.new index, 3)) (hp : pc + 3 = pc') (hc : cells + 1 ≤ R.cells) (hl : slots + n ≤ R.slots)
    (k : ∀ (T' : State) (h' : Heap) (b : Addr), b = h.size → Stand p l e R s m args below meth c T' locs (cells + 1) (slots + n) → T'.heap = h' → Ext h h' → Exa Z h' b C → (∀ {O nm d : String} {ty : FieldType}, Laid Z a0 C O nm d → parseFieldDescriptor d = some ty → Fld Z h' b O nm d (defaultValue ty)) → GolF p e below Fe Qf kc ks T' m pc' Ls (.ref b :: rest)) : GolF p e below Fe Qf kc ks T m pc Ls rest := by
  subst hp
  obtain ⟨T', h', X', e', E, A, D, -, st⟩ := newO X hx hZ hown w wi wz eT (g := mkF m pc Ls rest) rfl (hb hby hd) hc hl
  exact Gol.step st (k T' h' _ rfl X' e' E A D)
theorem Gol.initO (X : Stand p l e R s m args below meth c T locs cells slots) (hx : p.tables.exec = Jvm.exec) (hby : c.code = code) (hZ : Z.Warmed39 s.vm) {own : String} (hown : s.vm.findClass own = some m.cls) {index : Nat} (w1 : (Cond.methodLink own index Lib.objectInit).before a0 Z = true) (w2 : (Cond.instanceMethod Lib.objectInit).before a0 Z = true) (w3 : (Cond.code Lib.objectInit ⟨#[0xb1]⟩ 1 none).before a0 Z = true) (eT : T.heap = h) (W : Nat) {a : Addr} (hd : decode code pc = .ok (.invokespecial index, 3)) (hp : pc + 3 = pc') (hsz : Ls.size = c.maxLocals) (hf : 1 ≤ R.frames) (hW : (rest.map fun v => v.category).sum ≤ W) (hl : W + 12 ≤ R.locals)
    (k : ∀ T' : State, Stand p l e R s m args below meth c T' locs cells slots → T'.heap = h → GolF p e below Fe Qf kc ks T' m pc' Ls rest) : GolF p e below Fe Qf kc ks T m pc Ls (.ref a :: rest) := by
  subst hp
  obtain ⟨T', X', e', st⟩ := initO X hx hZ hown w1 w2 w3 eT (g := mkF m pc Ls (.ref a :: rest)) rfl hsz rfl (hb hby hd) hf (W := W) (by show 2 * 0 + _ ≤ _; rw [Nat.mul_zero, Nat.zero_add]; exact hW) hl
  exact Gol.step st (k T' X' e')
theorem Gol.castY (X : Stand p l e R s m args below meth c T locs cells slots) (hx : p.tables.exec = Jvm.exec) (hby : c.code = code) (hZ : Z.Warmed39 s.vm) {own : String} (hown : s.vm.findClass own = some m.cls) {K : String} {index : Nat} (w : (Cond.classLink own index K).before a0 Z = true) (eT : T.heap = h) {a : Addr} (F : Ins Z h a K true) (hd : decode code pc = .ok (.checkcast index, 3)) (hp : pc + 3 = pc')
    (k : ∀ T' : State, Stand p l e R s m args below meth c T' locs cells slots → T'.heap = h → GolF p e below Fe Qf kc ks T' m pc' Ls (.ref a :: rest)) : GolF p e below Fe Qf kc ks T m pc Ls (.ref a :: rest) := by
  subst hp
  obtain ⟨T', X', e', st⟩ := castY X hx hZ hown w eT F (g := mkF m pc Ls (.ref a :: rest)) rfl rfl (hb hby hd)
  exact Gol.step st (k T' X' e')
theorem Gol.instY (X : Stand p l e R s m args below meth c T locs cells slots) (hx : p.tables.exec = Jvm.exec) (hby : c.code = code) (hZ : Z.Warmed39 s.vm) {own : String} (hown : s.vm.findClass own = some m.cls) {K : String} {index : Nat} (w : (Cond.classLink own index K).before a0 Z = true) (eT : T.heap = h) {a : Addr} (F : Ins Z h a K true) (hd : decode code pc = .ok (.instanceof index, 3)) (hp : pc + 3 = pc')
    (k : ∀ T' : State, Stand p l e R s m args below meth c T' locs cells slots → T'.heap = h → GolF p e below Fe Qf kc ks T' m pc' Ls (.int 1 :: rest)) : GolF p e below Fe Qf kc ks T m pc Ls (.ref a :: rest) := by
  subst hp
  obtain ⟨T', X', e', st⟩ := instY X hx hZ hown w eT F (g := mkF m pc Ls (.ref a :: rest)) rfl rfl (hb hby hd)
  exact Gol.step st (k T' X' e')
theorem Gol.callS (X : Stand p l e R s m args below meth c T locs cells slots) (hx : p.tables.exec = Jvm.exec) (hby : c.code = code) (hZ : Z.Warmed39 s.vm) {own : String} (hown : s.vm.findClass own = some m.cls) {index : Nat} {y : MethodName} {bytes : ByteArray} {maxL : Nat} {ret : Option FieldType} {rm : Room} {Q : Option Value → Heap → List Loc → Prop} (W : Nat) (argsL : List Value) (wl : (Cond.methodLink own index y).before a0 Z = true) (ws : (Cond.static y).before a0 Z = true) (wz : (Cond.initialized y.cls).before a0 Z = true) (wc : (Cond.code y bytes maxL ret).before a0 Z = true) (hy : y.cls ≠ "java/lang/invoke/MethodHandle" ∧ y.cls ≠ "java/lang/invoke/VarHandle") (hM : MetFree l y (head1 [Cond.code y bytes maxL ret] rm) (fun aa U => aa = argsL.toArray ∧ Z.Warmed39 U.vm ∧ U.heap = h) (fun _ _ _ _ _ => True) (fun _ U o U' => ∃ v L, o = .returned v ∧ Q v U'.heap L ∧ FrameEnd U o U' L rm.cells rm.slots)) (hf : rm.frames + 1 ≤ R.frames) (hl : W + (maxL + 11) + rm.locals ≤ R.locals) (eT : T.heap = h) {st : List Value} (hsz : Ls.size = c.maxLocals) (hW : (rest.map fun v => v.category).sum ≤ W) (hc : cells + rm.cells ≤ R.cells) (hs : slots + rm.slots ≤ R.slots) (hlen : ∀ sig, parseMethodDescriptor y.desc = some sig → argsL.length = sig.parameters.length) (hst : st = argsL.reverse ++ rest) (hd : decode code pc = .ok (.invokestatic index, 3)) (hp : pc + 3 = pc')
    (k : ∀ (T' : State) (v : Option Value) (L : List Loc), Stand p l e R s m args below meth c T' (locs ++ L) (cells + rm.cells) (slots + rm.slots) → Q v T'.heap L → GolF p e below Fe Qf kc ks T' m pc' Ls (v.toList ++ rest)) : GolF p e below Fe Qf kc ks T m pc Ls st := by
  subst hp
  obtain ⟨v, _, ⟨T', L1, k1, n1⟩, -, X', ⟨Lc, hQ, l1, y1, z1⟩, st1⟩ := Jvm.LawKit.callS X hx hown (mvT hZ wl) (mvT hZ ws) (mvT hZ wz) (mvT hZ wc) hy (backOf (W := W) hM hZ wc wz hf hl) (g := mkF m pc Ls st) rfl hsz hlen hst (by show 2 * 0 + _ ≤ _; rw [Nat.mul_zero, Nat.zero_add]; exact hW) (hb hby hd) (fun _ _ => ⟨rfl, eT, hc, hs⟩)
  dsimp only [Pt.U, Pt.locs, Pt.cells, Pt.slots] at X' l1 y1 z1 st1 hQ
  subst l1 y1 z1
  exact Gol.step st1 (k T' v Lc X' hQ)
theorem Gol.callI (X : Stand p l e R s m args below meth c T locs cells slots) (hx : p.tables.exec = Jvm.exec) (hby : c.code = code) (hZ : Z.Warmed39 s.vm) {own : String} (hown : s.vm.findClass own = some m.cls) {index : Nat} {y : MethodName} {bytes : ByteArray} {maxL : Nat} {ret : Option FieldType} {rm : Room} {Q : Option Value → Heap → List Loc → Prop} (W : Nat) (argsL : List Value) {a : Addr} (wl : (Cond.methodLink own index y).before a0 Z = true) (wi : (Cond.instanceMethod y).before a0 Z = true) (wz : (Cond.initialized y.cls).before a0 Z = true) (hrt : ret = none) (wc : (Cond.code y bytes maxL ret).before a0 Z = true) (hn : y.name = "<init>") (hy : y.cls ≠ "java/lang/invoke/MethodHandle" ∧ y.cls ≠ "java/lang/invoke/VarHandle") (hM : MetFree l y (head1 [Cond.code y bytes maxL ret] rm) (fun aa U => aa = (.ref a :: argsL).toArray ∧ Z.Warmed39 U.vm ∧ U.heap = h) (fun _ _ _ _ _ => True) (fun _ U o U' => ∃ v L, o = .returned v ∧ Q v U'.heap L ∧ FrameEnd U o U' L rm.cells rm.slots)) (hf : rm.frames + 1 ≤ R.frames) (hl : W + (maxL + 11) + rm.locals ≤ R.locals) (eT : T.heap = h) {st : List Value} (hsz : Ls.size = c.maxLocals) (hW : (rest.map fun v => v.category).sum ≤ W) (hc : cells + rm.cells ≤ R.cells) (hs : slots + rm.slots ≤ R.slots) (hlen : ∀ sig, parseMethodDescriptor y.desc = some sig → argsL.length = sig.parameters.length) (hst : st = argsL.reverse ++ .ref a :: rest) (hd : decode code pc = .ok (.invokespecial index, 3)) (hp : pc + 3 = pc')
    (k : ∀ (T' : State) (v : Option Value) (L : List Loc), Stand p l e R s m args below meth c T' (locs ++ L) (cells + rm.cells) (slots + rm.slots) → Q v T'.heap L → GolF p e below Fe Qf kc ks T' m pc' Ls (v.toList ++ rest)) : GolF p e below Fe Qf kc ks T m pc Ls st := by
  subst hp hrt
  obtain ⟨v, _, ⟨T', L1, k1, n1⟩, -, X', ⟨Lc, hQ, l1, y1, z1⟩, st1⟩ := X.specialBack hx hn hown (mvT hZ wl) (mvT hZ wi) (mvT hZ wc) hy (backOf (W := W) hM hZ wc wz hf hl) (g := mkF m pc Ls st) rfl hsz (Steps.refl _) (a := a) hlen hst (by show 2 * 0 + _ ≤ _; rw [Nat.mul_zero, Nat.zero_add]; exact hW) (hb hby hd) (fun _ _ => ⟨rfl, eT, hc, hs⟩)
  dsimp only [Pt.U, Pt.locs, Pt.cells, Pt.slots] at X' l1 y1 z1 st1 hQ
  subst l1 y1 z1
  exact Gol.step (fun _ k => st1.trans k) (k T' v Lc X' hQ)
theorem Gol.callV (X : Stand p l e R s m args below meth c T locs cells slots) (hx : p.tables.exec = Jvm.exec) (hby : c.code = code) (hZ : Z.Warmed39 s.vm) {own : String} (hown : s.vm.findClass own = some m.cls) {index : Nat} {y z : MethodName} {C : String} {bytes : ByteArray} {maxL : Nat} {ret : Option FieldType} {rm : Room} {Q : Option Value → Heap → List Loc → Prop} (W : Nat) (argsL : List Value) {a : Addr} (wl : (Cond.methodLink own index y).before a0 Z = true) (wd : (Cond.declares y).before a0 Z = true) (nf : NotFace s y) (wse : (Cond.selects C y z).before a0 Z = true) (wi : (Cond.instanceMethod z).before a0 Z = true) (wz : (Cond.initialized z.cls).before a0 Z = true) (wc : (Cond.code z bytes maxL ret).before a0 Z = true) (hy : y.cls ≠ "java/lang/invoke/MethodHandle" ∧ y.cls ≠ "java/lang/invoke/VarHandle") (E : Exa Z h a C) (hM : MetFree l z (head1 [Cond.code z bytes maxL ret] rm) (fun aa U => aa = (.ref a :: argsL).toArray ∧ Z.Warmed39 U.vm ∧ U.heap = h) (fun _ _ _ _ _ => True) (fun _ U o U' => ∃ v L, o = .returned v ∧ Q v U'.heap L ∧ FrameEnd U o U' L rm.cells rm.slots)) (hf : rm.frames + 1 ≤ R.frames) (hl : W + (maxL + 11) + rm.locals ≤ R.locals) (eT : T.heap = h) {st : List Value} (hsz : Ls.size = c.maxLocals) (hW : (rest.map fun v => v.category).sum ≤ W) (hc : cells + rm.cells ≤ R.cells) (hs : slots + rm.slots ≤ R.slots) (hlen : ∀ sig, parseMethodDescriptor y.desc = some sig → argsL.length = sig.parameters.length) (hst : st = argsL.reverse ++ .ref a :: rest) (hd : decode code pc = .ok (.invokevirtual index, 3)) (hp : pc + 3 = pc')
    (k : ∀ (T' : State) (v : Option Value) (L : List Loc), Stand p l e R s m args below meth c T' (locs ++ L) (cells + rm.cells) (slots + rm.slots) → Q v T'.heap L → GolF p e below Fe Qf kc ks T' m pc' Ls (v.toList ++ rest)) : GolF p e below Fe Qf kc ks T m pc Ls st := by
  subst hp
  obtain ⟨cq, kq, qa, qb, qc⟩ := isOf hZ eT E
  obtain ⟨v, _, ⟨T', L1, k1, n1⟩, -, X', ⟨Lc, hQ, l1, y1, z1⟩, st1⟩ := X.virtualBack hx hown (mvT hZ wl) (mvT hZ wd) nf (mvT hZ wse) (mvT hZ wi) hy (backOf (W := W) hM hZ wc wz hf hl) qa qc (g := mkF m pc Ls st) rfl hsz (Steps.refl _) hlen hst (by show 2 * 0 + _ ≤ _; rw [Nat.mul_zero, Nat.zero_add]; exact hW) (hb hby hd) (fun _ _ => ⟨rfl, eT, hc, hs⟩)
  dsimp only [Pt.U, Pt.locs, Pt.cells, Pt.slots] at X' l1 y1 z1 st1 hQ
  subst l1 y1 z1
  exact Gol.step (fun _ k => st1.trans k) (k T' v Lc X' hQ)
theorem Gol.callF (X : Stand p l e R s m args below meth c T locs cells slots) (hx : p.tables.exec = Jvm.exec) (hby : c.code = code) (hZ : Z.Warmed39 s.vm) {own : String} (hown : s.vm.findClass own = some m.cls) {index count : Nat} {y z : MethodName} {C : String} {bytes : ByteArray} {maxL : Nat} {ret : Option FieldType} {rm : Room} {Q : Option Value → Heap → List Loc → Prop} (W : Nat) (argsL : List Value) {a : Addr} (wl : (Cond.methodLink own index y).before a0 Z = true) (wd : (Cond.declares y).before a0 Z = true) (wf : (Cond.interfaceMethod y.cls y.cls y.name y.desc).before args s = true) (wse : (Cond.selects C y z).before a0 Z = true) (wi : (Cond.instanceMethod z).before a0 Z = true) (wp : (Cond.publicMethod z).before a0 Z = true) (wu : (Cond.unhidden C y.name y.desc).before a0 Z = true) (wt : (Cond.castable C y.cls).before a0 Z = true) (wz : (Cond.initialized z.cls).before a0 Z = true) (wc : (Cond.code z bytes maxL ret).before a0 Z = true) (hy : y.cls ≠ "java/lang/invoke/MethodHandle" ∧ y.cls ≠ "java/lang/invoke/VarHandle") (E : Exa Z h a C) (hM : MetFree l z (head1 [Cond.code z bytes maxL ret] rm) (fun aa U => aa = (.ref a :: argsL).toArray ∧ Z.Warmed39 U.vm ∧ U.heap = h) (fun _ _ _ _ _ => True) (fun _ U o U' => ∃ v L, o = .returned v ∧ Q v U'.heap L ∧ FrameEnd U o U' L rm.cells rm.slots)) (hf : rm.frames + 1 ≤ R.frames) (hl : W + (maxL + 11) + rm.locals ≤ R.locals) (eT : T.heap = h) {st : List Value} (hsz : Ls.size = c.maxLocals) (hW : (rest.map fun v => v.category).sum ≤ W) (hc : cells + rm.cells ≤ R.cells) (hs : slots + rm.slots ≤ R.slots) (hlen : ∀ sig, parseMethodDescriptor y.desc = some sig → argsL.length = sig.parameters.length) (hst : st = argsL.reverse ++ .ref a :: rest) (hd : decode code pc = .ok (.invokeinterface index count, 5)) (hp : pc + 5 = pc')
    (k : ∀ (T' : State) (v : Option Value) (L : List Loc), Stand p l e R s m args below meth c T' (locs ++ L) (cells + rm.cells) (slots + rm.slots) → Q v T'.heap L → GolF p e below Fe Qf kc ks T' m pc' Ls (v.toList ++ rest)) : GolF p e below Fe Qf kc ks T m pc Ls st := by
  subst hp
  obtain ⟨cq, kq, qa, qb, qc⟩ := isOf hZ eT E
  obtain ⟨v, _, ⟨T', L1, k1, n1⟩, -, X', ⟨Lc, hQ, l1, y1, z1⟩, st1⟩ := X.interfaceBack hx hown (mvT hZ wl) (mvT hZ wd) wf (mvT hZ wse) (mvT hZ wi) (mvT hZ wp) (mvT hZ wu) (mvT hZ wt) hy (backOf (W := W) hM hZ wc wz hf hl) qa qb qc (g := mkF m pc Ls st) rfl hsz (Steps.refl _) hlen hst (by show 2 * 0 + _ ≤ _; rw [Nat.mul_zero, Nat.zero_add]; exact hW) (hb hby hd) (fun _ _ => ⟨rfl, eT, hc, hs⟩)
  dsimp only [Pt.U, Pt.locs, Pt.cells, Pt.slots] at X' l1 y1 z1 st1 hQ
  subst l1 y1 z1
  exact Gol.step (fun _ k => st1.trans k) (k T' v Lc X' hQ)
theorem Gol.callP (X : Stand p l e R s m args below meth c T locs cells slots) (hx : p.tables.exec = Jvm.exec) (hby : c.code = code) (hZ : Z.Warmed39 s.vm) {own : String} (hown : s.vm.findClass own = some m.cls) {index : Nat} {y : MethodName} {C : String} {bytes : ByteArray} {maxL : Nat} {ret : Option FieldType} {rm : Room} {Q : Option Value → Heap → List Loc → Prop} (W : Nat) (argsL : List Value) {a : Addr} (wl : (Cond.methodLink own index y).before a0 Z = true) (wi : (Cond.instanceMethod y).before a0 Z = true) (wse : (Cond.selects y.cls y y).before a0 Z = true) (wp : (Cond.privateMethod y).before a0 Z = true) (wz : (Cond.initialized y.cls).before a0 Z = true) (wc : (Cond.code y bytes maxL ret).before a0 Z = true) (hy : y.cls ≠ "java/lang/invoke/MethodHandle" ∧ y.cls ≠ "java/lang/invoke/VarHandle") (E : Exa Z h a C) (hM : MetFree l y (head1 [Cond.code y bytes maxL ret] rm) (fun aa U => aa = (.ref a :: argsL).toArray ∧ Z.Warmed39 U.vm ∧ U.heap = h) (fun _ _ _ _ _ => True) (fun _ U o U' => ∃ v L, o = .returned v ∧ Q v U'.heap L ∧ FrameEnd U o U' L rm.cells rm.slots)) (hf : rm.frames + 1 ≤ R.frames) (hl : W + (maxL + 11) + rm.locals ≤ R.locals) (eT : T.heap = h) {st : List Value} (hsz : Ls.size = c.maxLocals) (hW : (rest.map fun v => v.category).sum ≤ W) (hc : cells + rm.cells ≤ R.cells) (hs : slots + rm.slots ≤ R.slots) (hlen : ∀ sig, parseMethodDescriptor y.desc = some sig → argsL.length = sig.parameters.length) (hst : st = argsL.reverse ++ .ref a :: rest) (hd : decode code pc = .ok (.invokevirtual index, 3)) (hp : pc + 3 = pc')
    (k : ∀ (T' : State) (v : Option Value) (L : List Loc), Stand p l e R s m args below meth c T' (locs ++ L) (cells + rm.cells) (slots + rm.slots) → Q v T'.heap L → GolF p e below Fe Qf kc ks T' m pc' Ls (v.toList ++ rest)) : GolF p e below Fe Qf kc ks T m pc Ls st := by
  subst hp
  obtain ⟨cq, qa, qb⟩ := E.cell
  obtain ⟨v, _, ⟨T', L1, k1, n1⟩, -, X', ⟨Lc, hQ, l1, y1, z1⟩, st1⟩ := X.privateBack hx hown (mvT hZ wl) (mvT hZ wi) (mvT hZ wse) (Cond.privateMethod_at (mvP hZ wp (args := #[]))) (mvT hZ wc) hy (backOf (W := W) hM hZ wc wz hf hl) (g := mkF m pc Ls st) rfl hsz (Steps.refl _) (a := a) (by rw [eT]; exact qa) qb hlen hst (by show 2 * 0 + _ ≤ _; rw [Nat.mul_zero, Nat.zero_add]; exact hW) (hb hby hd) (fun _ _ => ⟨rfl, eT, hc, hs⟩)
  dsimp only [Pt.U, Pt.locs, Pt.cells, Pt.slots] at X' l1 y1 z1 st1 hQ
  subst l1 y1 z1
  exact Gol.step (fun _ k => st1.trans k) (k T' v Lc X' hQ)
theorem Gol.callB (X : Stand p l e R s m args below meth c T locs cells slots) (hx : p.tables.exec = Jvm.exec) (hby : c.code = code) (hZ : Z.Warmed39 s.vm) {own : String} (hown : s.vm.findClass own = some m.cls) {index : Nat} {y : MethodName} {bytes : ByteArray} {maxL : Nat} {Q : Option Value → Heap → List Loc → Prop} (W : Nat) (argsL : List Value) {a : Addr} {ck cn : Nat} (wl : (Cond.methodLink own index y).before a0 Z = true) (wi : (Cond.instanceMethod y).before a0 Z = true) (wc : (Cond.code y bytes maxL none).before a0 Z = true) (hn : y.name = "<init>") (hy : y.cls ≠ "java/lang/invoke/MethodHandle" ∧ y.cls ≠ "java/lang/invoke/VarHandle")
    (hK : Back l R p e below s args y 3 W (fun A aa => aa = (.ref a :: argsL).toArray ∧ A.U.heap = h ∧ A.cells + ck ≤ R.cells ∧ A.slots + cn ≤ R.slots) (fun A _ v B => ∃ L, Q v B.U.heap L ∧ B.locs = A.locs ++ L ∧ B.cells = A.cells + ck ∧ B.slots = A.slots + cn)) (eT : T.heap = h) {st : List Value} (hsz : Ls.size = c.maxLocals) (hW : (rest.map fun v => v.category).sum ≤ W) (hc : cells + ck ≤ R.cells) (hs : slots + cn ≤ R.slots) (hlen : ∀ sig, parseMethodDescriptor y.desc = some sig → argsL.length = sig.parameters.length) (hst : st = argsL.reverse ++ .ref a :: rest) (hd : decode code pc = .ok (.invokespecial index, 3)) (hp : pc + 3 = pc')
    (k : ∀ (T' : State) (v : Option Value) (L : List Loc), Stand p l e R s m args below meth c T' (locs ++ L) (cells + ck) (slots + cn) → Q v T'.heap L → GolF p e below Fe Qf kc ks T' m pc' Ls (v.toList ++ rest)) : GolF p e below Fe Qf kc ks T m pc Ls st := by
  subst hp
  obtain ⟨v, _, ⟨T', L1, k1, n1⟩, -, X', ⟨Lc, hQ, l1, y1, z1⟩, st1⟩ := X.specialBack hx hn hown (mvT hZ wl) (mvT hZ wi) (mvT hZ wc) hy hK (g := mkF m pc Ls st) rfl hsz (Steps.refl _) (a := a) hlen hst (by show 2 * 0 + _ ≤ _; rw [Nat.mul_zero, Nat.zero_add]; exact hW) (hb hby hd) (fun _ _ => ⟨rfl, eT, hc, hs⟩)
  dsimp only [Pt.U, Pt.locs, Pt.cells, Pt.slots] at X' l1 y1 z1 st1 hQ
  subst l1 y1 z1
  exact Gol.step (fun _ k => st1.trans k) (k T' v Lc X' hQ)
theorem Gol.retN (X : Stand p l e R s m args below meth c T locs cells slots) (hx : p.tables.exec = Jvm.exec) (hby : c.code = code) {z : Int32} {t : FieldType} (hret : meth.sig.returnType = some t) (ht : t = .boolean ∨ t = .byte ∨ t = .char ∨ t = .short) (hlk : meth.locks = false) (hd : decode code pc = .ok (.ireturn, 1)) (eT : T.heap = h) (hq : Qf (some (.int (nar t z))) h locs) (hc : cells ≤ kc) (hs : slots ≤ ks) : GolF p e below (FrameEnd s) Qf kc ks T m pc Ls (.int z :: rest) :=
  Gol.fin X (fun h => by rw [hret] at h; cases h) hlk eT hq hc hs fun fs hr => Jvm.RoadKit.retN X hx hret ht (hb hby hd) hr
theorem Gol.retI (X : Stand p l e R s m args below meth c T locs cells slots) (hx : p.tables.exec = Jvm.exec) (hby : c.code = code) {z : Int32} (hret : meth.sig.returnType = some .int) (hlk : meth.locks = false) (hd : decode code pc = .ok (.ireturn, 1)) (eT : T.heap = h) (hq : Qf (some (.int z)) h locs) (hc : cells ≤ kc) (hs : slots ≤ ks) : GolF p e below (FrameEnd s) Qf kc ks T m pc Ls (.int z :: rest) :=
  Gol.fin X (fun h => by rw [hret] at h; cases h) hlk eT hq hc hs fun fs hr => Jvm.RoadKit.retOut X hx hret rfl (Or.inl ⟨rfl, Or.inl rfl, _, rfl⟩) (hb hby hd) hr
theorem Gol.retL (X : Stand p l e R s m args below meth c T locs cells slots) (hx : p.tables.exec = Jvm.exec) (hby : c.code = code) {z : Int64} (hret : meth.sig.returnType = some .long) (hlk : meth.locks = false) (hd : decode code pc = .ok (.lreturn, 1)) (eT : T.heap = h) (hq : Qf (some (.long z)) h locs) (hc : cells ≤ kc) (hs : slots ≤ ks) : GolF p e below (FrameEnd s) Qf kc ks T m pc Ls (.long z :: rest) :=
  Gol.fin X (fun h => by rw [hret] at h; cases h) hlk eT hq hc hs fun fs hr => Jvm.RoadKit.retOut X hx hret rfl (Or.inr (Or.inl ⟨rfl, rfl, _, rfl⟩)) (hb hby hd) hr
theorem Gol.retA (X : Stand p l e R s m args below meth c T locs cells slots) (hx : p.tables.exec = Jvm.exec) (hby : c.code = code) {w : Value} {t : FieldType} (hret : meth.sig.returnType = some t) (ht : t.isReference = true) (hw : w.isRef = true) (hlk : meth.locks = false) (hd : decode code pc = .ok (.areturn, 1)) (eT : T.heap = h) (hq : Qf (some w) h locs) (hc : cells ≤ kc) (hs : slots ≤ ks) : GolF p e below (FrameEnd s) Qf kc ks T m pc Ls (w :: rest) :=
  Gol.fin X (fun h => by rw [hret] at h; cases h) hlk eT hq hc hs fun fs hr => Jvm.RoadKit.retOut X hx hret (by rcases ref_cases hw with rfl | ⟨a, rfl⟩ <;> cases t <;> first | rfl | (simp [FieldType.isReference] at ht)) (Or.inr (Or.inr (Or.inr (Or.inr ⟨rfl, ht, hw⟩)))) (hb hby hd) hr
theorem Gol.ret0 (X : Stand p l e R s m args below meth c T locs cells slots) (hx : p.tables.exec = Jvm.exec) (hby : c.code = code) (hret : meth.sig.returnType = none) (hlk : meth.locks = false) (hd : decode code pc = .ok (.return_, 1)) (eT : T.heap = h) (hq : Qf none h locs) (hc : cells ≤ kc) (hs : slots ≤ ks) : GolF p e below (FrameEnd s) Qf kc ks T m pc Ls [] :=
  Gol.fin X (fun _ => rfl) hlk eT hq hc hs fun fs hr => X.returnOut hx hret (hb hby hd) hr
theorem Gol.retNW {vm₁ : Vm} (X : Stand p l e R (s.setVm vm₁) m args below meth c T locs cells slots) (hx : p.tables.exec = Jvm.exec) (hby : c.code = code) {n : Nat} (hS : s.Since vm₁ n) (hn : n ≤ h.size) {z : Int32} {t : FieldType} (hret : meth.sig.returnType = some t) (ht : t = .boolean ∨ t = .byte ∨ t = .char ∨ t = .short) (hlk : meth.locks = false) (hd : decode code pc = .ok (.ireturn, 1)) (eT : T.heap = h) (hq : Qf (some (.int (nar t z))) h locs) (hc : cells ≤ kc) (hs : slots ≤ ks) : GolF p e below (ReturnedEndW s) Qf kc ks T m pc Ls (.int z :: rest) :=
  Gol.finW X hS (eT ▸ hn) (fun h => by rw [hret] at h; cases h) hlk eT hq hc hs fun fs hr => Jvm.RoadKit.retN X hx hret ht (hb hby hd) hr
theorem Gol.ldcStr {vm₁ : Vm} (X : Stand p l e R (s.setVm vm₁) m args below meth c T locs cells slots) (hx : p.tables.exec = Jvm.exec) (hby : c.code = code) {own text : String} {index : Nat} (hZ : Z.Warmed39 vm₁) (hown : vm₁.findClass own = some m.cls) (w : (Cond.stringLink own index text).before a0 Z = true) (wS : ∀ a ∈ Bundle.stringAtoms, a.before a0 Z = true) (eT : T.heap = h) {k0 : Nat} (hS : s.Since vm₁ k0) (hk : k0 ≤ h.size) (n : Nat) (hd : decode code pc = .ok (.ldc index, 2)) (hp : pc + 2 = pc') (hn : 4 * text.toList.length ≤ n) (hbig : n ≤ 536870912) (hc : cells + 2 ≤ R.cells) (hl : slots + (n + 4) ≤ R.slots)
    (k : ∀ (a : Addr) (T' : State) (h' : Heap) (k1 : Nat), Stand p l e R (s.setVm T'.vm) m args below meth c T' locs (cells + 2) (slots + (n + 4)) → T'.heap = h' → Ext h h' → s.Since T'.vm k1 → k1 ≤ h'.size → Z.Warmed39 (s.setVm T'.vm).vm → (s.setVm T'.vm).vm.findClass own = some m.cls → GolF p e below Fe Qf kc ks T' m pc' Ls (.ref a :: rest)) : GolF p e below Fe Qf kc ks T m pc Ls rest := by
  subst hp
  obtain ⟨a, T', h', k1, X', e', E, S', K', Z', O', st⟩ := ldcS X hx hZ hown w wS eT hS hk (g := mkF m pc Ls rest) rfl (hb hby hd) (n := n) hn hbig hc hl
  exact Gol.step st (k a T' h' k1 X' e' E S' K' Z' O')
theorem nar_ite {P : Prop} [Decidable P] {a b : Int32} (ha : nar .boolean a = a) (hb : nar .boolean b = b) : nar .boolean (if P then a else b) = (if P then a else b) := by
  split <;> assumption
theorem tltL {x y : Int64} (h : x < y) : ifCond.holds .lt (XT.cmpL x y) = true ∧ ifCond.holds .ge (XT.cmpL x y) = false := by
  have h1 : ¬ y < x := fun q => Int64.lt_irrefl (Int64.lt_trans h q)
  have h2 : ¬ x = y := fun q => Int64.lt_irrefl (q ▸ h)
  simp [XT.cmpL, h1, h2, ifCond.holds]
theorem fltL {x y : Int64} (h : ¬ x < y) : ifCond.holds .lt (XT.cmpL x y) = false ∧ ifCond.holds .ge (XT.cmpL x y) = true := by
  by_cases h1 : y < x
  · simp [XT.cmpL, h1, ifCond.holds]
  · have h2 : x = y := Int64.le_antisymm (Int64.not_lt.mp h1) (Int64.not_lt.mp h)
    simp [XT.cmpL, h2, ifCond.holds, Int64.lt_irrefl]
theorem tgtL {x y : Int64} (h : y < x) : ifCond.holds .gt (XT.cmpL x y) = true ∧ ifCond.holds .le (XT.cmpL x y) = false := by
  simp [XT.cmpL, h, ifCond.holds]
theorem fgtL {x y : Int64} (h : ¬ y < x) : ifCond.holds .gt (XT.cmpL x y) = false ∧ ifCond.holds .le (XT.cmpL x y) = true := by
  by_cases h2 : x = y <;> simp [XT.cmpL, h, h2, ifCond.holds, Int64.lt_irrefl]
theorem teqL {x y : Int64} (h : x = y) : ifCond.holds .eq (XT.cmpL x y) = true ∧ ifCond.holds .ne (XT.cmpL x y) = false := by
  subst h; simp [XT.cmpL, Int64.lt_irrefl, ifCond.holds]
theorem feqL {x y : Int64} (h : ¬ x = y) : ifCond.holds .eq (XT.cmpL x y) = false ∧ ifCond.holds .ne (XT.cmpL x y) = true := by
  by_cases h1 : y < x <;> simp [XT.cmpL, h, h1, ifCond.holds]
end Own
end Jvm.RoadKit
/- laws to paste: Road.backV (cut by pick.py; bodies as the Statement names them) -/
namespace Jvm.Pilot.@@N@@
namespace StrChars
open Jvm Sem ClassFile Op Lib Jvm.Stand Jvm.Free.XT Jvm.Free.ALB Jvm.Free.JM Jvm.Free
open Jvm.Lib.Cold (StaticIs)
/-- a char array whose places are chars -/
def Ch (a : Addr) (A : Cell) (U : State) : Prop := Arr .char a A U ∧ Typed .char A
theorem Ch.mv {a : Addr} {A : Cell} {U U' : State} (h : Ch a A U) (hal : U.vm.Alike U'.vm) (hh : U'.heap = U.heap) : Ch a A U' := ⟨h.1.mv hal hh, h.2⟩
theorem Ch.keep {a : Addr} {A : Cell} {U U' : State} (h : Ch a A U) (hal : U.vm.Alike U'.vm) (hk : U'.heap[a]? = some A) : Ch a A U' := ⟨h.1.keep hal hk, h.2⟩
/-- what place i of a char[]'s cell holds -/
def cv (A : Cell) (i : Nat) : Int32 := match A.slots[i]? with | some (.int x) => x | _ => 0
theorem Ch.get {a : Addr} {A : Cell} {U : State} (h : Ch a A U) {i : Nat} (hi : i < A.slots.size) : A.slots[i]? = some (.int (cv A i)) := by
  have e := Array.getElem?_eq_getElem hi
  have f := h.2 i _ e
  unfold cv; rw [e]
  generalize A.slots[i] = v at f
  cases v <;> simp [fits] at f ⊢
/-- the byte that i2b leaves of a char -/
def lo8 (x : Int32) : Int32 := x.toInt8.toInt32
theorem fits_lo8 (y : Int32) : fits .byte (.int (lo8 y)) = true := by
  have h1 := y.toInt8.le_toInt
  have h2 := y.toInt8.toInt_lt
  simp only [lo8, fits, Bool.and_eq_true, decide_eq_true_eq, Int32.le_iff_toInt_le, Int8.toInt_toInt32, show (-128 : Int32).toInt = -128 from by decide, show (127 : Int32).toInt = 127 from by decide]
  omega
/-- A' is A but that each place j of lo .. hi - 1 holds f j -/
def Laid (A A' : Cell) (lo hi : Nat) (f : Nat → Value) : Prop := A'.cls = A.cls ∧ A'.vm = A.vm ∧ A'.slots.size = A.slots.size ∧ ∀ i, A'.slots[i]? = if lo ≤ i ∧ i < hi then some (f i) else A.slots[i]?
theorem Laid.zero (A : Cell) (lo : Nat) (f : Nat → Value) : Laid A A lo (lo + 0) f := ⟨rfl, rfl, rfl, fun i => by rw [if_neg (by omega)]⟩
theorem Laid.step {A Ak : Cell} {lo k : Nat} {f : Nat → Value} {v : Value} (h : Laid A Ak lo k f) (hlo : lo ≤ k) (hk : k < Ak.slots.size) (hv : v = f k) : Laid A (Ak.setSlot k v) lo (k + 1) f := by
  refine ⟨h.1, h.2.1, by simpa [Cell.setSlot] using h.2.2.1, fun i => ?_⟩
  by_cases e : k = i
  · subst e; rw [Cell.slots_setSlot_self v hk, if_pos (by omega), hv]
  · rw [Cell.slots_setSlot_ne v e, h.2.2.2 i]
    by_cases q : lo ≤ i ∧ i < k
    · rw [if_pos q, if_pos (by omega)]
    · rw [if_neg q, if_neg (by omega)]
def U16 : String := "java/lang/StringUTF16"
namespace Cmp5
def yN : MethodName := ⟨"java/lang/StringUTF16", "compress", "([CI[BII)I"⟩
abbrev yB : ByteArray := jdk_52_method_21_code
theorem d0 : decode yB 0 = .ok (.iconst 0, 1) := by decide +kernel
theorem d1 : decode yB 1 = .ok (.istore 5, 2) := by decide +kernel
theorem d3 : decode yB 3 = .ok (.iload 5, 2) := by decide +kernel
theorem d5 : decode yB 5 = .ok (.iload 4, 2) := by decide +kernel
theorem d7 : decode yB 7 = .ok (.if_icmp (.ge) 37, 3) := by decide +kernel
theorem d10 : decode yB 10 = .ok (.aload_n 0, 1) := by decide +kernel
theorem d11 : decode yB 11 = .ok (.iload_n 1, 1) := by decide +kernel
theorem d12 : decode yB 12 = .ok (.caload, 1) := by decide +kernel
theorem d13 : decode yB 13 = .ok (.istore 6, 2) := by decide +kernel
theorem d15 : decode yB 15 = .ok (.iload 6, 2) := by decide +kernel
theorem d17 : decode yB 17 = .ok (.sipush 255, 3) := by decide +kernel
theorem d20 : decode yB 20 = .ok (.if_icmp (.le) 6, 3) := by decide +kernel
theorem d26 : decode yB 26 = .ok (.aload_n 2, 1) := by decide +kernel
theorem d27 : decode yB 27 = .ok (.iload_n 3, 1) := by decide +kernel
theorem d28 : decode yB 28 = .ok (.iload 6, 2) := by decide +kernel
theorem d30 : decode yB 30 = .ok (.i2b, 1) := by decide +kernel
theorem d31 : decode yB 31 = .ok (.bastore, 1) := by decide +kernel
theorem d32 : decode yB 32 = .ok (.iinc 1 1, 3) := by decide +kernel
theorem d35 : decode yB 35 = .ok (.iinc 3 1, 3) := by decide +kernel
theorem d38 : decode yB 38 = .ok (.iinc 5 1, 3) := by decide +kernel
theorem d41 : decode yB 41 = .ok (.goto (-38), 3) := by decide +kernel
theorem d44 : decode yB 44 = .ok (.iload 4, 2) := by decide +kernel
theorem d46 : decode yB 46 = .ok (.ireturn, 1) := by decide +kernel
def site : List Cond := []
def tab : Cond := tabOf yN yB 7 (some .int) site
def P (b : Addr) (A : Cell) (d : Addr) (B : Cell) (o q len : Nat) (args : Array Value) (s : State) : Prop := args = #[.ref b, .int (Int32.ofNat o), .ref d, .int (Int32.ofNat q), .int (Int32.ofNat len)] ∧ Ch b A s ∧ Arr .byte d B s ∧ b ≠ d ∧ o + len ≤ A.slots.size ∧ q + len ≤ B.slots.size ∧ ∀ i, i < len → ¬ 255 < cv A (o + i)
def E (b : Addr) (A : Cell) (d : Addr) (B : Cell) (o q len : Nat) (r : Option Value) (s u : State) : Prop := r = some (.int (Int32.ofNat len)) ∧ ∃ B', Put d B' s u ∧ Laid B B' q (q + len) (fun j => Value.int (lo8 (cv A (o + (j - q)))))
/-- no char of the range above 255: len; the places written hold each char's low byte -/
theorem law (l : Launch) (b : Addr) (A : Cell) (d : Addr) (B : Cell) (o q len : Nat) : Law l yN 5 5 0 0 yB 7 (some .int) site (P b A d B o q len) (E b A d B o q len) (copyLocs d q len) 0 0 := by
  refine Law.of_walk (plainFor_of_name (by decide +kernel)) (by decide +kernel) (by decide +kernel) (by decide) (fun _ _ h => by rw [h.1]; rfl) (fun _ U U' hal hh h => ⟨h.1, h.2.1.mv hal hh, h.2.2.1.mv hal hh, h.2.2.2⟩) (fun r U U' V V' h1 hal h2 h => ⟨h.1, h.2.elim fun B' q => ⟨B', q.1.mv h1 h2, q.2⟩⟩) ?_
  intro p e s m args below meth c s₁ X0 hexec hbytes hml hret hlk hnm hown hh0 W hP
  obtain ⟨rfl, hA, hB, hne, l1, l2, hp⟩ := hP
  have c1 : Steps p.tables e below (s₁.setTop (entryFrame m #[.ref b, .int (Int32.ofNat o), .ref d, .int (Int32.ofNat q), .int (Int32.ofNat len)] 7)) (s₁.setTop (mkF m 0 #[.val (.ref b), .val (.int (Int32.ofNat o)), .val (.ref d), .val (.int (Int32.ofNat q)), .val (.int (Int32.ofNat len)), .unset, .unset] [])) := entry rfl
  have hA0 := hA.1.mv X0.warmed.alike hh0
  have hB0 := hB.mv X0.warmed.alike hh0
  have a31 := hA.1.2.2.2
  have c2 : Steps p.tables e below (s₁.setTop (entryFrame m #[.ref b, .int (Int32.ofNat o), .ref d, .int (Int32.ofNat q), .int (Int32.ofNat len)] 7)) (s₁.setTop (mkF m 3 #[.val (.ref b), .val (.int (Int32.ofNat o)), .val (.ref d), .val (.int (Int32.ofNat q)), .val (.int (Int32.ofNat len)), .val (.int 0), .unset] [])) := c1.trans (by
    refine iconstV X0.here hexec rfl 0 (hb hbytes d0) (by decide) ?_
    refine XS.istore X0.here hexec rfl (hb hbytes d1) rfl rfl ?_
    exact Steps.refl _)
  have loop : ∀ (r i : Nat), i + r = len → ∀ (z : Slot), (z = .unset ∨ ∃ w, z = .val w ∧ w.category = 1) → ∀ (Tl : State) (Bk : Cell), Stand p l e { frames := 0, locals := 0, cells := 0, slots := 0 } s m #[.ref b, .int (Int32.ofNat o), .ref d, .int (Int32.ofNat q), .int (Int32.ofNat len)] below meth c Tl ([] ++ copyLocs d q i) 0 0 → Put d Bk s₁ Tl → Laid B Bk q (q + i) (fun j => Value.int (lo8 (cv A (o + (j - q))))) →
      Steps p.tables e below (s₁.setTop (entryFrame m #[.ref b, .int (Int32.ofNat o), .ref d, .int (Int32.ofNat q), .int (Int32.ofNat len)] 7)) (Tl.setTop (mkF m 3 #[.val (.ref b), .val (.int (Int32.ofNat (o + i))), .val (.ref d), .val (.int (Int32.ofNat (q + i))), .val (.int (Int32.ofNat len)), .val (.int (Int32.ofNat i)), z] [])) → ∃ (T' : State) (B' : Cell) (z' : Slot), Stand p l e { frames := 0, locals := 0, cells := 0, slots := 0 } s m #[.ref b, .int (Int32.ofNat o), .ref d, .int (Int32.ofNat q), .int (Int32.ofNat len)] below meth c T' ([] ++ copyLocs d q len) 0 0 ∧ Put d B' s₁ T' ∧ Laid B B' q (q + len) (fun j => Value.int (lo8 (cv A (o + (j - q))))) ∧
      Steps p.tables e below (s₁.setTop (entryFrame m #[.ref b, .int (Int32.ofNat o), .ref d, .int (Int32.ofNat q), .int (Int32.ofNat len)] 7)) (T'.setTop (mkF m 3 #[.val (.ref b), .val (.int (Int32.ofNat (o + len))), .val (.ref d), .val (.int (Int32.ofNat (q + len))), .val (.int (Int32.ofNat len)), .val (.int (Int32.ofNat len)), z'] [])) := by
    intro r
    induction r with
    | zero =>
      intro i hi z hz Tl Bk Xl pl fl cl
      have hil : i = len := by omega
      rw [hil] at Xl fl cl
      exact ⟨Tl, Bk, z, Xl, pl, fl, cl⟩
    | succ r ih =>
      intro i hi z hz Tl Bk Xl pl fl cl
      have all := X0.warmed.alike.symm.trans Xl.warmed.alike
      have hAl := hA0.keep all (pl.other hne hA0.1)
      have hBk := hB0.like all pl.1 fl.1 fl.2.1 fl.2.2.1
      have hlt : q + i < Bk.slots.size := by rw [fl.2.2.1]; omega
      have c3 : Steps p.tables e below (s₁.setTop (entryFrame m #[.ref b, .int (Int32.ofNat o), .ref d, .int (Int32.ofNat q), .int (Int32.ofNat len)] 7)) (Tl.setTop (mkF m 12 #[.val (.ref b), .val (.int (Int32.ofNat (o + i))), .val (.ref d), .val (.int (Int32.ofNat (q + i))), .val (.int (Int32.ofNat len)), .val (.int (Int32.ofNat i)), z] [.int (Int32.ofNat (o + i)), .ref b])) := cl.trans (by
        refine XS.iload Xl.here hexec rfl (hb hbytes d3) rfl ?_
        refine XS.iload Xl.here hexec rfl (hb hbytes d5) rfl ?_
        refine XS.icmpNo Xl.here hexec rfl (hb hbytes d7) rfl (ii_ge_f (lt32 (by omega) (by omega))) ?_
        refine XS.aloadN Xl.here hexec rfl (hb hbytes d10) rfl rfl ?_
        refine XS.iloadN Xl.here hexec rfl (hb hbytes d11) rfl ?_
        exact Steps.refl _)
      have c4 : Steps p.tables e below (s₁.setTop (entryFrame m #[.ref b, .int (Int32.ofNat o), .ref d, .int (Int32.ofNat q), .int (Int32.ofNat len)] 7)) (Tl.setTop (mkF m 13 #[.val (.ref b), .val (.int (Int32.ofNat (o + i))), .val (.ref d), .val (.int (Int32.ofNat (q + i))), .val (.int (Int32.ofNat len)), .val (.int (Int32.ofNat i)), z] [.int (cv A (o + i))])) := c3.trans (by
        refine Xl.aget hexec hAl rfl (hA.get (i := o + i) (by omega)) rfl rfl (hb hbytes d12) ?_
        exact Steps.refl _)
      have c5 : Steps p.tables e below (s₁.setTop (entryFrame m #[.ref b, .int (Int32.ofNat o), .ref d, .int (Int32.ofNat q), .int (Int32.ofNat len)] 7)) (Tl.setTop (mkF m 15 #[.val (.ref b), .val (.int (Int32.ofNat (o + i))), .val (.ref d), .val (.int (Int32.ofNat (q + i))), .val (.int (Int32.ofNat len)), .val (.int (Int32.ofNat i)), .val (.int (cv A (o + i)))] [])) := c4.trans (by
        refine XS.istoreS Xl.here hexec rfl (hb hbytes d13) rfl rfl hz ?_
        exact Steps.refl _)
      have c6 : Steps p.tables e below (s₁.setTop (entryFrame m #[.ref b, .int (Int32.ofNat o), .ref d, .int (Int32.ofNat q), .int (Int32.ofNat len)] 7)) (Tl.setTop (mkF m 31 #[.val (.ref b), .val (.int (Int32.ofNat (o + i))), .val (.ref d), .val (.int (Int32.ofNat (q + i))), .val (.int (Int32.ofNat len)), .val (.int (Int32.ofNat i)), .val (.int (cv A (o + i)))] [.int (lo8 (cv A (o + i))), .int (Int32.ofNat (q + i)), .ref d])) := c5.trans (by
        refine XS.iload Xl.here hexec rfl (hb hbytes d15) rfl ?_
        refine sipushV Xl.here hexec rfl 255 (hb hbytes d17) (by decide) ?_
        refine XS.icmpYes Xl.here hexec rfl (pc0 := 20) rfl (hb hbytes d20) rfl (ii_le_t (hp i (by omega))) (by decide) rfl ?_
        refine XS.aloadN Xl.here hexec rfl (hb hbytes d26) rfl rfl ?_
        refine XS.iloadN Xl.here hexec rfl (hb hbytes d27) rfl ?_
        refine XS.iload Xl.here hexec rfl (hb hbytes d28) rfl ?_
        refine i2b Xl.here hexec rfl (hb hbytes d30) rfl ?_
        exact Steps.refl _)
      obtain ⟨T7, X7, p7, st7⟩ := Xl.aput hexec hBk rfl hlt rfl (fits_lo8 (cv A (o + i))) (g := (mkF m 31 #[.val (.ref b), .val (.int (Int32.ofNat (o + i))), .val (.ref d), .val (.int (Int32.ofNat (q + i))), .val (.int (Int32.ofNat len)), .val (.int (Int32.ofNat i)), .val (.int (cv A (o + i)))] [.int (lo8 (cv A (o + i))), .int (Int32.ofNat (q + i)), .ref d])) rfl (rest := []) rfl (hb hbytes d31)
      have c8 : Steps p.tables e below (s₁.setTop (entryFrame m #[.ref b, .int (Int32.ofNat o), .ref d, .int (Int32.ofNat q), .int (Int32.ofNat len)] 7)) (T7.setTop (mkF m 32 #[.val (.ref b), .val (.int (Int32.ofNat (o + i))), .val (.ref d), .val (.int (Int32.ofNat (q + i))), .val (.int (Int32.ofNat len)), .val (.int (Int32.ofNat i)), .val (.int (cv A (o + i)))] [])) := c6.trans (st7 _ (Steps.refl _))
      have c9 : Steps p.tables e below (s₁.setTop (entryFrame m #[.ref b, .int (Int32.ofNat o), .ref d, .int (Int32.ofNat q), .int (Int32.ofNat len)] 7)) (T7.setTop (mkF m 3 #[.val (.ref b), .val (.int (Int32.ofNat (o + i) + 1)), .val (.ref d), .val (.int (Int32.ofNat (q + i) + 1)), .val (.int (Int32.ofNat len)), .val (.int (Int32.ofNat i + 1)), .val (.int (cv A (o + i)))] [])) := c8.trans (by
        refine iincV X7.here hexec rfl 1 (hb hbytes d32) (by decide) rfl rfl ?_
        refine iincV X7.here hexec rfl 1 (hb hbytes d35) (by decide) rfl rfl ?_
        refine iincV X7.here hexec rfl 1 (hb hbytes d38) (by decide) rfl rfl ?_
        refine XS.goto X7.here hexec rfl (pc0 := 41) rfl (hb hbytes d41) (by decide) rfl ?_
        exact Steps.refl _)
      have c10 : Steps p.tables e below (s₁.setTop (entryFrame m #[.ref b, .int (Int32.ofNat o), .ref d, .int (Int32.ofNat q), .int (Int32.ofNat len)] 7)) (T7.setTop (mkF m 3 #[.val (.ref b), .val (.int (Int32.ofNat (o + (i + 1)))), .val (.ref d), .val (.int (Int32.ofNat (q + (i + 1)))), .val (.int (Int32.ofNat len)), .val (.int (Int32.ofNat (i + 1))), .val (.int (cv A (o + i)))] [])) := by
        have := c9
        rw [succ32, succ32, succ32] at this
        exact this
      exact ih (i + 1) (by omega) _ (Or.inr ⟨_, rfl, rfl⟩) T7 _ (by rw [copyLocs_step, ← List.append_assoc]; exact X7) (pl.trans p7) (fl.step (by omega) hlt (by simp)) c10
  obtain ⟨T9, B9, z9, X9, p9, f9, g9⟩ := loop len 0 (by omega) .unset (Or.inl rfl) s₁ B (by simpa [copyLocs] using X0) ⟨hB0.1, fun _ _ => rfl, rfl⟩ (Laid.zero _ _ _) c2
  have c11 : Steps p.tables e below (s₁.setTop (entryFrame m #[.ref b, .int (Int32.ofNat o), .ref d, .int (Int32.ofNat q), .int (Int32.ofNat len)] 7)) (T9.setTop (mkF m 46 #[.val (.ref b), .val (.int (Int32.ofNat (o + len))), .val (.ref d), .val (.int (Int32.ofNat (q + len))), .val (.int (Int32.ofNat len)), .val (.int (Int32.ofNat len)), z9] [.int (Int32.ofNat len)])) := g9.trans (by
    refine XS.iload X9.here hexec rfl (hb hbytes d3) rfl ?_
    refine XS.iload X9.here hexec rfl (hb hbytes d5) rfl ?_
    refine XS.icmpYes X9.here hexec rfl (pc0 := 7) rfl (hb hbytes d7) rfl (ii_ge_t (nlt32 (by omega) (Nat.le_refl _))) (by decide) rfl ?_
    refine XS.iload X9.here hexec rfl (hb hbytes d44) rfl ?_
    exact Steps.refl _)
  exact ⟨T9, some (.int (Int32.ofNat len)), _, _, _, X9, by simp, rfl, rfl, (fun h => by cases h), ⟨rfl, B9, p9.from hh0, f9⟩, fun fs hl => c11.trans (X9.ireturnOut hexec hret rfl (Or.inl rfl) (hb hbytes d46) hl)⟩
end Cmp5
namespace Cmp3
def yN : MethodName := ⟨"java/lang/StringUTF16", "compress", "([CII)[B"⟩
abbrev yB : ByteArray := jdk_52_method_16_code
theorem d0 : decode yB 0 = .ok (.iload_n 2, 1) := by decide +kernel
theorem d1 : decode yB 1 = .ok (.newarray .byte, 2) := by decide +kernel
theorem d3 : decode yB 3 = .ok (.astore_n 3, 1) := by decide +kernel
theorem d4 : decode yB 4 = .ok (.aload_n 0, 1) := by decide +kernel
theorem d5 : decode yB 5 = .ok (.iload_n 1, 1) := by decide +kernel
theorem d6 : decode yB 6 = .ok (.aload_n 3, 1) := by decide +kernel
theorem d7 : decode yB 7 = .ok (.iconst 0, 1) := by decide +kernel
theorem d8 : decode yB 8 = .ok (.iload_n 2, 1) := by decide +kernel
theorem d9 : decode yB 9 = .ok (.invokestatic 115, 3) := by decide +kernel
theorem d12 : decode yB 12 = .ok (.istore 4, 2) := by decide +kernel
theorem d14 : decode yB 14 = .ok (.iload 4, 2) := by decide +kernel
theorem d16 : decode yB 16 = .ok (.iload_n 2, 1) := by decide +kernel
theorem d17 : decode yB 17 = .ok (.if_icmp (.eq) 40, 3) := by decide +kernel
theorem d57 : decode yB 57 = .ok (.aload_n 3, 1) := by decide +kernel
theorem d58 : decode yB 58 = .ok (.areturn, 1) := by decide +kernel
def site : List Cond := [.arrayClass .byte, Cmp5.tab] ++ staticW U16 115 Cmp5.yN
def tab : Cond := tabOf yN yB 6 (some (.array .byte)) site
def P (b : Addr) (A : Cell) (o len : Nat) (args : Array Value) (s : State) : Prop := args = #[.ref b, .int (Int32.ofNat o), .int (Int32.ofNat len)] ∧ Ch b A s ∧ o + len ≤ A.slots.size ∧ len ≤ 536870912 ∧ ∀ i, i < len → ¬ 255 < cv A (o + i)
def E (b : Addr) (A : Cell) (o len : Nat) (r : Option Value) (s u : State) : Prop := NewArr .byte "[B" len (fun j => .int (lo8 (cv A (o + j)))) r s u ∧ u.heap.size = s.heap.size + 1
/-- no char of the range above 255: a new byte[] of their low bytes -/
theorem law (l : Launch) (b : Addr) (A : Cell) (o len : Nat) : Law l yN 3 3 1 18 yB 6 (some (.array .byte)) site (P b A o len) (E b A o len) [] 1 len := by
  refine Law.of_walk (plainFor_of_name (by decide +kernel)) (by decide +kernel) (by decide +kernel) (by decide) (fun _ _ h => by rw [h.1]; rfl) (fun _ U U' hal hh h => ⟨h.1, h.2.1.mv hal hh, h.2.2⟩) (fun r U U' V V' h1 hal h2 h => ⟨NewArr.mv r U U' V V' h1 hal h2 h.1, by rw [h1, h2]; exact h.2⟩) ?_
  intro p e s m args below meth c s₁ X0 hexec hbytes hml hret hlk hnm hown hh0 W hP
  obtain ⟨rfl, hA, l1, l2, hp⟩ := hP
  have a31 := hA.1.2.2.2
  have c1 : Steps p.tables e below (s₁.setTop (entryFrame m #[.ref b, .int (Int32.ofNat o), .int (Int32.ofNat len)] 6)) (s₁.setTop (mkF m 0 #[.val (.ref b), .val (.int (Int32.ofNat o)), .val (.int (Int32.ofNat len)), .unset, .unset, .unset] [])) := entry rfl
  have c2 : Steps p.tables e below (s₁.setTop (entryFrame m #[.ref b, .int (Int32.ofNat o), .int (Int32.ofNat len)] 6)) (s₁.setTop (mkF m 1 #[.val (.ref b), .val (.int (Int32.ofNat o)), .val (.int (Int32.ofNat len)), .unset, .unset, .unset] [.int (Int32.ofNat len)])) := c1.trans (by
    refine XS.iloadN X0.here hexec rfl (hb hbytes d0) rfl ?_
    exact Steps.refl _)
  obtain ⟨T3, B3, X3, ba3, bs3, bv3, bh3, bf3, st3⟩ := X0.anew hexec (atype := .byte) (wk W (.arrayClass .byte)) rfl (by show len * 1 ≤ _; omega) (by omega) (g := (mkF m 1 #[.val (.ref b), .val (.int (Int32.ofNat o)), .val (.int (Int32.ofNat len)), .unset, .unset, .unset] [.int (Int32.ofNat len)])) rfl (hb hbytes d1) (rest := []) rfl (Nat.le_refl _) (by show 0 + len ≤ len; omega)
  rw [hh0] at ba3 st3
  have kp3 : XT.Kept s T3 := (XT.Kept.of_eq hh0).push bh3
  have hA3 := hA.keep X3.warmed.alike (kp3 _ _ hA.1.1)
  have hne : b ≠ s.heap.size := hA.1.ne
  have c4 : Steps p.tables e below (s₁.setTop (entryFrame m #[.ref b, .int (Int32.ofNat o), .int (Int32.ofNat len)] 6)) (T3.setTop (mkF m 3 #[.val (.ref b), .val (.int (Int32.ofNat o)), .val (.int (Int32.ofNat len)), .unset, .unset, .unset] [.ref s.heap.size])) := c2.trans (st3 _ (Steps.refl _))
  have c5 : Steps p.tables e below (s₁.setTop (entryFrame m #[.ref b, .int (Int32.ofNat o), .int (Int32.ofNat len)] 6)) (T3.setTop (mkF m 9 #[.val (.ref b), .val (.int (Int32.ofNat o)), .val (.int (Int32.ofNat len)), .val (.ref s.heap.size), .unset, .unset] [.int (Int32.ofNat len), .int 0, .ref s.heap.size, .int (Int32.ofNat o), .ref b])) := c4.trans (by
    refine XS.astoreN X3.here hexec rfl (hb hbytes d3) rfl rfl rfl ?_
    refine XS.aloadN X3.here hexec rfl (hb hbytes d4) rfl rfl ?_
    refine XS.iloadN X3.here hexec rfl (hb hbytes d5) rfl ?_
    refine XS.aloadN X3.here hexec rfl (hb hbytes d6) rfl rfl ?_
    refine iconstV X3.here hexec rfl 0 (hb hbytes d7) (by decide) ?_
    refine XS.iloadN X3.here hexec rfl (hb hbytes d8) rfl ?_
    exact Steps.refl _)
  obtain ⟨v6, T6, X6, E6, g6⟩ := X3.callS hexec (Cmp5.law l b A s.heap.size B3 o 0 len) hown (wks W (staticW U16 115 Cmp5.yN)) (wk W Cmp5.tab) (W := 0) (Nat.le_of_ble_eq_true rfl) (Nat.le_of_ble_eq_true rfl) (Nat.le_refl _) (by show 0 + len + 0 ≤ len; omega) (g := (mkF m 9 #[.val (.ref b), .val (.int (Int32.ofNat o)), .val (.int (Int32.ofNat len)), .val (.ref s.heap.size), .unset, .unset] [.int (Int32.ofNat len), .int (Int32.ofNat 0), .ref s.heap.size, .int (Int32.ofNat o), .ref b])) rfl (by rw [hml]; rfl) c5 (argsL := [.ref b, .int (Int32.ofNat o), .ref s.heap.size, .int (Int32.ofNat 0), .int (Int32.ofNat len)]) (rest := []) rfl rfl (by show 2 * 0 + 0 ≤ _; decide) (hb hbytes d9) (⟨rfl, hA3, ba3, hne, l1, by rw [bs3]; simp, hp⟩)
  obtain ⟨rfl, B6, p6, f6⟩ := E6
  have c7 : Steps p.tables e below (s₁.setTop (entryFrame m #[.ref b, .int (Int32.ofNat o), .int (Int32.ofNat len)] 6)) (T6.setTop (mkF m 12 #[.val (.ref b), .val (.int (Int32.ofNat o)), .val (.int (Int32.ofNat len)), .val (.ref s.heap.size), .unset, .unset] [.int (Int32.ofNat len)])) := g6
  have c8 : Steps p.tables e below (s₁.setTop (entryFrame m #[.ref b, .int (Int32.ofNat o), .int (Int32.ofNat len)] 6)) (T6.setTop (mkF m 58 #[.val (.ref b), .val (.int (Int32.ofNat o)), .val (.int (Int32.ofNat len)), .val (.ref s.heap.size), .val (.int (Int32.ofNat len)), .unset] [.ref s.heap.size])) := c7.trans (by
    refine XS.istore X6.here hexec rfl (hb hbytes d12) rfl rfl ?_
    refine XS.iload X6.here hexec rfl (hb hbytes d14) rfl ?_
    refine XS.iloadN X6.here hexec rfl (hb hbytes d16) rfl ?_
    refine XS.icmpYes X6.here hexec rfl (pc0 := 17) rfl (hb hbytes d17) rfl (ii_eq_t rfl) (by decide) rfl ?_
    refine XS.aloadN X6.here hexec rfl (hb hbytes d57) rfl rfl ?_
    exact Steps.refl _)
  have X8 := X6.wide (L' := []) (cells' := 1) (slots' := len) (fun x hx hlt => by
    simp only [List.nil_append, copyLocs, List.mem_map, List.mem_range] at hx
    obtain ⟨i, -, rfl⟩ := hx
    exact absurd hlt (Nat.lt_irrefl _)) (Nat.le_refl _) (by omega)
  exact ⟨T6, some (.ref s.heap.size), _, _, _, X8, rfl, rfl, rfl, (fun h => by cases h), ⟨⟨rfl, B6, ba3.like (X3.warmed.alike.symm.trans X6.warmed.alike) p6.1 f6.1 f6.2.1 f6.2.2.1, f6.2.1.trans bv3, by rw [X6.warmed.alike.findClass, f6.1]; exact bf3, by rw [f6.2.2.1, bs3]; simp, fun j hj => by rw [f6.2.2.2 j, if_pos (by omega)]; rfl, kp3.put p6 (Nat.le_refl _)⟩, by rw [p6.2.2, bh3, hh0]; simp⟩, fun fs hl => c8.trans (X8.areturnOut hexec rfl hret rfl (hb hbytes d58) hl)⟩
end Cmp3
namespace CodL
def yN : MethodName := ⟨"java/lang/StringUTF16", "coderFromArrayLen", "([BI)B"⟩
abbrev yB : ByteArray := jdk_52_method_15_code
theorem d0 : decode yB 0 = .ok (.iload_n 1, 1) := by decide +kernel
theorem d1 : decode yB 1 = .ok (.aload_n 0, 1) := by decide +kernel
theorem d2 : decode yB 2 = .ok (.arraylength, 1) := by decide +kernel
theorem d3 : decode yB 3 = .ok (.isub, 1) := by decide +kernel
theorem d4 : decode yB 4 = .ok (.bipush 31, 2) := by decide +kernel
theorem d6 : decode yB 6 = .ok (.iushr, 1) := by decide +kernel
theorem d7 : decode yB 7 = .ok (.i2b, 1) := by decide +kernel
theorem d8 : decode yB 8 = .ok (.ireturn, 1) := by decide +kernel
def site : List Cond := []
def tab : Cond := tabOf yN yB 2 (some .byte) site
def P (d : Addr) (B : Cell) (args : Array Value) (s : State) : Prop := args = #[.ref d, .int (Int32.ofNat B.slots.size)] ∧ Arr .byte d B s
def E (r : Option Value) (s u : State) : Prop := XT.PureE (some (.int 0)) r s u
/-- an array as long as the number of chars: LATIN1 -/
theorem law (l : Launch) (d : Addr) (B : Cell) : Law l yN 2 2 0 0 yB 2 (some .byte) site (P d B) E [] 0 0 := by
  refine Law.of_walk (plainFor_of_name (by decide +kernel)) (by decide +kernel) (by decide +kernel) (by decide) (fun _ _ h => by rw [h.1]; rfl) (fun _ U U' hal hh h => ⟨h.1, h.2.mv hal hh⟩) (fun r U U' V V' h1 hal h2 h => XT.PureE.mv r U U' V V' h1 hal h2 h) ?_
  intro p e s m args below meth c s₁ X0 hexec hbytes hml hret hlk hnm hown hh0 W hP
  obtain ⟨rfl, hB⟩ := hP
  have hB0 := hB.mv X0.warmed.alike hh0
  have c1 : Steps p.tables e below (s₁.setTop (entryFrame m #[.ref d, .int (Int32.ofNat B.slots.size)] 2)) (s₁.setTop (mkF m 0 #[.val (.ref d), .val (.int (Int32.ofNat B.slots.size))] [])) := entry rfl
  have c2 : Steps p.tables e below (s₁.setTop (entryFrame m #[.ref d, .int (Int32.ofNat B.slots.size)] 2)) (s₁.setTop (mkF m 2 #[.val (.ref d), .val (.int (Int32.ofNat B.slots.size))] [.ref d, .int (Int32.ofNat B.slots.size)])) := c1.trans (by
    refine XS.iloadN X0.here hexec rfl (hb hbytes d0) rfl ?_
    refine XS.aloadN X0.here hexec rfl (hb hbytes d1) rfl rfl ?_
    exact Steps.refl _)
  have c3 : Steps p.tables e below (s₁.setTop (entryFrame m #[.ref d, .int (Int32.ofNat B.slots.size)] 2)) (s₁.setTop (mkF m 8 #[.val (.ref d), .val (.int (Int32.ofNat B.slots.size))] [.int (lo8 (ushr (Int32.ofNat B.slots.size - Int32.ofNat B.slots.size) 31))])) := c2.trans (by
    refine X0.alen hexec hB0 rfl rfl (hb hbytes d2) ?_
    refine XS.isub X0.here hexec rfl (hb hbytes d3) rfl ?_
    refine bipushV X0.here hexec rfl 31 (hb hbytes d4) (by decide) ?_
    refine iushr X0.here hexec rfl (hb hbytes d6) rfl ?_
    refine i2b X0.here hexec rfl (hb hbytes d7) rfl ?_
    exact Steps.refl _)
  have e0 : lo8 (ushr (Int32.ofNat B.slots.size - Int32.ofNat B.slots.size) 31) = 0 := by rw [Int32.sub_self]; decide
  rw [e0] at c3
  exact ⟨s₁, some (.int 0), _, _, _, X0, rfl, rfl, rfl, (fun h => by cases h), ⟨rfl, hh0⟩, fun fs hl => c3.trans (X0.ireturnOut hexec hret rfl (Or.inr (Or.inr (Or.inl rfl))) (hb hbytes d8) hl)⟩
end CodL
/-- the String at a is Latin-1 over a new byte[] (the heap's one new cell): the low bytes of the len chars of A from o on; every cell but a is kept -/
def Got (a : Addr) (D : Cell) (fV fC : Field) (A : Cell) (o len : Nat) (r : Option Value) (s u : State) : Prop := r = none ∧ ∃ D' V : Cell, Blank "java/lang/String" a D' u ∧ Same D D' [fV.slot, fC.slot] ∧ D'.slots[fV.slot]? = some (.ref s.heap.size) ∧ D'.slots[fC.slot]? = some (.int 0) ∧ Arr .byte s.heap.size V u ∧ V.vm = .none ∧ u.vm.findClass "[B" = some V.cls ∧ V.slots.size = len ∧ (∀ j, j < len → V.slots[j]? = some (.int (lo8 (cv A (o + j))))) ∧ (∀ (y : Addr) (c : Cell), y ≠ a → s.heap[y]? = some c → u.heap[y]? = some c) ∧ u.heap.size = s.heap.size + 1
theorem Got.mv {a : Addr} {D A : Cell} {fV fC : Field} {o len : Nat} : ∀ r (U U' V V' : State), U'.heap = U.heap → V.vm.Alike V'.vm → V'.heap = V.heap → Got a D fV fC A o len r U V → Got a D fV fC A o len r U' V' :=
  fun r U U' V V' h1 hal h2 ⟨e0, D', X, a1, a2, a3, a4, a5, a6, a7, a8, a9, a10, a11⟩ => ⟨e0, D', X, a1.mv hal h2, a2, by rw [h1]; exact a3, a4, by rw [h1]; exact a5.mv hal h2, a6, by rw [hal.findClass]; exact a7, a8, a9, by rw [h1, h2]; exact a10, by rw [h1, h2]; exact a11⟩
namespace New4
def yN : MethodName := ⟨"java/lang/String", "<init>", "([CIILjava/lang/Void;)V"⟩
abbrev yB : ByteArray := jdk_42_method_149_code
theorem d0 : decode yB 0 = .ok (.aload_n 0, 1) := by decide +kernel
theorem d1 : decode yB 1 = .ok (.invokespecial 1, 3) := by decide +kernel
theorem d4 : decode yB 4 = .ok (.iload_n 3, 1) := by decide +kernel
theorem d5 : decode yB 5 = .ok (.ifCond (.ne) 22, 3) := by decide +kernel
theorem d27 : decode yB 27 = .ok (.getstatic 38, 3) := by decide +kernel
theorem d30 : decode yB 30 = .ok (.ifCond (.eq) 28, 3) := by decide +kernel
theorem d33 : decode yB 33 = .ok (.aload_n 1, 1) := by decide +kernel
theorem d34 : decode yB 34 = .ok (.iload_n 2, 1) := by decide +kernel
theorem d35 : decode yB 35 = .ok (.iload_n 3, 1) := by decide +kernel
theorem d36 : decode yB 36 = .ok (.invokestatic 177, 3) := by decide +kernel
theorem d39 : decode yB 39 = .ok (.astore 5, 2) := by decide +kernel
theorem d41 : decode yB 41 = .ok (.aload_n 0, 1) := by decide +kernel
theorem d42 : decode yB 42 = .ok (.aload 5, 2) := by decide +kernel
theorem d44 : decode yB 44 = .ok (.iload_n 3, 1) := by decide +kernel
theorem d45 : decode yB 45 = .ok (.invokestatic 47, 3) := by decide +kernel
theorem d48 : decode yB 48 = .ok (.putfield 15, 3) := by decide +kernel
theorem d51 : decode yB 51 = .ok (.aload_n 0, 1) := by decide +kernel
theorem d52 : decode yB 52 = .ok (.aload 5, 2) := by decide +kernel
theorem d54 : decode yB 54 = .ok (.putfield 9, 3) := by decide +kernel
theorem d57 : decode yB 57 = .ok (.return_, 1) := by decide +kernel
def site : List Cond := [.fieldLink "java/lang/String" 38 "java/lang/String" "COMPACT_STRINGS" "Z", Cmp3.tab, CodL.tab, .laysFinal "java/lang/String" "java/lang/String" "value" "[B", .fieldLink "java/lang/String" 9 "java/lang/String" "value" "[B", .laysFinal "java/lang/String" "java/lang/String" "coder" "B", .fieldLink "java/lang/String" 15 "java/lang/String" "coder" "B"] ++ objW "java/lang/String" 1 ++ staticW "java/lang/String" 177 Cmp3.yN ++ staticW "java/lang/String" 47 CodL.yN
def tab : Cond := tabOf yN yB 6 none site
def P (a : Addr) (D : Cell) (fV fC : Field) (b : Addr) (A : Cell) (z : Int32) (o len : Nat) (args : Array Value) (s : State) : Prop := args = #[.ref a, .ref b, .int (Int32.ofNat o), .int (Int32.ofNat len), .null] ∧ Blank "java/lang/String" a D s ∧ Found "java/lang/String" "value" "[B" fV s ∧ Found "java/lang/String" "coder" "B" fC s ∧ Ch b A s ∧ StaticIs s "java/lang/String" "COMPACT_STRINGS" "Z" (.int z) ∧ ¬ z = 0 ∧ 0 < len ∧ o + len ≤ A.slots.size ∧ len ≤ 536870912 ∧ ∀ i, i < len → ¬ 255 < cv A (o + i)
def E (a : Addr) (D : Cell) (fV fC : Field) (A : Cell) (o len : Nat) (r : Option Value) (s u : State) : Prop := Got a D fV fC A o len r s u
/-- len > 0, no char of the range above 255: a Latin-1 String of their low bytes -/
theorem law (l : Launch) (a : Addr) (D : Cell) (fV fC : Field) (b : Addr) (A : Cell) (z : Int32) (o len : Nat) : Law l yN 5 4 2 35 yB 6 none site (P a D fV fC b A z o len) (E a D fV fC A o len) [⟨a, fC.slot⟩, ⟨a, fV.slot⟩] 1 len := by
  refine Law.of_walk (plainFor_of_name (by decide +kernel)) (by decide +kernel) (by decide +kernel) (by decide) (fun _ _ h => by rw [h.1]; rfl) (fun _ U U' hal hh h => ⟨h.1, h.2.1.mv hal hh, h.2.2.1.al hal, h.2.2.2.1.al hal, h.2.2.2.2.1.mv hal hh, h.2.2.2.2.2.1.there hal hh, h.2.2.2.2.2.2⟩) (fun r U U' V V' h1 hal h2 h => Got.mv r U U' V V' h1 hal h2 h) ?_
  intro p e s m args below meth c s₁ X0 hexec hbytes hml hret hlk hnm hown hh0 W hP
  obtain ⟨rfl, hB, f1, f2, hA, s1, hz, l0, l1, l2, hp⟩ := hP
  have a31 := hA.1.2.2.2
  have c1 : Steps p.tables e below (s₁.setTop (entryFrame m #[.ref a, .ref b, .int (Int32.ofNat o), .int (Int32.ofNat len), .null] 6)) (s₁.setTop (mkF m 0 #[.val (.ref a), .val (.ref b), .val (.int (Int32.ofNat o)), .val (.int (Int32.ofNat len)), .val .null, .unset] [])) := entry rfl
  have c2 : Steps p.tables e below (s₁.setTop (entryFrame m #[.ref a, .ref b, .int (Int32.ofNat o), .int (Int32.ofNat len), .null] 6)) (s₁.setTop (mkF m 1 #[.val (.ref a), .val (.ref b), .val (.int (Int32.ofNat o)), .val (.int (Int32.ofNat len)), .val .null, .unset] [.ref a])) := c1.trans (by
    refine XS.aloadN X0.here hexec rfl (hb hbytes d0) rfl rfl ?_
    exact Steps.refl _)
  obtain ⟨T3, X3, q3, st3⟩ := X0.oinit hexec hown (wks W (objW "java/lang/String" 1)) (g := (mkF m 1 #[.val (.ref a), .val (.ref b), .val (.int (Int32.ofNat o)), .val (.int (Int32.ofNat len)), .val .null, .unset] [.ref a])) rfl (by rw [hml]; rfl) (rest := []) rfl (hb hbytes d1) (W := 0) (by show 2 * 0 + 0 ≤ _; decide) (Nat.le_of_ble_eq_true rfl) (Nat.le_of_ble_eq_true rfl)
  have hh3 := q3.trans hh0
  have c4 : Steps p.tables e below (s₁.setTop (entryFrame m #[.ref a, .ref b, .int (Int32.ofNat o), .int (Int32.ofNat len), .null] 6)) (T3.setTop (mkF m 27 #[.val (.ref a), .val (.ref b), .val (.int (Int32.ofNat o)), .val (.int (Int32.ofNat len)), .val .null, .unset] [])) := (c2.trans (st3 _ (Steps.refl _))).trans (by
    refine XS.iloadN X3.here hexec rfl (hb hbytes d4) rfl ?_
    refine XS.ifYes X3.here hexec rfl (pc0 := 5) rfl (hb hbytes d5) rfl (i0_ne_t (nz32 (by omega) l0)) (by decide) rfl ?_
    exact Steps.refl _)
  obtain ⟨T5, X5, q5, st5⟩ := X3.sget hexec hown (wk W (.fieldLink "java/lang/String" 38 "java/lang/String" "COMPACT_STRINGS" "Z")) s1 (fun _ _ h => by rw [hh3]; exact h) (g := (mkF m 27 #[.val (.ref a), .val (.ref b), .val (.int (Int32.ofNat o)), .val (.int (Int32.ofNat len)), .val .null, .unset] [])) rfl (hb hbytes d27)
  have hh5 := q5.trans hh3
  have c6 : Steps p.tables e below (s₁.setTop (entryFrame m #[.ref a, .ref b, .int (Int32.ofNat o), .int (Int32.ofNat len), .null] 6)) (T5.setTop (mkF m 30 #[.val (.ref a), .val (.ref b), .val (.int (Int32.ofNat o)), .val (.int (Int32.ofNat len)), .val .null, .unset] [.int z])) := c4.trans (st5 _ (Steps.refl _))
  have c7 : Steps p.tables e below (s₁.setTop (entryFrame m #[.ref a, .ref b, .int (Int32.ofNat o), .int (Int32.ofNat len), .null] 6)) (T5.setTop (mkF m 36 #[.val (.ref a), .val (.ref b), .val (.int (Int32.ofNat o)), .val (.int (Int32.ofNat len)), .val .null, .unset] [.int (Int32.ofNat len), .int (Int32.ofNat o), .ref b])) := c6.trans (by
    refine XS.ifNo X5.here hexec rfl (hb hbytes d30) rfl (i0_eq_f hz) ?_
    refine XS.aloadN X5.here hexec rfl (hb hbytes d33) rfl rfl ?_
    refine XS.iloadN X5.here hexec rfl (hb hbytes d34) rfl ?_
    refine XS.iloadN X5.here hexec rfl (hb hbytes d35) rfl ?_
    exact Steps.refl _)
  obtain ⟨v8, T8, X8, E8, g8⟩ := X5.callS hexec (Cmp3.law l b A o len) hown (wks W (staticW "java/lang/String" 177 Cmp3.yN)) (wk W Cmp3.tab) (W := 0) (Nat.le_of_ble_eq_true rfl) (Nat.le_of_ble_eq_true rfl) (Nat.le_refl _) (by show 0 + len ≤ len; omega) (g := (mkF m 36 #[.val (.ref a), .val (.ref b), .val (.int (Int32.ofNat o)), .val (.int (Int32.ofNat len)), .val .null, .unset] [.int (Int32.ofNat len), .int (Int32.ofNat o), .ref b])) rfl (by rw [hml]; rfl) c7 (argsL := [.ref b, .int (Int32.ofNat o), .int (Int32.ofNat len)]) (rest := []) rfl rfl (by show 2 * 0 + 0 ≤ _; decide) (hb hbytes d36) (⟨rfl, hA.mv X5.warmed.alike hh5, l1, l2, hp⟩)
  obtain ⟨e8, z8⟩ := E8
  obtain ⟨rfl, N, n1, n2, n3, n4, n5, n6⟩ := NewArr.mv _ T5 s _ _ hh5.symm (Vm.Alike.refl _) rfl e8
  rw [hh5] at z8
  have hB1 := hB.keep X8.warmed.alike (n6 _ _ hB.1)
  have hne : s.heap.size ≠ a := (Nat.ne_of_lt (Array.getElem?_eq_some_iff.mp hB.1).1).symm
  have c9 : Steps p.tables e below (s₁.setTop (entryFrame m #[.ref a, .ref b, .int (Int32.ofNat o), .int (Int32.ofNat len), .null] 6)) (T8.setTop (mkF m 39 #[.val (.ref a), .val (.ref b), .val (.int (Int32.ofNat o)), .val (.int (Int32.ofNat len)), .val .null, .unset] [.ref s.heap.size])) := g8
  have c10 : Steps p.tables e below (s₁.setTop (entryFrame m #[.ref a, .ref b, .int (Int32.ofNat o), .int (Int32.ofNat len), .null] 6)) (T8.setTop (mkF m 45 #[.val (.ref a), .val (.ref b), .val (.int (Int32.ofNat o)), .val (.int (Int32.ofNat len)), .val .null, .val (.ref s.heap.size)] [.int (Int32.ofNat N.slots.size), .ref s.heap.size, .ref a])) := by
    have hc : Steps p.tables e below (s₁.setTop (entryFrame m #[.ref a, .ref b, .int (Int32.ofNat o), .int (Int32.ofNat len), .null] 6)) (T8.setTop (mkF m 45 #[.val (.ref a), .val (.ref b), .val (.int (Int32.ofNat o)), .val (.int (Int32.ofNat len)), .val .null, .val (.ref s.heap.size)] [.int (Int32.ofNat len), .ref s.heap.size, .ref a])) := c9.trans (by
      refine XS.astore X8.here hexec rfl (hb hbytes d39) rfl rfl rfl ?_
      refine XS.aloadN X8.here hexec rfl (hb hbytes d41) rfl rfl ?_
      refine XS.aload X8.here hexec rfl (hb hbytes d42) rfl rfl ?_
      refine XS.iloadN X8.here hexec rfl (hb hbytes d44) rfl ?_
      exact Steps.refl _)
    rw [n4]; exact hc
  obtain ⟨v11, T11, X11, E11, g11⟩ := X8.callS hexec (CodL.law l s.heap.size N) hown (wks W (staticW "java/lang/String" 47 CodL.yN)) (wk W CodL.tab) (W := 1) (Nat.le_of_ble_eq_true rfl) (Nat.le_of_ble_eq_true rfl) (Nat.le_refl _) (by show 0 + len + 0 ≤ len; omega) (g := (mkF m 45 #[.val (.ref a), .val (.ref b), .val (.int (Int32.ofNat o)), .val (.int (Int32.ofNat len)), .val .null, .val (.ref s.heap.size)] [.int (Int32.ofNat N.slots.size), .ref s.heap.size, .ref a])) rfl (by rw [hml]; rfl) c10 (argsL := [.ref s.heap.size, .int (Int32.ofNat N.slots.size)]) (rest := [.ref a]) rfl rfl (by show 2 * 0 + (1 + 0) ≤ _; decide) (hb hbytes d45) (⟨rfl, n1⟩)
  obtain ⟨rfl, q11⟩ := E11
  have hB11 := hB1.mv (X8.warmed.alike.symm.trans X11.warmed.alike) q11
  have c12 : Steps p.tables e below (s₁.setTop (entryFrame m #[.ref a, .ref b, .int (Int32.ofNat o), .int (Int32.ofNat len), .null] 6)) (T11.setTop (mkF m 48 #[.val (.ref a), .val (.ref b), .val (.int (Int32.ofNat o)), .val (.int (Int32.ofNat len)), .val .null, .val (.ref s.heap.size)] [.int 0, .ref a])) := g11
  obtain ⟨T13, X13, p13, bl13, sl13, st13⟩ := X11.finit hexec hown (wk W (.fieldLink "java/lang/String" 15 "java/lang/String" "coder" "B")) (Or.inr ⟨_, (wk W (.laysFinal "java/lang/String" "java/lang/String" "coder" "B"))⟩) (Or.inl ⟨rfl, hnm⟩) f2 (Or.inl rfl) hB11 (t := .byte) (by decide +kernel) rfl (g := (mkF m 48 #[.val (.ref a), .val (.ref b), .val (.int (Int32.ofNat o)), .val (.int (Int32.ofNat len)), .val .null, .val (.ref s.heap.size)] [.int 0, .ref a])) rfl (rest := []) rfl (hb hbytes d48)
  have c14 : Steps p.tables e below (s₁.setTop (entryFrame m #[.ref a, .ref b, .int (Int32.ofNat o), .int (Int32.ofNat len), .null] 6)) (T13.setTop (mkF m 54 #[.val (.ref a), .val (.ref b), .val (.int (Int32.ofNat o)), .val (.int (Int32.ofNat len)), .val .null, .val (.ref s.heap.size)] [.ref s.heap.size, .ref a])) := (c12.trans (st13 _ (Steps.refl _))).trans (by
    refine XS.aloadN X13.here hexec rfl (hb hbytes d51) rfl rfl ?_
    refine XS.aload X13.here hexec rfl (hb hbytes d52) rfl rfl ?_
    exact Steps.refl _)
  obtain ⟨T15, X15, p15, bl15, sl15, st15⟩ := X13.finit hexec hown (wk W (.fieldLink "java/lang/String" 9 "java/lang/String" "value" "[B")) (Or.inr ⟨_, (wk W (.laysFinal "java/lang/String" "java/lang/String" "value" "[B"))⟩) (Or.inl ⟨rfl, hnm⟩) f1 (Or.inl rfl) bl13 (t := (.array .byte)) (by decide +kernel) rfl (g := (mkF m 54 #[.val (.ref a), .val (.ref b), .val (.int (Int32.ofNat o)), .val (.int (Int32.ofNat len)), .val .null, .val (.ref s.heap.size)] [.ref s.heap.size, .ref a])) rfl (rest := []) rfl (hb hbytes d54)
  have c16 : Steps p.tables e below (s₁.setTop (entryFrame m #[.ref a, .ref b, .int (Int32.ofNat o), .int (Int32.ofNat len), .null] 6)) (T15.setTop (mkF m 57 #[.val (.ref a), .val (.ref b), .val (.int (Int32.ofNat o)), .val (.int (Int32.ofNat len)), .val .null, .val (.ref s.heap.size)] [])) := c14.trans (st15 _ (Steps.refl _))
  have ap := apart (Or.inr ⟨_, (wk W (.laysFinal "java/lang/String" "java/lang/String" "value" "[B"))⟩) (Or.inr ⟨_, (wk W (.laysFinal "java/lang/String" "java/lang/String" "coder" "B"))⟩) f1 f2 (t₁ := .array .byte) (t₂ := .byte) (by decide +kernel) (by decide +kernel) (by decide)
  have al := X8.warmed.alike.symm.trans X15.warmed.alike
  have n7 : T11.heap[s.heap.size]? = some N := by rw [q11]; exact n1.1
  exact ⟨T15, none, _, _, _, X15, by simp, rfl, by omega, (fun _ => rfl), ⟨rfl, _, N, bl15, ((Same.refl D _).set _ (by simp)).set _ (by simp), sl15, (Cell.slots_setSlot_ne _ ap).trans sl13, n1.keep al (p15.other hne (p13.other hne n7)), n2, by rw [al.findClass]; exact n3, n4, n5, fun y c h1 h2 => p15.other h1 (p13.other h1 (by rw [q11]; exact n6 y c h2)), by rw [p15.2.2, p13.2.2, q11]; exact z8⟩, fun fs hl => c16.trans (X15.returnOut hexec hret (hb hbytes d57) hl)⟩
end New4
namespace New1
def yN : MethodName := ⟨"java/lang/String", "<init>", "([C)V"⟩
abbrev yB : ByteArray := jdk_42_method_3_code
theorem d0 : decode yB 0 = .ok (.aload_n 0, 1) := by decide +kernel
theorem d1 : decode yB 1 = .ok (.aload_n 1, 1) := by decide +kernel
theorem d2 : decode yB 2 = .ok (.iconst 0, 1) := by decide +kernel
theorem d3 : decode yB 3 = .ok (.aload_n 1, 1) := by decide +kernel
theorem d4 : decode yB 4 = .ok (.arraylength, 1) := by decide +kernel
theorem d5 : decode yB 5 = .ok (.aconst_null, 1) := by decide +kernel
theorem d6 : decode yB 6 = .ok (.invokespecial 27, 3) := by decide +kernel
theorem d9 : decode yB 9 = .ok (.return_, 1) := by decide +kernel
def site : List Cond := [New4.tab] ++ initW "java/lang/String" 27 New4.yN
def tab : Cond := tabOf yN yB 2 none site
def P (a : Addr) (D : Cell) (fV fC : Field) (b : Addr) (A : Cell) (z : Int32) (args : Array Value) (s : State) : Prop := args = #[.ref a, .ref b] ∧ Blank "java/lang/String" a D s ∧ Found "java/lang/String" "value" "[B" fV s ∧ Found "java/lang/String" "coder" "B" fC s ∧ Ch b A s ∧ StaticIs s "java/lang/String" "COMPACT_STRINGS" "Z" (.int z) ∧ ¬ z = 0 ∧ 0 < A.slots.size ∧ A.slots.size ≤ 536870912 ∧ ∀ i, i < A.slots.size → ¬ 255 < cv A i
def E (a : Addr) (D : Cell) (fV fC : Field) (A : Cell) (r : Option Value) (s u : State) : Prop := Got a D fV fC A 0 A.slots.size r s u
/-- new String(chars), not empty, no char above 255: a Latin-1 String of their low bytes -/
theorem law (l : Launch) (a : Addr) (D : Cell) (fV fC : Field) (b : Addr) (A : Cell) (z : Int32) : Law l yN 2 1 3 52 yB 2 none site (P a D fV fC b A z) (E a D fV fC A) [⟨a, fC.slot⟩, ⟨a, fV.slot⟩] 1 A.slots.size := by
  refine Law.of_walk (plainFor_of_name (by decide +kernel)) (by decide +kernel) (by decide +kernel) (by decide) (fun _ _ h => by rw [h.1]; rfl) (fun _ U U' hal hh h => ⟨h.1, h.2.1.mv hal hh, h.2.2.1.al hal, h.2.2.2.1.al hal, h.2.2.2.2.1.mv hal hh, h.2.2.2.2.2.1.there hal hh, h.2.2.2.2.2.2⟩) (fun r U U' V V' h1 hal h2 h => Got.mv r U U' V V' h1 hal h2 h) ?_
  intro p e s m args below meth c s₁ X0 hexec hbytes hml hret hlk hnm hown hh0 W hP
  obtain ⟨rfl, hB, f1, f2, hA, s1, hz, l0, l2, hp⟩ := hP
  have c1 : Steps p.tables e below (s₁.setTop (entryFrame m #[.ref a, .ref b] 2)) (s₁.setTop (mkF m 0 #[.val (.ref a), .val (.ref b)] [])) := entry rfl
  have c2 : Steps p.tables e below (s₁.setTop (entryFrame m #[.ref a, .ref b] 2)) (s₁.setTop (mkF m 6 #[.val (.ref a), .val (.ref b)] [.null, .int (Int32.ofNat A.slots.size), .int 0, .ref b, .ref a])) := c1.trans (by
    refine XS.aloadN X0.here hexec rfl (hb hbytes d0) rfl rfl ?_
    refine XS.aloadN X0.here hexec rfl (hb hbytes d1) rfl rfl ?_
    refine iconstV X0.here hexec rfl 0 (hb hbytes d2) (by decide) ?_
    refine XS.aloadN X0.here hexec rfl (hb hbytes d3) rfl rfl ?_
    refine X0.alen hexec (hA.1.mv X0.warmed.alike hh0) rfl rfl (hb hbytes d4) ?_
    refine XS.aconstNull X0.here hexec rfl (hb hbytes d5) ?_
    exact Steps.refl _)
  obtain ⟨v3, T3, X3, E3, g3⟩ := X0.callN hexec (New4.law l a D fV fC b A z 0 A.slots.size) rfl hown (wks W (initW "java/lang/String" 27 New4.yN)) (W New4.tab (by simp only [site, List.mem_cons, List.mem_append, true_or, or_true])) (W := 0) (Nat.le_of_ble_eq_true rfl) (Nat.le_of_ble_eq_true rfl) (Nat.le_refl _) (by show 0 + A.slots.size ≤ A.slots.size; omega) (g := (mkF m 6 #[.val (.ref a), .val (.ref b)] [.null, .int (Int32.ofNat A.slots.size), .int (Int32.ofNat 0), .ref b, .ref a])) rfl (by rw [hml]; rfl) c2 (argsL := [.ref b, .int (Int32.ofNat 0), .int (Int32.ofNat A.slots.size), .null]) (rest := []) rfl rfl (by show 2 * 0 + 0 ≤ _; decide) (hb hbytes d6) (⟨rfl, hB.mv X0.warmed.alike hh0, f1.al X0.warmed.alike, f2.al X0.warmed.alike, hA.mv X0.warmed.alike hh0, s1.there X0.warmed.alike hh0, hz, l0, by omega, l2, fun i hi => by rw [Nat.zero_add]; exact hp i hi⟩)
  have e0 := Got.mv _ s₁ s _ _ hh0.symm (Vm.Alike.refl _) rfl E3
  obtain rfl := e0.1
  have c4 : Steps p.tables e below (s₁.setTop (entryFrame m #[.ref a, .ref b] 2)) (T3.setTop (mkF m 9 #[.val (.ref a), .val (.ref b)] [])) := g3
  exact ⟨T3, none, _, _, _, X3, by simp, rfl, by omega, (fun _ => rfl), e0, fun fs hl => c4.trans (X3.returnOut hexec hret (hb hbytes d9) hl)⟩
theorem pays {l : Launch} {R : Room} {p : Program} {e : Env} {below : List Frame} {s : State} {sargs : Array Value} {len W : Nat} (a : Addr) (D : Cell) (fV fC : Field) (b : Addr) (A : Cell) (z : Int32) (htab : tab.before sargs s = true) (hfr : 4 ≤ R.frames) (hlo : W + 65 ≤ R.locals) :
    Back l R p e below s sargs yN len W (fun A₁ a₁ => A₁.cells + 1 ≤ R.cells ∧ A₁.slots + A.slots.size ≤ R.slots ∧ P a D fV fC b A z a₁ A₁.U) (fun A₁ _ v₁ B₁ => E a D fV fC A v₁ A₁.U B₁.U ∧ B₁.locs = A₁.locs ++ [⟨a, fC.slot⟩, ⟨a, fV.slot⟩] ∧ B₁.cells = A₁.cells + 1 ∧ B₁.slots = A₁.slots + A.slots.size) :=
  (law l a D fV fC b A z).pays htab hfr (by omega)
end New1
end StrChars
namespace StrChars.Road
open Jvm Sem ClassFile Op Lib Jvm.Stand Jvm.Free Jvm.Free.XT
open Jvm.Lib.Cold (StaticIs)
abbrev ST : String := "java/lang/String"
/-- every table word that New1's law asks, flat -/
abbrev words : List Jvm.Cond := [.code New1.yN New1.yB 2 none, .initialized ST, .methodLink ST 27 New4.yN, .instanceMethod New4.yN,
  .code New4.yN New4.yB 6 none, .fieldLink ST 38 ST "COMPACT_STRINGS" "Z", .laysFinal ST ST "value" "[B", .fieldLink ST 9 ST "value" "[B", .laysFinal ST ST "coder" "B", .fieldLink ST 15 ST "coder" "B",
  .methodLink ST 1 Lib.objectInit, .instanceMethod Lib.objectInit, .code Lib.objectInit ⟨#[0xb1]⟩ 1 none, .methodLink ST 177 Cmp3.yN, .static Cmp3.yN, .methodLink ST 47 CodL.yN, .static CodL.yN,
  .code Cmp3.yN Cmp3.yB 6 (some (.array .byte)), .initialized U16, .arrayClass .byte, .methodLink U16 115 Cmp5.yN, .static Cmp5.yN, .code Cmp5.yN Cmp5.yB 7 (some .int), .code CodL.yN CodL.yB 2 (some .byte)]
theorem tab_of {a : Array Value} {s : State} (h : ∀ w ∈ words, w.before a s = true) : New1.tab.before a s = true := by
  have h5 : Cmp5.tab.before a s = true := unparts (wk h (.code Cmp5.yN Cmp5.yB 7 (some .int))) (wks h (.initialized Cmp5.yN.cls :: Cmp5.site))
  have hc : CodL.tab.before a s = true := unparts (wk h (.code CodL.yN CodL.yB 2 (some .byte))) (wks h (.initialized CodL.yN.cls :: CodL.site))
  have q5 : ∀ w ∈ Cmp5.tab :: words, w.before a s = true := fun w hw => (List.mem_cons.mp hw).elim (fun e => e ▸ h5) (h w)
  have h3 : Cmp3.tab.before a s = true := unparts (wk q5 (.code Cmp3.yN Cmp3.yB 6 (some (.array .byte)))) (wks q5 (.initialized Cmp3.yN.cls :: Cmp3.site))
  have q3 : ∀ w ∈ Cmp3.tab :: CodL.tab :: words, w.before a s = true := fun w hw => (List.mem_cons.mp hw).elim (fun e => e ▸ h3) fun hw => (List.mem_cons.mp hw).elim (fun e => e ▸ hc) (h w)
  have h4 : New4.tab.before a s = true := unparts (wk q3 (.code New4.yN New4.yB 6 none)) (wks q3 (.initialized New4.yN.cls :: New4.site))
  have q4 : ∀ w ∈ New4.tab :: words, w.before a s = true := fun w hw => (List.mem_cons.mp hw).elim (fun e => e ▸ h4) (h w)
  exact unparts (wk q4 (.code New1.yN New1.yB 2 none)) (wks q4 (.initialized New1.yN.cls :: New1.site))
/-- the words ride from the start Z to the walk's own state -/
theorem moved {Z s : State} {a0 args : Array Value} (hZ : Z.Warmed39 s.vm) (hw : ∀ d ∈ words, d.before a0 Z = true) : ∀ d ∈ words, d.before args s = true := fun d hd => by
  have q := hw d hd
  have t : ∀ d ∈ words, d = .arrayClass .byte ∨ (d.onTables && d.keepsFace) = true := by decide +kernel
  rcases t d hd with rfl | t
  · exact RoadKit.mvA hZ q
  · exact RoadKit.mv hZ q t
/-- WHAT COMES BACK, over the tables of the start Z: h the heap at the call, h' behind it -/
def Q (Z : State) (x : Addr) (A : Cell) (h : Heap) (v : Option Value) (h' : Heap) (L : List Loc) : Prop := v = none ∧ (∀ y ∈ L, y.base = x) ∧ RoadKit.Keep h h' [x] ∧ h'.size = h.size + 1 ∧ RoadKit.Exa Z h' x ST ∧ RoadKit.Fld Z h' x ST "value" "[B" (.ref h.size) ∧ RoadKit.Fld Z h' x ST "coder" "B" (.int 0) ∧
  (∃ V : Cell, RoadKit.Arr Z h' h.size V .byte ∧ V.vm = .none ∧ Z.vm.findClass "[B" = some V.cls ∧ V.slots.size = A.slots.size ∧ ∀ j, j < A.slots.size → V.slots[j]? = some (.int (lo8 (cv A j)))) ∧
  ∀ (O n d : String) (w : Value), RoadKit.Fld Z h x O n d w → RoadKit.slotOf Z O n d ≠ RoadKit.slotOf Z ST "value" "[B" → RoadKit.slotOf Z O n d ≠ RoadKit.slotOf Z ST "coder" "B" → RoadKit.Fld Z h' x O n d w
/-- **new String(chars) AT A CALL, IN THE ROAD'S FORM**: for specialBack behind newO: x the fresh String, b the char[] with the cell A -/
theorem back {p : Program} {l : Launch} {e : Env} {R : Room} {s : State} {args : Array Value} {below : List Frame} {len W : Nat} {Z : State} {a0 : Array Value} {h : Heap} (hZ : Z.Warmed39 s.vm) (hw : ∀ d ∈ words, d.before a0 Z = true) {kI : Nat} (wi : (Jvm.Cond.instantiable ST kI).before a0 Z = true)
    {x b : Addr} {A : Cell} {z : Int32} {v0 c0 : Value} (E : RoadKit.Exa Z h x ST) (V : RoadKit.Fld Z h x ST "value" "[B" v0) (C : RoadKit.Fld Z h x ST "coder" "B" c0) (K : RoadKit.Arr Z h b A .char) (hty : Typed .char A) (S : RoadKit.Sta Z h ST "COMPACT_STRINGS" "Z" (.int z)) (hz : ¬ z = 0)
    (l0 : 0 < A.slots.size) (l2 : A.slots.size ≤ 536870912) (hp : ∀ i, i < A.slots.size → ¬ 255 < cv A i) (hfr : 4 ≤ R.frames) (hlo : W + 65 ≤ R.locals) :
    Back l R p e below s args New1.yN len W (fun P a => a = #[.ref x, .ref b] ∧ P.U.heap = h ∧ P.cells + 1 ≤ R.cells ∧ P.slots + A.slots.size ≤ R.slots)
      (fun P _ v B => ∃ L, Q Z x A h v B.U.heap L ∧ B.locs = P.locs ++ L ∧ B.cells = P.cells + 1 ∧ B.slots = P.slots + A.slots.size) := by
  intro m meth c P g ig mk a X hg hsize hdg hW hn hp'
  obtain ⟨rfl, rfl, r1, r2⟩ := hp'
  have al : Z.vm.Alike P.U.vm := hZ.alike.trans X.warmed.alike
  obtain ⟨D, cfV, kV, iV, fV, hD, gV, stV, knV, obV, asV, slV⟩ := id V
  obtain ⟨D', cfC, kC, iC, fC, hD', gC, stC, -, -, asC, slC⟩ := id C
  cases hD.symm.trans hD'
  obtain ⟨D2, kD, e1, e2, e3, e4, e5⟩ := id E
  cases hD.symm.trans e1
  obtain ⟨c2, k2, i1, i2, i3, -⟩ := Cond.instantiable_spec wi
  cases e2.symm.trans i1
  cases e3.symm.trans i2
  obtain ⟨kU, u1, u2⟩ := al.2.2 _ _ e3
  have hB : Blank ST x D P.U := ⟨hD, ⟨knV, fun q hq => by rw [hq] at obV; cases obV⟩, by rw [al.findClass]; exact e2, kU, u1, by rw [u2]; exact i3, by rw [u2]; exact e5 i3⟩
  have F1 : Found ST "value" "[B" fV P.U := ⟨SBG.found_only al ⟨cfV, kV, iV, gV⟩, stV⟩
  have F2 : Found ST "coder" "B" fC P.U := ⟨SBG.found_only al ⟨cfC, kC, iC, gC⟩, stC⟩
  have hA : Ch b A P.U := ⟨⟨K.1, State.isArrayOf_alike al K.2.1, K.2.2, by omega⟩, hty⟩
  have hS : StaticIs P.U ST "COMPACT_STRINGS" "Z" (.int z) := by
    obtain ⟨cfS, iS, kS, fS, st, cS, t1, t2, t3, t4, t5, t6, t7⟩ := S
    exact StaticIs.there (s := { Z with heap := P.U.heap }) ⟨cfS, iS, kS, fS, st, cS, t1, t2, t3, t4, t5, (fun q => by rw [q] at t6; cases t6), t7⟩ al rfl
  obtain ⟨v, B, X', ⟨⟨hv, E', V', q1, q2, q3, q4, q5, q6, q7, q8, q9, q10, q11⟩, hl, hc, hs⟩, st⟩ := New1.pays x D fV fC b A z (tab_of (moved hZ hw)) hfr hlo m meth c P g ig mk _ X hg hsize hdg hW hn ⟨r1, r2, rfl, hB, F1, F2, hA, hS, hz, l0, l2, hp⟩
  have al' : Z.vm.Alike B.U.vm := hZ.alike.trans X'.warmed.alike
  have hsz : E'.slots.size = D.slots.size := by
    obtain ⟨-, -, -, kB, w1, w2, w3⟩ := q1
    obtain ⟨kB', y1, y2⟩ := al'.2.2 _ _ e3
    rw [q2.2.1] at w1
    cases w1.symm.trans y1
    rw [w3, e5 i3, y2]
  refine ⟨v, B, X', ⟨_, ⟨hv, ?_, ⟨by omega, fun y cy hy hn' => q10 y cy (by simpa using hn') hy, fun y cy hy => ?_⟩, q11, ⟨E', _, q1.1, by rw [q2.2.1]; exact e2, by rw [q2.2.1]; exact e3, by rw [q2.1]; exact obV, fun _ => by rw [hsz]; exact e5 i3⟩,
    ⟨E', cfV, kV, iV, fV, q1.1, gV, stV, by rw [q2.1]; exact knV, by rw [q2.1]; exact obV, by rw [q2.2.1]; exact asV, q3⟩, ⟨E', cfC, kC, iC, fC, q1.1, gC, stC, by rw [q2.1]; exact knV, by rw [q2.1]; exact obV, by rw [q2.2.1]; exact asC, q4⟩,
    ⟨V', ⟨q5.1, State.isArrayOf_alike al'.symm q5.2.1, q5.2.2.1⟩, q6, by rw [← al'.findClass]; exact q7, q8, fun j hj => by have := q9 j hj; rwa [Nat.zero_add] at this⟩, fun O n d w F n1 n2 => ?_⟩, hl, hc, hs⟩, st⟩
  · intro y hy
    simp only [List.mem_cons, List.not_mem_nil, or_false] at hy
    rcases hy with rfl | rfl <;> rfl
  · by_cases q : y = x
    · subst q
      cases hD.symm.trans hy
      exact ⟨E', q1.1, q2.2.1, q2.1, hsz⟩
    · exact ⟨cy, q10 y cy q hy, rfl, rfl, rfl⟩
  · obtain ⟨D3, cf, k, i, f, g1, g2, g3, g4, g5, g6, g7⟩ := F
    cases hD.symm.trans g1
    simp only [RoadKit.slotOf, g2, gV, gC, Option.map_some, Option.getD_some] at n1 n2
    exact ⟨E', cf, k, i, f, q1.1, g2, g3, by rw [q2.1]; exact g4, by rw [q2.1]; exact g5, by rw [q2.2.1]; exact g6, by rw [q2.2.2 f.slot (by simp [n1, n2])]; exact g7⟩
end StrChars.Road
namespace StrChars.Road
open Jvm Sem ClassFile Op Lib Jvm.Stand Jvm.Free Jvm.Free.XT
/-- WHAT COMES BACK, the byte[] as a list of values -/
def QA (Z : State) (x : Addr) (zn : Int32) (cs : List Int32) (h : Heap) (v : Option Value) (h' : Heap) (L : List Loc) : Prop := v = none ∧ (∀ y ∈ L, y.base = x) ∧ RoadKit.Keep h h' [x] ∧ h'.size = h.size + 1 ∧ RoadKit.Exa Z h' x ST ∧ RoadKit.Fld Z h' x ST "value" "[B" (.ref h.size) ∧ RoadKit.Fld Z h' x ST "coder" "B" (.int 0) ∧
  (∃ kb, Z.vm.findClass "[B" = some kb ∧ RoadKit.Arv Z h' h.size kb .byte zn (cs.map fun c => .int (lo8 c)) (.int 0)) ∧
  ∀ (O n d : String) (w : Value), RoadKit.Fld Z h x O n d w → RoadKit.slotOf Z O n d ≠ RoadKit.slotOf Z ST "value" "[B" → RoadKit.slotOf Z O n d ≠ RoadKit.slotOf Z ST "coder" "B" → RoadKit.Fld Z h' x O n d w
/-- **new String(chars) AT A CALL, THE ARRAYS AS LISTS**: the char[] at b holds cs, not empty, no char above 255 -/
theorem backArv {p : Program} {l : Launch} {e : Env} {R : Room} {s : State} {args : Array Value} {below : List Frame} {len W : Nat} {Z : State} {a0 : Array Value} {h : Heap} (hZ : Z.Warmed39 s.vm) (hw : ∀ d ∈ words, d.before a0 Z = true) {kI : Nat} (wi : (Jvm.Cond.instantiable ST kI).before a0 Z = true)
    {x b : Addr} {k : ClassId} {zn z : Int32} {cs : List Int32} {dv v0 c0 : Value} (E : RoadKit.Exa Z h x ST) (V : RoadKit.Fld Z h x ST "value" "[B" v0) (C : RoadKit.Fld Z h x ST "coder" "B" c0) (K : RoadKit.Arv Z h b k .char zn (cs.map Value.int) dv) (S : RoadKit.Sta Z h ST "COMPACT_STRINGS" "Z" (.int z)) (hz : ¬ z = 0)
    (hlen : zn.toNatClampNeg = cs.length) (h0 : 0 < cs.length) (hbig : cs.length ≤ 536870912) (hall : ∀ c ∈ cs, ¬ 255 < c) (hfr : 4 ≤ R.frames) (hlo : W + 65 ≤ R.locals) :
    Back l R p e below s args New1.yN len W (fun P a => a = #[.ref x, .ref b] ∧ P.U.heap = h ∧ P.cells + 1 ≤ R.cells ∧ P.slots + cs.length ≤ R.slots)
      (fun P _ v B => ∃ L, QA Z x zn cs h v B.U.heap L ∧ B.locs = P.locs ++ L ∧ B.cells = P.cells + 1 ∧ B.slots = P.slots + cs.length) := by
  obtain ⟨A, K1, K2, K3, K4, K5, K6⟩ := K
  have e : A.slots.size = cs.length := K3.trans hlen
  have hat : ∀ (i : Nat) (hi : i < cs.length), A.slots[i]? = some (.int cs[i]) := fun i hi => by rw [K5 i (by omega)]; simp [List.getD_eq_getElem?_getD, hi]
  have hcv : ∀ (i : Nat) (hi : i < cs.length), cv A i = cs[i] := fun i hi => by unfold cv; rw [hat i hi]
  have hty : Typed .char A := fun i v hv => by
    have hi : i < A.slots.size := (Array.getElem?_eq_some_iff.mp hv).1
    have q := K5 i hi
    rw [hv] at q
    rw [Option.some.inj q]
    exact K6 i hi
  refine Back.mono (back hZ hw wi E V C K1 hty S hz (by omega) (by omega) (fun i hi => by rw [hcv i (by omega)]; exact hall _ (List.getElem_mem _)) hfr hlo) (fun P a hp => ⟨hp.1, hp.2.1, hp.2.2.1, by rw [e]; exact hp.2.2.2⟩) (fun P a v B hp hq => ?_)
  obtain ⟨L, ⟨q1, q2, q3, q4, q5, q6, q7, ⟨V', v1, v2, v3, v4, v5⟩, q9⟩, hl, hc, hs⟩ := hq
  refine ⟨L, ⟨q1, q2, q3, q4, q5, q6, q7, ⟨V'.cls, v3, V', v1, rfl, by rw [v4, e, hlen], K4, fun i hi => ?_, fun i hi => ?_⟩, q9⟩, hl, hc, by rw [hs, e]⟩
  · have hi' : i < cs.length := by omega
    rw [v5 i (by omega), hcv i hi']; simp [List.getD_eq_getElem?_getD, hi']
  · have hi' : i < cs.length := by omega
    simp only [List.getD_eq_getElem?_getD, List.getElem?_map, List.getElem?_eq_getElem hi', Option.map_some, Option.getD_some]
    exact fits_lo8 _
end StrChars.Road
namespace StrChars.Road
open Jvm Sem ClassFile Op Lib Jvm.Stand Jvm.Free Jvm.Free.XT
/-- WHAT COMES BACK, in the writer's own shape -/
def QV (Z : State) (x : Addr) (N : Int32) (bs : List Int32) (h : Heap) (n0 : Nat) (v : Option Value) (h' : Heap) (L : List Loc) : Prop := v = none ∧ RoadKit.Fr n0 L ∧ RoadKit.Keep h h' [x] ∧ RoadKit.Exa Z h' x ST ∧ RoadKit.Fld Z h' x ST "coder" "B" (.int 0) ∧
  ∃ (t : Addr) (kb : ClassId), n0 ≤ t ∧ h.size ≤ t ∧ ¬ t = x ∧ RoadKit.Fld Z h' x ST "value" "[B" (.ref t) ∧ RoadKit.Arv Z h' t kb .byte N (bs.map Value.int) (.int 0)
/-- **new String(chars) AT A CALL, FOR THE WRITER**: a char[] of n known ints, each 0 to 255 -/
theorem backV {p : Program} {l : Launch} {e : Env} {R : Room} {s : State} {args : Array Value} {below : List Frame} {len W : Nat} {Z : State} {a0 : Array Value} {h : Heap} (hZ : Z.Warmed39 s.vm) (hw : ∀ d ∈ words, d.before a0 Z = true) {kI : Nat} (wi : (Jvm.Cond.instantiable ST kI).before a0 Z = true)
    {x b : Addr} {kC : ClassId} {cs bs : List Int32} {d v0 c0 : Value} {z N : Int32} {n n0 : Nat} (hx0 : n0 ≤ x) (hh0 : n0 ≤ h.size) (E : RoadKit.Exa Z h x ST) (V : RoadKit.Fld Z h x ST "value" "[B" v0) (C : RoadKit.Fld Z h x ST "coder" "B" c0) (K : RoadKit.Arv Z h b kC .char N (cs.map Value.int) d) (S : RoadKit.Sta Z h ST "COMPACT_STRINGS" "Z" (.int z)) (hz : ¬ z = 0)
    (hn : cs.length = n) (hN : N = Int32.ofNat n) (l0 : 0 < n) (l2 : n ≤ 4000) (hp : ∀ c ∈ cs, ¬ c < 0 ∧ ¬ (255 : Int32) < c) (hb : bs = cs.map (fun c => c.toInt8.toInt32)) (hfr : 4 ≤ R.frames) (hlo : W + 65 ≤ R.locals) :
    Back l R p e below s args (⟨"java/lang/String", "<init>", "([C)V"⟩ : MethodName) len W (fun P a => a = #[.ref x, .ref b] ∧ P.U.heap = h ∧ P.cells + 1 ≤ R.cells ∧ P.slots + n ≤ R.slots)
      (fun P _ v B => ∃ L, QV Z x N bs h n0 v B.U.heap L ∧ B.locs = P.locs ++ L ∧ B.cells = P.cells + 1 ∧ B.slots = P.slots + n) := by
  subst hn hN hb
  refine Back.mono (backArv hZ hw wi E V C K S hz (n32 (by omega)) l0 (by omega) (fun c hc => (hp c hc).2) hfr hlo) (fun P a hp => hp) (fun P a v B hp hq => ?_)
  obtain ⟨L, ⟨q1, q2, q3, q4, q5, q6, q7, ⟨kb, v1, v2⟩, q9⟩, hl, hc, hs⟩ := hq
  exact ⟨L, ⟨q1, fun y hy => by rw [q2 y hy]; exact hx0, q3, q5, q7, h.size, kb, hh0, Nat.le_refl _, Nat.ne_of_gt E.lt, q6, by rw [List.map_map]; exact v2⟩, hl, hc, hs⟩
end StrChars.Road
end Jvm.Pilot.@@N@@
namespace Jvm.Pilot.@@N@@
open Jvm Jvm.ClassFile Sem Op Lib Jvm.Free Jvm.Stand Jvm.LawKit Jvm.RoadKit Bundle Jvm.Pilot.@@N@@.Jvm.D
abbrev Ac (Z : State) (h : Heap) (a : Addr) (v0 : Value) (v1 : Value) : Prop := Exa Z h a "com/example/ballast/ballast/runtime/ActorId" ∧ Fld Z h a "com/example/ballast/ballast/runtime/ActorId" "type" "Ljava/lang/String;" v0 ∧ Fld Z h a "com/example/ballast/ballast/runtime/ActorId" "key" "Ljava/lang/String;" v1
abbrev Ob (Z : State) (h : Heap) (a : Addr) (v0 : Value) (v1 : Value) (v2 : Value) (v3 : Value) : Prop := Exa Z h a "com/example/ballast/ballast/runtime/Outbox" ∧ Fld Z h a "com/example/ballast/ballast/runtime/Outbox" "lastSent" "J" v0 ∧ Fld Z h a "com/example/ballast/ballast/runtime/Outbox" "held" "Ljava/util/List;" v2 ∧ Fld Z h a "com/example/ballast/ballast/runtime/Outbox" "deferredMove" "I" v3
abbrev Al (Z : State) (h : Heap) (a : Addr) (v0 : Value) (v1 : Value) (v2 : Value) : Prop := Exa Z h a "java/util/ArrayList" ∧ Fld Z h a "java/util/AbstractList" "modCount" "I" v0 ∧ Fld Z h a "java/util/ArrayList" "elementData" "[Ljava/lang/Object;" v1 ∧ Fld Z h a "java/util/ArrayList" "size" "I" v2
abbrev He (Z : State) (h : Heap) (a : Addr) (v0 : Value) (v1 : Value) : Prop := Exa Z h a "com/example/ballast/ballast/runtime/Outbox$Held" ∧ Fld Z h a "com/example/ballast/ballast/runtime/Outbox$Held" "receiver" "Lcom/example/ballast/ballast/runtime/ActorId;" v0 ∧ Fld Z h a "com/example/ballast/ballast/runtime/Outbox$Held" "send" "Ljava/util/function/IntConsumer;" v1
theorem own_n32 {n : Nat} (hn : n ≤ 100) : (Int32.ofNat n).toNatClampNeg = n := by
  rw [Int32.toNatClampNeg, Int32.toInt_ofNat_of_lt (by omega)]; rfl
theorem own_int {n : Nat} (hn : n ≤ 100) : (Int32.ofNat n).toInt = n := Int32.toInt_ofNat_of_lt (by omega)
theorem own_one (i : Nat) : Int32.ofNat i + (1 : Int32) = Int32.ofNat (i + 1) := (Int32.ofNat_add i 1).symm
theorem own_in10 {i : Nat} (h : i < 10) : ¬ Int32.ofNat i < 0 ∧ Int32.ofNat i < 10 := by
  rw [Int32.lt_iff_toInt_lt, Int32.lt_iff_toInt_lt, own_int (by omega), show (0 : Int32).toInt = 0 from rfl, show (10 : Int32).toInt = 10 from rfl]; omega
theorem own_ne10 {i : Nat} (h : i < 10) : ¬ Int32.ofNat i = (10 : Int32) := fun q => by
  have := congrArg Int32.toInt q
  rw [own_int (by omega), show (10 : Int32).toInt = 10 from rfl] at this; omega
theorem d9_0 : decode prog_120_method_1_code 0 = .ok (.aload_n 0, 1) := by decide +kernel
theorem d9_1 : decode prog_120_method_1_code 1 = .ok (.invokespecial 1, 3) := by decide +kernel
theorem d9_4 : decode prog_120_method_1_code 4 = .ok (.aload_n 0, 1) := by decide +kernel
theorem d9_5 : decode prog_120_method_1_code 5 = .ok (.ldc2_w 7, 3) := by decide +kernel
theorem d9_8 : decode prog_120_method_1_code 8 = .ok (.putfield 9, 3) := by decide +kernel
theorem d9_11 : decode prog_120_method_1_code 11 = .ok (.aload_n 0, 1) := by decide +kernel
theorem d9_12 : decode prog_120_method_1_code 12 = .ok (.iconst (-1), 1) := by decide +kernel
theorem d9_13 : decode prog_120_method_1_code 13 = .ok (.putfield 15, 3) := by decide +kernel
theorem d9_16 : decode prog_120_method_1_code 16 = .ok (.return_, 1) := by decide +kernel
theorem pd_0 : parseMethodDescriptor "()V" = some ⟨[], none⟩ := by decide +kernel
theorem pd_1 : parseMethodDescriptor "(II)I" = some ⟨[.int, .int], some .int⟩ := by decide +kernel
theorem pd_2 : parseMethodDescriptor "(I)[Ljava/lang/Object;" = some ⟨[.int], some (.array (.object "java/lang/Object"))⟩ := by decide +kernel
theorem pd_3 : parseMethodDescriptor "()[Ljava/lang/Object;" = some ⟨[], some (.array (.object "java/lang/Object"))⟩ := by decide +kernel
theorem pd_4 : parseMethodDescriptor "(Ljava/lang/Object;[Ljava/lang/Object;I)V" = some ⟨[(.object "java/lang/Object"), (.array (.object "java/lang/Object")), .int], none⟩ := by decide +kernel
theorem pd_5 : parseMethodDescriptor "(Lcom/example/ballast/ballast/runtime/ActorId;Ljava/util/function/IntConsumer;)V" = some ⟨[(.object "com/example/ballast/ballast/runtime/ActorId"), (.object "java/util/function/IntConsumer")], none⟩ := by decide +kernel
theorem pd_6 : parseMethodDescriptor "(Ljava/lang/Object;)Z" = some ⟨[(.object "java/lang/Object")], some .boolean⟩ := by decide +kernel
theorem pd_7 : parseMethodDescriptor "(IILjava/util/function/BiFunction;)I" = some ⟨[.int, .int, (.object "java/util/function/BiFunction")], some .int⟩ := by decide +kernel
theorem pd_8 : parseMethodDescriptor "(I)Ljava/lang/Object;" = some ⟨[.int], some (.object "java/lang/Object")⟩ := by decide +kernel
theorem pd_9 : parseMethodDescriptor "([C)V" = some ⟨[(.array .char)], none⟩ := by decide +kernel
theorem pd_10 : parseMethodDescriptor "(Ljava/lang/String;Ljava/lang/String;)V" = some ⟨[(.object "java/lang/String"), (.object "java/lang/String")], none⟩ := by decide +kernel
theorem pd_11 : parseMethodDescriptor "()Ljava/util/List;" = some ⟨[], some (.object "java/util/List")⟩ := by decide +kernel
theorem pd_12 : parseMethodDescriptor "()Z" = some ⟨[], some .boolean⟩ := by decide +kernel
theorem pd_13 : parseMethodDescriptor "()I" = some ⟨[], some .int⟩ := by decide +kernel
theorem pd_14 : parseMethodDescriptor "()Lcom/example/ballast/ballast/runtime/ActorId;" = some ⟨[], some (.object "com/example/ballast/ballast/runtime/ActorId")⟩ := by decide +kernel
theorem pd_15 : parseMethodDescriptor "()Ljava/util/function/IntConsumer;" = some ⟨[], some (.object "java/util/function/IntConsumer")⟩ := by decide +kernel
theorem pn_9 : plainName "com/example/ballast/ballast/runtime/Outbox" = true := by first | (simp [plainName, overriddenIn]; done) | decide +kernel
theorem ef_9 (m : MethodId) (r0 : Addr) : entryFrame m #[(.ref r0)] 1 = mkF m 0 #[.val (.ref r0)] [] := by first | (simp [entryFrame, mkF, argsToLocals, Value.category]; done) | rfl
abbrev QInit (Z : State) (r0 : Addr) (h0 : Heap) (n0 : Nat) (v : Option Value) (h : Heap) (L : List Loc) : Prop := v = none ∧ Fr n0 L ∧ Keep h0 h [r0] ∧ Ob Z h r0 (.long (-1 : Int64)) (.int (0 : Int32)) .null (.int (-1 : Int32))
set_option maxRecDepth 65536 in
set_option maxHeartbeats 40000000 in
theorem rmInit (l : Launch) (Z : State) (a0 : Array Value) (hw : ∀ d ∈ tables_1, d.before a0 Z = true) (ws : List Jvm.Cond) (r0 : Addr) (h0 : Heap) (n0 : Nat) (Z0 : n0 ≤ h0.size) (O0 : Ob Z h0 r0 (.long (0 : Int64)) (.int (0 : Int32)) .null (.int (0 : Int32))) (g_r0 : n0 ≤ r0) :
    MetFree l (⟨"com/example/ballast/ballast/runtime/Outbox", "<init>", "()V"⟩ : MethodName) (head1 (Jvm.Cond.code (⟨"com/example/ballast/ballast/runtime/Outbox", "<init>", "()V"⟩ : MethodName) prog_120_method_1_code 1 none :: ws) ({ frames := 1, cells := 0, slots := 0, locals := 12 } : Room)) (fun a U => a = #[(.ref r0)] ∧ Z.Warmed39 U.vm ∧ U.heap = h0) (fun _ _ _ _ _ => True) (fun _ U o U' => ∃ v L, o = .returned v ∧ QInit Z r0 h0 n0 v U'.heap L ∧ FrameEnd U o U' L 0 0) := by
  refine MetFree.of_bodySF (plainFor_of_name pn_9) hisR ?_
  intro p ev s m args below meth c s₁ Bd hml0 hP hK
  obtain ⟨rfl, hZ, hh⟩ := hP
  have hx := Bd.exec
  have hby := Bd.bytes
  have hml : c.maxLocals = 1 := hml0
  have hown : s.vm.findClass "com/example/ballast/ballast/runtime/Outbox" = some m.cls := findClass_of_methodNamed Bd.named
  have hnm := (name_of_methodNamed Bd.named Bd.method).1
  have X0 : Stand p l ev ({ frames := 1, cells := 0, slots := 0, locals := 12 } : Room) s m #[(.ref r0)] below meth c s₁ [] 0 0 := Stand.of_body Bd
  have eh0 : s₁.heap = h0 := by rw [← hh, Bd.state]; rfl
  have N0 := Fr.nil n0
  have Zs := Z0
  show Gol p ev below (FrameEnd s) (QInit Z r0 h0 n0) 0 0 (s₁.setTop (entryFrame m #[(.ref r0)] 1))
  rw [ef_9]
  obtain ⟨E_r0, F_r0_lastSent, F_r0_held, F_r0_deferredMove⟩ := O0
  have K := Keep.refl h0 [r0]
  show GolF _ _ _ _ _ _ _ s₁ m 0 #[.val (.ref r0)] []
  refine Gol.aloadN X0 hx hby d9_0 (pc' := 1) rfl rfl rfl ?_
  refine Gol.initO X0 hx hby hZ hown (hw _ (List.mem_of_getElem? (i := 56) rfl)) (hw _ (List.mem_of_getElem? (i := 21) rfl)) (hw _ (List.mem_of_getElem? (i := 22) rfl)) eh0 0 d9_1 (pc' := 4) rfl (by rw [hml]; rfl) (by decide) (Nat.le_of_eq rfl) (by decide) ?_
  intro T1 X1 e1
  refine Gol.aloadN X1 hx hby d9_4 (pc' := 5) rfl rfl rfl ?_
  refine Gol.ldc2Long X1 hx hby hZ hown d9_5 (pc' := 8) rfl (hw _ (List.mem_of_getElem? (i := 57) rfl)) ?_
  refine Gol.putF X1 hx hby hZ hown (host := "") (Or.inl (hw _ (List.mem_of_getElem? (i := 58) rfl))) Via.refl e1 F_r0_lastSent E_r0 (Or.inl (hw _ (List.mem_of_getElem? (i := 59) rfl))) (hw _ (List.mem_of_getElem? (i := 51) rfl)) (ty := .long) (by decide) rfl rfl d9_8 (pc' := 11) rfl ?_
  intro T2 h2 X2 e2 W2
  have E_r0 := E_r0.wr W2
  have F_r0_lastSent := F_r0_lastSent.same W2
  have F_r0_held := F_r0_held.other W2 (Or.inr (slot_ne (Or.inl (hw _ (List.mem_of_getElem? (i := 68) rfl))) (Or.inl (hw _ (List.mem_of_getElem? (i := 59) rfl))) (by decide) (t := (.object "java/util/List")) (t' := .long) (by decide) (by decide)))
  have F_r0_deferredMove := F_r0_deferredMove.other W2 (Or.inr (slot_ne (Or.inl (hw _ (List.mem_of_getElem? (i := 61) rfl))) (Or.inl (hw _ (List.mem_of_getElem? (i := 59) rfl))) (by decide) (t := .int) (t' := .long) (by decide) (by decide)))
  have K := K.wr W2 (Or.inl (List.mem_of_getElem? (i := 0) rfl))
  have Zs := Nat.le_trans Zs (Keep.of_wr W2).1
  have N2 := Fr.snoc X2 N0 g_r0
  refine Gol.aloadN X2 hx hby d9_11 (pc' := 12) rfl rfl rfl ?_
  refine Gol.iconst X2 hx hby d9_12 (pc' := 13) rfl (z := (-1 : Int32)) rfl ?_
  refine Gol.putF X2 hx hby hZ hown (host := "") (Or.inl (hw _ (List.mem_of_getElem? (i := 60) rfl))) Via.refl e2 F_r0_deferredMove E_r0 (Or.inl (hw _ (List.mem_of_getElem? (i := 61) rfl))) (hw _ (List.mem_of_getElem? (i := 51) rfl)) (ty := .int) (by decide) rfl rfl d9_13 (pc' := 16) rfl ?_
  intro T3 h3 X3 e3 W3
  have E_r0 := E_r0.wr W3
  have F_r0_lastSent := F_r0_lastSent.other W3 (Or.inr (slot_ne (Or.inl (hw _ (List.mem_of_getElem? (i := 59) rfl))) (Or.inl (hw _ (List.mem_of_getElem? (i := 61) rfl))) (by decide) (t := .long) (t' := .int) (by decide) (by decide)))
  have F_r0_held := F_r0_held.other W3 (Or.inr (slot_ne (Or.inl (hw _ (List.mem_of_getElem? (i := 68) rfl))) (Or.inl (hw _ (List.mem_of_getElem? (i := 61) rfl))) (by decide) (t := (.object "java/util/List")) (t' := .int) (by decide) (by decide)))
  have F_r0_deferredMove := F_r0_deferredMove.same W3
  have K := K.wr W3 (Or.inl (List.mem_of_getElem? (i := 0) rfl))
  have Zs := Nat.le_trans Zs (Keep.of_wr W3).1
  have N3 := Fr.snoc X3 N2 g_r0
  exact Gol.ret0 X3 hx hby Bd.returns Bd.notSynchronized d9_16 e3 ⟨rfl, N3, K, ⟨E_r0, F_r0_lastSent, F_r0_held, F_r0_deferredMove⟩⟩ (by decide) (by decide)
theorem d10_0 : decode prog_120_method_9_code 0 = .ok (.aload_n 0, 1) := by decide +kernel
theorem d10_1 : decode prog_120_method_9_code 1 = .ok (.getfield 26, 3) := by decide +kernel
theorem d10_4 : decode prog_120_method_9_code 4 = .ok (.astore_n 1, 1) := by decide +kernel
theorem d10_5 : decode prog_120_method_9_code 5 = .ok (.aload_n 0, 1) := by decide +kernel
theorem d10_6 : decode prog_120_method_9_code 6 = .ok (.aconst_null, 1) := by decide +kernel
theorem d10_7 : decode prog_120_method_9_code 7 = .ok (.putfield 26, 3) := by decide +kernel
theorem d10_10 : decode prog_120_method_9_code 10 = .ok (.aload_n 1, 1) := by decide +kernel
theorem d10_11 : decode prog_120_method_9_code 11 = .ok (.areturn, 1) := by decide +kernel
theorem pn_10 : plainName "com/example/ballast/ballast/runtime/Outbox" = true := by first | (simp [plainName, overriddenIn]; done) | decide +kernel
theorem ef_10 (m : MethodId) (r0 : Addr) : entryFrame m #[(.ref r0)] 2 = mkF m 0 #[.val (.ref r0), .unset] [] := by first | (simp [entryFrame, mkF, argsToLocals, Value.category]; done) | rfl
abbrev QRelN (Z : State) (r0 : Addr) (v0 : Value) (v1 : Value) (v3 : Value) (h0 : Heap) (n0 : Nat) (v : Option Value) (h : Heap) (L : List Loc) : Prop := v = some .null ∧ Fr n0 L ∧ Keep h0 h [r0] ∧ Ob Z h r0 v0 v1 .null v3
set_option maxRecDepth 65536 in
set_option maxHeartbeats 40000000 in
theorem rmRelN (l : Launch) (Z : State) (a0 : Array Value) (hw : ∀ d ∈ tables_1, d.before a0 Z = true) (ws : List Jvm.Cond) (r0 : Addr) (v0 : Value) (v1 : Value) (v3 : Value) (h0 : Heap) (n0 : Nat) (Z0 : n0 ≤ h0.size) (O0 : Ob Z h0 r0 v0 v1 .null v3) (g_r0 : n0 ≤ r0) :
    MetFree l (⟨"com/example/ballast/ballast/runtime/Outbox", "release", "()Ljava/util/List;"⟩ : MethodName) (head1 (Jvm.Cond.code (⟨"com/example/ballast/ballast/runtime/Outbox", "release", "()Ljava/util/List;"⟩ : MethodName) prog_120_method_9_code 2 (some (.object "java/util/List")) :: ws) ({ frames := 0, cells := 0, slots := 0, locals := 0 } : Room)) (fun a U => a = #[(.ref r0)] ∧ Z.Warmed39 U.vm ∧ U.heap = h0) (fun _ _ _ _ _ => True) (fun _ U o U' => ∃ v L, o = .returned v ∧ QRelN Z r0 v0 v1 v3 h0 n0 v U'.heap L ∧ FrameEnd U o U' L 0 0) := by
  refine MetFree.of_bodySF (plainFor_of_name pn_10) hisR ?_
  intro p ev s m args below meth c s₁ Bd hml0 hP hK
  obtain ⟨rfl, hZ, hh⟩ := hP
  have hx := Bd.exec
  have hby := Bd.bytes
  have hml : c.maxLocals = 2 := hml0
  have hown : s.vm.findClass "com/example/ballast/ballast/runtime/Outbox" = some m.cls := findClass_of_methodNamed Bd.named
  have hnm := (name_of_methodNamed Bd.named Bd.method).1
  have X0 : Stand p l ev ({ frames := 0, cells := 0, slots := 0, locals := 0 } : Room) s m #[(.ref r0)] below meth c s₁ [] 0 0 := Stand.of_body Bd
  have eh0 : s₁.heap = h0 := by rw [← hh, Bd.state]; rfl
  have N0 := Fr.nil n0
  have Zs := Z0
  show Gol p ev below (FrameEnd s) (QRelN Z r0 v0 v1 v3 h0 n0) 0 0 (s₁.setTop (entryFrame m #[(.ref r0)] 2))
  rw [ef_10]
  obtain ⟨E_r0, F_r0_lastSent, F_r0_held, F_r0_deferredMove⟩ := O0
  have K := Keep.refl h0 [r0]
  show GolF _ _ _ _ _ _ _ s₁ m 0 #[.val (.ref r0), .unset] []
  refine Gol.aloadN X0 hx hby d10_0 (pc' := 1) rfl rfl rfl ?_
  refine Gol.getF X0 hx hby hZ hown (host := "") (Or.inl (hw _ (List.mem_of_getElem? (i := 67) rfl))) Via.refl eh0 F_r0_held d10_1 (pc' := 4) rfl ?_
  intro T1 X1 e1
  refine Gol.astoreN X1 hx hby d10_4 (pc' := 5) rfl rfl (l' := #[.val (.ref r0), .val .null]) rfl ?_
  refine Gol.aloadN X1 hx hby d10_5 (pc' := 6) rfl rfl rfl ?_
  refine Gol.aconstNull X1 hx hby d10_6 (pc' := 7) rfl ?_
  refine Gol.putF X1 hx hby hZ hown (host := "") (Or.inl (hw _ (List.mem_of_getElem? (i := 67) rfl))) Via.refl e1 F_r0_held E_r0 (Or.inl (hw _ (List.mem_of_getElem? (i := 68) rfl))) (hw _ (List.mem_of_getElem? (i := 51) rfl)) (ty := (.object "java/util/List")) (by decide) rfl rfl d10_7 (pc' := 10) rfl ?_
  intro T2 h2 X2 e2 W2
  have E_r0 := E_r0.wr W2
  have F_r0_lastSent := F_r0_lastSent.other W2 (Or.inr (slot_ne (Or.inl (hw _ (List.mem_of_getElem? (i := 59) rfl))) (Or.inl (hw _ (List.mem_of_getElem? (i := 68) rfl))) (by decide) (t := .long) (t' := (.object "java/util/List")) (by decide) (by decide)))
  have F_r0_held := F_r0_held.same W2
  have F_r0_deferredMove := F_r0_deferredMove.other W2 (Or.inr (slot_ne (Or.inl (hw _ (List.mem_of_getElem? (i := 61) rfl))) (Or.inl (hw _ (List.mem_of_getElem? (i := 68) rfl))) (by decide) (t := .int) (t' := (.object "java/util/List")) (by decide) (by decide)))
  have K := K.wr W2 (Or.inl (List.mem_of_getElem? (i := 0) rfl))
  have Zs := Nat.le_trans Zs (Keep.of_wr W2).1
  have N2 := Fr.snoc X2 N0 g_r0
  refine Gol.aloadN X2 hx hby d10_10 (pc' := 11) rfl rfl rfl ?_
  exact Gol.retA X2 hx hby Bd.returns rfl rfl Bd.notSynchronized d10_11 e2 ⟨rfl, N2, K, ⟨E_r0, F_r0_lastSent, F_r0_held, F_r0_deferredMove⟩⟩ (by decide) (by decide)
abbrev QRelR (Z : State) (r0 : Addr) (v0 : Value) (v1 : Value) (v3 : Value) (hb : Addr) (h0 : Heap) (n0 : Nat) (v : Option Value) (h : Heap) (L : List Loc) : Prop := v = some (.ref hb) ∧ Fr n0 L ∧ Keep h0 h [r0] ∧ Ob Z h r0 v0 v1 .null v3
set_option maxRecDepth 65536 in
set_option maxHeartbeats 40000000 in
theorem rmRelR (l : Launch) (Z : State) (a0 : Array Value) (hw : ∀ d ∈ tables_1, d.before a0 Z = true) (ws : List Jvm.Cond) (r0 : Addr) (v0 : Value) (v1 : Value) (v3 : Value) (hb : Addr) (h0 : Heap) (n0 : Nat) (Z0 : n0 ≤ h0.size) (O0 : Ob Z h0 r0 v0 v1 (.ref hb) v3) (g_r0 : n0 ≤ r0) :
    MetFree l (⟨"com/example/ballast/ballast/runtime/Outbox", "release", "()Ljava/util/List;"⟩ : MethodName) (head1 (Jvm.Cond.code (⟨"com/example/ballast/ballast/runtime/Outbox", "release", "()Ljava/util/List;"⟩ : MethodName) prog_120_method_9_code 2 (some (.object "java/util/List")) :: ws) ({ frames := 0, cells := 0, slots := 0, locals := 0 } : Room)) (fun a U => a = #[(.ref r0)] ∧ Z.Warmed39 U.vm ∧ U.heap = h0) (fun _ _ _ _ _ => True) (fun _ U o U' => ∃ v L, o = .returned v ∧ QRelR Z r0 v0 v1 v3 hb h0 n0 v U'.heap L ∧ FrameEnd U o U' L 0 0) := by
  refine MetFree.of_bodySF (plainFor_of_name pn_10) hisR ?_
  intro p ev s m args below meth c s₁ Bd hml0 hP hK
  obtain ⟨rfl, hZ, hh⟩ := hP
  have hx := Bd.exec
  have hby := Bd.bytes
  have hml : c.maxLocals = 2 := hml0
  have hown : s.vm.findClass "com/example/ballast/ballast/runtime/Outbox" = some m.cls := findClass_of_methodNamed Bd.named
  have hnm := (name_of_methodNamed Bd.named Bd.method).1
  have X0 : Stand p l ev ({ frames := 0, cells := 0, slots := 0, locals := 0 } : Room) s m #[(.ref r0)] below meth c s₁ [] 0 0 := Stand.of_body Bd
  have eh0 : s₁.heap = h0 := by rw [← hh, Bd.state]; rfl
  have N0 := Fr.nil n0
  have Zs := Z0
  show Gol p ev below (FrameEnd s) (QRelR Z r0 v0 v1 v3 hb h0 n0) 0 0 (s₁.setTop (entryFrame m #[(.ref r0)] 2))
  rw [ef_10]
  obtain ⟨E_r0, F_r0_lastSent, F_r0_held, F_r0_deferredMove⟩ := O0
  have K := Keep.refl h0 [r0]
  show GolF _ _ _ _ _ _ _ s₁ m 0 #[.val (.ref r0), .unset] []
  refine Gol.aloadN X0 hx hby d10_0 (pc' := 1) rfl rfl rfl ?_
  refine Gol.getF X0 hx hby hZ hown (host := "") (Or.inl (hw _ (List.mem_of_getElem? (i := 67) rfl))) Via.refl eh0 F_r0_held d10_1 (pc' := 4) rfl ?_
  intro T1 X1 e1
  refine Gol.astoreN X1 hx hby d10_4 (pc' := 5) rfl rfl (l' := #[.val (.ref r0), .val (.ref hb)]) rfl ?_
  refine Gol.aloadN X1 hx hby d10_5 (pc' := 6) rfl rfl rfl ?_
  refine Gol.aconstNull X1 hx hby d10_6 (pc' := 7) rfl ?_
  refine Gol.putF X1 hx hby hZ hown (host := "") (Or.inl (hw _ (List.mem_of_getElem? (i := 67) rfl))) Via.refl e1 F_r0_held E_r0 (Or.inl (hw _ (List.mem_of_getElem? (i := 68) rfl))) (hw _ (List.mem_of_getElem? (i := 51) rfl)) (ty := (.object "java/util/List")) (by decide) rfl rfl d10_7 (pc' := 10) rfl ?_
  intro T2 h2 X2 e2 W2
  have E_r0 := E_r0.wr W2
  have F_r0_lastSent := F_r0_lastSent.other W2 (Or.inr (slot_ne (Or.inl (hw _ (List.mem_of_getElem? (i := 59) rfl))) (Or.inl (hw _ (List.mem_of_getElem? (i := 68) rfl))) (by decide) (t := .long) (t' := (.object "java/util/List")) (by decide) (by decide)))
  have F_r0_held := F_r0_held.same W2
  have F_r0_deferredMove := F_r0_deferredMove.other W2 (Or.inr (slot_ne (Or.inl (hw _ (List.mem_of_getElem? (i := 61) rfl))) (Or.inl (hw _ (List.mem_of_getElem? (i := 68) rfl))) (by decide) (t := .int) (t' := (.object "java/util/List")) (by decide) (by decide)))
  have K := K.wr W2 (Or.inl (List.mem_of_getElem? (i := 0) rfl))
  have Zs := Nat.le_trans Zs (Keep.of_wr W2).1
  have N2 := Fr.snoc X2 N0 g_r0
  refine Gol.aloadN X2 hx hby d10_10 (pc' := 11) rfl rfl rfl ?_
  exact Gol.retA X2 hx hby Bd.returns rfl rfl Bd.notSynchronized d10_11 e2 ⟨rfl, N2, K, ⟨E_r0, F_r0_lastSent, F_r0_held, F_r0_deferredMove⟩⟩ (by decide) (by decide)
theorem d11_0 : decode prog_120_method_7_code 0 = .ok (.aload_n 0, 1) := by decide +kernel
theorem d11_1 : decode prog_120_method_7_code 1 = .ok (.getfield 26, 3) := by decide +kernel
theorem d11_4 : decode prog_120_method_7_code 4 = .ok (.ifnull 7, 3) := by decide +kernel
theorem d11_11 : decode prog_120_method_7_code 11 = .ok (.iconst 0, 1) := by decide +kernel
theorem d11_12 : decode prog_120_method_7_code 12 = .ok (.ireturn, 1) := by decide +kernel
theorem pn_11 : plainName "com/example/ballast/ballast/runtime/Outbox" = true := by first | (simp [plainName, overriddenIn]; done) | decide +kernel
theorem ef_11 (m : MethodId) (r0 : Addr) : entryFrame m #[(.ref r0)] 1 = mkF m 0 #[.val (.ref r0)] [] := by first | (simp [entryFrame, mkF, argsToLocals, Value.category]; done) | rfl
abbrev QHolN (Z : State) (r0 : Addr) (v0 : Value) (v1 : Value) (v3 : Value) (h0 : Heap) (n0 : Nat) (v : Option Value) (h : Heap) (L : List Loc) : Prop := v = some (.int (0 : Int32)) ∧ Fr n0 L ∧ h = h0
set_option maxRecDepth 65536 in
set_option maxHeartbeats 40000000 in
theorem rmHolN (l : Launch) (Z : State) (a0 : Array Value) (hw : ∀ d ∈ tables_1, d.before a0 Z = true) (ws : List Jvm.Cond) (r0 : Addr) (v0 : Value) (v1 : Value) (v3 : Value) (h0 : Heap) (n0 : Nat) (Z0 : n0 ≤ h0.size) (O0 : Ob Z h0 r0 v0 v1 .null v3) (g_r0 : n0 ≤ r0) :
    MetFree l (⟨"com/example/ballast/ballast/runtime/Outbox", "isHolding", "()Z"⟩ : MethodName) (head1 (Jvm.Cond.code (⟨"com/example/ballast/ballast/runtime/Outbox", "isHolding", "()Z"⟩ : MethodName) prog_120_method_7_code 1 (some .boolean) :: ws) ({ frames := 0, cells := 0, slots := 0, locals := 0 } : Room)) (fun a U => a = #[(.ref r0)] ∧ Z.Warmed39 U.vm ∧ U.heap = h0) (fun _ _ _ _ _ => True) (fun _ U o U' => ∃ v L, o = .returned v ∧ QHolN Z r0 v0 v1 v3 h0 n0 v U'.heap L ∧ FrameEnd U o U' L 0 0) := by
  refine MetFree.of_bodySF (plainFor_of_name pn_11) hisR ?_
  intro p ev s m args below meth c s₁ Bd hml0 hP hK
  obtain ⟨rfl, hZ, hh⟩ := hP
  have hx := Bd.exec
  have hby := Bd.bytes
  have hml : c.maxLocals = 1 := hml0
  have hown : s.vm.findClass "com/example/ballast/ballast/runtime/Outbox" = some m.cls := findClass_of_methodNamed Bd.named
  have hnm := (name_of_methodNamed Bd.named Bd.method).1
  have X0 : Stand p l ev ({ frames := 0, cells := 0, slots := 0, locals := 0 } : Room) s m #[(.ref r0)] below meth c s₁ [] 0 0 := Stand.of_body Bd
  have eh0 : s₁.heap = h0 := by rw [← hh, Bd.state]; rfl
  have N0 := Fr.nil n0
  have Zs := Z0
  show Gol p ev below (FrameEnd s) (QHolN Z r0 v0 v1 v3 h0 n0) 0 0 (s₁.setTop (entryFrame m #[(.ref r0)] 1))
  rw [ef_11]
  obtain ⟨E_r0, F_r0_lastSent, F_r0_held, F_r0_deferredMove⟩ := O0
  have K := Keep.refl h0 [r0]
  show GolF _ _ _ _ _ _ _ s₁ m 0 #[.val (.ref r0)] []
  refine Gol.aloadN X0 hx hby d11_0 (pc' := 1) rfl rfl rfl ?_
  refine Gol.getF X0 hx hby hZ hown (host := "") (Or.inl (hw _ (List.mem_of_getElem? (i := 67) rfl))) Via.refl eh0 F_r0_held d11_1 (pc' := 4) rfl ?_
  intro T1 X1 e1
  refine Gol.ifnullYes X1 hx hby d11_4 (pc' := 11) (by decide) ?_
  refine Gol.iconst X1 hx hby d11_11 (pc' := 12) rfl (z := (0 : Int32)) rfl ?_
  exact Gol.retN X1 hx hby (t := .boolean) Bd.returns (by simp) Bd.notSynchronized d11_12 e1 ⟨rfl, N0, rfl⟩ (by decide) (by decide)
theorem d11_7 : decode prog_120_method_7_code 7 = .ok (.iconst 1, 1) := by decide +kernel
theorem d11_8 : decode prog_120_method_7_code 8 = .ok (.goto 4, 3) := by decide +kernel
abbrev QHolR (Z : State) (r0 : Addr) (v0 : Value) (v1 : Value) (v3 : Value) (hb : Addr) (h0 : Heap) (n0 : Nat) (v : Option Value) (h : Heap) (L : List Loc) : Prop := v = some (.int (1 : Int32)) ∧ Fr n0 L ∧ h = h0
set_option maxRecDepth 65536 in
set_option maxHeartbeats 40000000 in
theorem rmHolR (l : Launch) (Z : State) (a0 : Array Value) (hw : ∀ d ∈ tables_1, d.before a0 Z = true) (ws : List Jvm.Cond) (r0 : Addr) (v0 : Value) (v1 : Value) (v3 : Value) (hb : Addr) (h0 : Heap) (n0 : Nat) (Z0 : n0 ≤ h0.size) (O0 : Ob Z h0 r0 v0 v1 (.ref hb) v3) (g_r0 : n0 ≤ r0) :
    MetFree l (⟨"com/example/ballast/ballast/runtime/Outbox", "isHolding", "()Z"⟩ : MethodName) (head1 (Jvm.Cond.code (⟨"com/example/ballast/ballast/runtime/Outbox", "isHolding", "()Z"⟩ : MethodName) prog_120_method_7_code 1 (some .boolean) :: ws) ({ frames := 0, cells := 0, slots := 0, locals := 0 } : Room)) (fun a U => a = #[(.ref r0)] ∧ Z.Warmed39 U.vm ∧ U.heap = h0) (fun _ _ _ _ _ => True) (fun _ U o U' => ∃ v L, o = .returned v ∧ QHolR Z r0 v0 v1 v3 hb h0 n0 v U'.heap L ∧ FrameEnd U o U' L 0 0) := by
  refine MetFree.of_bodySF (plainFor_of_name pn_11) hisR ?_
  intro p ev s m args below meth c s₁ Bd hml0 hP hK
  obtain ⟨rfl, hZ, hh⟩ := hP
  have hx := Bd.exec
  have hby := Bd.bytes
  have hml : c.maxLocals = 1 := hml0
  have hown : s.vm.findClass "com/example/ballast/ballast/runtime/Outbox" = some m.cls := findClass_of_methodNamed Bd.named
  have hnm := (name_of_methodNamed Bd.named Bd.method).1
  have X0 : Stand p l ev ({ frames := 0, cells := 0, slots := 0, locals := 0 } : Room) s m #[(.ref r0)] below meth c s₁ [] 0 0 := Stand.of_body Bd
  have eh0 : s₁.heap = h0 := by rw [← hh, Bd.state]; rfl
  have N0 := Fr.nil n0
  have Zs := Z0
  show Gol p ev below (FrameEnd s) (QHolR Z r0 v0 v1 v3 hb h0 n0) 0 0 (s₁.setTop (entryFrame m #[(.ref r0)] 1))
  rw [ef_11]
  obtain ⟨E_r0, F_r0_lastSent, F_r0_held, F_r0_deferredMove⟩ := O0
  have K := Keep.refl h0 [r0]
  show GolF _ _ _ _ _ _ _ s₁ m 0 #[.val (.ref r0)] []
  refine Gol.aloadN X0 hx hby d11_0 (pc' := 1) rfl rfl rfl ?_
  refine Gol.getF X0 hx hby hZ hown (host := "") (Or.inl (hw _ (List.mem_of_getElem? (i := 67) rfl))) Via.refl eh0 F_r0_held d11_1 (pc' := 4) rfl ?_
  intro T1 X1 e1
  refine Gol.ifnullNo X1 hx hby d11_4 (pc' := 7) rfl ?_
  refine Gol.iconst X1 hx hby d11_7 (pc' := 8) rfl (z := (1 : Int32)) rfl ?_
  refine Gol.goto X1 hx hby d11_8 (pc' := 12) (by decide) ?_
  exact Gol.retN X1 hx hby (t := .boolean) Bd.returns (by simp) Bd.notSynchronized d11_12 e1 ⟨rfl, N0, rfl⟩ (by decide) (by decide)
theorem d15_0 : decode jdk_22_method_1_code 0 = .ok (.aload_n 0, 1) := by decide +kernel
theorem d15_1 : decode jdk_22_method_1_code 1 = .ok (.invokespecial 1, 3) := by decide +kernel
theorem d15_4 : decode jdk_22_method_1_code 4 = .ok (.return_, 1) := by decide +kernel
theorem pn_15 : plainName "java/util/AbstractCollection" = true := by first | (simp [plainName, overriddenIn]; done) | decide +kernel
theorem ef_15 (m : MethodId) (r0 : Addr) : entryFrame m #[(.ref r0)] 1 = mkF m 0 #[.val (.ref r0)] [] := by first | (simp [entryFrame, mkF, argsToLocals, Value.category]; done) | rfl
abbrev Q15 (Z : State) (r0 : Addr) (h0 : Heap) (n0 : Nat) (v : Option Value) (h : Heap) (L : List Loc) : Prop := v = none ∧ Fr n0 L ∧ h = h0
set_option maxRecDepth 65536 in
set_option maxHeartbeats 40000000 in
theorem rm15 (l : Launch) (Z : State) (a0 : Array Value) (hw : ∀ d ∈ tables_1, d.before a0 Z = true) (ws : List Jvm.Cond) (r0 : Addr) (h0 : Heap) (n0 : Nat) (Z0 : n0 ≤ h0.size) :
    MetFree l (⟨"java/util/AbstractCollection", "<init>", "()V"⟩ : MethodName) (head1 (Jvm.Cond.code (⟨"java/util/AbstractCollection", "<init>", "()V"⟩ : MethodName) jdk_22_method_1_code 1 none :: ws) ({ frames := 1, cells := 0, slots := 0, locals := 12 } : Room)) (fun a U => a = #[(.ref r0)] ∧ Z.Warmed39 U.vm ∧ U.heap = h0) (fun _ _ _ _ _ => True) (fun _ U o U' => ∃ v L, o = .returned v ∧ Q15 Z r0 h0 n0 v U'.heap L ∧ FrameEnd U o U' L 0 0) := by
  refine MetFree.of_bodySF (plainFor_of_name pn_15) hisR ?_
  intro p ev s m args below meth c s₁ Bd hml0 hP hK
  obtain ⟨rfl, hZ, hh⟩ := hP
  have hx := Bd.exec
  have hby := Bd.bytes
  have hml : c.maxLocals = 1 := hml0
  have hown : s.vm.findClass "java/util/AbstractCollection" = some m.cls := findClass_of_methodNamed Bd.named
  have hnm := (name_of_methodNamed Bd.named Bd.method).1
  have X0 : Stand p l ev ({ frames := 1, cells := 0, slots := 0, locals := 12 } : Room) s m #[(.ref r0)] below meth c s₁ [] 0 0 := Stand.of_body Bd
  have eh0 : s₁.heap = h0 := by rw [← hh, Bd.state]; rfl
  have N0 := Fr.nil n0
  have Zs := Z0
  show Gol p ev below (FrameEnd s) (Q15 Z r0 h0 n0) 0 0 (s₁.setTop (entryFrame m #[(.ref r0)] 1))
  rw [ef_15]
  show GolF _ _ _ _ _ _ _ s₁ m 0 #[.val (.ref r0)] []
  refine Gol.aloadN X0 hx hby d15_0 (pc' := 1) rfl rfl rfl ?_
  refine Gol.initO X0 hx hby hZ hown (hw _ (List.mem_of_getElem? (i := 97) rfl)) (hw _ (List.mem_of_getElem? (i := 21) rfl)) (hw _ (List.mem_of_getElem? (i := 22) rfl)) eh0 0 d15_1 (pc' := 4) rfl (by rw [hml]; rfl) (by decide) (Nat.le_of_eq rfl) (by decide) ?_
  intro T1 X1 e1
  exact Gol.ret0 X1 hx hby Bd.returns Bd.notSynchronized d15_4 e1 ⟨rfl, N0, rfl⟩ (by decide) (by decide)
theorem d8_0 : decode jdk_30_method_1_code 0 = .ok (.aload_n 0, 1) := by decide +kernel
theorem d8_1 : decode jdk_30_method_1_code 1 = .ok (.invokespecial 1, 3) := by decide +kernel
theorem d8_4 : decode jdk_30_method_1_code 4 = .ok (.return_, 1) := by decide +kernel
theorem pn_8 : plainName "java/lang/Record" = true := by first | (simp [plainName, overriddenIn]; done) | decide +kernel
theorem ef_8 (m : MethodId) (r0 : Addr) : entryFrame m #[(.ref r0)] 1 = mkF m 0 #[.val (.ref r0)] [] := by first | (simp [entryFrame, mkF, argsToLocals, Value.category]; done) | rfl
abbrev Q8 (Z : State) (r0 : Addr) (h0 : Heap) (n0 : Nat) (v : Option Value) (h : Heap) (L : List Loc) : Prop := v = none ∧ Fr n0 L ∧ h = h0
set_option maxRecDepth 65536 in
set_option maxHeartbeats 40000000 in
theorem rm8 (l : Launch) (Z : State) (a0 : Array Value) (hw : ∀ d ∈ tables_1, d.before a0 Z = true) (ws : List Jvm.Cond) (r0 : Addr) (h0 : Heap) (n0 : Nat) (Z0 : n0 ≤ h0.size) :
    MetFree l (⟨"java/lang/Record", "<init>", "()V"⟩ : MethodName) (head1 (Jvm.Cond.code (⟨"java/lang/Record", "<init>", "()V"⟩ : MethodName) jdk_30_method_1_code 1 none :: ws) ({ frames := 1, cells := 0, slots := 0, locals := 12 } : Room)) (fun a U => a = #[(.ref r0)] ∧ Z.Warmed39 U.vm ∧ U.heap = h0) (fun _ _ _ _ _ => True) (fun _ U o U' => ∃ v L, o = .returned v ∧ Q8 Z r0 h0 n0 v U'.heap L ∧ FrameEnd U o U' L 0 0) := by
  refine MetFree.of_bodySF (plainFor_of_name pn_8) hisR ?_
  intro p ev s m args below meth c s₁ Bd hml0 hP hK
  obtain ⟨rfl, hZ, hh⟩ := hP
  have hx := Bd.exec
  have hby := Bd.bytes
  have hml : c.maxLocals = 1 := hml0
  have hown : s.vm.findClass "java/lang/Record" = some m.cls := findClass_of_methodNamed Bd.named
  have hnm := (name_of_methodNamed Bd.named Bd.method).1
  have X0 : Stand p l ev ({ frames := 1, cells := 0, slots := 0, locals := 12 } : Room) s m #[(.ref r0)] below meth c s₁ [] 0 0 := Stand.of_body Bd
  have eh0 : s₁.heap = h0 := by rw [← hh, Bd.state]; rfl
  have N0 := Fr.nil n0
  have Zs := Z0
  show Gol p ev below (FrameEnd s) (Q8 Z r0 h0 n0) 0 0 (s₁.setTop (entryFrame m #[(.ref r0)] 1))
  rw [ef_8]
  show GolF _ _ _ _ _ _ _ s₁ m 0 #[.val (.ref r0)] []
  refine Gol.aloadN X0 hx hby d8_0 (pc' := 1) rfl rfl rfl ?_
  refine Gol.initO X0 hx hby hZ hown (hw _ (List.mem_of_getElem? (i := 44) rfl)) (hw _ (List.mem_of_getElem? (i := 21) rfl)) (hw _ (List.mem_of_getElem? (i := 22) rfl)) eh0 0 d8_1 (pc' := 4) rfl (by rw [hml]; rfl) (by decide) (Nat.le_of_eq rfl) (by decide) ?_
  intro T1 X1 e1
  exact Gol.ret0 X1 hx hby Bd.returns Bd.notSynchronized d8_4 e1 ⟨rfl, N0, rfl⟩ (by decide) (by decide)
theorem d14_0 : decode jdk_39_method_1_code 0 = .ok (.aload_n 0, 1) := by decide +kernel
theorem d14_1 : decode jdk_39_method_1_code 1 = .ok (.invokespecial 1, 3) := by decide +kernel
theorem d14_4 : decode jdk_39_method_1_code 4 = .ok (.aload_n 0, 1) := by decide +kernel
theorem d14_5 : decode jdk_39_method_1_code 5 = .ok (.iconst 0, 1) := by decide +kernel
theorem d14_6 : decode jdk_39_method_1_code 6 = .ok (.putfield 7, 3) := by decide +kernel
theorem d14_9 : decode jdk_39_method_1_code 9 = .ok (.return_, 1) := by decide +kernel
theorem pn_14 : plainName "java/util/AbstractList" = true := by first | (simp [plainName, overriddenIn]; done) | decide +kernel
theorem ef_14 (m : MethodId) (r0 : Addr) : entryFrame m #[(.ref r0)] 1 = mkF m 0 #[.val (.ref r0)] [] := by first | (simp [entryFrame, mkF, argsToLocals, Value.category]; done) | rfl
abbrev QAList (Z : State) (r0 : Addr) (v0 : Value) (v1 : Value) (v2 : Value) (h0 : Heap) (n0 : Nat) (v : Option Value) (h : Heap) (L : List Loc) : Prop := v = none ∧ Fr n0 L ∧ Keep h0 h [r0] ∧ Al Z h r0 (.int (0 : Int32)) v1 v2
set_option maxRecDepth 65536 in
set_option maxHeartbeats 40000000 in
theorem rmAList (l : Launch) (Z : State) (a0 : Array Value) (hw : ∀ d ∈ tables_1, d.before a0 Z = true) (ws : List Jvm.Cond) (r0 : Addr) (v0 : Value) (v1 : Value) (v2 : Value) (h0 : Heap) (n0 : Nat) (Z0 : n0 ≤ h0.size) (O0 : Al Z h0 r0 v0 v1 v2) (g_r0 : n0 ≤ r0) :
    MetFree l (⟨"java/util/AbstractList", "<init>", "()V"⟩ : MethodName) (head1 (Jvm.Cond.code (⟨"java/util/AbstractList", "<init>", "()V"⟩ : MethodName) jdk_39_method_1_code 1 none :: ws) ({ frames := 2, cells := 0, slots := 0, locals := 24 } : Room)) (fun a U => a = #[(.ref r0)] ∧ Z.Warmed39 U.vm ∧ U.heap = h0) (fun _ _ _ _ _ => True) (fun _ U o U' => ∃ v L, o = .returned v ∧ QAList Z r0 v0 v1 v2 h0 n0 v U'.heap L ∧ FrameEnd U o U' L 0 0) := by
  refine MetFree.of_bodySF (plainFor_of_name pn_14) hisR ?_
  intro p ev s m args below meth c s₁ Bd hml0 hP hK
  obtain ⟨rfl, hZ, hh⟩ := hP
  have hx := Bd.exec
  have hby := Bd.bytes
  have hml : c.maxLocals = 1 := hml0
  have hown : s.vm.findClass "java/util/AbstractList" = some m.cls := findClass_of_methodNamed Bd.named
  have hnm := (name_of_methodNamed Bd.named Bd.method).1
  have X0 : Stand p l ev ({ frames := 2, cells := 0, slots := 0, locals := 24 } : Room) s m #[(.ref r0)] below meth c s₁ [] 0 0 := Stand.of_body Bd
  have eh0 : s₁.heap = h0 := by rw [← hh, Bd.state]; rfl
  have N0 := Fr.nil n0
  have Zs := Z0
  show Gol p ev below (FrameEnd s) (QAList Z r0 v0 v1 v2 h0 n0) 0 0 (s₁.setTop (entryFrame m #[(.ref r0)] 1))
  rw [ef_14]
  obtain ⟨E_r0, F_r0_modCount, F_r0_elementData, F_r0_size⟩ := O0
  have K := Keep.refl h0 [r0]
  show GolF _ _ _ _ _ _ _ s₁ m 0 #[.val (.ref r0)] []
  refine Gol.aloadN X0 hx hby d14_0 (pc' := 1) rfl rfl rfl ?_
  refine Gol.callI X0 hx hby hZ hown 0 [] (a := r0) (hw _ (List.mem_of_getElem? (i := 91) rfl)) (hw _ (List.mem_of_getElem? (i := 92) rfl)) (hw _ (List.mem_of_getElem? (i := 95) rfl)) rfl (hw _ (List.mem_of_getElem? (i := 96) rfl)) rfl (by decide) (rm15 l Z a0 hw [] r0  h0 n0 Zs ) (by decide) (by decide) eh0 (by rw [hml]; rfl) (rest := []) (Nat.le_of_eq rfl) (by decide) (by decide) (lenOf pd_0 rfl) rfl d14_1 (pc' := 4) rfl ?_
  intro T1 v1 L1 X1 hQ1
  obtain ⟨rfl, Nq1, eq1⟩ := hQ1
  have N1 := Fr.app N0 Nq1
  show GolF _ _ _ _ _ _ _ T1 m 4 #[.val (.ref r0)] []
  refine Gol.aloadN X1 hx hby d14_4 (pc' := 5) rfl rfl rfl ?_
  refine Gol.iconst X1 hx hby d14_5 (pc' := 6) rfl (z := (0 : Int32)) rfl ?_
  refine Gol.putF X1 hx hby hZ hown (host := "") (Or.inl (hw _ (List.mem_of_getElem? (i := 98) rfl))) Via.refl eq1 F_r0_modCount E_r0 (Or.inl (hw _ (List.mem_of_getElem? (i := 99) rfl))) (hw _ (List.mem_of_getElem? (i := 80) rfl)) (ty := .int) (by decide) rfl rfl d14_6 (pc' := 9) rfl ?_
  intro T2 h2 X2 e2 W2
  have E_r0 := E_r0.wr W2
  have F_r0_modCount := F_r0_modCount.same W2
  have F_r0_elementData := F_r0_elementData.other W2 (Or.inr (slot_ne (Or.inl (hw _ (List.mem_of_getElem? (i := 102) rfl))) (Or.inl (hw _ (List.mem_of_getElem? (i := 99) rfl))) (by decide) (t := (.array (.object "java/lang/Object"))) (t' := .int) (by decide) (by decide)))
  have F_r0_size := F_r0_size.other W2 (Or.inr (slot_ne (Or.inl (hw _ (List.mem_of_getElem? (i := 113) rfl))) (Or.inl (hw _ (List.mem_of_getElem? (i := 99) rfl))) (by decide) (t := .int) (t' := .int) (by decide) (by decide)))
  have K := K.wr W2 (Or.inl (List.mem_of_getElem? (i := 0) rfl))
  have Zs := Nat.le_trans Zs (Keep.of_wr W2).1
  have N2 := Fr.snoc X2 N1 g_r0
  exact Gol.ret0 X2 hx hby Bd.returns Bd.notSynchronized d14_9 e2 ⟨rfl, N2, K, ⟨E_r0, F_r0_modCount, F_r0_elementData, F_r0_size⟩⟩ (by decide) (by decide)
theorem d13_0 : decode jdk_38_method_2_code 0 = .ok (.aload_n 0, 1) := by decide +kernel
theorem d13_1 : decode jdk_38_method_2_code 1 = .ok (.invokespecial 1, 3) := by decide +kernel
theorem d13_4 : decode jdk_38_method_2_code 4 = .ok (.aload_n 0, 1) := by decide +kernel
theorem d13_5 : decode jdk_38_method_2_code 5 = .ok (.getstatic 39, 3) := by decide +kernel
theorem d13_8 : decode jdk_38_method_2_code 8 = .ok (.putfield 9, 3) := by decide +kernel
theorem d13_11 : decode jdk_38_method_2_code 11 = .ok (.return_, 1) := by decide +kernel
theorem pn_13 : plainName "java/util/ArrayList" = true := by first | (simp [plainName, overriddenIn]; done) | decide +kernel
theorem ef_13 (m : MethodId) (r0 : Addr) : entryFrame m #[(.ref r0)] 1 = mkF m 0 #[.val (.ref r0)] [] := by first | (simp [entryFrame, mkF, argsToLocals, Value.category]; done) | rfl
abbrev QLInit (Z : State) (r0 : Addr) (e0 : Addr) (k0 : ClassId) (h0 : Heap) (n0 : Nat) (v : Option Value) (h : Heap) (L : List Loc) : Prop := v = none ∧ Fr n0 L ∧ Keep h0 h [r0] ∧ Al Z h r0 (.int (0 : Int32)) (.ref e0) (.int (0 : Int32))
set_option maxRecDepth 65536 in
set_option maxHeartbeats 40000000 in
theorem rmLInit (l : Launch) (Z : State) (a0 : Array Value) (hw : ∀ d ∈ tables_1, d.before a0 Z = true) (ws : List Jvm.Cond) (r0 : Addr) (e0 : Addr) (k0 : ClassId) (h0 : Heap) (n0 : Nat) (Z0 : n0 ≤ h0.size) (O0 : Al Z h0 r0 (.int (0 : Int32)) .null (.int (0 : Int32))) (g_r0 : n0 ≤ r0) (S0 : Sta Z Z.heap "java/util/ArrayList" "DEFAULTCAPACITY_EMPTY_ELEMENTDATA" "[Ljava/lang/Object;" (.ref e0)) (V0 : Arv Z Z.heap e0 k0 (.object "java/lang/Object") (0 : Int32) [] .null) (O : Old Z n0 h0) :
    MetFree l (⟨"java/util/ArrayList", "<init>", "()V"⟩ : MethodName) (head1 (Jvm.Cond.code (⟨"java/util/ArrayList", "<init>", "()V"⟩ : MethodName) jdk_38_method_2_code 1 none :: ws) ({ frames := 3, cells := 0, slots := 0, locals := 36 } : Room)) (fun a U => a = #[(.ref r0)] ∧ Z.Warmed39 U.vm ∧ U.heap = h0) (fun _ _ _ _ _ => True) (fun _ U o U' => ∃ v L, o = .returned v ∧ QLInit Z r0 e0 k0 h0 n0 v U'.heap L ∧ FrameEnd U o U' L 0 0) := by
  refine MetFree.of_bodySF (plainFor_of_name pn_13) hisR ?_
  intro p ev s m args below meth c s₁ Bd hml0 hP hK
  obtain ⟨rfl, hZ, hh⟩ := hP
  have hx := Bd.exec
  have hby := Bd.bytes
  have hml : c.maxLocals = 1 := hml0
  have hown : s.vm.findClass "java/util/ArrayList" = some m.cls := findClass_of_methodNamed Bd.named
  have hnm := (name_of_methodNamed Bd.named Bd.method).1
  have X0 : Stand p l ev ({ frames := 3, cells := 0, slots := 0, locals := 36 } : Room) s m #[(.ref r0)] below meth c s₁ [] 0 0 := Stand.of_body Bd
  have eh0 : s₁.heap = h0 := by rw [← hh, Bd.state]; rfl
  have N0 := Fr.nil n0
  have Zs := Z0
  show Gol p ev below (FrameEnd s) (QLInit Z r0 e0 k0 h0 n0) 0 0 (s₁.setTop (entryFrame m #[(.ref r0)] 1))
  rw [ef_13]
  obtain ⟨E_r0, F_r0_modCount, F_r0_elementData, F_r0_size⟩ := O0
  have K := Keep.refl h0 [r0]
  show GolF _ _ _ _ _ _ _ s₁ m 0 #[.val (.ref r0)] []
  refine Gol.aloadN X0 hx hby d13_0 (pc' := 1) rfl rfl rfl ?_
  refine Gol.callI X0 hx hby hZ hown 0 [] (a := r0) (hw _ (List.mem_of_getElem? (i := 85) rfl)) (hw _ (List.mem_of_getElem? (i := 86) rfl)) (hw _ (List.mem_of_getElem? (i := 89) rfl)) rfl (hw _ (List.mem_of_getElem? (i := 90) rfl)) rfl (by decide) (rmAList l Z a0 hw [] r0 (.int (0 : Int32)) .null (.int (0 : Int32)) h0 n0 Zs ⟨E_r0, F_r0_modCount, F_r0_elementData, F_r0_size⟩ g_r0) (by decide) (by decide) eh0 (by rw [hml]; rfl) (rest := []) (Nat.le_of_eq rfl) (by decide) (by decide) (lenOf pd_0 rfl) rfl d13_1 (pc' := 4) rfl ?_
  intro T1 v1 L1 X1 hQ1
  obtain ⟨rfl, Nq1, Kq1, Oq1⟩ := hQ1
  have N1 := Fr.app N0 Nq1
  have E_r0 := E_r0.keep Kq1
  have K := K.trans Kq1 (allS (Or.inl (List.mem_of_getElem? (i := 0) rfl)) all0)
  have O := O.keep Kq1 (allS g_r0 all0)
  have Zs := Nat.le_trans Zs Kq1.1
  show GolF _ _ _ _ _ _ _ T1 m 4 #[.val (.ref r0)] []
  obtain ⟨E_r0, F_r0_modCount, F_r0_elementData, F_r0_size⟩ := Oq1
  refine Gol.aloadN X1 hx hby d13_4 (pc' := 5) rfl rfl rfl ?_
  refine Gol.getS X1 hx hby hZ hown (host := "") (Or.inl (hw _ (List.mem_of_getElem? (i := 100) rfl))) Via.refl rfl (S0.ext O.2) d13_5 (pc' := 8) rfl ?_
  intro T2 X2 e2
  refine Gol.putF X2 hx hby hZ hown (host := "") (Or.inl (hw _ (List.mem_of_getElem? (i := 101) rfl))) Via.refl e2 F_r0_elementData E_r0 (Or.inl (hw _ (List.mem_of_getElem? (i := 102) rfl))) (hw _ (List.mem_of_getElem? (i := 80) rfl)) (ty := (.array (.object "java/lang/Object"))) (by decide) rfl rfl d13_8 (pc' := 11) rfl ?_
  intro T3 h3 X3 e3 W3
  have E_r0 := E_r0.wr W3
  have F_r0_modCount := F_r0_modCount.other W3 (Or.inr (slot_ne (Or.inl (hw _ (List.mem_of_getElem? (i := 99) rfl))) (Or.inl (hw _ (List.mem_of_getElem? (i := 102) rfl))) (by decide) (t := .int) (t' := (.array (.object "java/lang/Object"))) (by decide) (by decide)))
  have F_r0_elementData := F_r0_elementData.same W3
  have F_r0_size := F_r0_size.other W3 (Or.inr (slot_ne (Or.inl (hw _ (List.mem_of_getElem? (i := 113) rfl))) (Or.inl (hw _ (List.mem_of_getElem? (i := 102) rfl))) (by decide) (t := .int) (t' := (.array (.object "java/lang/Object"))) (by decide) (by decide)))
  have K := K.wr W3 (Or.inl (List.mem_of_getElem? (i := 0) rfl))
  have O := O.wr W3 g_r0
  have Zs := Nat.le_trans Zs (Keep.of_wr W3).1
  have N3 := Fr.snoc X3 N1 g_r0
  exact Gol.ret0 X3 hx hby Bd.returns Bd.notSynchronized d13_11 e3 ⟨rfl, N3, K, ⟨E_r0, F_r0_modCount, F_r0_elementData, F_r0_size⟩⟩ (by decide) (by decide)
theorem d12_0 : decode prog_120_method_6_code 0 = .ok (.aload_n 0, 1) := by decide +kernel
theorem d12_1 : decode prog_120_method_6_code 1 = .ok (.new 23, 3) := by decide +kernel
theorem d12_4 : decode prog_120_method_6_code 4 = .ok (.dup, 1) := by decide +kernel
theorem d12_5 : decode prog_120_method_6_code 5 = .ok (.invokespecial 25, 3) := by decide +kernel
theorem d12_8 : decode prog_120_method_6_code 8 = .ok (.putfield 26, 3) := by decide +kernel
theorem d12_11 : decode prog_120_method_6_code 11 = .ok (.return_, 1) := by decide +kernel
theorem pn_12 : plainName "com/example/ballast/ballast/runtime/Outbox" = true := by first | (simp [plainName, overriddenIn]; done) | decide +kernel
theorem ef_12 (m : MethodId) (r0 : Addr) : entryFrame m #[(.ref r0)] 1 = mkF m 0 #[.val (.ref r0)] [] := by first | (simp [entryFrame, mkF, argsToLocals, Value.category]; done) | rfl
abbrev QHur (Z : State) (r0 : Addr) (v0 : Value) (v1 : Value) (v2 : Value) (v3 : Value) (e0 : Addr) (k0 : ClassId) (h0 : Heap) (n0 : Nat) (v : Option Value) (h : Heap) (L : List Loc) : Prop := v = none ∧ Fr n0 L ∧ Keep h0 h [r0] ∧ ∃ b : Addr, h0.size ≤ b ∧ Ob Z h r0 v0 v1 (.ref b) v3 ∧ Al Z h b (.int (0 : Int32)) (.ref e0) (.int (0 : Int32))
set_option maxRecDepth 65536 in
set_option maxHeartbeats 40000000 in
theorem rmHur (l : Launch) (Z : State) (a0 : Array Value) (hw : ∀ d ∈ tables_1, d.before a0 Z = true) (ws : List Jvm.Cond) (r0 : Addr) (v0 : Value) (v1 : Value) (v2 : Value) (v3 : Value) (e0 : Addr) (k0 : ClassId) (h0 : Heap) (n0 : Nat) (Z0 : n0 ≤ h0.size) (O0 : Ob Z h0 r0 v0 v1 v2 v3) (g_r0 : n0 ≤ r0) (S0 : Sta Z Z.heap "java/util/ArrayList" "DEFAULTCAPACITY_EMPTY_ELEMENTDATA" "[Ljava/lang/Object;" (.ref e0)) (V0 : Arv Z Z.heap e0 k0 (.object "java/lang/Object") (0 : Int32) [] .null) (O : Old Z n0 h0) :
    MetFree l (⟨"com/example/ballast/ballast/runtime/Outbox", "holdUntilReleased", "()V"⟩ : MethodName) (head1 (Jvm.Cond.code (⟨"com/example/ballast/ballast/runtime/Outbox", "holdUntilReleased", "()V"⟩ : MethodName) prog_120_method_6_code 1 none :: ws) ({ frames := 4, cells := 1, slots := 3, locals := 50 } : Room)) (fun a U => a = #[(.ref r0)] ∧ Z.Warmed39 U.vm ∧ U.heap = h0) (fun _ _ _ _ _ => True) (fun _ U o U' => ∃ v L, o = .returned v ∧ QHur Z r0 v0 v1 v2 v3 e0 k0 h0 n0 v U'.heap L ∧ FrameEnd U o U' L 1 3) := by
  refine MetFree.of_bodySF (plainFor_of_name pn_12) hisR ?_
  intro p ev s m args below meth c s₁ Bd hml0 hP hK
  obtain ⟨rfl, hZ, hh⟩ := hP
  have hx := Bd.exec
  have hby := Bd.bytes
  have hml : c.maxLocals = 1 := hml0
  have hown : s.vm.findClass "com/example/ballast/ballast/runtime/Outbox" = some m.cls := findClass_of_methodNamed Bd.named
  have hnm := (name_of_methodNamed Bd.named Bd.method).1
  have X0 : Stand p l ev ({ frames := 4, cells := 1, slots := 3, locals := 50 } : Room) s m #[(.ref r0)] below meth c s₁ [] 0 0 := Stand.of_body Bd
  have eh0 : s₁.heap = h0 := by rw [← hh, Bd.state]; rfl
  have N0 := Fr.nil n0
  have Zs := Z0
  show Gol p ev below (FrameEnd s) (QHur Z r0 v0 v1 v2 v3 e0 k0 h0 n0) 1 3 (s₁.setTop (entryFrame m #[(.ref r0)] 1))
  rw [ef_12]
  obtain ⟨E_r0, F_r0_lastSent, F_r0_held, F_r0_deferredMove⟩ := O0
  have K := Keep.refl h0 [r0]
  show GolF _ _ _ _ _ _ _ s₁ m 0 #[.val (.ref r0)] []
  refine Gol.aloadN X0 hx hby d12_0 (pc' := 1) rfl rfl rfl ?_
  refine Gol.newO X0 hx hby hZ hown (hw _ (List.mem_of_getElem? (i := 79) rfl)) (hw _ (List.mem_of_getElem? (i := 80) rfl)) (hw _ (List.mem_of_getElem? (i := 81) rfl)) eh0 d12_1 (pc' := 4) rfl (by decide) (by decide) ?_
  intro T1 h1 b1 g1 X1 e1 E1 A1 D1
  have lo_r0_b1 : r0 < b1 := Nat.lt_of_lt_of_le E_r0.lt (Nat.le_of_eq g1.symm)
  have ne_r0_b1 : r0 ≠ b1 := Nat.ne_of_lt lo_r0_b1
  have g_b1 : n0 ≤ b1 := Nat.le_trans Zs (Nat.le_of_eq g1.symm)
  have sz_b1 : h0.size ≤ b1 := Nat.le_trans K.1 (Nat.le_of_eq g1.symm)
  have E_r0 := E_r0.ext E1
  have F_r0_lastSent := F_r0_lastSent.ext E1
  have F_r0_held := F_r0_held.ext E1
  have F_r0_deferredMove := F_r0_deferredMove.ext E1
  have K := K.ext E1
  have O := O.ext E1
  have Zs := Nat.le_trans Zs E1.1
  have E_b1 := A1
  have F_b1_modCount : Fld Z h1 b1 "java/util/AbstractList" "modCount" "I" (.int (0 : Int32)) := D1 (Or.inl (hw _ (List.mem_of_getElem? (i := 99) rfl))) (ty := .int) (by decide)
  have F_b1_elementData : Fld Z h1 b1 "java/util/ArrayList" "elementData" "[Ljava/lang/Object;" .null := D1 (Or.inl (hw _ (List.mem_of_getElem? (i := 102) rfl))) (ty := (.array (.object "java/lang/Object"))) (by decide)
  have F_b1_size : Fld Z h1 b1 "java/util/ArrayList" "size" "I" (.int (0 : Int32)) := D1 (Or.inl (hw _ (List.mem_of_getElem? (i := 113) rfl))) (ty := .int) (by decide)
  refine Gol.dup X1 hx hby d12_4 (pc' := 5) rfl rfl ?_
  refine Gol.callI X1 hx hby hZ hown 2 [] (a := b1) (hw _ (List.mem_of_getElem? (i := 82) rfl)) (hw _ (List.mem_of_getElem? (i := 83) rfl)) (hw _ (List.mem_of_getElem? (i := 81) rfl)) rfl (hw _ (List.mem_of_getElem? (i := 84) rfl)) rfl (by decide) (rmLInit l Z a0 hw [] b1 e0 k0 h1 n0 Zs ⟨E_b1, F_b1_modCount, F_b1_elementData, F_b1_size⟩ g_b1 S0 V0 O) (by decide) (by decide) e1 (by rw [hml]; rfl) (rest := [(.ref b1), (.ref r0)]) (Nat.le_of_eq rfl) (by decide) (by decide) (lenOf pd_0 rfl) rfl d12_5 (pc' := 8) rfl ?_
  intro T2 v2 L2 X2 hQ2
  obtain ⟨rfl, Nq2, Kq2, Oq2⟩ := hQ2
  have N2 := Fr.app N0 Nq2
  have E_r0 := E_r0.keep Kq2
  have E_b1 := E_b1.keep Kq2
  have F_r0_lastSent := F_r0_lastSent.keep Kq2 (ninS ne_r0_b1 nin0)
  have F_r0_held := F_r0_held.keep Kq2 (ninS ne_r0_b1 nin0)
  have F_r0_deferredMove := F_r0_deferredMove.keep Kq2 (ninS ne_r0_b1 nin0)
  have K := K.trans Kq2 (allS (Or.inr sz_b1) all0)
  have O := O.keep Kq2 (allS g_b1 all0)
  have Zs := Nat.le_trans Zs Kq2.1
  show GolF _ _ _ _ _ _ _ T2 m 8 #[.val (.ref r0)] [(.ref b1), (.ref r0)]
  obtain ⟨E_b1, F_b1_modCount, F_b1_elementData, F_b1_size⟩ := Oq2
  refine Gol.putF X2 hx hby hZ hown (host := "") (Or.inl (hw _ (List.mem_of_getElem? (i := 67) rfl))) Via.refl rfl F_r0_held E_r0 (Or.inl (hw _ (List.mem_of_getElem? (i := 68) rfl))) (hw _ (List.mem_of_getElem? (i := 51) rfl)) (ty := (.object "java/util/List")) (by decide) rfl rfl d12_8 (pc' := 11) rfl ?_
  intro T3 h3 X3 e3 W3
  have E_r0 := E_r0.wr W3
  have E_b1 := E_b1.wr W3
  have F_r0_lastSent := F_r0_lastSent.other W3 (Or.inr (slot_ne (Or.inl (hw _ (List.mem_of_getElem? (i := 59) rfl))) (Or.inl (hw _ (List.mem_of_getElem? (i := 68) rfl))) (by decide) (t := .long) (t' := (.object "java/util/List")) (by decide) (by decide)))
  have F_r0_held := F_r0_held.same W3
  have F_r0_deferredMove := F_r0_deferredMove.other W3 (Or.inr (slot_ne (Or.inl (hw _ (List.mem_of_getElem? (i := 61) rfl))) (Or.inl (hw _ (List.mem_of_getElem? (i := 68) rfl))) (by decide) (t := .int) (t' := (.object "java/util/List")) (by decide) (by decide)))
  have F_b1_modCount := F_b1_modCount.other W3 (Or.inl ne_r0_b1.symm)
  have F_b1_elementData := F_b1_elementData.other W3 (Or.inl ne_r0_b1.symm)
  have F_b1_size := F_b1_size.other W3 (Or.inl ne_r0_b1.symm)
  have K := K.wr W3 (Or.inl (List.mem_of_getElem? (i := 0) rfl))
  have O := O.wr W3 g_r0
  have Zs := Nat.le_trans Zs (Keep.of_wr W3).1
  have N3 := Fr.snoc X3 N2 g_r0
  exact Gol.ret0 X3 hx hby Bd.returns Bd.notSynchronized d12_11 e3 ⟨rfl, N3, K, b1, sz_b1, ⟨E_r0, F_r0_lastSent, F_r0_held, F_r0_deferredMove⟩, ⟨E_b1, F_b1_modCount, F_b1_elementData, F_b1_size⟩⟩ (by decide) (by decide)
theorem d23_0 : decode jdk_29_method_65_code 0 = .ok (.iload_n 0, 1) := by decide +kernel
theorem d23_1 : decode jdk_29_method_65_code 1 = .ok (.iload_n 1, 1) := by decide +kernel
theorem d23_2 : decode jdk_29_method_65_code 2 = .ok (.if_icmp .lt 7, 3) := by decide +kernel
theorem d23_5 : decode jdk_29_method_65_code 5 = .ok (.iload_n 0, 1) := by decide +kernel
theorem d23_6 : decode jdk_29_method_65_code 6 = .ok (.goto 4, 3) := by decide +kernel
theorem d23_9 : decode jdk_29_method_65_code 9 = .ok (.iload_n 1, 1) := by decide +kernel
theorem d23_10 : decode jdk_29_method_65_code 10 = .ok (.ireturn, 1) := by decide +kernel
theorem ef_23 (m : MethodId) (p0 : Int32) (p1 : Int32) : entryFrame m #[(.int p0), (.int p1)] 2 = mkF m 0 #[.val (.int p0), .val (.int p1)] [] := by first | (simp [entryFrame, mkF, argsToLocals, Value.category]; done) | rfl
def f23 (p0 : Int32) (p1 : Int32) : Int32 :=
  if p0 < p1 then
    p1
  else
    p0
abbrev Q23 (Z : State) (p0 : Int32) (p1 : Int32) (h0 : Heap) (n0 : Nat) (v : Option Value) (h : Heap) (L : List Loc) : Prop := v = some (.int (f23 p0 p1)) ∧ Fr n0 L ∧ h = h0
set_option maxRecDepth 65536 in
set_option maxHeartbeats 40000000 in
theorem rm23 (l : Launch) (Z : State) (a0 : Array Value) (hw : ∀ d ∈ tables_1, d.before a0 Z = true) (ws : List Jvm.Cond) (p0 : Int32) (p1 : Int32) (h0 : Heap) (n0 : Nat) (Z0 : n0 ≤ h0.size) :
    MetFree l (⟨"java/lang/Math", "max", "(II)I"⟩ : MethodName) (head1 (Jvm.Cond.code (⟨"java/lang/Math", "max", "(II)I"⟩ : MethodName) jdk_29_method_65_code 2 (some .int) :: ws) ({ frames := 0, cells := 0, slots := 0, locals := 0 } : Room)) (fun a U => a = #[(.int p0), (.int p1)] ∧ Z.Warmed39 U.vm ∧ U.heap = h0) (fun _ _ _ _ _ => True) (fun _ U o U' => ∃ v L, o = .returned v ∧ Q23 Z p0 p1 h0 n0 v U'.heap L ∧ FrameEnd U o U' L 0 0) := by
  refine MetFree.of_bodySF (Jvm.Free.JP.mathPlain rfl (by decide +kernel)) hisR ?_
  intro p ev s m args below meth c s₁ Bd hml0 hP hK
  obtain ⟨rfl, hZ, hh⟩ := hP
  have hx := Bd.exec
  have hby := Bd.bytes
  have hml : c.maxLocals = 2 := hml0
  have hown : s.vm.findClass "java/lang/Math" = some m.cls := findClass_of_methodNamed Bd.named
  have hnm := (name_of_methodNamed Bd.named Bd.method).1
  have X0 : Stand p l ev ({ frames := 0, cells := 0, slots := 0, locals := 0 } : Room) s m #[(.int p0), (.int p1)] below meth c s₁ [] 0 0 := Stand.of_body Bd
  have eh0 : s₁.heap = h0 := by rw [← hh, Bd.state]; rfl
  have N0 := Fr.nil n0
  have Zs := Z0
  show Gol p ev below (FrameEnd s) (Q23 Z p0 p1 h0 n0) 0 0 (s₁.setTop (entryFrame m #[(.int p0), (.int p1)] 2))
  rw [ef_23]
  show GolF _ _ _ _ _ _ _ s₁ m 0 #[.val (.int p0), .val (.int p1)] []
  refine Gol.iloadN X0 hx hby d23_0 (pc' := 1) rfl rfl ?_
  refine Gol.iloadN X0 hx hby d23_1 (pc' := 2) rfl rfl ?_
  by_cases hc2_1 : p0 < p1
  · skip
    refine Gol.icmpYes X0 hx hby d23_2 (pc' := 9) (by decide) (tlt hc2_1).1 ?_
    refine Gol.iloadN X0 hx hby d23_9 (pc' := 10) rfl rfl ?_
    have hv2 : f23 p0 p1 = p1 := by
      unfold f23
      rw [if_pos hc2_1]
    exact Gol.retI X0 hx hby Bd.returns Bd.notSynchronized d23_10 eh0 ⟨congrArg (fun z => some (Value.int z)) (hv2.symm), N0, rfl⟩ (by decide) (by decide)
  · skip
    refine Gol.icmpNo X0 hx hby d23_2 (pc' := 5) rfl (flt hc2_1).1 ?_
    refine Gol.iloadN X0 hx hby d23_5 (pc' := 6) rfl rfl ?_
    refine Gol.goto X0 hx hby d23_6 (pc' := 10) (by decide) ?_
    have hv3 : f23 p0 p1 = p0 := by
      unfold f23
      rw [if_neg hc2_1]
    exact Gol.retI X0 hx hby Bd.returns Bd.notSynchronized d23_10 eh0 ⟨congrArg (fun z => some (Value.int z)) (hv3.symm), N0, rfl⟩ (by decide) (by decide)
theorem d22_0 : decode jdk_38_method_6_code 0 = .ok (.aload_n 0, 1) := by decide +kernel
theorem d22_1 : decode jdk_38_method_6_code 1 = .ok (.getfield 9, 3) := by decide +kernel
theorem d22_4 : decode jdk_38_method_6_code 4 = .ok (.arraylength, 1) := by decide +kernel
theorem d22_5 : decode jdk_38_method_6_code 5 = .ok (.istore_n 2, 1) := by decide +kernel
theorem d22_6 : decode jdk_38_method_6_code 6 = .ok (.iload_n 2, 1) := by decide +kernel
theorem d22_7 : decode jdk_38_method_6_code 7 = .ok (.ifCond .gt 13, 3) := by decide +kernel
theorem d22_10 : decode jdk_38_method_6_code 10 = .ok (.aload_n 0, 1) := by decide +kernel
theorem d22_11 : decode jdk_38_method_6_code 11 = .ok (.getfield 9, 3) := by decide +kernel
theorem d22_14 : decode jdk_38_method_6_code 14 = .ok (.getstatic 39, 3) := by decide +kernel
theorem d22_17 : decode jdk_38_method_6_code 17 = .ok (.if_acmp .eq 28, 3) := by decide +kernel
theorem d22_45 : decode jdk_38_method_6_code 45 = .ok (.aload_n 0, 1) := by decide +kernel
theorem d22_46 : decode jdk_38_method_6_code 46 = .ok (.bipush 10, 2) := by decide +kernel
theorem d22_48 : decode jdk_38_method_6_code 48 = .ok (.iload_n 1, 1) := by decide +kernel
theorem d22_49 : decode jdk_38_method_6_code 49 = .ok (.invokestatic 79, 3) := by decide +kernel
theorem d22_52 : decode jdk_38_method_6_code 52 = .ok (.anewarray 7, 3) := by decide +kernel
theorem d22_55 : decode jdk_38_method_6_code 55 = .ok (.dup_x1, 1) := by decide +kernel
theorem d22_56 : decode jdk_38_method_6_code 56 = .ok (.putfield 9, 3) := by decide +kernel
theorem d22_59 : decode jdk_38_method_6_code 59 = .ok (.areturn, 1) := by decide +kernel
theorem pn_22 : plainName "java/util/ArrayList" = true := by first | (simp [plainName, overriddenIn]; done) | decide +kernel
theorem ef_22 (m : MethodId) (r0 : Addr) (p1 : Int32) : entryFrame m #[(.ref r0), (.int p1)] 4 = mkF m 0 #[.val (.ref r0), .val (.int p1), .unset, .unset] [] := by first | (simp [entryFrame, mkF, argsToLocals, Value.category]; done) | rfl
abbrev QGrow1 (Z : State) (r0 : Addr) (p1 : Int32) (v0 : Value) (e0 : Addr) (k0 : ClassId) (h0 : Heap) (n0 : Nat) (v : Option Value) (h : Heap) (L : List Loc) : Prop := ∃ (b : Addr) (k : ClassId), v = some (.ref b) ∧ Fr n0 L ∧ Keep h0 h [r0] ∧ h0.size ≤ b ∧ Al Z h r0 v0 (.ref b) (.int (0 : Int32)) ∧ Arv Z h b k (.object "java/lang/Object") (10 : Int32) [.null, .null, .null, .null, .null, .null, .null, .null, .null, .null] .null ∧ Ovr Z k "java/lang/Object"
set_option maxRecDepth 65536 in
set_option maxHeartbeats 40000000 in
theorem rmGrow1 (l : Launch) (Z : State) (a0 : Array Value) (hw : ∀ d ∈ tables_1, d.before a0 Z = true) (ws : List Jvm.Cond) (r0 : Addr) (p1 : Int32) (v0 : Value) (e0 : Addr) (k0 : ClassId) (h0 : Heap) (n0 : Nat) (Z0 : n0 ≤ h0.size) (hp : p1 = (1 : Int32)) (O0 : Al Z h0 r0 v0 (.ref e0) (.int (0 : Int32))) (g_r0 : n0 ≤ r0) (S0 : Sta Z Z.heap "java/util/ArrayList" "DEFAULTCAPACITY_EMPTY_ELEMENTDATA" "[Ljava/lang/Object;" (.ref e0)) (V0 : Arv Z Z.heap e0 k0 (.object "java/lang/Object") (0 : Int32) [] .null) (O : Old Z n0 h0) :
    MetFree l (⟨"java/util/ArrayList", "grow", "(I)[Ljava/lang/Object;"⟩ : MethodName) (head1 (Jvm.Cond.code (⟨"java/util/ArrayList", "grow", "(I)[Ljava/lang/Object;"⟩ : MethodName) jdk_38_method_6_code 4 (some (.array (.object "java/lang/Object"))) :: ws) ({ frames := 1, cells := 1, slots := 10, locals := 14 } : Room)) (fun a U => a = #[(.ref r0), (.int p1)] ∧ Z.Warmed39 U.vm ∧ U.heap = h0) (fun _ _ _ _ _ => True) (fun _ U o U' => ∃ v L, o = .returned v ∧ QGrow1 Z r0 p1 v0 e0 k0 h0 n0 v U'.heap L ∧ FrameEnd U o U' L 1 10) := by
  refine MetFree.of_bodySF (plainFor_of_name pn_22) hisR ?_
  intro p ev s m args below meth c s₁ Bd hml0 hP hK
  obtain ⟨rfl, hZ, hh⟩ := hP
  have hx := Bd.exec
  have hby := Bd.bytes
  have hml : c.maxLocals = 4 := hml0
  have hown : s.vm.findClass "java/util/ArrayList" = some m.cls := findClass_of_methodNamed Bd.named
  have hnm := (name_of_methodNamed Bd.named Bd.method).1
  have X0 : Stand p l ev ({ frames := 1, cells := 1, slots := 10, locals := 14 } : Room) s m #[(.ref r0), (.int p1)] below meth c s₁ [] 0 0 := Stand.of_body Bd
  have eh0 : s₁.heap = h0 := by rw [← hh, Bd.state]; rfl
  have N0 := Fr.nil n0
  have Zs := Z0
  show Gol p ev below (FrameEnd s) (QGrow1 Z r0 p1 v0 e0 k0 h0 n0) 1 10 (s₁.setTop (entryFrame m #[(.ref r0), (.int p1)] 4))
  rw [ef_22]
  subst hp
  obtain ⟨E_r0, F_r0_modCount, F_r0_elementData, F_r0_size⟩ := O0
  have V_e0 := V0.ext O.2
  have ne_e0_r0 : e0 ≠ r0 := Old.ne O V0.lt g_r0
  have K := Keep.refl h0 [r0]
  show GolF _ _ _ _ _ _ _ s₁ m 0 #[.val (.ref r0), .val (.int (1 : Int32)), .unset, .unset] []
  refine Gol.aloadN X0 hx hby d22_0 (pc' := 1) rfl rfl rfl ?_
  refine Gol.getF X0 hx hby hZ hown (host := "") (Or.inl (hw _ (List.mem_of_getElem? (i := 101) rfl))) Via.refl eh0 F_r0_elementData d22_1 (pc' := 4) rfl ?_
  intro T1 X1 e1
  refine Gol.alen X1 hx hby hZ e1 V_e0 d22_4 (pc' := 5) rfl ?_
  refine Gol.istoreN X1 hx hby d22_5 (pc' := 6) rfl (l' := #[.val (.ref r0), .val (.int (1 : Int32)), .val (.int (0 : Int32)), .unset]) rfl ?_
  refine Gol.iloadN X1 hx hby d22_6 (pc' := 7) rfl rfl ?_
  refine Gol.ifNo X1 hx hby d22_7 (pc' := 10) rfl ((if0 _ _).trans (flt (by decide : ¬ ((0 : Int32) < (0 : Int32)))).2.2.1) ?_
  refine Gol.aloadN X1 hx hby d22_10 (pc' := 11) rfl rfl rfl ?_
  refine Gol.getF X1 hx hby hZ hown (host := "") (Or.inl (hw _ (List.mem_of_getElem? (i := 101) rfl))) Via.refl e1 F_r0_elementData d22_11 (pc' := 14) rfl ?_
  intro T2 X2 e2
  refine Gol.getS X2 hx hby hZ hown (host := "") (Or.inl (hw _ (List.mem_of_getElem? (i := 100) rfl))) Via.refl e2 (S0.ext O.2) d22_14 (pc' := 17) rfl ?_
  intro T3 X3 e3
  refine Gol.acmp X3 hx hby (pc' := 45) true d22_17 rfl rfl (decide_eq_true rfl) (by decide) (by decide) ?_
  refine Gol.aloadN X3 hx hby d22_45 (pc' := 46) rfl rfl rfl ?_
  refine Gol.bipush X3 hx hby d22_46 (pc' := 48) rfl (z := (10 : Int32)) rfl ?_
  refine Gol.iloadN X3 hx hby d22_48 (pc' := 49) rfl rfl ?_
  refine Gol.callS X3 hx hby hZ hown 1 [(.int (10 : Int32)), (.int (1 : Int32))] (hw _ (List.mem_of_getElem? (i := 155) rfl)) (hw _ (List.mem_of_getElem? (i := 156) rfl)) (hw _ (List.mem_of_getElem? (i := 157) rfl)) (hw _ (List.mem_of_getElem? (i := 158) rfl)) (by decide) (rm23 l Z a0 hw [] (10 : Int32) (1 : Int32)  h0 n0 Zs ) (by decide) (by decide) e3 (by rw [hml]; rfl) (rest := [(.ref r0)]) (Nat.le_of_eq rfl) (by decide) (by decide) (lenOf pd_1 rfl) rfl d22_49 (pc' := 52) rfl ?_
  intro T4 v4 L4 X4 hQ4
  obtain ⟨rfl, Nq4, eq4⟩ := hQ4
  have N4 := Fr.app N0 Nq4
  show GolF _ _ _ _ _ _ _ T4 m 52 #[.val (.ref r0), .val (.int (1 : Int32)), .val (.int (0 : Int32)), .unset] [(.int (f23 (10 : Int32) (1 : Int32) )), (.ref r0)]
  show GolF _ _ _ _ _ _ _ T4 m 52 #[.val (.ref r0), .val (.int (1 : Int32)), .val (.int (0 : Int32)), .unset] [(.int (10 : Int32)), (.ref r0)]
  refine Gol.newref X4 hx hby hZ hown (hw _ (List.mem_of_getElem? (i := 159) rfl)) (hw _ (List.mem_of_getElem? (i := 160) rfl)) eq4 10 d22_52 (pc' := 55) rfl (by decide) (by decide) (by decide) (by decide) (by decide) ?_
  intro T5 h5 k5 b5 g5 X5 e5 E5 A5 O5
  have lo_r0_b5 : r0 < b5 := Nat.lt_of_lt_of_le E_r0.lt (Nat.le_of_eq g5.symm)
  have ne_r0_b5 : r0 ≠ b5 := Nat.ne_of_lt lo_r0_b5
  have lo_e0_b5 : e0 < b5 := Nat.lt_of_lt_of_le V_e0.lt (Nat.le_of_eq g5.symm)
  have ne_e0_b5 : e0 ≠ b5 := Nat.ne_of_lt lo_e0_b5
  have g_b5 : n0 ≤ b5 := Nat.le_trans Zs (Nat.le_of_eq g5.symm)
  have sz_b5 : h0.size ≤ b5 := Nat.le_trans K.1 (Nat.le_of_eq g5.symm)
  have E_r0 := E_r0.ext E5
  have F_r0_modCount := F_r0_modCount.ext E5
  have F_r0_elementData := F_r0_elementData.ext E5
  have F_r0_size := F_r0_size.ext E5
  have V_e0 := V_e0.ext E5
  have K := K.ext E5
  have O := O.ext E5
  have Zs := Nat.le_trans Zs E5.1
  have V_b5 : Arv Z h5 b5 k5 (.object "java/lang/Object") (10 : Int32) [.null, .null, .null, .null, .null, .null, .null, .null, .null, .null] .null := A5.pad (pad_rep [] .null 10)
  refine Gol.dupX1 X5 hx hby d22_55 (pc' := 56) rfl rfl rfl ?_
  refine Gol.putF X5 hx hby hZ hown (host := "") (Or.inl (hw _ (List.mem_of_getElem? (i := 101) rfl))) Via.refl e5 F_r0_elementData E_r0 (Or.inl (hw _ (List.mem_of_getElem? (i := 102) rfl))) (hw _ (List.mem_of_getElem? (i := 80) rfl)) (ty := (.array (.object "java/lang/Object"))) (by decide) rfl rfl d22_56 (pc' := 59) rfl ?_
  intro T6 h6 X6 e6 W6
  have E_r0 := E_r0.wr W6
  have F_r0_modCount := F_r0_modCount.other W6 (Or.inr (slot_ne (Or.inl (hw _ (List.mem_of_getElem? (i := 99) rfl))) (Or.inl (hw _ (List.mem_of_getElem? (i := 102) rfl))) (by decide) (t := .int) (t' := (.array (.object "java/lang/Object"))) (by decide) (by decide)))
  have F_r0_elementData := F_r0_elementData.same W6
  have F_r0_size := F_r0_size.other W6 (Or.inr (slot_ne (Or.inl (hw _ (List.mem_of_getElem? (i := 113) rfl))) (Or.inl (hw _ (List.mem_of_getElem? (i := 102) rfl))) (by decide) (t := .int) (t' := (.array (.object "java/lang/Object"))) (by decide) (by decide)))
  have V_e0 := V_e0.other W6 ne_e0_r0
  have V_b5 := V_b5.other W6 ne_r0_b5.symm
  have K := K.wr W6 (Or.inl (List.mem_of_getElem? (i := 0) rfl))
  have O := O.wr W6 g_r0
  have Zs := Nat.le_trans Zs (Keep.of_wr W6).1
  have N6 := Fr.snoc X6 N4 g_r0
  exact Gol.retA X6 hx hby Bd.returns rfl rfl Bd.notSynchronized d22_59 e6 ⟨b5, k5, rfl, N6, K, sz_b5, ⟨E_r0, F_r0_modCount, F_r0_elementData, F_r0_size⟩, V_b5, O5⟩ (by decide) (by decide)
theorem d21_0 : decode jdk_38_method_7_code 0 = .ok (.aload_n 0, 1) := by decide +kernel
theorem d21_1 : decode jdk_38_method_7_code 1 = .ok (.aload_n 0, 1) := by decide +kernel
theorem d21_2 : decode jdk_38_method_7_code 2 = .ok (.getfield 48, 3) := by decide +kernel
theorem d21_5 : decode jdk_38_method_7_code 5 = .ok (.iconst 1, 1) := by decide +kernel
theorem d21_6 : decode jdk_38_method_7_code 6 = .ok (.iadd, 1) := by decide +kernel
theorem d21_7 : decode jdk_38_method_7_code 7 = .ok (.invokevirtual 69, 3) := by decide +kernel
theorem d21_10 : decode jdk_38_method_7_code 10 = .ok (.areturn, 1) := by decide +kernel
theorem pn_21 : plainName "java/util/ArrayList" = true := by first | (simp [plainName, overriddenIn]; done) | decide +kernel
theorem ef_21 (m : MethodId) (r0 : Addr) : entryFrame m #[(.ref r0)] 1 = mkF m 0 #[.val (.ref r0)] [] := by first | (simp [entryFrame, mkF, argsToLocals, Value.category]; done) | rfl
abbrev QGrow0 (Z : State) (r0 : Addr) (v0 : Value) (e0 : Addr) (k0 : ClassId) (h0 : Heap) (n0 : Nat) (v : Option Value) (h : Heap) (L : List Loc) : Prop := ∃ (b : Addr) (k : ClassId), v = some (.ref b) ∧ Fr n0 L ∧ Keep h0 h [r0] ∧ h0.size ≤ b ∧ Al Z h r0 v0 (.ref b) (.int (0 : Int32)) ∧ Arv Z h b k (.object "java/lang/Object") (10 : Int32) [.null, .null, .null, .null, .null, .null, .null, .null, .null, .null] .null ∧ Ovr Z k "java/lang/Object"
set_option maxRecDepth 65536 in
set_option maxHeartbeats 40000000 in
theorem rmGrow0 (l : Launch) (Z : State) (a0 : Array Value) (hw : ∀ d ∈ tables_1, d.before a0 Z = true) (ws : List Jvm.Cond) (r0 : Addr) (v0 : Value) (e0 : Addr) (k0 : ClassId) (h0 : Heap) (n0 : Nat) (Z0 : n0 ≤ h0.size) (O0 : Al Z h0 r0 v0 (.ref e0) (.int (0 : Int32))) (g_r0 : n0 ≤ r0) (S0 : Sta Z Z.heap "java/util/ArrayList" "DEFAULTCAPACITY_EMPTY_ELEMENTDATA" "[Ljava/lang/Object;" (.ref e0)) (V0 : Arv Z Z.heap e0 k0 (.object "java/lang/Object") (0 : Int32) [] .null) (O : Old Z n0 h0) :
    MetFree l (⟨"java/util/ArrayList", "grow", "()[Ljava/lang/Object;"⟩ : MethodName) (head1 (Jvm.Cond.code (⟨"java/util/ArrayList", "grow", "()[Ljava/lang/Object;"⟩ : MethodName) jdk_38_method_7_code 1 (some (.array (.object "java/lang/Object"))) :: ws) ({ frames := 2, cells := 1, slots := 10, locals := 29 } : Room)) (fun a U => a = #[(.ref r0)] ∧ Z.Warmed39 U.vm ∧ U.heap = h0) (fun _ _ _ _ _ => True) (fun _ U o U' => ∃ v L, o = .returned v ∧ QGrow0 Z r0 v0 e0 k0 h0 n0 v U'.heap L ∧ FrameEnd U o U' L 1 10) := by
  refine MetFree.of_bodySF (plainFor_of_name pn_21) hisR ?_
  intro p ev s m args below meth c s₁ Bd hml0 hP hK
  obtain ⟨rfl, hZ, hh⟩ := hP
  have hx := Bd.exec
  have hby := Bd.bytes
  have hml : c.maxLocals = 1 := hml0
  have hown : s.vm.findClass "java/util/ArrayList" = some m.cls := findClass_of_methodNamed Bd.named
  have hnm := (name_of_methodNamed Bd.named Bd.method).1
  have X0 : Stand p l ev ({ frames := 2, cells := 1, slots := 10, locals := 29 } : Room) s m #[(.ref r0)] below meth c s₁ [] 0 0 := Stand.of_body Bd
  have eh0 : s₁.heap = h0 := by rw [← hh, Bd.state]; rfl
  have N0 := Fr.nil n0
  have Zs := Z0
  show Gol p ev below (FrameEnd s) (QGrow0 Z r0 v0 e0 k0 h0 n0) 1 10 (s₁.setTop (entryFrame m #[(.ref r0)] 1))
  rw [ef_21]
  obtain ⟨E_r0, F_r0_modCount, F_r0_elementData, F_r0_size⟩ := O0
  have K := Keep.refl h0 [r0]
  show GolF _ _ _ _ _ _ _ s₁ m 0 #[.val (.ref r0)] []
  refine Gol.aloadN X0 hx hby d21_0 (pc' := 1) rfl rfl rfl ?_
  refine Gol.aloadN X0 hx hby d21_1 (pc' := 2) rfl rfl rfl ?_
  refine Gol.getF X0 hx hby hZ hown (host := "") (Or.inl (hw _ (List.mem_of_getElem? (i := 112) rfl))) Via.refl eh0 F_r0_size d21_2 (pc' := 5) rfl ?_
  intro T1 X1 e1
  refine Gol.iconst X1 hx hby d21_5 (pc' := 6) rfl (z := (1 : Int32)) rfl ?_
  refine Gol.iadd X1 hx hby d21_6 (pc' := 7) rfl (z := (1 : Int32)) rfl ?_
  refine Gol.callP X1 hx hby hZ hown 0 [(.int (1 : Int32))] (a := r0) (hw _ (List.mem_of_getElem? (i := 150) rfl)) (hw _ (List.mem_of_getElem? (i := 151) rfl)) (hw _ (List.mem_of_getElem? (i := 153) rfl)) (hw _ (List.mem_of_getElem? (i := 152) rfl)) (hw _ (List.mem_of_getElem? (i := 81) rfl)) (hw _ (List.mem_of_getElem? (i := 154) rfl)) (by decide) E_r0 (rmGrow1 l Z a0 hw [] r0 (1 : Int32) v0 e0 k0 h0 n0 Zs rfl ⟨E_r0, F_r0_modCount, F_r0_elementData, F_r0_size⟩ g_r0 S0 V0 O) (by decide) (by decide) e1 (by rw [hml]; rfl) (rest := []) (Nat.le_of_eq rfl) (by decide) (by decide) (lenOf pd_2 rfl) rfl d21_7 (pc' := 10) rfl ?_
  intro T2 v2 L2 X2 hQ2
  obtain ⟨b2, kb2, rfl, Nq2, Kq2, hb2, Oq2, V_b2, Ov2⟩ := hQ2
  have N2 := Fr.app N0 Nq2
  have lo_r0_b2 : r0 < b2 := Nat.lt_of_lt_of_le E_r0.lt hb2
  have ne_r0_b2 : r0 ≠ b2 := Nat.ne_of_lt lo_r0_b2
  have g_b2 : n0 ≤ b2 := Nat.le_trans Zs hb2
  have sz_b2 : h0.size ≤ b2 := Nat.le_trans K.1 hb2
  have E_r0 := E_r0.keep Kq2
  have K := K.trans Kq2 (allS (Or.inl (List.mem_of_getElem? (i := 0) rfl)) all0)
  have O := O.keep Kq2 (allS g_r0 all0)
  have Zs := Nat.le_trans Zs Kq2.1
  show GolF _ _ _ _ _ _ _ T2 m 10 #[.val (.ref r0)] [(.ref b2)]
  obtain ⟨E_r0, F_r0_modCount, F_r0_elementData, F_r0_size⟩ := Oq2
  exact Gol.retA X2 hx hby Bd.returns rfl rfl Bd.notSynchronized d21_10 rfl ⟨b2, kb2, rfl, N2, K, sz_b2, ⟨E_r0, F_r0_modCount, F_r0_elementData, F_r0_size⟩, V_b2, Ov2⟩ (by decide) (by decide)
theorem d20_0 : decode jdk_38_method_24_code 0 = .ok (.iload_n 3, 1) := by decide +kernel
theorem d20_1 : decode jdk_38_method_24_code 1 = .ok (.aload_n 2, 1) := by decide +kernel
theorem d20_2 : decode jdk_38_method_24_code 2 = .ok (.arraylength, 1) := by decide +kernel
theorem d20_3 : decode jdk_38_method_24_code 3 = .ok (.if_icmp .ne 8, 3) := by decide +kernel
theorem d20_6 : decode jdk_38_method_24_code 6 = .ok (.aload_n 0, 1) := by decide +kernel
theorem d20_7 : decode jdk_38_method_24_code 7 = .ok (.invokevirtual 129, 3) := by decide +kernel
theorem d20_10 : decode jdk_38_method_24_code 10 = .ok (.astore_n 2, 1) := by decide +kernel
theorem d20_11 : decode jdk_38_method_24_code 11 = .ok (.aload_n 2, 1) := by decide +kernel
theorem d20_12 : decode jdk_38_method_24_code 12 = .ok (.iload_n 3, 1) := by decide +kernel
theorem d20_13 : decode jdk_38_method_24_code 13 = .ok (.aload_n 1, 1) := by decide +kernel
theorem d20_14 : decode jdk_38_method_24_code 14 = .ok (.aastore, 1) := by decide +kernel
theorem d20_15 : decode jdk_38_method_24_code 15 = .ok (.aload_n 0, 1) := by decide +kernel
theorem d20_16 : decode jdk_38_method_24_code 16 = .ok (.iload_n 3, 1) := by decide +kernel
theorem d20_17 : decode jdk_38_method_24_code 17 = .ok (.iconst 1, 1) := by decide +kernel
theorem d20_18 : decode jdk_38_method_24_code 18 = .ok (.iadd, 1) := by decide +kernel
theorem d20_19 : decode jdk_38_method_24_code 19 = .ok (.putfield 48, 3) := by decide +kernel
theorem d20_22 : decode jdk_38_method_24_code 22 = .ok (.return_, 1) := by decide +kernel
theorem pn_20 : plainName "java/util/ArrayList" = true := by first | (simp [plainName, overriddenIn]; done) | decide +kernel
theorem ef_20 (m : MethodId) (r0 : Addr) (r1 : Addr) (r2 : Addr) (p3 : Int32) : entryFrame m #[(.ref r0), (.ref r1), (.ref r2), (.int p3)] 4 = mkF m 0 #[.val (.ref r0), .val (.ref r1), .val (.ref r2), .val (.int p3)] [] := by first | (simp [entryFrame, mkF, argsToLocals, Value.category]; done) | rfl
abbrev QAdd3A (Z : State) (r0 : Addr) (r1 : Addr) (r2 : Addr) (p3 : Int32) (mo : Int32) (e0 : Addr) (k0 : ClassId) (h0 : Heap) (n0 : Nat) (v : Option Value) (h : Heap) (L : List Loc) : Prop := v = none ∧ Fr n0 L ∧ Keep h0 h [r0] ∧ ∃ (mz : Int32) (e : Addr) (k : ClassId) (vs : List Value), h0.size ≤ e ∧ vs.length = 10 ∧ Al Z h r0 (.int mz) (.ref e) (.int (Int32.ofNat 1)) ∧ Arv Z h e k (.object "java/lang/Object") (10 : Int32) vs .null ∧ Ovr Z k "java/lang/Object" ∧ vs.getD 0 .null = (.ref r1)
set_option maxRecDepth 65536 in
set_option maxHeartbeats 40000000 in
theorem rmAdd3A (l : Launch) (Z : State) (a0 : Array Value) (hw : ∀ d ∈ tables_1, d.before a0 Z = true) (ws : List Jvm.Cond) (r0 : Addr) (r1 : Addr) (r2 : Addr) (p3 : Int32) (mo : Int32) (e0 : Addr) (k0 : ClassId) (h0 : Heap) (n0 : Nat) (Z0 : n0 ≤ h0.size) (hp2 : e0 = r2) (hp3 : p3 = (0 : Int32)) (O0 : Al Z h0 r0 (.int mo) (.ref e0) (.int (0 : Int32))) (E_r1 : Exa Z h0 r1 "com/example/ballast/ballast/runtime/Outbox$Held") (ne_r0_r1 : r0 ≠ r1) (g_r0 : n0 ≤ r0) (g_r1 : n0 ≤ r1) (S0 : Sta Z Z.heap "java/util/ArrayList" "DEFAULTCAPACITY_EMPTY_ELEMENTDATA" "[Ljava/lang/Object;" (.ref e0)) (V0 : Arv Z Z.heap e0 k0 (.object "java/lang/Object") (0 : Int32) [] .null) (O : Old Z n0 h0) :
    MetFree l (⟨"java/util/ArrayList", "add", "(Ljava/lang/Object;[Ljava/lang/Object;I)V"⟩ : MethodName) (head1 (Jvm.Cond.code (⟨"java/util/ArrayList", "add", "(Ljava/lang/Object;[Ljava/lang/Object;I)V"⟩ : MethodName) jdk_38_method_24_code 4 none :: ws) ({ frames := 3, cells := 1, slots := 10, locals := 41 } : Room)) (fun a U => a = #[(.ref r0), (.ref r1), (.ref r2), (.int p3)] ∧ Z.Warmed39 U.vm ∧ U.heap = h0) (fun _ _ _ _ _ => True) (fun _ U o U' => ∃ v L, o = .returned v ∧ QAdd3A Z r0 r1 r2 p3 mo e0 k0 h0 n0 v U'.heap L ∧ FrameEnd U o U' L 1 10) := by
  refine MetFree.of_bodySF (plainFor_of_name pn_20) hisR ?_
  intro p ev s m args below meth c s₁ Bd hml0 hP hK
  obtain ⟨rfl, hZ, hh⟩ := hP
  have hx := Bd.exec
  have hby := Bd.bytes
  have hml : c.maxLocals = 4 := hml0
  have hown : s.vm.findClass "java/util/ArrayList" = some m.cls := findClass_of_methodNamed Bd.named
  have hnm := (name_of_methodNamed Bd.named Bd.method).1
  have X0 : Stand p l ev ({ frames := 3, cells := 1, slots := 10, locals := 41 } : Room) s m #[(.ref r0), (.ref r1), (.ref r2), (.int p3)] below meth c s₁ [] 0 0 := Stand.of_body Bd
  have eh0 : s₁.heap = h0 := by rw [← hh, Bd.state]; rfl
  have N0 := Fr.nil n0
  have Zs := Z0
  show Gol p ev below (FrameEnd s) (QAdd3A Z r0 r1 r2 p3 mo e0 k0 h0 n0) 1 10 (s₁.setTop (entryFrame m #[(.ref r0), (.ref r1), (.ref r2), (.int p3)] 4))
  rw [ef_20]
  subst hp2
  subst hp3
  obtain ⟨E_r0, F_r0_modCount, F_r0_elementData, F_r0_size⟩ := O0
  have V_e0 := V0.ext O.2
  have ne_e0_r0 : e0 ≠ r0 := Old.ne O V0.lt g_r0
  have ne_e0_r1 : e0 ≠ r1 := Old.ne O V0.lt g_r1
  have K := Keep.refl h0 [r0]
  show GolF _ _ _ _ _ _ _ s₁ m 0 #[.val (.ref r0), .val (.ref r1), .val (.ref e0), .val (.int (0 : Int32))] []
  refine Gol.iloadN X0 hx hby d20_0 (pc' := 1) rfl rfl ?_
  refine Gol.aloadN X0 hx hby d20_1 (pc' := 2) rfl rfl rfl ?_
  refine Gol.alen X0 hx hby hZ eh0 V_e0 d20_2 (pc' := 3) rfl ?_
  refine Gol.icmpNo X0 hx hby d20_3 (pc' := 6) rfl (teq (by decide : (0 : Int32) = (0 : Int32))).2 ?_
  refine Gol.aloadN X0 hx hby d20_6 (pc' := 7) rfl rfl rfl ?_
  refine Gol.callP X0 hx hby hZ hown 0 [] (a := r0) (hw _ (List.mem_of_getElem? (i := 145) rfl)) (hw _ (List.mem_of_getElem? (i := 146) rfl)) (hw _ (List.mem_of_getElem? (i := 148) rfl)) (hw _ (List.mem_of_getElem? (i := 147) rfl)) (hw _ (List.mem_of_getElem? (i := 81) rfl)) (hw _ (List.mem_of_getElem? (i := 149) rfl)) (by decide) E_r0 (rmGrow0 l Z a0 hw [] r0 (.int mo) e0 k0 h0 n0 Zs ⟨E_r0, F_r0_modCount, F_r0_elementData, F_r0_size⟩ g_r0 S0 V0 O) (by decide) (by decide) eh0 (by rw [hml]; rfl) (rest := []) (Nat.le_of_eq rfl) (by decide) (by decide) (lenOf pd_3 rfl) rfl d20_7 (pc' := 10) rfl ?_
  intro T1 v1 L1 X1 hQ1
  obtain ⟨b1, kb1, rfl, Nq1, Kq1, hb1, Oq1, V_b1, Ov1⟩ := hQ1
  have N1 := Fr.app N0 Nq1
  have lo_r0_b1 : r0 < b1 := Nat.lt_of_lt_of_le E_r0.lt hb1
  have ne_r0_b1 : r0 ≠ b1 := Nat.ne_of_lt lo_r0_b1
  have lo_r1_b1 : r1 < b1 := Nat.lt_of_lt_of_le E_r1.lt hb1
  have ne_r1_b1 : r1 ≠ b1 := Nat.ne_of_lt lo_r1_b1
  have lo_e0_b1 : e0 < b1 := Nat.lt_of_lt_of_le V_e0.lt hb1
  have ne_e0_b1 : e0 ≠ b1 := Nat.ne_of_lt lo_e0_b1
  have g_b1 : n0 ≤ b1 := Nat.le_trans Zs hb1
  have sz_b1 : h0.size ≤ b1 := Nat.le_trans K.1 hb1
  have E_r0 := E_r0.keep Kq1
  have E_r1 := E_r1.keep Kq1
  have V_e0 := V_e0.keep Kq1 (ninS ne_e0_r0 nin0)
  have K := K.trans Kq1 (allS (Or.inl (List.mem_of_getElem? (i := 0) rfl)) all0)
  have O := O.keep Kq1 (allS g_r0 all0)
  have Zs := Nat.le_trans Zs Kq1.1
  show GolF _ _ _ _ _ _ _ T1 m 10 #[.val (.ref r0), .val (.ref r1), .val (.ref e0), .val (.int (0 : Int32))] [(.ref b1)]
  obtain ⟨E_r0, F_r0_modCount, F_r0_elementData, F_r0_size⟩ := Oq1
  refine Gol.astoreN X1 hx hby d20_10 (pc' := 11) rfl rfl (l' := #[.val (.ref r0), .val (.ref r1), .val (.ref b1), .val (.int (0 : Int32))]) rfl ?_
  refine Gol.aloadN X1 hx hby d20_11 (pc' := 12) rfl rfl rfl ?_
  refine Gol.iloadN X1 hx hby d20_12 (pc' := 13) rfl rfl ?_
  refine Gol.aloadN X1 hx hby d20_13 (pc' := 14) rfl rfl rfl ?_
  refine Gol.aastore X1 hx hby hZ rfl V_b1 d20_14 (pc' := 15) rfl ⟨by decide, by decide⟩ 0 rfl (Nat.le_of_ble_eq_true rfl) rfl rfl (fun _ Ar q => Sto.ofV Ar q Ov1 (Ins.of_exa E_r1 (hw _ (List.mem_of_getElem? (i := 161) rfl)))) ?_
  intro T2 h2 X2 e2 W2 A2
  have V_b1 : Arv Z h2 b1 kb1 (.object "java/lang/Object") (10 : Int32) [(.ref r1), .null, .null, .null, .null, .null, .null, .null, .null, .null] .null := A2
  have E_r0 := E_r0.wr W2
  have E_r1 := E_r1.wr W2
  have F_r0_modCount := F_r0_modCount.other W2 (Or.inl ne_r0_b1)
  have F_r0_elementData := F_r0_elementData.other W2 (Or.inl ne_r0_b1)
  have F_r0_size := F_r0_size.other W2 (Or.inl ne_r0_b1)
  have V_e0 := V_e0.other W2 ne_e0_b1
  have K := K.wr W2 (Or.inr sz_b1)
  have O := O.wr W2 g_b1
  have Zs := Nat.le_trans Zs (Keep.of_wr W2).1
  have N2 := Fr.snoc X2 N1 g_b1
  refine Gol.aloadN X2 hx hby d20_15 (pc' := 16) rfl rfl rfl ?_
  refine Gol.iloadN X2 hx hby d20_16 (pc' := 17) rfl rfl ?_
  refine Gol.iconst X2 hx hby d20_17 (pc' := 18) rfl (z := (1 : Int32)) rfl ?_
  refine Gol.iadd X2 hx hby d20_18 (pc' := 19) rfl (z := (1 : Int32)) rfl ?_
  refine Gol.putF X2 hx hby hZ hown (host := "") (Or.inl (hw _ (List.mem_of_getElem? (i := 112) rfl))) Via.refl e2 F_r0_size E_r0 (Or.inl (hw _ (List.mem_of_getElem? (i := 113) rfl))) (hw _ (List.mem_of_getElem? (i := 80) rfl)) (ty := .int) (by decide) rfl rfl d20_19 (pc' := 22) rfl ?_
  intro T3 h3 X3 e3 W3
  have E_r0 := E_r0.wr W3
  have E_r1 := E_r1.wr W3
  have F_r0_modCount := F_r0_modCount.other W3 (Or.inr (slot_ne (Or.inl (hw _ (List.mem_of_getElem? (i := 99) rfl))) (Or.inl (hw _ (List.mem_of_getElem? (i := 113) rfl))) (by decide) (t := .int) (t' := .int) (by decide) (by decide)))
  have F_r0_elementData := F_r0_elementData.other W3 (Or.inr (slot_ne (Or.inl (hw _ (List.mem_of_getElem? (i := 102) rfl))) (Or.inl (hw _ (List.mem_of_getElem? (i := 113) rfl))) (by decide) (t := (.array (.object "java/lang/Object"))) (t' := .int) (by decide) (by decide)))
  have F_r0_size := F_r0_size.same W3
  have V_e0 := V_e0.other W3 ne_e0_r0
  have V_b1 := V_b1.other W3 ne_r0_b1.symm
  have K := K.wr W3 (Or.inl (List.mem_of_getElem? (i := 0) rfl))
  have O := O.wr W3 g_r0
  have Zs := Nat.le_trans Zs (Keep.of_wr W3).1
  have N3 := Fr.snoc X3 N2 g_r0
  exact Gol.ret0 X3 hx hby Bd.returns Bd.notSynchronized d20_22 e3 ⟨rfl, N3, K, mo, b1, kb1, [(.ref r1), .null, .null, .null, .null, .null, .null, .null, .null, .null], sz_b1, rfl, ⟨E_r0, F_r0_modCount, F_r0_elementData, F_r0_size⟩, V_b1, Ov1, rfl⟩ (by decide) (by decide)
theorem d19_0 : decode jdk_38_method_25_code 0 = .ok (.aload_n 0, 1) := by decide +kernel
theorem d19_1 : decode jdk_38_method_25_code 1 = .ok (.dup, 1) := by decide +kernel
theorem d19_2 : decode jdk_38_method_25_code 2 = .ok (.getfield 63, 3) := by decide +kernel
theorem d19_5 : decode jdk_38_method_25_code 5 = .ok (.iconst 1, 1) := by decide +kernel
theorem d19_6 : decode jdk_38_method_25_code 6 = .ok (.iadd, 1) := by decide +kernel
theorem d19_7 : decode jdk_38_method_25_code 7 = .ok (.putfield 63, 3) := by decide +kernel
theorem d19_10 : decode jdk_38_method_25_code 10 = .ok (.aload_n 0, 1) := by decide +kernel
theorem d19_11 : decode jdk_38_method_25_code 11 = .ok (.aload_n 1, 1) := by decide +kernel
theorem d19_12 : decode jdk_38_method_25_code 12 = .ok (.aload_n 0, 1) := by decide +kernel
theorem d19_13 : decode jdk_38_method_25_code 13 = .ok (.getfield 9, 3) := by decide +kernel
theorem d19_16 : decode jdk_38_method_25_code 16 = .ok (.aload_n 0, 1) := by decide +kernel
theorem d19_17 : decode jdk_38_method_25_code 17 = .ok (.getfield 48, 3) := by decide +kernel
theorem d19_20 : decode jdk_38_method_25_code 20 = .ok (.invokevirtual 131, 3) := by decide +kernel
theorem d19_23 : decode jdk_38_method_25_code 23 = .ok (.iconst 1, 1) := by decide +kernel
theorem d19_24 : decode jdk_38_method_25_code 24 = .ok (.ireturn, 1) := by decide +kernel
theorem pn_19 : plainName "java/util/ArrayList" = true := by first | (simp [plainName, overriddenIn]; done) | decide +kernel
theorem ef_19 (m : MethodId) (r0 : Addr) (r1 : Addr) : entryFrame m #[(.ref r0), (.ref r1)] 2 = mkF m 0 #[.val (.ref r0), .val (.ref r1)] [] := by first | (simp [entryFrame, mkF, argsToLocals, Value.category]; done) | rfl
abbrev QAddA (Z : State) (r0 : Addr) (r1 : Addr) (mo : Int32) (e0 : Addr) (k0 : ClassId) (h0 : Heap) (n0 : Nat) (v : Option Value) (h : Heap) (L : List Loc) : Prop := v = some (.int 1) ∧ Fr n0 L ∧ Keep h0 h [r0] ∧ ∃ (mz : Int32) (e : Addr) (k : ClassId) (vs : List Value), h0.size ≤ e ∧ vs.length = 10 ∧ Al Z h r0 (.int mz) (.ref e) (.int (Int32.ofNat 1)) ∧ Arv Z h e k (.object "java/lang/Object") (10 : Int32) vs .null ∧ Ovr Z k "java/lang/Object" ∧ vs.getD 0 .null = (.ref r1)
set_option maxRecDepth 65536 in
set_option maxHeartbeats 40000000 in
theorem rmAddA (l : Launch) (Z : State) (a0 : Array Value) (hw : ∀ d ∈ tables_1, d.before a0 Z = true) (ws : List Jvm.Cond) (r0 : Addr) (r1 : Addr) (mo : Int32) (e0 : Addr) (k0 : ClassId) (h0 : Heap) (n0 : Nat) (Z0 : n0 ≤ h0.size) (O0 : Al Z h0 r0 (.int mo) (.ref e0) (.int (0 : Int32))) (E_r1 : Exa Z h0 r1 "com/example/ballast/ballast/runtime/Outbox$Held") (ne_r0_r1 : r0 ≠ r1) (g_r0 : n0 ≤ r0) (g_r1 : n0 ≤ r1) (S0 : Sta Z Z.heap "java/util/ArrayList" "DEFAULTCAPACITY_EMPTY_ELEMENTDATA" "[Ljava/lang/Object;" (.ref e0)) (V0 : Arv Z Z.heap e0 k0 (.object "java/lang/Object") (0 : Int32) [] .null) (O : Old Z n0 h0) :
    MetFree l (⟨"java/util/ArrayList", "add", "(Ljava/lang/Object;)Z"⟩ : MethodName) (head1 (Jvm.Cond.code (⟨"java/util/ArrayList", "add", "(Ljava/lang/Object;)Z"⟩ : MethodName) jdk_38_method_25_code 2 (some .boolean) :: ws) ({ frames := 4, cells := 1, slots := 10, locals := 56 } : Room)) (fun a U => a = #[(.ref r0), (.ref r1)] ∧ Z.Warmed39 U.vm ∧ U.heap = h0) (fun _ _ _ _ _ => True) (fun _ U o U' => ∃ v L, o = .returned v ∧ QAddA Z r0 r1 mo e0 k0 h0 n0 v U'.heap L ∧ FrameEnd U o U' L 1 10) := by
  refine MetFree.of_bodySF (plainFor_of_name pn_19) hisR ?_
  intro p ev s m args below meth c s₁ Bd hml0 hP hK
  obtain ⟨rfl, hZ, hh⟩ := hP
  have hx := Bd.exec
  have hby := Bd.bytes
  have hml : c.maxLocals = 2 := hml0
  have hown : s.vm.findClass "java/util/ArrayList" = some m.cls := findClass_of_methodNamed Bd.named
  have hnm := (name_of_methodNamed Bd.named Bd.method).1
  have X0 : Stand p l ev ({ frames := 4, cells := 1, slots := 10, locals := 56 } : Room) s m #[(.ref r0), (.ref r1)] below meth c s₁ [] 0 0 := Stand.of_body Bd
  have eh0 : s₁.heap = h0 := by rw [← hh, Bd.state]; rfl
  have N0 := Fr.nil n0
  have Zs := Z0
  show Gol p ev below (FrameEnd s) (QAddA Z r0 r1 mo e0 k0 h0 n0) 1 10 (s₁.setTop (entryFrame m #[(.ref r0), (.ref r1)] 2))
  rw [ef_19]
  obtain ⟨E_r0, F_r0_modCount, F_r0_elementData, F_r0_size⟩ := O0
  have K := Keep.refl h0 [r0]
  show GolF _ _ _ _ _ _ _ s₁ m 0 #[.val (.ref r0), .val (.ref r1)] []
  refine Gol.aloadN X0 hx hby d19_0 (pc' := 1) rfl rfl rfl ?_
  refine Gol.dup X0 hx hby d19_1 (pc' := 2) rfl rfl ?_
  refine Gol.getF X0 hx hby hZ hown (host := "") (Or.inl (hw _ (List.mem_of_getElem? (i := 138) rfl))) (Via.of (hw _ (List.mem_of_getElem? (i := 139) rfl))) eh0 F_r0_modCount d19_2 (pc' := 5) rfl ?_
  intro T1 X1 e1
  refine Gol.iconst X1 hx hby d19_5 (pc' := 6) rfl (z := (1 : Int32)) rfl ?_
  refine Gol.iadd X1 hx hby d19_6 (pc' := 7) rfl rfl ?_
  refine Gol.putF X1 hx hby hZ hown (host := "") (Or.inl (hw _ (List.mem_of_getElem? (i := 138) rfl))) (Via.of (hw _ (List.mem_of_getElem? (i := 139) rfl))) e1 F_r0_modCount E_r0 (Or.inl (hw _ (List.mem_of_getElem? (i := 99) rfl))) (hw _ (List.mem_of_getElem? (i := 80) rfl)) (ty := .int) (by decide) rfl rfl d19_7 (pc' := 10) rfl ?_
  intro T2 h2 X2 e2 W2
  have E_r0 := E_r0.wr W2
  have E_r1 := E_r1.wr W2
  have F_r0_modCount := F_r0_modCount.same W2
  have F_r0_elementData := F_r0_elementData.other W2 (Or.inr (slot_ne (Or.inl (hw _ (List.mem_of_getElem? (i := 102) rfl))) (Or.inl (hw _ (List.mem_of_getElem? (i := 99) rfl))) (by decide) (t := (.array (.object "java/lang/Object"))) (t' := .int) (by decide) (by decide)))
  have F_r0_size := F_r0_size.other W2 (Or.inr (slot_ne (Or.inl (hw _ (List.mem_of_getElem? (i := 113) rfl))) (Or.inl (hw _ (List.mem_of_getElem? (i := 99) rfl))) (by decide) (t := .int) (t' := .int) (by decide) (by decide)))
  have K := K.wr W2 (Or.inl (List.mem_of_getElem? (i := 0) rfl))
  have O := O.wr W2 g_r0
  have Zs := Nat.le_trans Zs (Keep.of_wr W2).1
  have N2 := Fr.snoc X2 N0 g_r0
  refine Gol.aloadN X2 hx hby d19_10 (pc' := 11) rfl rfl rfl ?_
  refine Gol.aloadN X2 hx hby d19_11 (pc' := 12) rfl rfl rfl ?_
  refine Gol.aloadN X2 hx hby d19_12 (pc' := 13) rfl rfl rfl ?_
  refine Gol.getF X2 hx hby hZ hown (host := "") (Or.inl (hw _ (List.mem_of_getElem? (i := 101) rfl))) Via.refl e2 F_r0_elementData d19_13 (pc' := 16) rfl ?_
  intro T3 X3 e3
  refine Gol.aloadN X3 hx hby d19_16 (pc' := 17) rfl rfl rfl ?_
  refine Gol.getF X3 hx hby hZ hown (host := "") (Or.inl (hw _ (List.mem_of_getElem? (i := 112) rfl))) Via.refl e3 F_r0_size d19_17 (pc' := 20) rfl ?_
  intro T4 X4 e4
  refine Gol.callP X4 hx hby hZ hown 0 [(.ref r1), (.ref e0), (.int (0 : Int32))] (a := r0) (hw _ (List.mem_of_getElem? (i := 140) rfl)) (hw _ (List.mem_of_getElem? (i := 141) rfl)) (hw _ (List.mem_of_getElem? (i := 143) rfl)) (hw _ (List.mem_of_getElem? (i := 142) rfl)) (hw _ (List.mem_of_getElem? (i := 81) rfl)) (hw _ (List.mem_of_getElem? (i := 144) rfl)) (by decide) E_r0 (rmAdd3A l Z a0 hw [] r0 r1 e0 (0 : Int32) (mo + (1 : Int32)) e0 k0 h2 n0 Zs rfl rfl ⟨E_r0, F_r0_modCount, F_r0_elementData, F_r0_size⟩ E_r1 ne_r0_r1 g_r0 g_r1 S0 V0 O) (by decide) (by decide) e4 (by rw [hml]; rfl) (rest := []) (Nat.le_of_eq rfl) (by decide) (by decide) (lenOf pd_4 rfl) rfl d19_20 (pc' := 23) rfl ?_
  intro T5 v5 L5 X5 hQ5
  obtain ⟨rfl, Nq5, Kq5, mz5, e5a, ka5, vs5, hb5, hl5, Oq5, V_e5a, Ov5, hf5⟩ := hQ5
  have N5 := Fr.app N2 Nq5
  have lo_r0_e5a : r0 < e5a := Nat.lt_of_lt_of_le E_r0.lt hb5
  have ne_r0_e5a : r0 ≠ e5a := Nat.ne_of_lt lo_r0_e5a
  have lo_r1_e5a : r1 < e5a := Nat.lt_of_lt_of_le E_r1.lt hb5
  have ne_r1_e5a : r1 ≠ e5a := Nat.ne_of_lt lo_r1_e5a
  have g_e5a : n0 ≤ e5a := Nat.le_trans Zs hb5
  have sz_e5a : h0.size ≤ e5a := Nat.le_trans K.1 hb5
  have E_r0 := E_r0.keep Kq5
  have E_r1 := E_r1.keep Kq5
  have K := K.trans Kq5 (allS (Or.inl (List.mem_of_getElem? (i := 0) rfl)) all0)
  have O := O.keep Kq5 (allS g_r0 all0)
  have Zs := Nat.le_trans Zs Kq5.1
  show GolF _ _ _ _ _ _ _ T5 m 23 #[.val (.ref r0), .val (.ref r1)] []
  obtain ⟨E_r0, F_r0_modCount, F_r0_elementData, F_r0_size⟩ := Oq5
  refine Gol.iconst X5 hx hby d19_23 (pc' := 24) rfl (z := (1 : Int32)) rfl ?_
  exact Gol.retN X5 hx hby (t := .boolean) Bd.returns (by simp) Bd.notSynchronized d19_24 rfl ⟨rfl, N5, K, mz5, e5a, ka5, vs5, sz_e5a, hl5, ⟨E_r0, F_r0_modCount, F_r0_elementData, F_r0_size⟩, V_e5a, Ov5, hf5⟩ (by decide) (by decide)
abbrev QAdd3B (Z : State) (r0 : Addr) (r1 : Addr) (r2 : Addr) (p3 : Int32) (mo : Int32) (e : Addr) (ke : ClassId) (vs : List Value) (sz : Nat) (h0 : Heap) (n0 : Nat) (v : Option Value) (h : Heap) (L : List Loc) : Prop := v = none ∧ Fr n0 L ∧ Keep h0 h [r0, e] ∧ ∃ mz : Int32, Al Z h r0 (.int mz) (.ref e) (.int (Int32.ofNat (sz + 1))) ∧ Arv Z h e ke (.object "java/lang/Object") (10 : Int32) (vs.set sz (.ref r1)) .null
set_option maxRecDepth 65536 in
set_option maxHeartbeats 40000000 in
theorem rmAdd3B (l : Launch) (Z : State) (a0 : Array Value) (hw : ∀ d ∈ tables_1, d.before a0 Z = true) (ws : List Jvm.Cond) (r0 : Addr) (r1 : Addr) (r2 : Addr) (p3 : Int32) (mo : Int32) (e : Addr) (ke : ClassId) (vs : List Value) (sz : Nat) (h0 : Heap) (n0 : Nat) (Z0 : n0 ≤ h0.size) (hp2 : e = r2) (hp3 : p3 = Int32.ofNat sz) (O0 : Al Z h0 r0 (.int mo) (.ref e) (.int (Int32.ofNat sz))) (hsz : sz < 10) (hlen : vs.length = 10) (V_e : Arv Z h0 e ke (.object "java/lang/Object") (10 : Int32) vs .null) (ov : Ovr Z ke "java/lang/Object") (g_e : n0 ≤ e) (ne_r0_e : r0 ≠ e) (E_r1 : Exa Z h0 r1 "com/example/ballast/ballast/runtime/Outbox$Held") (ne_r0_r1 : r0 ≠ r1) (g_r0 : n0 ≤ r0) (g_r1 : n0 ≤ r1) :
    MetFree l (⟨"java/util/ArrayList", "add", "(Ljava/lang/Object;[Ljava/lang/Object;I)V"⟩ : MethodName) (head1 (Jvm.Cond.code (⟨"java/util/ArrayList", "add", "(Ljava/lang/Object;[Ljava/lang/Object;I)V"⟩ : MethodName) jdk_38_method_24_code 4 none :: ws) ({ frames := 0, cells := 0, slots := 0, locals := 0 } : Room)) (fun a U => a = #[(.ref r0), (.ref r1), (.ref r2), (.int p3)] ∧ Z.Warmed39 U.vm ∧ U.heap = h0) (fun _ _ _ _ _ => True) (fun _ U o U' => ∃ v L, o = .returned v ∧ QAdd3B Z r0 r1 r2 p3 mo e ke vs sz h0 n0 v U'.heap L ∧ FrameEnd U o U' L 0 0) := by
  refine MetFree.of_bodySF (plainFor_of_name pn_20) hisR ?_
  intro p ev s m args below meth c s₁ Bd hml0 hP hK
  obtain ⟨rfl, hZ, hh⟩ := hP
  have hx := Bd.exec
  have hby := Bd.bytes
  have hml : c.maxLocals = 4 := hml0
  have hown : s.vm.findClass "java/util/ArrayList" = some m.cls := findClass_of_methodNamed Bd.named
  have hnm := (name_of_methodNamed Bd.named Bd.method).1
  have X0 : Stand p l ev ({ frames := 0, cells := 0, slots := 0, locals := 0 } : Room) s m #[(.ref r0), (.ref r1), (.ref r2), (.int p3)] below meth c s₁ [] 0 0 := Stand.of_body Bd
  have eh0 : s₁.heap = h0 := by rw [← hh, Bd.state]; rfl
  have N0 := Fr.nil n0
  have Zs := Z0
  show Gol p ev below (FrameEnd s) (QAdd3B Z r0 r1 r2 p3 mo e ke vs sz h0 n0) 0 0 (s₁.setTop (entryFrame m #[(.ref r0), (.ref r1), (.ref r2), (.int p3)] 4))
  rw [ef_20]
  subst hp2
  subst hp3
  obtain ⟨E_r0, F_r0_modCount, F_r0_elementData, F_r0_size⟩ := O0
  have K := Keep.refl h0 [r0, e]
  show GolF _ _ _ _ _ _ _ s₁ m 0 #[.val (.ref r0), .val (.ref r1), .val (.ref e), .val (.int (Int32.ofNat sz))] []
  refine Gol.iloadN X0 hx hby d20_0 (pc' := 1) rfl rfl ?_
  refine Gol.aloadN X0 hx hby d20_1 (pc' := 2) rfl rfl rfl ?_
  refine Gol.alen X0 hx hby hZ eh0 V_e d20_2 (pc' := 3) rfl ?_
  refine Gol.icmpYes X0 hx hby d20_3 (pc' := 11) (by decide) (feq (own_ne10 hsz)).2 ?_
  refine Gol.aloadN X0 hx hby d20_11 (pc' := 12) rfl rfl rfl ?_
  refine Gol.iloadN X0 hx hby d20_12 (pc' := 13) rfl rfl ?_
  refine Gol.aloadN X0 hx hby d20_13 (pc' := 14) rfl rfl rfl ?_
  refine Gol.aastore X0 hx hby hZ eh0 V_e d20_14 (pc' := 15) rfl (own_in10 hsz) sz (own_n32 (by omega)) (by rw [hlen]; exact hsz) rfl rfl (fun _ Ar q => Sto.ofV Ar q ov (Ins.of_exa E_r1 (hw _ (List.mem_of_getElem? (i := 161) rfl)))) ?_
  intro T1 h1 X1 e1 W1 A1
  have V_e : Arv Z h1 e ke (.object "java/lang/Object") (10 : Int32) (vs.set sz (.ref r1)) .null := A1
  have E_r0 := E_r0.wr W1
  have E_r1 := E_r1.wr W1
  have F_r0_modCount := F_r0_modCount.other W1 (Or.inl ne_r0_e)
  have F_r0_elementData := F_r0_elementData.other W1 (Or.inl ne_r0_e)
  have F_r0_size := F_r0_size.other W1 (Or.inl ne_r0_e)
  have K := K.wr W1 (Or.inl (List.mem_of_getElem? (i := 1) rfl))
  have Zs := Nat.le_trans Zs (Keep.of_wr W1).1
  have N1 := Fr.snoc X1 N0 g_e
  refine Gol.aloadN X1 hx hby d20_15 (pc' := 16) rfl rfl rfl ?_
  refine Gol.iloadN X1 hx hby d20_16 (pc' := 17) rfl rfl ?_
  refine Gol.iconst X1 hx hby d20_17 (pc' := 18) rfl (z := (1 : Int32)) rfl ?_
  refine Gol.iadd X1 hx hby d20_18 (pc' := 19) rfl rfl ?_
  rw [own_one]
  show GolF _ _ _ _ _ _ _ T1 m 19 #[.val (.ref r0), .val (.ref r1), .val (.ref e), .val (.int (Int32.ofNat sz))] [(.int (Int32.ofNat (sz + 1))), (.ref r0)]
  refine Gol.putF X1 hx hby hZ hown (host := "") (Or.inl (hw _ (List.mem_of_getElem? (i := 112) rfl))) Via.refl e1 F_r0_size E_r0 (Or.inl (hw _ (List.mem_of_getElem? (i := 113) rfl))) (hw _ (List.mem_of_getElem? (i := 80) rfl)) (ty := .int) (by decide) rfl rfl d20_19 (pc' := 22) rfl ?_
  intro T2 h2 X2 e2 W2
  have E_r0 := E_r0.wr W2
  have E_r1 := E_r1.wr W2
  have F_r0_modCount := F_r0_modCount.other W2 (Or.inr (slot_ne (Or.inl (hw _ (List.mem_of_getElem? (i := 99) rfl))) (Or.inl (hw _ (List.mem_of_getElem? (i := 113) rfl))) (by decide) (t := .int) (t' := .int) (by decide) (by decide)))
  have F_r0_elementData := F_r0_elementData.other W2 (Or.inr (slot_ne (Or.inl (hw _ (List.mem_of_getElem? (i := 102) rfl))) (Or.inl (hw _ (List.mem_of_getElem? (i := 113) rfl))) (by decide) (t := (.array (.object "java/lang/Object"))) (t' := .int) (by decide) (by decide)))
  have F_r0_size := F_r0_size.same W2
  have V_e := V_e.other W2 ne_r0_e.symm
  have K := K.wr W2 (Or.inl (List.mem_of_getElem? (i := 0) rfl))
  have Zs := Nat.le_trans Zs (Keep.of_wr W2).1
  have N2 := Fr.snoc X2 N1 g_r0
  exact Gol.ret0 X2 hx hby Bd.returns Bd.notSynchronized d20_22 e2 ⟨rfl, N2, K, mo, ⟨E_r0, F_r0_modCount, F_r0_elementData, F_r0_size⟩, V_e⟩ (by decide) (by decide)
abbrev QAddB (Z : State) (r0 : Addr) (r1 : Addr) (mo : Int32) (e : Addr) (ke : ClassId) (vs : List Value) (sz : Nat) (h0 : Heap) (n0 : Nat) (v : Option Value) (h : Heap) (L : List Loc) : Prop := v = some (.int 1) ∧ Fr n0 L ∧ Keep h0 h [r0, e] ∧ ∃ mz : Int32, Al Z h r0 (.int mz) (.ref e) (.int (Int32.ofNat (sz + 1))) ∧ Arv Z h e ke (.object "java/lang/Object") (10 : Int32) (vs.set sz (.ref r1)) .null
set_option maxRecDepth 65536 in
set_option maxHeartbeats 40000000 in
theorem rmAddB (l : Launch) (Z : State) (a0 : Array Value) (hw : ∀ d ∈ tables_1, d.before a0 Z = true) (ws : List Jvm.Cond) (r0 : Addr) (r1 : Addr) (mo : Int32) (e : Addr) (ke : ClassId) (vs : List Value) (sz : Nat) (h0 : Heap) (n0 : Nat) (Z0 : n0 ≤ h0.size) (O0 : Al Z h0 r0 (.int mo) (.ref e) (.int (Int32.ofNat sz))) (hsz : sz < 10) (hlen : vs.length = 10) (V_e : Arv Z h0 e ke (.object "java/lang/Object") (10 : Int32) vs .null) (ov : Ovr Z ke "java/lang/Object") (g_e : n0 ≤ e) (ne_r0_e : r0 ≠ e) (E_r1 : Exa Z h0 r1 "com/example/ballast/ballast/runtime/Outbox$Held") (ne_r0_r1 : r0 ≠ r1) (g_r0 : n0 ≤ r0) (g_r1 : n0 ≤ r1) :
    MetFree l (⟨"java/util/ArrayList", "add", "(Ljava/lang/Object;)Z"⟩ : MethodName) (head1 (Jvm.Cond.code (⟨"java/util/ArrayList", "add", "(Ljava/lang/Object;)Z"⟩ : MethodName) jdk_38_method_25_code 2 (some .boolean) :: ws) ({ frames := 1, cells := 0, slots := 0, locals := 15 } : Room)) (fun a U => a = #[(.ref r0), (.ref r1)] ∧ Z.Warmed39 U.vm ∧ U.heap = h0) (fun _ _ _ _ _ => True) (fun _ U o U' => ∃ v L, o = .returned v ∧ QAddB Z r0 r1 mo e ke vs sz h0 n0 v U'.heap L ∧ FrameEnd U o U' L 0 0) := by
  refine MetFree.of_bodySF (plainFor_of_name pn_19) hisR ?_
  intro p ev s m args below meth c s₁ Bd hml0 hP hK
  obtain ⟨rfl, hZ, hh⟩ := hP
  have hx := Bd.exec
  have hby := Bd.bytes
  have hml : c.maxLocals = 2 := hml0
  have hown : s.vm.findClass "java/util/ArrayList" = some m.cls := findClass_of_methodNamed Bd.named
  have hnm := (name_of_methodNamed Bd.named Bd.method).1
  have X0 : Stand p l ev ({ frames := 1, cells := 0, slots := 0, locals := 15 } : Room) s m #[(.ref r0), (.ref r1)] below meth c s₁ [] 0 0 := Stand.of_body Bd
  have eh0 : s₁.heap = h0 := by rw [← hh, Bd.state]; rfl
  have N0 := Fr.nil n0
  have Zs := Z0
  show Gol p ev below (FrameEnd s) (QAddB Z r0 r1 mo e ke vs sz h0 n0) 0 0 (s₁.setTop (entryFrame m #[(.ref r0), (.ref r1)] 2))
  rw [ef_19]
  obtain ⟨E_r0, F_r0_modCount, F_r0_elementData, F_r0_size⟩ := O0
  have K := Keep.refl h0 [r0, e]
  show GolF _ _ _ _ _ _ _ s₁ m 0 #[.val (.ref r0), .val (.ref r1)] []
  refine Gol.aloadN X0 hx hby d19_0 (pc' := 1) rfl rfl rfl ?_
  refine Gol.dup X0 hx hby d19_1 (pc' := 2) rfl rfl ?_
  refine Gol.getF X0 hx hby hZ hown (host := "") (Or.inl (hw _ (List.mem_of_getElem? (i := 138) rfl))) (Via.of (hw _ (List.mem_of_getElem? (i := 139) rfl))) eh0 F_r0_modCount d19_2 (pc' := 5) rfl ?_
  intro T1 X1 e1
  refine Gol.iconst X1 hx hby d19_5 (pc' := 6) rfl (z := (1 : Int32)) rfl ?_
  refine Gol.iadd X1 hx hby d19_6 (pc' := 7) rfl rfl ?_
  refine Gol.putF X1 hx hby hZ hown (host := "") (Or.inl (hw _ (List.mem_of_getElem? (i := 138) rfl))) (Via.of (hw _ (List.mem_of_getElem? (i := 139) rfl))) e1 F_r0_modCount E_r0 (Or.inl (hw _ (List.mem_of_getElem? (i := 99) rfl))) (hw _ (List.mem_of_getElem? (i := 80) rfl)) (ty := .int) (by decide) rfl rfl d19_7 (pc' := 10) rfl ?_
  intro T2 h2 X2 e2 W2
  have E_r0 := E_r0.wr W2
  have E_r1 := E_r1.wr W2
  have F_r0_modCount := F_r0_modCount.same W2
  have F_r0_elementData := F_r0_elementData.other W2 (Or.inr (slot_ne (Or.inl (hw _ (List.mem_of_getElem? (i := 102) rfl))) (Or.inl (hw _ (List.mem_of_getElem? (i := 99) rfl))) (by decide) (t := (.array (.object "java/lang/Object"))) (t' := .int) (by decide) (by decide)))
  have F_r0_size := F_r0_size.other W2 (Or.inr (slot_ne (Or.inl (hw _ (List.mem_of_getElem? (i := 113) rfl))) (Or.inl (hw _ (List.mem_of_getElem? (i := 99) rfl))) (by decide) (t := .int) (t' := .int) (by decide) (by decide)))
  have V_e := V_e.other W2 ne_r0_e.symm
  have K := K.wr W2 (Or.inl (List.mem_of_getElem? (i := 0) rfl))
  have Zs := Nat.le_trans Zs (Keep.of_wr W2).1
  have N2 := Fr.snoc X2 N0 g_r0
  refine Gol.aloadN X2 hx hby d19_10 (pc' := 11) rfl rfl rfl ?_
  refine Gol.aloadN X2 hx hby d19_11 (pc' := 12) rfl rfl rfl ?_
  refine Gol.aloadN X2 hx hby d19_12 (pc' := 13) rfl rfl rfl ?_
  refine Gol.getF X2 hx hby hZ hown (host := "") (Or.inl (hw _ (List.mem_of_getElem? (i := 101) rfl))) Via.refl e2 F_r0_elementData d19_13 (pc' := 16) rfl ?_
  intro T3 X3 e3
  refine Gol.aloadN X3 hx hby d19_16 (pc' := 17) rfl rfl rfl ?_
  refine Gol.getF X3 hx hby hZ hown (host := "") (Or.inl (hw _ (List.mem_of_getElem? (i := 112) rfl))) Via.refl e3 F_r0_size d19_17 (pc' := 20) rfl ?_
  intro T4 X4 e4
  refine Gol.callP X4 hx hby hZ hown 0 [(.ref r1), (.ref e), (.int (Int32.ofNat sz))] (a := r0) (hw _ (List.mem_of_getElem? (i := 140) rfl)) (hw _ (List.mem_of_getElem? (i := 141) rfl)) (hw _ (List.mem_of_getElem? (i := 143) rfl)) (hw _ (List.mem_of_getElem? (i := 142) rfl)) (hw _ (List.mem_of_getElem? (i := 81) rfl)) (hw _ (List.mem_of_getElem? (i := 144) rfl)) (by decide) E_r0 (rmAdd3B l Z a0 hw [] r0 r1 e (Int32.ofNat sz) (mo + (1 : Int32)) e ke vs sz h2 n0 Zs rfl rfl ⟨E_r0, F_r0_modCount, F_r0_elementData, F_r0_size⟩ hsz hlen V_e ov g_e ne_r0_e E_r1 ne_r0_r1 g_r0 g_r1) (by decide) (by decide) e4 (by rw [hml]; rfl) (rest := []) (Nat.le_of_eq rfl) (by decide) (by decide) (lenOf pd_4 rfl) rfl d19_20 (pc' := 23) rfl ?_
  intro T5 v5 L5 X5 hQ5
  obtain ⟨rfl, Nq5, Kq5, mz5, Oq5, V_e⟩ := hQ5
  have N5 := Fr.app N2 Nq5
  have E_r0 := E_r0.keep Kq5
  have E_r1 := E_r1.keep Kq5
  have K := K.trans Kq5 (allS (Or.inl (List.mem_of_getElem? (i := 0) rfl)) (allS (Or.inl (List.mem_of_getElem? (i := 1) rfl)) all0))
  have Zs := Nat.le_trans Zs Kq5.1
  show GolF _ _ _ _ _ _ _ T5 m 23 #[.val (.ref r0), .val (.ref r1)] []
  obtain ⟨E_r0, F_r0_modCount, F_r0_elementData, F_r0_size⟩ := Oq5
  refine Gol.iconst X5 hx hby d19_23 (pc' := 24) rfl (z := (1 : Int32)) rfl ?_
  exact Gol.retN X5 hx hby (t := .boolean) Bd.returns (by simp) Bd.notSynchronized d19_24 rfl ⟨rfl, N5, K, mz5, ⟨E_r0, F_r0_modCount, F_r0_elementData, F_r0_size⟩, V_e⟩ (by decide) (by decide)
theorem d18_0 : decode prog_121_method_1_code 0 = .ok (.aload_n 0, 1) := by decide +kernel
theorem d18_1 : decode prog_121_method_1_code 1 = .ok (.invokespecial 1, 3) := by decide +kernel
theorem d18_4 : decode prog_121_method_1_code 4 = .ok (.aload_n 0, 1) := by decide +kernel
theorem d18_5 : decode prog_121_method_1_code 5 = .ok (.aload_n 1, 1) := by decide +kernel
theorem d18_6 : decode prog_121_method_1_code 6 = .ok (.putfield 7, 3) := by decide +kernel
theorem d18_9 : decode prog_121_method_1_code 9 = .ok (.aload_n 0, 1) := by decide +kernel
theorem d18_10 : decode prog_121_method_1_code 10 = .ok (.aload_n 2, 1) := by decide +kernel
theorem d18_11 : decode prog_121_method_1_code 11 = .ok (.putfield 13, 3) := by decide +kernel
theorem d18_14 : decode prog_121_method_1_code 14 = .ok (.return_, 1) := by decide +kernel
theorem pn_18 : plainName "com/example/ballast/ballast/runtime/Outbox$Held" = true := by first | (simp [plainName, overriddenIn]; done) | decide +kernel
theorem ef_18n (m : MethodId) (r0 : Addr) (r1 : Addr) : entryFrame m #[(.ref r0), (.ref r1), .null] 3 = mkF m 0 #[.val (.ref r0), .val (.ref r1), .val .null] [] := by first | (simp [entryFrame, mkF, argsToLocals, Value.category]; done) | rfl
abbrev QHeld (Z : State) (r0 : Addr) (r1 : Addr) (h0 : Heap) (n0 : Nat) (v : Option Value) (h : Heap) (L : List Loc) : Prop := v = none ∧ Fr n0 L ∧ Keep h0 h [r0] ∧ He Z h r0 (.ref r1) .null
set_option maxRecDepth 65536 in
set_option maxHeartbeats 40000000 in
theorem rmHeld (l : Launch) (Z : State) (a0 : Array Value) (hw : ∀ d ∈ tables_1, d.before a0 Z = true) (ws : List Jvm.Cond) (r0 : Addr) (r1 : Addr) (h0 : Heap) (n0 : Nat) (Z0 : n0 ≤ h0.size) (O0 : He Z h0 r0 .null .null) (g_r0 : n0 ≤ r0) :
    MetFree l (⟨"com/example/ballast/ballast/runtime/Outbox$Held", "<init>", "(Lcom/example/ballast/ballast/runtime/ActorId;Ljava/util/function/IntConsumer;)V"⟩ : MethodName) (head1 (Jvm.Cond.code (⟨"com/example/ballast/ballast/runtime/Outbox$Held", "<init>", "(Lcom/example/ballast/ballast/runtime/ActorId;Ljava/util/function/IntConsumer;)V"⟩ : MethodName) prog_121_method_1_code 3 none :: ws) ({ frames := 2, cells := 0, slots := 0, locals := 24 } : Room)) (fun a U => a = #[(.ref r0), (.ref r1), .null] ∧ Z.Warmed39 U.vm ∧ U.heap = h0) (fun _ _ _ _ _ => True) (fun _ U o U' => ∃ v L, o = .returned v ∧ QHeld Z r0 r1 h0 n0 v U'.heap L ∧ FrameEnd U o U' L 0 0) := by
  refine MetFree.of_bodySF (plainFor_of_name pn_18) hisR ?_
  intro p ev s m args below meth c s₁ Bd hml0 hP hK
  obtain ⟨rfl, hZ, hh⟩ := hP
  have hx := Bd.exec
  have hby := Bd.bytes
  have hml : c.maxLocals = 3 := hml0
  have hown : s.vm.findClass "com/example/ballast/ballast/runtime/Outbox$Held" = some m.cls := findClass_of_methodNamed Bd.named
  have hnm := (name_of_methodNamed Bd.named Bd.method).1
  have X0 : Stand p l ev ({ frames := 2, cells := 0, slots := 0, locals := 24 } : Room) s m #[(.ref r0), (.ref r1), .null] below meth c s₁ [] 0 0 := Stand.of_body Bd
  have eh0 : s₁.heap = h0 := by rw [← hh, Bd.state]; rfl
  have N0 := Fr.nil n0
  have Zs := Z0
  show Gol p ev below (FrameEnd s) (QHeld Z r0 r1 h0 n0) 0 0 (s₁.setTop (entryFrame m #[(.ref r0), (.ref r1), .null] 3))
  rw [ef_18n]
  obtain ⟨E_r0, F_r0_receiver, F_r0_send⟩ := O0
  have K := Keep.refl h0 [r0]
  show GolF _ _ _ _ _ _ _ s₁ m 0 #[.val (.ref r0), .val (.ref r1), .val .null] []
  refine Gol.aloadN X0 hx hby d18_0 (pc' := 1) rfl rfl rfl ?_
  refine Gol.callI X0 hx hby hZ hown 0 [] (a := r0) (hw _ (List.mem_of_getElem? (i := 125) rfl)) (hw _ (List.mem_of_getElem? (i := 40) rfl)) (hw _ (List.mem_of_getElem? (i := 42) rfl)) rfl (hw _ (List.mem_of_getElem? (i := 43) rfl)) rfl (by decide) (rm8 l Z a0 hw [] r0  h0 n0 Zs ) (by decide) (by decide) eh0 (by rw [hml]; rfl) (rest := []) (Nat.le_of_eq rfl) (by decide) (by decide) (lenOf pd_0 rfl) rfl d18_1 (pc' := 4) rfl ?_
  intro T1 v1 L1 X1 hQ1
  obtain ⟨rfl, Nq1, eq1⟩ := hQ1
  have N1 := Fr.app N0 Nq1
  show GolF _ _ _ _ _ _ _ T1 m 4 #[.val (.ref r0), .val (.ref r1), .val .null] []
  refine Gol.aloadN X1 hx hby d18_4 (pc' := 5) rfl rfl rfl ?_
  refine Gol.aloadN X1 hx hby d18_5 (pc' := 6) rfl rfl rfl ?_
  refine Gol.putF X1 hx hby hZ hown (host := "") (Or.inl (hw _ (List.mem_of_getElem? (i := 126) rfl))) Via.refl eq1 F_r0_receiver E_r0 (Or.inr ⟨(hw _ (List.mem_of_getElem? (i := 127) rfl)), rfl, hnm⟩) (hw _ (List.mem_of_getElem? (i := 120) rfl)) (ty := (.object "com/example/ballast/ballast/runtime/ActorId")) (by decide) rfl rfl d18_6 (pc' := 9) rfl ?_
  intro T2 h2 X2 e2 W2
  have E_r0 := E_r0.wr W2
  have F_r0_receiver := F_r0_receiver.same W2
  have F_r0_send := F_r0_send.other W2 (Or.inr (slot_ne (Or.inr (hw _ (List.mem_of_getElem? (i := 129) rfl))) (Or.inr (hw _ (List.mem_of_getElem? (i := 127) rfl))) (by decide) (t := (.object "java/util/function/IntConsumer")) (t' := (.object "com/example/ballast/ballast/runtime/ActorId")) (by decide) (by decide)))
  have K := K.wr W2 (Or.inl (List.mem_of_getElem? (i := 0) rfl))
  have Zs := Nat.le_trans Zs (Keep.of_wr W2).1
  have N2 := Fr.snoc X2 N1 g_r0
  refine Gol.aloadN X2 hx hby d18_9 (pc' := 10) rfl rfl rfl ?_
  refine Gol.aloadN X2 hx hby d18_10 (pc' := 11) rfl rfl rfl ?_
  refine Gol.putF X2 hx hby hZ hown (host := "") (Or.inl (hw _ (List.mem_of_getElem? (i := 128) rfl))) Via.refl e2 F_r0_send E_r0 (Or.inr ⟨(hw _ (List.mem_of_getElem? (i := 129) rfl)), rfl, hnm⟩) (hw _ (List.mem_of_getElem? (i := 120) rfl)) (ty := (.object "java/util/function/IntConsumer")) (by decide) rfl rfl d18_11 (pc' := 14) rfl ?_
  intro T3 h3 X3 e3 W3
  have E_r0 := E_r0.wr W3
  have F_r0_receiver := F_r0_receiver.other W3 (Or.inr (slot_ne (Or.inr (hw _ (List.mem_of_getElem? (i := 127) rfl))) (Or.inr (hw _ (List.mem_of_getElem? (i := 129) rfl))) (by decide) (t := (.object "com/example/ballast/ballast/runtime/ActorId")) (t' := (.object "java/util/function/IntConsumer")) (by decide) (by decide)))
  have F_r0_send := F_r0_send.same W3
  have K := K.wr W3 (Or.inl (List.mem_of_getElem? (i := 0) rfl))
  have Zs := Nat.le_trans Zs (Keep.of_wr W3).1
  have N3 := Fr.snoc X3 N2 g_r0
  exact Gol.ret0 X3 hx hby Bd.returns Bd.notSynchronized d18_14 e3 ⟨rfl, N3, K, ⟨E_r0, F_r0_receiver, F_r0_send⟩⟩ (by decide) (by decide)
theorem d17_0 : decode prog_120_method_8_code 0 = .ok (.aload_n 0, 1) := by decide +kernel
theorem d17_1 : decode prog_120_method_8_code 1 = .ok (.getfield 26, 3) := by decide +kernel
theorem d17_4 : decode prog_120_method_8_code 4 = .ok (.new 30, 3) := by decide +kernel
theorem d17_7 : decode prog_120_method_8_code 7 = .ok (.dup, 1) := by decide +kernel
theorem d17_8 : decode prog_120_method_8_code 8 = .ok (.aload_n 1, 1) := by decide +kernel
theorem d17_9 : decode prog_120_method_8_code 9 = .ok (.aload_n 2, 1) := by decide +kernel
theorem d17_10 : decode prog_120_method_8_code 10 = .ok (.invokespecial 32, 3) := by decide +kernel
theorem d17_13 : decode prog_120_method_8_code 13 = .ok (.invokeinterface 35 2, 5) := by decide +kernel
theorem d17_18 : decode prog_120_method_8_code 18 = .ok (.pop, 1) := by decide +kernel
theorem d17_19 : decode prog_120_method_8_code 19 = .ok (.return_, 1) := by decide +kernel
theorem pn_17 : plainName "com/example/ballast/ballast/runtime/Outbox" = true := by first | (simp [plainName, overriddenIn]; done) | decide +kernel
theorem ef_17n (m : MethodId) (r0 : Addr) (r1 : Addr) : entryFrame m #[(.ref r0), (.ref r1), .null] 3 = mkF m 0 #[.val (.ref r0), .val (.ref r1), .val .null] [] := by first | (simp [entryFrame, mkF, argsToLocals, Value.category]; done) | rfl
abbrev QHoldA (Z : State) (r0 : Addr) (r1 : Addr) (v0 : Value) (v1 : Value) (v3 : Value) (hb : Addr) (mo : Int32) (e0 : Addr) (k0 : ClassId) (h0 : Heap) (n0 : Nat) (v : Option Value) (h : Heap) (L : List Loc) : Prop := v = none ∧ Fr n0 L ∧ Keep h0 h [hb] ∧ ∃ (x : Addr) (mz : Int32) (e : Addr) (k : ClassId) (vs : List Value), h0.size ≤ e ∧ vs.length = 10 ∧ Al Z h hb (.int mz) (.ref e) (.int (Int32.ofNat 1)) ∧ Arv Z h e k (.object "java/lang/Object") (10 : Int32) vs .null ∧ Ovr Z k "java/lang/Object" ∧ vs.getD 0 .null = (.ref x) ∧ h0.size ≤ x ∧ x ≠ e ∧ He Z h x (.ref r1) .null
set_option maxRecDepth 65536 in
set_option maxHeartbeats 40000000 in
theorem rmHoldA (l : Launch) (Z : State) (a0 : Array Value) (hw : ∀ d ∈ tables_1, d.before a0 Z = true) (ws : List Jvm.Cond) (r0 : Addr) (r1 : Addr) (v0 : Value) (v1 : Value) (v3 : Value) (hb : Addr) (mo : Int32) (e0 : Addr) (k0 : ClassId) (h0 : Heap) (n0 : Nat) (Z0 : n0 ≤ h0.size) (O1 : Ob Z h0 r0 v0 v1 (.ref hb) v3) (g_r0 : n0 ≤ r0) (g_hb : n0 ≤ hb) (ne_r0_hb : r0 ≠ hb) (O0 : Al Z h0 hb (.int mo) (.ref e0) (.int (0 : Int32))) (S0 : Sta Z Z.heap "java/util/ArrayList" "DEFAULTCAPACITY_EMPTY_ELEMENTDATA" "[Ljava/lang/Object;" (.ref e0)) (V0 : Arv Z Z.heap e0 k0 (.object "java/lang/Object") (0 : Int32) [] .null) (O : Old Z n0 h0) :
    MetFree l (⟨"com/example/ballast/ballast/runtime/Outbox", "hold", "(Lcom/example/ballast/ballast/runtime/ActorId;Ljava/util/function/IntConsumer;)V"⟩ : MethodName) (head1 (Jvm.Cond.code (⟨"com/example/ballast/ballast/runtime/Outbox", "hold", "(Lcom/example/ballast/ballast/runtime/ActorId;Ljava/util/function/IntConsumer;)V"⟩ : MethodName) prog_120_method_8_code 3 none :: ws) ({ frames := 5, cells := 2, slots := 12, locals := 69 } : Room)) (fun a U => a = #[(.ref r0), (.ref r1), .null] ∧ Z.Warmed39 U.vm ∧ U.heap = h0) (fun _ _ _ _ _ => True) (fun _ U o U' => ∃ v L, o = .returned v ∧ QHoldA Z r0 r1 v0 v1 v3 hb mo e0 k0 h0 n0 v U'.heap L ∧ FrameEnd U o U' L 2 12) := by
  refine MetFree.of_bodySF (plainFor_of_name pn_17) hisR ?_
  intro p ev s m args below meth c s₁ Bd hml0 hP hK
  obtain ⟨rfl, hZ, hh⟩ := hP
  have hx := Bd.exec
  have hby := Bd.bytes
  have hml : c.maxLocals = 3 := hml0
  have hown : s.vm.findClass "com/example/ballast/ballast/runtime/Outbox" = some m.cls := findClass_of_methodNamed Bd.named
  have hnm := (name_of_methodNamed Bd.named Bd.method).1
  have X0 : Stand p l ev ({ frames := 5, cells := 2, slots := 12, locals := 69 } : Room) s m #[(.ref r0), (.ref r1), .null] below meth c s₁ [] 0 0 := Stand.of_body Bd
  have eh0 : s₁.heap = h0 := by rw [← hh, Bd.state]; rfl
  have N0 := Fr.nil n0
  have Zs := Z0
  show Gol p ev below (FrameEnd s) (QHoldA Z r0 r1 v0 v1 v3 hb mo e0 k0 h0 n0) 2 12 (s₁.setTop (entryFrame m #[(.ref r0), (.ref r1), .null] 3))
  rw [ef_17n]
  obtain ⟨E_r0, F_r0_lastSent, F_r0_held, F_r0_deferredMove⟩ := O1
  obtain ⟨E_hb, F_hb_modCount, F_hb_elementData, F_hb_size⟩ := O0
  have K := Keep.refl h0 [hb]
  show GolF _ _ _ _ _ _ _ s₁ m 0 #[.val (.ref r0), .val (.ref r1), .val .null] []
  refine Gol.aloadN X0 hx hby d17_0 (pc' := 1) rfl rfl rfl ?_
  refine Gol.getF X0 hx hby hZ hown (host := "") (Or.inl (hw _ (List.mem_of_getElem? (i := 67) rfl))) Via.refl eh0 F_r0_held d17_1 (pc' := 4) rfl ?_
  intro T1 X1 e1
  refine Gol.newO X1 hx hby hZ hown (hw _ (List.mem_of_getElem? (i := 119) rfl)) (hw _ (List.mem_of_getElem? (i := 120) rfl)) (hw _ (List.mem_of_getElem? (i := 121) rfl)) e1 d17_4 (pc' := 7) rfl (by decide) (by decide) ?_
  intro T2 h2 b2 g2 X2 e2 E2 A2 D2
  have lo_r0_b2 : r0 < b2 := Nat.lt_of_lt_of_le E_r0.lt (Nat.le_of_eq g2.symm)
  have ne_r0_b2 : r0 ≠ b2 := Nat.ne_of_lt lo_r0_b2
  have lo_hb_b2 : hb < b2 := Nat.lt_of_lt_of_le E_hb.lt (Nat.le_of_eq g2.symm)
  have ne_hb_b2 : hb ≠ b2 := Nat.ne_of_lt lo_hb_b2
  have g_b2 : n0 ≤ b2 := Nat.le_trans Zs (Nat.le_of_eq g2.symm)
  have sz_b2 : h0.size ≤ b2 := Nat.le_trans K.1 (Nat.le_of_eq g2.symm)
  have E_r0 := E_r0.ext E2
  have E_hb := E_hb.ext E2
  have F_r0_lastSent := F_r0_lastSent.ext E2
  have F_r0_held := F_r0_held.ext E2
  have F_r0_deferredMove := F_r0_deferredMove.ext E2
  have F_hb_modCount := F_hb_modCount.ext E2
  have F_hb_elementData := F_hb_elementData.ext E2
  have F_hb_size := F_hb_size.ext E2
  have K := K.ext E2
  have O := O.ext E2
  have Zs := Nat.le_trans Zs E2.1
  have E_b2 := A2
  have F_b2_receiver : Fld Z h2 b2 "com/example/ballast/ballast/runtime/Outbox$Held" "receiver" "Lcom/example/ballast/ballast/runtime/ActorId;" .null := D2 (Or.inr (hw _ (List.mem_of_getElem? (i := 127) rfl))) (ty := (.object "com/example/ballast/ballast/runtime/ActorId")) (by decide)
  have F_b2_send : Fld Z h2 b2 "com/example/ballast/ballast/runtime/Outbox$Held" "send" "Ljava/util/function/IntConsumer;" .null := D2 (Or.inr (hw _ (List.mem_of_getElem? (i := 129) rfl))) (ty := (.object "java/util/function/IntConsumer")) (by decide)
  refine Gol.dup X2 hx hby d17_7 (pc' := 8) rfl rfl ?_
  refine Gol.aloadN X2 hx hby d17_8 (pc' := 9) rfl rfl rfl ?_
  refine Gol.aloadN X2 hx hby d17_9 (pc' := 10) rfl rfl rfl ?_
  refine Gol.callI X2 hx hby hZ hown 2 [(.ref r1), .null] (a := b2) (hw _ (List.mem_of_getElem? (i := 122) rfl)) (hw _ (List.mem_of_getElem? (i := 123) rfl)) (hw _ (List.mem_of_getElem? (i := 121) rfl)) rfl (hw _ (List.mem_of_getElem? (i := 124) rfl)) rfl (by decide) (rmHeld l Z a0 hw [] b2 r1  h2 n0 Zs ⟨E_b2, F_b2_receiver, F_b2_send⟩ g_b2) (by decide) (by decide) e2 (by rw [hml]; rfl) (rest := [(.ref b2), (.ref hb)]) (Nat.le_of_eq rfl) (by decide) (by decide) (lenOf pd_5 rfl) rfl d17_10 (pc' := 13) rfl ?_
  intro T3 v3 L3 X3 hQ3
  obtain ⟨rfl, Nq3, Kq3, Oq3⟩ := hQ3
  have N3 := Fr.app N0 Nq3
  have E_r0 := E_r0.keep Kq3
  have E_hb := E_hb.keep Kq3
  have E_b2 := E_b2.keep Kq3
  have F_r0_lastSent := F_r0_lastSent.keep Kq3 (ninS ne_r0_b2 nin0)
  have F_r0_held := F_r0_held.keep Kq3 (ninS ne_r0_b2 nin0)
  have F_r0_deferredMove := F_r0_deferredMove.keep Kq3 (ninS ne_r0_b2 nin0)
  have F_hb_modCount := F_hb_modCount.keep Kq3 (ninS ne_hb_b2 nin0)
  have F_hb_elementData := F_hb_elementData.keep Kq3 (ninS ne_hb_b2 nin0)
  have F_hb_size := F_hb_size.keep Kq3 (ninS ne_hb_b2 nin0)
  have K := K.trans Kq3 (allS (Or.inr sz_b2) all0)
  have O := O.keep Kq3 (allS g_b2 all0)
  have Zs := Nat.le_trans Zs Kq3.1
  show GolF _ _ _ _ _ _ _ T3 m 13 #[.val (.ref r0), .val (.ref r1), .val .null] [(.ref b2), (.ref hb)]
  obtain ⟨E_b2, F_b2_receiver, F_b2_send⟩ := Oq3
  refine Gol.callF X3 hx hby hZ hown 0 [(.ref b2)] (a := hb) (hw _ (List.mem_of_getElem? (i := 130) rfl)) (hw _ (List.mem_of_getElem? (i := 131) rfl)) (mvT hZ (hw _ (List.mem_of_getElem? (i := 132) rfl))) (hw _ (List.mem_of_getElem? (i := 133) rfl)) (hw _ (List.mem_of_getElem? (i := 134) rfl)) (hw _ (List.mem_of_getElem? (i := 135) rfl)) (hw _ (List.mem_of_getElem? (i := 136) rfl)) (hw _ (List.mem_of_getElem? (i := 110) rfl)) (hw _ (List.mem_of_getElem? (i := 81) rfl)) (hw _ (List.mem_of_getElem? (i := 137) rfl)) (by decide) E_hb (rmAddA l Z a0 hw [] hb b2 mo e0 k0 T3.heap n0 Zs ⟨E_hb, F_hb_modCount, F_hb_elementData, F_hb_size⟩ E_b2 ne_hb_b2 g_hb g_b2 S0 V0 O) (by decide) (by decide) rfl (by rw [hml]; rfl) (rest := []) (Nat.le_of_eq rfl) (by decide) (by decide) (lenOf pd_6 rfl) rfl d17_13 (pc' := 18) rfl ?_
  intro T4 v4 L4 X4 hQ4
  obtain ⟨rfl, Nq4, Kq4, mz4, e4a, ka4, vs4, hb4, hl4, Oq4, V_e4a, Ov4, hf4⟩ := hQ4
  have N4 := Fr.app N3 Nq4
  have lo_r0_e4a : r0 < e4a := Nat.lt_of_lt_of_le E_r0.lt hb4
  have ne_r0_e4a : r0 ≠ e4a := Nat.ne_of_lt lo_r0_e4a
  have lo_hb_e4a : hb < e4a := Nat.lt_of_lt_of_le E_hb.lt hb4
  have ne_hb_e4a : hb ≠ e4a := Nat.ne_of_lt lo_hb_e4a
  have lo_b2_e4a : b2 < e4a := Nat.lt_of_lt_of_le E_b2.lt hb4
  have ne_b2_e4a : b2 ≠ e4a := Nat.ne_of_lt lo_b2_e4a
  have g_e4a : n0 ≤ e4a := Nat.le_trans Zs hb4
  have sz_e4a : h0.size ≤ e4a := Nat.le_trans K.1 hb4
  have E_r0 := E_r0.keep Kq4
  have E_hb := E_hb.keep Kq4
  have E_b2 := E_b2.keep Kq4
  have F_r0_lastSent := F_r0_lastSent.keep Kq4 (ninS ne_r0_hb nin0)
  have F_r0_held := F_r0_held.keep Kq4 (ninS ne_r0_hb nin0)
  have F_r0_deferredMove := F_r0_deferredMove.keep Kq4 (ninS ne_r0_hb nin0)
  have F_b2_receiver := F_b2_receiver.keep Kq4 (ninS ne_hb_b2.symm nin0)
  have F_b2_send := F_b2_send.keep Kq4 (ninS ne_hb_b2.symm nin0)
  have K := K.trans Kq4 (allS (Or.inl (List.mem_of_getElem? (i := 0) rfl)) all0)
  have O := O.keep Kq4 (allS g_hb all0)
  have Zs := Nat.le_trans Zs Kq4.1
  show GolF _ _ _ _ _ _ _ T4 m 18 #[.val (.ref r0), .val (.ref r1), .val .null] [(.int (1 : Int32))]
  obtain ⟨E_hb, F_hb_modCount, F_hb_elementData, F_hb_size⟩ := Oq4
  refine Gol.pop X4 hx hby d17_18 (pc' := 19) rfl rfl ?_
  exact Gol.ret0 X4 hx hby Bd.returns Bd.notSynchronized d17_19 rfl ⟨rfl, N4, K, b2, mz4, e4a, ka4, vs4, sz_e4a, hl4, ⟨E_hb, F_hb_modCount, F_hb_elementData, F_hb_size⟩, V_e4a, Ov4, hf4, sz_b2, ne_b2_e4a, ⟨E_b2, F_b2_receiver, F_b2_send⟩⟩ (by decide) (by decide)
abbrev QHoldB (Z : State) (r0 : Addr) (r1 : Addr) (v0 : Value) (v1 : Value) (v3 : Value) (hb : Addr) (mo : Int32) (e : Addr) (ke : ClassId) (vs : List Value) (sz : Nat) (h0 : Heap) (n0 : Nat) (v : Option Value) (h : Heap) (L : List Loc) : Prop := v = none ∧ Fr n0 L ∧ Keep h0 h [hb, e] ∧ ∃ (x : Addr) (mz : Int32), Al Z h hb (.int mz) (.ref e) (.int (Int32.ofNat (sz + 1))) ∧ Arv Z h e ke (.object "java/lang/Object") (10 : Int32) (vs.set sz (.ref x)) .null ∧ h0.size ≤ x ∧ He Z h x (.ref r1) .null
set_option maxRecDepth 65536 in
set_option maxHeartbeats 40000000 in
theorem rmHoldB (l : Launch) (Z : State) (a0 : Array Value) (hw : ∀ d ∈ tables_1, d.before a0 Z = true) (ws : List Jvm.Cond) (r0 : Addr) (r1 : Addr) (v0 : Value) (v1 : Value) (v3 : Value) (hb : Addr) (mo : Int32) (e : Addr) (ke : ClassId) (vs : List Value) (sz : Nat) (h0 : Heap) (n0 : Nat) (Z0 : n0 ≤ h0.size) (O1 : Ob Z h0 r0 v0 v1 (.ref hb) v3) (g_r0 : n0 ≤ r0) (g_hb : n0 ≤ hb) (ne_r0_hb : r0 ≠ hb) (O0 : Al Z h0 hb (.int mo) (.ref e) (.int (Int32.ofNat sz))) (hsz : sz < 10) (hlen : vs.length = 10) (V_e : Arv Z h0 e ke (.object "java/lang/Object") (10 : Int32) vs .null) (ov : Ovr Z ke "java/lang/Object") (g_e : n0 ≤ e) (ne_hb_e : hb ≠ e) (ne_r0_e : r0 ≠ e) :
    MetFree l (⟨"com/example/ballast/ballast/runtime/Outbox", "hold", "(Lcom/example/ballast/ballast/runtime/ActorId;Ljava/util/function/IntConsumer;)V"⟩ : MethodName) (head1 (Jvm.Cond.code (⟨"com/example/ballast/ballast/runtime/Outbox", "hold", "(Lcom/example/ballast/ballast/runtime/ActorId;Ljava/util/function/IntConsumer;)V"⟩ : MethodName) prog_120_method_8_code 3 none :: ws) ({ frames := 3, cells := 1, slots := 2, locals := 40 } : Room)) (fun a U => a = #[(.ref r0), (.ref r1), .null] ∧ Z.Warmed39 U.vm ∧ U.heap = h0) (fun _ _ _ _ _ => True) (fun _ U o U' => ∃ v L, o = .returned v ∧ QHoldB Z r0 r1 v0 v1 v3 hb mo e ke vs sz h0 n0 v U'.heap L ∧ FrameEnd U o U' L 1 2) := by
  refine MetFree.of_bodySF (plainFor_of_name pn_17) hisR ?_
  intro p ev s m args below meth c s₁ Bd hml0 hP hK
  obtain ⟨rfl, hZ, hh⟩ := hP
  have hx := Bd.exec
  have hby := Bd.bytes
  have hml : c.maxLocals = 3 := hml0
  have hown : s.vm.findClass "com/example/ballast/ballast/runtime/Outbox" = some m.cls := findClass_of_methodNamed Bd.named
  have hnm := (name_of_methodNamed Bd.named Bd.method).1
  have X0 : Stand p l ev ({ frames := 3, cells := 1, slots := 2, locals := 40 } : Room) s m #[(.ref r0), (.ref r1), .null] below meth c s₁ [] 0 0 := Stand.of_body Bd
  have eh0 : s₁.heap = h0 := by rw [← hh, Bd.state]; rfl
  have N0 := Fr.nil n0
  have Zs := Z0
  show Gol p ev below (FrameEnd s) (QHoldB Z r0 r1 v0 v1 v3 hb mo e ke vs sz h0 n0) 1 2 (s₁.setTop (entryFrame m #[(.ref r0), (.ref r1), .null] 3))
  rw [ef_17n]
  obtain ⟨E_r0, F_r0_lastSent, F_r0_held, F_r0_deferredMove⟩ := O1
  obtain ⟨E_hb, F_hb_modCount, F_hb_elementData, F_hb_size⟩ := O0
  have K := Keep.refl h0 [hb, e]
  show GolF _ _ _ _ _ _ _ s₁ m 0 #[.val (.ref r0), .val (.ref r1), .val .null] []
  refine Gol.aloadN X0 hx hby d17_0 (pc' := 1) rfl rfl rfl ?_
  refine Gol.getF X0 hx hby hZ hown (host := "") (Or.inl (hw _ (List.mem_of_getElem? (i := 67) rfl))) Via.refl eh0 F_r0_held d17_1 (pc' := 4) rfl ?_
  intro T1 X1 e1
  refine Gol.newO X1 hx hby hZ hown (hw _ (List.mem_of_getElem? (i := 119) rfl)) (hw _ (List.mem_of_getElem? (i := 120) rfl)) (hw _ (List.mem_of_getElem? (i := 121) rfl)) e1 d17_4 (pc' := 7) rfl (by decide) (by decide) ?_
  intro T2 h2 b2 g2 X2 e2 E2 A2 D2
  have lo_r0_b2 : r0 < b2 := Nat.lt_of_lt_of_le E_r0.lt (Nat.le_of_eq g2.symm)
  have ne_r0_b2 : r0 ≠ b2 := Nat.ne_of_lt lo_r0_b2
  have lo_hb_b2 : hb < b2 := Nat.lt_of_lt_of_le E_hb.lt (Nat.le_of_eq g2.symm)
  have ne_hb_b2 : hb ≠ b2 := Nat.ne_of_lt lo_hb_b2
  have lo_e_b2 : e < b2 := Nat.lt_of_lt_of_le V_e.lt (Nat.le_of_eq g2.symm)
  have ne_e_b2 : e ≠ b2 := Nat.ne_of_lt lo_e_b2
  have g_b2 : n0 ≤ b2 := Nat.le_trans Zs (Nat.le_of_eq g2.symm)
  have sz_b2 : h0.size ≤ b2 := Nat.le_trans K.1 (Nat.le_of_eq g2.symm)
  have E_r0 := E_r0.ext E2
  have E_hb := E_hb.ext E2
  have F_r0_lastSent := F_r0_lastSent.ext E2
  have F_r0_held := F_r0_held.ext E2
  have F_r0_deferredMove := F_r0_deferredMove.ext E2
  have F_hb_modCount := F_hb_modCount.ext E2
  have F_hb_elementData := F_hb_elementData.ext E2
  have F_hb_size := F_hb_size.ext E2
  have V_e := V_e.ext E2
  have K := K.ext E2
  have Zs := Nat.le_trans Zs E2.1
  have E_b2 := A2
  have F_b2_receiver : Fld Z h2 b2 "com/example/ballast/ballast/runtime/Outbox$Held" "receiver" "Lcom/example/ballast/ballast/runtime/ActorId;" .null := D2 (Or.inr (hw _ (List.mem_of_getElem? (i := 127) rfl))) (ty := (.object "com/example/ballast/ballast/runtime/ActorId")) (by decide)
  have F_b2_send : Fld Z h2 b2 "com/example/ballast/ballast/runtime/Outbox$Held" "send" "Ljava/util/function/IntConsumer;" .null := D2 (Or.inr (hw _ (List.mem_of_getElem? (i := 129) rfl))) (ty := (.object "java/util/function/IntConsumer")) (by decide)
  refine Gol.dup X2 hx hby d17_7 (pc' := 8) rfl rfl ?_
  refine Gol.aloadN X2 hx hby d17_8 (pc' := 9) rfl rfl rfl ?_
  refine Gol.aloadN X2 hx hby d17_9 (pc' := 10) rfl rfl rfl ?_
  refine Gol.callI X2 hx hby hZ hown 2 [(.ref r1), .null] (a := b2) (hw _ (List.mem_of_getElem? (i := 122) rfl)) (hw _ (List.mem_of_getElem? (i := 123) rfl)) (hw _ (List.mem_of_getElem? (i := 121) rfl)) rfl (hw _ (List.mem_of_getElem? (i := 124) rfl)) rfl (by decide) (rmHeld l Z a0 hw [] b2 r1  h2 n0 Zs ⟨E_b2, F_b2_receiver, F_b2_send⟩ g_b2) (by decide) (by decide) e2 (by rw [hml]; rfl) (rest := [(.ref b2), (.ref hb)]) (Nat.le_of_eq rfl) (by decide) (by decide) (lenOf pd_5 rfl) rfl d17_10 (pc' := 13) rfl ?_
  intro T3 v3 L3 X3 hQ3
  obtain ⟨rfl, Nq3, Kq3, Oq3⟩ := hQ3
  have N3 := Fr.app N0 Nq3
  have E_r0 := E_r0.keep Kq3
  have E_hb := E_hb.keep Kq3
  have E_b2 := E_b2.keep Kq3
  have F_r0_lastSent := F_r0_lastSent.keep Kq3 (ninS ne_r0_b2 nin0)
  have F_r0_held := F_r0_held.keep Kq3 (ninS ne_r0_b2 nin0)
  have F_r0_deferredMove := F_r0_deferredMove.keep Kq3 (ninS ne_r0_b2 nin0)
  have F_hb_modCount := F_hb_modCount.keep Kq3 (ninS ne_hb_b2 nin0)
  have F_hb_elementData := F_hb_elementData.keep Kq3 (ninS ne_hb_b2 nin0)
  have F_hb_size := F_hb_size.keep Kq3 (ninS ne_hb_b2 nin0)
  have V_e := V_e.keep Kq3 (ninS ne_e_b2 nin0)
  have K := K.trans Kq3 (allS (Or.inr sz_b2) all0)
  have Zs := Nat.le_trans Zs Kq3.1
  show GolF _ _ _ _ _ _ _ T3 m 13 #[.val (.ref r0), .val (.ref r1), .val .null] [(.ref b2), (.ref hb)]
  obtain ⟨E_b2, F_b2_receiver, F_b2_send⟩ := Oq3
  refine Gol.callF X3 hx hby hZ hown 0 [(.ref b2)] (a := hb) (hw _ (List.mem_of_getElem? (i := 130) rfl)) (hw _ (List.mem_of_getElem? (i := 131) rfl)) (mvT hZ (hw _ (List.mem_of_getElem? (i := 132) rfl))) (hw _ (List.mem_of_getElem? (i := 133) rfl)) (hw _ (List.mem_of_getElem? (i := 134) rfl)) (hw _ (List.mem_of_getElem? (i := 135) rfl)) (hw _ (List.mem_of_getElem? (i := 136) rfl)) (hw _ (List.mem_of_getElem? (i := 110) rfl)) (hw _ (List.mem_of_getElem? (i := 81) rfl)) (hw _ (List.mem_of_getElem? (i := 137) rfl)) (by decide) E_hb (rmAddB l Z a0 hw [] hb b2 mo e ke vs sz T3.heap n0 Zs ⟨E_hb, F_hb_modCount, F_hb_elementData, F_hb_size⟩ hsz hlen V_e ov g_e ne_hb_e E_b2 ne_hb_b2 g_hb g_b2) (by decide) (by decide) rfl (by rw [hml]; rfl) (rest := []) (Nat.le_of_eq rfl) (by decide) (by decide) (lenOf pd_6 rfl) rfl d17_13 (pc' := 18) rfl ?_
  intro T4 v4 L4 X4 hQ4
  obtain ⟨rfl, Nq4, Kq4, mz4, Oq4, V_e⟩ := hQ4
  have N4 := Fr.app N3 Nq4
  have E_r0 := E_r0.keep Kq4
  have E_hb := E_hb.keep Kq4
  have E_b2 := E_b2.keep Kq4
  have F_r0_lastSent := F_r0_lastSent.keep Kq4 (ninS ne_r0_hb (ninS ne_r0_e nin0))
  have F_r0_held := F_r0_held.keep Kq4 (ninS ne_r0_hb (ninS ne_r0_e nin0))
  have F_r0_deferredMove := F_r0_deferredMove.keep Kq4 (ninS ne_r0_hb (ninS ne_r0_e nin0))
  have F_b2_receiver := F_b2_receiver.keep Kq4 (ninS ne_hb_b2.symm (ninS ne_e_b2.symm nin0))
  have F_b2_send := F_b2_send.keep Kq4 (ninS ne_hb_b2.symm (ninS ne_e_b2.symm nin0))
  have K := K.trans Kq4 (allS (Or.inl (List.mem_of_getElem? (i := 0) rfl)) (allS (Or.inl (List.mem_of_getElem? (i := 1) rfl)) all0))
  have Zs := Nat.le_trans Zs Kq4.1
  show GolF _ _ _ _ _ _ _ T4 m 18 #[.val (.ref r0), .val (.ref r1), .val .null] [(.int (1 : Int32))]
  obtain ⟨E_hb, F_hb_modCount, F_hb_elementData, F_hb_size⟩ := Oq4
  refine Gol.pop X4 hx hby d17_18 (pc' := 19) rfl rfl ?_
  exact Gol.ret0 X4 hx hby Bd.returns Bd.notSynchronized d17_19 rfl ⟨rfl, N4, K, b2, mz4, ⟨E_hb, F_hb_modCount, F_hb_elementData, F_hb_size⟩, V_e, sz_b2, ⟨E_b2, F_b2_receiver, F_b2_send⟩⟩ (by decide) (by decide)
theorem d16_0 : decode jdk_38_method_8_code 0 = .ok (.aload_n 0, 1) := by decide +kernel
theorem d16_1 : decode jdk_38_method_8_code 1 = .ok (.getfield 48, 3) := by decide +kernel
theorem d16_4 : decode jdk_38_method_8_code 4 = .ok (.ireturn, 1) := by decide +kernel
theorem pn_16 : plainName "java/util/ArrayList" = true := by first | (simp [plainName, overriddenIn]; done) | decide +kernel
theorem ef_16 (m : MethodId) (r0 : Addr) : entryFrame m #[(.ref r0)] 1 = mkF m 0 #[.val (.ref r0)] [] := by first | (simp [entryFrame, mkF, argsToLocals, Value.category]; done) | rfl
abbrev QSize (Z : State) (r0 : Addr) (v0 : Value) (v1 : Value) (sz : Int32) (h0 : Heap) (n0 : Nat) (v : Option Value) (h : Heap) (L : List Loc) : Prop := v = some (.int sz) ∧ Fr n0 L ∧ h = h0
set_option maxRecDepth 65536 in
set_option maxHeartbeats 40000000 in
theorem rmSize (l : Launch) (Z : State) (a0 : Array Value) (hw : ∀ d ∈ tables_1, d.before a0 Z = true) (ws : List Jvm.Cond) (r0 : Addr) (v0 : Value) (v1 : Value) (sz : Int32) (h0 : Heap) (n0 : Nat) (Z0 : n0 ≤ h0.size) (O0 : Al Z h0 r0 v0 v1 (.int sz)) (g_r0 : n0 ≤ r0) :
    MetFree l (⟨"java/util/ArrayList", "size", "()I"⟩ : MethodName) (head1 (Jvm.Cond.code (⟨"java/util/ArrayList", "size", "()I"⟩ : MethodName) jdk_38_method_8_code 1 (some .int) :: ws) ({ frames := 0, cells := 0, slots := 0, locals := 0 } : Room)) (fun a U => a = #[(.ref r0)] ∧ Z.Warmed39 U.vm ∧ U.heap = h0) (fun _ _ _ _ _ => True) (fun _ U o U' => ∃ v L, o = .returned v ∧ QSize Z r0 v0 v1 sz h0 n0 v U'.heap L ∧ FrameEnd U o U' L 0 0) := by
  refine MetFree.of_bodySF (plainFor_of_name pn_16) hisR ?_
  intro p ev s m args below meth c s₁ Bd hml0 hP hK
  obtain ⟨rfl, hZ, hh⟩ := hP
  have hx := Bd.exec
  have hby := Bd.bytes
  have hml : c.maxLocals = 1 := hml0
  have hown : s.vm.findClass "java/util/ArrayList" = some m.cls := findClass_of_methodNamed Bd.named
  have hnm := (name_of_methodNamed Bd.named Bd.method).1
  have X0 : Stand p l ev ({ frames := 0, cells := 0, slots := 0, locals := 0 } : Room) s m #[(.ref r0)] below meth c s₁ [] 0 0 := Stand.of_body Bd
  have eh0 : s₁.heap = h0 := by rw [← hh, Bd.state]; rfl
  have N0 := Fr.nil n0
  have Zs := Z0
  show Gol p ev below (FrameEnd s) (QSize Z r0 v0 v1 sz h0 n0) 0 0 (s₁.setTop (entryFrame m #[(.ref r0)] 1))
  rw [ef_16]
  obtain ⟨E_r0, F_r0_modCount, F_r0_elementData, F_r0_size⟩ := O0
  have K := Keep.refl h0 [r0]
  show GolF _ _ _ _ _ _ _ s₁ m 0 #[.val (.ref r0)] []
  refine Gol.aloadN X0 hx hby d16_0 (pc' := 1) rfl rfl rfl ?_
  refine Gol.getF X0 hx hby hZ hown (host := "") (Or.inl (hw _ (List.mem_of_getElem? (i := 112) rfl))) Via.refl eh0 F_r0_size d16_1 (pc' := 4) rfl ?_
  intro T1 X1 e1
  exact Gol.retI X1 hx hby Bd.returns Bd.notSynchronized d16_4 e1 ⟨rfl, N0, rfl⟩ (by decide) (by decide)
theorem d28_0 : decode prog_121_method_5_code 0 = .ok (.aload_n 0, 1) := by decide +kernel
theorem d28_1 : decode prog_121_method_5_code 1 = .ok (.getfield 7, 3) := by decide +kernel
theorem d28_4 : decode prog_121_method_5_code 4 = .ok (.areturn, 1) := by decide +kernel
theorem pn_28 : plainName "com/example/ballast/ballast/runtime/Outbox$Held" = true := by first | (simp [plainName, overriddenIn]; done) | decide +kernel
theorem ef_28 (m : MethodId) (r0 : Addr) : entryFrame m #[(.ref r0)] 1 = mkF m 0 #[.val (.ref r0)] [] := by first | (simp [entryFrame, mkF, argsToLocals, Value.category]; done) | rfl
abbrev QRecv (Z : State) (r0 : Addr) (v1 : Value) (rc : Addr) (h0 : Heap) (n0 : Nat) (v : Option Value) (h : Heap) (L : List Loc) : Prop := v = some (.ref rc) ∧ Fr n0 L ∧ h = h0
set_option maxRecDepth 65536 in
set_option maxHeartbeats 40000000 in
theorem rmRecv (l : Launch) (Z : State) (a0 : Array Value) (hw : ∀ d ∈ tables_1, d.before a0 Z = true) (ws : List Jvm.Cond) (r0 : Addr) (v1 : Value) (rc : Addr) (h0 : Heap) (n0 : Nat) (Z0 : n0 ≤ h0.size) (O0 : He Z h0 r0 (.ref rc) v1) (g_r0 : n0 ≤ r0) :
    MetFree l (⟨"com/example/ballast/ballast/runtime/Outbox$Held", "receiver", "()Lcom/example/ballast/ballast/runtime/ActorId;"⟩ : MethodName) (head1 (Jvm.Cond.code (⟨"com/example/ballast/ballast/runtime/Outbox$Held", "receiver", "()Lcom/example/ballast/ballast/runtime/ActorId;"⟩ : MethodName) prog_121_method_5_code 1 (some (.object "com/example/ballast/ballast/runtime/ActorId")) :: ws) ({ frames := 0, cells := 0, slots := 0, locals := 0 } : Room)) (fun a U => a = #[(.ref r0)] ∧ Z.Warmed39 U.vm ∧ U.heap = h0) (fun _ _ _ _ _ => True) (fun _ U o U' => ∃ v L, o = .returned v ∧ QRecv Z r0 v1 rc h0 n0 v U'.heap L ∧ FrameEnd U o U' L 0 0) := by
  refine MetFree.of_bodySF (plainFor_of_name pn_28) hisR ?_
  intro p ev s m args below meth c s₁ Bd hml0 hP hK
  obtain ⟨rfl, hZ, hh⟩ := hP
  have hx := Bd.exec
  have hby := Bd.bytes
  have hml : c.maxLocals = 1 := hml0
  have hown : s.vm.findClass "com/example/ballast/ballast/runtime/Outbox$Held" = some m.cls := findClass_of_methodNamed Bd.named
  have hnm := (name_of_methodNamed Bd.named Bd.method).1
  have X0 : Stand p l ev ({ frames := 0, cells := 0, slots := 0, locals := 0 } : Room) s m #[(.ref r0)] below meth c s₁ [] 0 0 := Stand.of_body Bd
  have eh0 : s₁.heap = h0 := by rw [← hh, Bd.state]; rfl
  have N0 := Fr.nil n0
  have Zs := Z0
  show Gol p ev below (FrameEnd s) (QRecv Z r0 v1 rc h0 n0) 0 0 (s₁.setTop (entryFrame m #[(.ref r0)] 1))
  rw [ef_28]
  obtain ⟨E_r0, F_r0_receiver, F_r0_send⟩ := O0
  have K := Keep.refl h0 [r0]
  show GolF _ _ _ _ _ _ _ s₁ m 0 #[.val (.ref r0)] []
  refine Gol.aloadN X0 hx hby d28_0 (pc' := 1) rfl rfl rfl ?_
  refine Gol.getF X0 hx hby hZ hown (host := "") (Or.inl (hw _ (List.mem_of_getElem? (i := 126) rfl))) Via.refl eh0 F_r0_receiver d28_1 (pc' := 4) rfl ?_
  intro T1 X1 e1
  exact Gol.retA X1 hx hby Bd.returns rfl rfl Bd.notSynchronized d28_4 e1 ⟨rfl, N0, rfl⟩ (by decide) (by decide)
theorem d29_0 : decode prog_121_method_6_code 0 = .ok (.aload_n 0, 1) := by decide +kernel
theorem d29_1 : decode prog_121_method_6_code 1 = .ok (.getfield 13, 3) := by decide +kernel
theorem d29_4 : decode prog_121_method_6_code 4 = .ok (.areturn, 1) := by decide +kernel
theorem pn_29 : plainName "com/example/ballast/ballast/runtime/Outbox$Held" = true := by first | (simp [plainName, overriddenIn]; done) | decide +kernel
theorem ef_29 (m : MethodId) (r0 : Addr) : entryFrame m #[(.ref r0)] 1 = mkF m 0 #[.val (.ref r0)] [] := by first | (simp [entryFrame, mkF, argsToLocals, Value.category]; done) | rfl
abbrev QSend (Z : State) (r0 : Addr) (v0 : Value) (h0 : Heap) (n0 : Nat) (v : Option Value) (h : Heap) (L : List Loc) : Prop := v = some .null ∧ Fr n0 L ∧ h = h0
set_option maxRecDepth 65536 in
set_option maxHeartbeats 40000000 in
theorem rmSend (l : Launch) (Z : State) (a0 : Array Value) (hw : ∀ d ∈ tables_1, d.before a0 Z = true) (ws : List Jvm.Cond) (r0 : Addr) (v0 : Value) (h0 : Heap) (n0 : Nat) (Z0 : n0 ≤ h0.size) (O0 : He Z h0 r0 v0 .null) (g_r0 : n0 ≤ r0) :
    MetFree l (⟨"com/example/ballast/ballast/runtime/Outbox$Held", "send", "()Ljava/util/function/IntConsumer;"⟩ : MethodName) (head1 (Jvm.Cond.code (⟨"com/example/ballast/ballast/runtime/Outbox$Held", "send", "()Ljava/util/function/IntConsumer;"⟩ : MethodName) prog_121_method_6_code 1 (some (.object "java/util/function/IntConsumer")) :: ws) ({ frames := 0, cells := 0, slots := 0, locals := 0 } : Room)) (fun a U => a = #[(.ref r0)] ∧ Z.Warmed39 U.vm ∧ U.heap = h0) (fun _ _ _ _ _ => True) (fun _ U o U' => ∃ v L, o = .returned v ∧ QSend Z r0 v0 h0 n0 v U'.heap L ∧ FrameEnd U o U' L 0 0) := by
  refine MetFree.of_bodySF (plainFor_of_name pn_29) hisR ?_
  intro p ev s m args below meth c s₁ Bd hml0 hP hK
  obtain ⟨rfl, hZ, hh⟩ := hP
  have hx := Bd.exec
  have hby := Bd.bytes
  have hml : c.maxLocals = 1 := hml0
  have hown : s.vm.findClass "com/example/ballast/ballast/runtime/Outbox$Held" = some m.cls := findClass_of_methodNamed Bd.named
  have hnm := (name_of_methodNamed Bd.named Bd.method).1
  have X0 : Stand p l ev ({ frames := 0, cells := 0, slots := 0, locals := 0 } : Room) s m #[(.ref r0)] below meth c s₁ [] 0 0 := Stand.of_body Bd
  have eh0 : s₁.heap = h0 := by rw [← hh, Bd.state]; rfl
  have N0 := Fr.nil n0
  have Zs := Z0
  show Gol p ev below (FrameEnd s) (QSend Z r0 v0 h0 n0) 0 0 (s₁.setTop (entryFrame m #[(.ref r0)] 1))
  rw [ef_29]
  obtain ⟨E_r0, F_r0_receiver, F_r0_send⟩ := O0
  have K := Keep.refl h0 [r0]
  show GolF _ _ _ _ _ _ _ s₁ m 0 #[.val (.ref r0)] []
  refine Gol.aloadN X0 hx hby d29_0 (pc' := 1) rfl rfl rfl ?_
  refine Gol.getF X0 hx hby hZ hown (host := "") (Or.inl (hw _ (List.mem_of_getElem? (i := 128) rfl))) Via.refl eh0 F_r0_send d29_1 (pc' := 4) rfl ?_
  intro T1 X1 e1
  exact Gol.retA X1 hx hby Bd.returns rfl rfl Bd.notSynchronized d29_4 e1 ⟨rfl, N0, rfl⟩ (by decide) (by decide)
theorem own_ltn {i n : Nat} (h : i < n) (hn : n ≤ 100) : Int32.ofNat i < Int32.ofNat n := by
  rw [Int32.lt_iff_toInt_lt, own_int (by omega), own_int hn]; omega
theorem own_n3 (x : Int32) : ((x &&& (3 : Int32)) % (3 : Int32)) = (0 : Int32) ∨ ((x &&& (3 : Int32)) % (3 : Int32)) = (1 : Int32) ∨ ((x &&& (3 : Int32)) % (3 : Int32)) = (2 : Int32) := by
  have h : (x &&& 3).toBitVec.toNat ≤ 3 := by
    rw [Int32.toBitVec_and, BitVec.toNat_and]; exact Nat.and_le_right
  have q : ∀ k : Int32, (x &&& 3).toBitVec.toNat = k.toBitVec.toNat → (x &&& 3) = k := fun k hk => Int32.toBitVec_inj.mp (BitVec.eq_of_toNat_eq hk)
  have e : (x &&& 3).toBitVec.toNat = 0 ∨ (x &&& 3).toBitVec.toNat = 1 ∨ (x &&& 3).toBitVec.toNat = 2 ∨ (x &&& 3).toBitVec.toNat = 3 := by omega
  rcases e with e | e | e | e
  · rw [q 0 e]; decide
  · rw [q 1 e]; decide
  · rw [q 2 e]; decide
  · rw [q 3 e]; decide
theorem own_lat (x : Int32) : ∀ c ∈ [nar .char ((x &&& (255 : Int32)).toUInt32.toUInt16.toUInt32.toInt32)], ¬ c < 0 ∧ ¬ (255 : Int32) < c := by
  intro c hc
  cases List.mem_singleton.mp hc
  have e : nar .char ((x &&& (255 : Int32)).toUInt32.toUInt16.toUInt32.toInt32) = x &&& (255 : Int32) := by
    rw [i2c_mask]
    exact i2c_mask x
  rw [e]
  have h : (x &&& 255).toBitVec.toNat ≤ 255 := by
    rw [Int32.toBitVec_and, BitVec.toNat_and]; exact Nat.and_le_right
  have e2 : (x &&& 255).toInt = ((x &&& 255).toBitVec.toNat : Int) := by
    show (x &&& 255).toBitVec.toInt = _
    rw [BitVec.toInt_eq_toNat_of_lt (by omega)]
  rw [Int32.lt_iff_toInt_lt, Int32.lt_iff_toInt_lt, e2, show (0 : Int32).toInt = 0 from rfl, show (255 : Int32).toInt = 255 from rfl]
  omega
theorem own_set0 (vs : List Value) (y d : Value) : (vs.set 1 y).getD 0 d = vs.getD 0 d := by cases vs <;> rfl
theorem own_set1 {vs : List Value} (y d : Value) (h : vs.length = 10) : (vs.set 1 y).getD 1 d = y := by
  match vs, h with
  | _ :: _ :: _, _ => rfl
theorem d7_0 : decode prog_59_method_1_code 0 = .ok (.aload_n 0, 1) := by decide +kernel
theorem d7_1 : decode prog_59_method_1_code 1 = .ok (.invokespecial 1, 3) := by decide +kernel
theorem d7_4 : decode prog_59_method_1_code 4 = .ok (.aload_n 0, 1) := by decide +kernel
theorem d7_5 : decode prog_59_method_1_code 5 = .ok (.aload_n 1, 1) := by decide +kernel
theorem d7_6 : decode prog_59_method_1_code 6 = .ok (.putfield 7, 3) := by decide +kernel
theorem d7_9 : decode prog_59_method_1_code 9 = .ok (.aload_n 0, 1) := by decide +kernel
theorem d7_10 : decode prog_59_method_1_code 10 = .ok (.aload_n 2, 1) := by decide +kernel
theorem d7_11 : decode prog_59_method_1_code 11 = .ok (.putfield 13, 3) := by decide +kernel
theorem d7_14 : decode prog_59_method_1_code 14 = .ok (.return_, 1) := by decide +kernel
theorem pn_7 : plainName "com/example/ballast/ballast/runtime/ActorId" = true := by first | (simp [plainName, overriddenIn]; done) | decide +kernel
theorem ef_7 (m : MethodId) (r0 : Addr) (r1 : Addr) (r2 : Addr) : entryFrame m #[(.ref r0), (.ref r1), (.ref r2)] 3 = mkF m 0 #[.val (.ref r0), .val (.ref r1), .val (.ref r2)] [] := by first | (simp [entryFrame, mkF, argsToLocals, Value.category]; done) | rfl
abbrev QAct (Z : State) (r0 : Addr) (r1 : Addr) (r2 : Addr) (h0 : Heap) (n0 : Nat) (v : Option Value) (h : Heap) (L : List Loc) : Prop := v = none ∧ Fr n0 L ∧ Keep h0 h [r0]
set_option maxRecDepth 65536 in
set_option maxHeartbeats 40000000 in
theorem rmAct (l : Launch) (Z : State) (a0 : Array Value) (hw : ∀ d ∈ tables_1, d.before a0 Z = true) (ws : List Jvm.Cond) (r0 : Addr) (r1 : Addr) (r2 : Addr) (h0 : Heap) (n0 : Nat) (Z0 : n0 ≤ h0.size) (O0 : Ac Z h0 r0 .null .null) (g_r0 : n0 ≤ r0) :
    MetFree l (⟨"com/example/ballast/ballast/runtime/ActorId", "<init>", "(Ljava/lang/String;Ljava/lang/String;)V"⟩ : MethodName) (head1 (Jvm.Cond.code (⟨"com/example/ballast/ballast/runtime/ActorId", "<init>", "(Ljava/lang/String;Ljava/lang/String;)V"⟩ : MethodName) prog_59_method_1_code 3 none :: ws) ({ frames := 2, cells := 0, slots := 0, locals := 24 } : Room)) (fun a U => a = #[(.ref r0), (.ref r1), (.ref r2)] ∧ Z.Warmed39 U.vm ∧ U.heap = h0) (fun _ _ _ _ _ => True) (fun _ U o U' => ∃ v L, o = .returned v ∧ QAct Z r0 r1 r2 h0 n0 v U'.heap L ∧ FrameEnd U o U' L 0 0) := by
  refine MetFree.of_bodySF (plainFor_of_name pn_7) hisR ?_
  intro p ev s m args below meth c s₁ Bd hml0 hP hK
  obtain ⟨rfl, hZ, hh⟩ := hP
  have hx := Bd.exec
  have hby := Bd.bytes
  have hml : c.maxLocals = 3 := hml0
  have hown : s.vm.findClass "com/example/ballast/ballast/runtime/ActorId" = some m.cls := findClass_of_methodNamed Bd.named
  have hnm := (name_of_methodNamed Bd.named Bd.method).1
  have X0 : Stand p l ev ({ frames := 2, cells := 0, slots := 0, locals := 24 } : Room) s m #[(.ref r0), (.ref r1), (.ref r2)] below meth c s₁ [] 0 0 := Stand.of_body Bd
  have eh0 : s₁.heap = h0 := by rw [← hh, Bd.state]; rfl
  have N0 := Fr.nil n0
  have Zs := Z0
  show Gol p ev below (FrameEnd s) (QAct Z r0 r1 r2 h0 n0) 0 0 (s₁.setTop (entryFrame m #[(.ref r0), (.ref r1), (.ref r2)] 3))
  rw [ef_7]
  obtain ⟨E_r0, F_r0_type, F_r0_key⟩ := O0
  have K := Keep.refl h0 [r0]
  show GolF _ _ _ _ _ _ _ s₁ m 0 #[.val (.ref r0), .val (.ref r1), .val (.ref r2)] []
  refine Gol.aloadN X0 hx hby d7_0 (pc' := 1) rfl rfl rfl ?_
  refine Gol.callI X0 hx hby hZ hown 0 [] (a := r0) (hw _ (List.mem_of_getElem? (i := 39) rfl)) (hw _ (List.mem_of_getElem? (i := 40) rfl)) (hw _ (List.mem_of_getElem? (i := 42) rfl)) rfl (hw _ (List.mem_of_getElem? (i := 43) rfl)) rfl (by decide) (rm8 l Z a0 hw [] r0  h0 n0 Zs ) (by decide) (by decide) eh0 (by rw [hml]; rfl) (rest := []) (Nat.le_of_eq rfl) (by decide) (by decide) (lenOf pd_0 rfl) rfl d7_1 (pc' := 4) rfl ?_
  intro T1 v1 L1 X1 hQ1
  obtain ⟨rfl, Nq1, eq1⟩ := hQ1
  have N1 := Fr.app N0 Nq1
  show GolF _ _ _ _ _ _ _ T1 m 4 #[.val (.ref r0), .val (.ref r1), .val (.ref r2)] []
  refine Gol.aloadN X1 hx hby d7_4 (pc' := 5) rfl rfl rfl ?_
  refine Gol.aloadN X1 hx hby d7_5 (pc' := 6) rfl rfl rfl ?_
  refine Gol.putF X1 hx hby hZ hown (host := "") (Or.inl (hw _ (List.mem_of_getElem? (i := 45) rfl))) Via.refl eq1 F_r0_type E_r0 (Or.inr ⟨(hw _ (List.mem_of_getElem? (i := 46) rfl)), rfl, hnm⟩) (hw _ (List.mem_of_getElem? (i := 2) rfl)) (ty := (.object "java/lang/String")) (by decide) rfl rfl d7_6 (pc' := 9) rfl ?_
  intro T2 h2 X2 e2 W2
  have E_r0 := E_r0.wr W2
  have F_r0_type := F_r0_type.same W2
  have F_r0_key := F_r0_key.other W2 (Or.inr (slot_ne (Or.inr (hw _ (List.mem_of_getElem? (i := 48) rfl))) (Or.inr (hw _ (List.mem_of_getElem? (i := 46) rfl))) (by decide) (t := (.object "java/lang/String")) (t' := (.object "java/lang/String")) (by decide) (by decide)))
  have K := K.wr W2 (Or.inl (List.mem_of_getElem? (i := 0) rfl))
  have Zs := Nat.le_trans Zs (Keep.of_wr W2).1
  have N2 := Fr.snoc X2 N1 g_r0
  refine Gol.aloadN X2 hx hby d7_9 (pc' := 10) rfl rfl rfl ?_
  refine Gol.aloadN X2 hx hby d7_10 (pc' := 11) rfl rfl rfl ?_
  refine Gol.putF X2 hx hby hZ hown (host := "") (Or.inl (hw _ (List.mem_of_getElem? (i := 47) rfl))) Via.refl e2 F_r0_key E_r0 (Or.inr ⟨(hw _ (List.mem_of_getElem? (i := 48) rfl)), rfl, hnm⟩) (hw _ (List.mem_of_getElem? (i := 2) rfl)) (ty := (.object "java/lang/String")) (by decide) rfl rfl d7_11 (pc' := 14) rfl ?_
  intro T3 h3 X3 e3 W3
  have E_r0 := E_r0.wr W3
  have F_r0_type := F_r0_type.other W3 (Or.inr (slot_ne (Or.inr (hw _ (List.mem_of_getElem? (i := 46) rfl))) (Or.inr (hw _ (List.mem_of_getElem? (i := 48) rfl))) (by decide) (t := (.object "java/lang/String")) (t' := (.object "java/lang/String")) (by decide) (by decide)))
  have F_r0_key := F_r0_key.same W3
  have K := K.wr W3 (Or.inl (List.mem_of_getElem? (i := 0) rfl))
  have Zs := Nat.le_trans Zs (Keep.of_wr W3).1
  have N3 := Fr.snoc X3 N2 g_r0
  exact Gol.ret0 X3 hx hby Bd.returns Bd.notSynchronized d7_14 e3 ⟨rfl, N3, K⟩ (by decide) (by decide)
theorem d26_0 : decode jdk_41_method_11_code 0 = .ok (.iload_n 0, 1) := by decide +kernel
theorem d26_1 : decode jdk_41_method_11_code 1 = .ok (.ifCond .lt 8, 3) := by decide +kernel
theorem d26_4 : decode jdk_41_method_11_code 4 = .ok (.iload_n 0, 1) := by decide +kernel
theorem d26_5 : decode jdk_41_method_11_code 5 = .ok (.iload_n 1, 1) := by decide +kernel
theorem d26_6 : decode jdk_41_method_11_code 6 = .ok (.if_icmp .lt 10, 3) := by decide +kernel
theorem d26_16 : decode jdk_41_method_11_code 16 = .ok (.iload_n 0, 1) := by decide +kernel
theorem d26_17 : decode jdk_41_method_11_code 17 = .ok (.ireturn, 1) := by decide +kernel
theorem pn_26 : plainName "jdk/internal/util/Preconditions" = true := by first | (simp [plainName, overriddenIn]; done) | decide +kernel
theorem ef_26n (m : MethodId) (p0 : Int32) (p1 : Int32) : entryFrame m #[(.int p0), (.int p1), .null] 3 = mkF m 0 #[.val (.int p0), .val (.int p1), .val .null] [] := by first | (simp [entryFrame, mkF, argsToLocals, Value.category]; done) | rfl
abbrev QPci (Z : State) (p0 : Int32) (p1 : Int32) (h0 : Heap) (n0 : Nat) (v : Option Value) (h : Heap) (L : List Loc) : Prop := v = some (.int p0) ∧ Fr n0 L ∧ h = h0
set_option maxRecDepth 65536 in
set_option maxHeartbeats 40000000 in
theorem rmPci (l : Launch) (Z : State) (a0 : Array Value) (hw : ∀ d ∈ tables_1, d.before a0 Z = true) (ws : List Jvm.Cond) (p0 : Int32) (p1 : Int32) (h0 : Heap) (n0 : Nat) (Z0 : n0 ≤ h0.size) (h1 : ¬ p0 < (0 : Int32)) (h2 : p0 < p1) :
    MetFree l (⟨"jdk/internal/util/Preconditions", "checkIndex", "(IILjava/util/function/BiFunction;)I"⟩ : MethodName) (head1 (Jvm.Cond.code (⟨"jdk/internal/util/Preconditions", "checkIndex", "(IILjava/util/function/BiFunction;)I"⟩ : MethodName) jdk_41_method_11_code 3 (some .int) :: ws) ({ frames := 0, cells := 0, slots := 0, locals := 0 } : Room)) (fun a U => a = #[(.int p0), (.int p1), .null] ∧ Z.Warmed39 U.vm ∧ U.heap = h0) (fun _ _ _ _ _ => True) (fun _ U o U' => ∃ v L, o = .returned v ∧ QPci Z p0 p1 h0 n0 v U'.heap L ∧ FrameEnd U o U' L 0 0) := by
  refine MetFree.of_bodySF (plainFor_of_name pn_26) hisR ?_
  intro p ev s m args below meth c s₁ Bd hml0 hP hK
  obtain ⟨rfl, hZ, hh⟩ := hP
  have hx := Bd.exec
  have hby := Bd.bytes
  have hml : c.maxLocals = 3 := hml0
  have hown : s.vm.findClass "jdk/internal/util/Preconditions" = some m.cls := findClass_of_methodNamed Bd.named
  have hnm := (name_of_methodNamed Bd.named Bd.method).1
  have X0 : Stand p l ev ({ frames := 0, cells := 0, slots := 0, locals := 0 } : Room) s m #[(.int p0), (.int p1), .null] below meth c s₁ [] 0 0 := Stand.of_body Bd
  have eh0 : s₁.heap = h0 := by rw [← hh, Bd.state]; rfl
  have N0 := Fr.nil n0
  have Zs := Z0
  show Gol p ev below (FrameEnd s) (QPci Z p0 p1 h0 n0) 0 0 (s₁.setTop (entryFrame m #[(.int p0), (.int p1), .null] 3))
  rw [ef_26n]
  show GolF _ _ _ _ _ _ _ s₁ m 0 #[.val (.int p0), .val (.int p1), .val .null] []
  refine Gol.iloadN X0 hx hby d26_0 (pc' := 1) rfl rfl ?_
  refine Gol.ifNo X0 hx hby d26_1 (pc' := 4) rfl ((if0 _ _).trans (flt h1).1) ?_
  refine Gol.iloadN X0 hx hby d26_4 (pc' := 5) rfl rfl ?_
  refine Gol.iloadN X0 hx hby d26_5 (pc' := 6) rfl rfl ?_
  refine Gol.icmpYes X0 hx hby d26_6 (pc' := 16) (by decide) (tlt h2).1 ?_
  refine Gol.iloadN X0 hx hby d26_16 (pc' := 17) rfl rfl ?_
  exact Gol.retI X0 hx hby Bd.returns Bd.notSynchronized d26_17 eh0 ⟨rfl, N0, rfl⟩ (by decide) (by decide)
theorem d25_0 : decode jdk_31_method_17_code 0 = .ok (.iload_n 0, 1) := by decide +kernel
theorem d25_1 : decode jdk_31_method_17_code 1 = .ok (.iload_n 1, 1) := by decide +kernel
theorem d25_2 : decode jdk_31_method_17_code 2 = .ok (.aconst_null, 1) := by decide +kernel
theorem d25_3 : decode jdk_31_method_17_code 3 = .ok (.invokestatic 105, 3) := by decide +kernel
theorem d25_6 : decode jdk_31_method_17_code 6 = .ok (.ireturn, 1) := by decide +kernel
theorem pn_25 : plainName "java/util/Objects" = true := by first | (simp [plainName, overriddenIn]; done) | decide +kernel
theorem ef_25 (m : MethodId) (p0 : Int32) (p1 : Int32) : entryFrame m #[(.int p0), (.int p1)] 2 = mkF m 0 #[.val (.int p0), .val (.int p1)] [] := by first | (simp [entryFrame, mkF, argsToLocals, Value.category]; done) | rfl
abbrev QOci (Z : State) (p0 : Int32) (p1 : Int32) (h0 : Heap) (n0 : Nat) (v : Option Value) (h : Heap) (L : List Loc) : Prop := v = some (.int p0) ∧ Fr n0 L ∧ h = h0
set_option maxRecDepth 65536 in
set_option maxHeartbeats 40000000 in
theorem rmOci (l : Launch) (Z : State) (a0 : Array Value) (hw : ∀ d ∈ tables_1, d.before a0 Z = true) (ws : List Jvm.Cond) (p0 : Int32) (p1 : Int32) (h0 : Heap) (n0 : Nat) (Z0 : n0 ≤ h0.size) (h1 : ¬ p0 < (0 : Int32)) (h2 : p0 < p1) :
    MetFree l (⟨"java/util/Objects", "checkIndex", "(II)I"⟩ : MethodName) (head1 (Jvm.Cond.code (⟨"java/util/Objects", "checkIndex", "(II)I"⟩ : MethodName) jdk_31_method_17_code 2 (some .int) :: ws) ({ frames := 1, cells := 0, slots := 0, locals := 14 } : Room)) (fun a U => a = #[(.int p0), (.int p1)] ∧ Z.Warmed39 U.vm ∧ U.heap = h0) (fun _ _ _ _ _ => True) (fun _ U o U' => ∃ v L, o = .returned v ∧ QOci Z p0 p1 h0 n0 v U'.heap L ∧ FrameEnd U o U' L 0 0) := by
  refine MetFree.of_bodySF (plainFor_of_name pn_25) hisR ?_
  intro p ev s m args below meth c s₁ Bd hml0 hP hK
  obtain ⟨rfl, hZ, hh⟩ := hP
  have hx := Bd.exec
  have hby := Bd.bytes
  have hml : c.maxLocals = 2 := hml0
  have hown : s.vm.findClass "java/util/Objects" = some m.cls := findClass_of_methodNamed Bd.named
  have hnm := (name_of_methodNamed Bd.named Bd.method).1
  have X0 : Stand p l ev ({ frames := 1, cells := 0, slots := 0, locals := 14 } : Room) s m #[(.int p0), (.int p1)] below meth c s₁ [] 0 0 := Stand.of_body Bd
  have eh0 : s₁.heap = h0 := by rw [← hh, Bd.state]; rfl
  have N0 := Fr.nil n0
  have Zs := Z0
  show Gol p ev below (FrameEnd s) (QOci Z p0 p1 h0 n0) 0 0 (s₁.setTop (entryFrame m #[(.int p0), (.int p1)] 2))
  rw [ef_25]
  show GolF _ _ _ _ _ _ _ s₁ m 0 #[.val (.int p0), .val (.int p1)] []
  refine Gol.iloadN X0 hx hby d25_0 (pc' := 1) rfl rfl ?_
  refine Gol.iloadN X0 hx hby d25_1 (pc' := 2) rfl rfl ?_
  refine Gol.aconstNull X0 hx hby d25_2 (pc' := 3) rfl ?_
  refine Gol.callS X0 hx hby hZ hown 0 [(.int p0), (.int p1), .null] (hw _ (List.mem_of_getElem? (i := 174) rfl)) (hw _ (List.mem_of_getElem? (i := 175) rfl)) (hw _ (List.mem_of_getElem? (i := 176) rfl)) (hw _ (List.mem_of_getElem? (i := 177) rfl)) (by decide) (rmPci l Z a0 hw [] p0 p1  h0 n0 Zs h1 h2) (by decide) (by decide) eh0 (by rw [hml]; rfl) (rest := []) (Nat.le_of_eq rfl) (by decide) (by decide) (lenOf pd_7 rfl) rfl d25_3 (pc' := 6) rfl ?_
  intro T1 v1 L1 X1 hQ1
  obtain ⟨rfl, Nq1, eq1⟩ := hQ1
  have N1 := Fr.app N0 Nq1
  show GolF _ _ _ _ _ _ _ T1 m 6 #[.val (.int p0), .val (.int p1)] [(.int p0)]
  exact Gol.retI X1 hx hby Bd.returns Bd.notSynchronized d25_6 eq1 ⟨rfl, N1, rfl⟩ (by decide) (by decide)
theorem d27_0 : decode jdk_38_method_18_code 0 = .ok (.aload_n 0, 1) := by decide +kernel
theorem d27_1 : decode jdk_38_method_18_code 1 = .ok (.getfield 9, 3) := by decide +kernel
theorem d27_4 : decode jdk_38_method_18_code 4 = .ok (.iload_n 1, 1) := by decide +kernel
theorem d27_5 : decode jdk_38_method_18_code 5 = .ok (.aaload, 1) := by decide +kernel
theorem d27_6 : decode jdk_38_method_18_code 6 = .ok (.areturn, 1) := by decide +kernel
theorem pn_27 : plainName "java/util/ArrayList" = true := by first | (simp [plainName, overriddenIn]; done) | decide +kernel
theorem ef_27 (m : MethodId) (r0 : Addr) (p1 : Int32) : entryFrame m #[(.ref r0), (.int p1)] 2 = mkF m 0 #[.val (.ref r0), .val (.int p1)] [] := by first | (simp [entryFrame, mkF, argsToLocals, Value.category]; done) | rfl
abbrev QEld (Z : State) (r0 : Addr) (p1 : Int32) (v0 : Value) (ed : Addr) (ke : ClassId) (vs : List Value) (sz : Nat) (i : Nat) (x : Addr) (h0 : Heap) (n0 : Nat) (v : Option Value) (h : Heap) (L : List Loc) : Prop := v = some (.ref x) ∧ Fr n0 L ∧ h = h0
set_option maxRecDepth 65536 in
set_option maxHeartbeats 40000000 in
theorem rmEld (l : Launch) (Z : State) (a0 : Array Value) (hw : ∀ d ∈ tables_1, d.before a0 Z = true) (ws : List Jvm.Cond) (r0 : Addr) (p1 : Int32) (v0 : Value) (ed : Addr) (ke : ClassId) (vs : List Value) (sz : Nat) (i : Nat) (x : Addr) (h0 : Heap) (n0 : Nat) (Z0 : n0 ≤ h0.size) (hp : p1 = Int32.ofNat i) (hi : i < sz) (hsz : sz ≤ 10) (O0 : Al Z h0 r0 v0 (.ref ed) (.int (Int32.ofNat sz))) (V_ed : Arv Z h0 ed ke (.object "java/lang/Object") (10 : Int32) vs .null) (hv : vs.getD i .null = .ref x) :
    MetFree l (⟨"java/util/ArrayList", "elementData", "(I)Ljava/lang/Object;"⟩ : MethodName) (head1 (Jvm.Cond.code (⟨"java/util/ArrayList", "elementData", "(I)Ljava/lang/Object;"⟩ : MethodName) jdk_38_method_18_code 2 (some (.object "java/lang/Object")) :: ws) ({ frames := 0, cells := 0, slots := 0, locals := 0 } : Room)) (fun a U => a = #[(.ref r0), (.int p1)] ∧ Z.Warmed39 U.vm ∧ U.heap = h0) (fun _ _ _ _ _ => True) (fun _ U o U' => ∃ v L, o = .returned v ∧ QEld Z r0 p1 v0 ed ke vs sz i x h0 n0 v U'.heap L ∧ FrameEnd U o U' L 0 0) := by
  refine MetFree.of_bodySF (plainFor_of_name pn_27) hisR ?_
  intro p ev s m args below meth c s₁ Bd hml0 hP hK
  obtain ⟨rfl, hZ, hh⟩ := hP
  have hx := Bd.exec
  have hby := Bd.bytes
  have hml : c.maxLocals = 2 := hml0
  have hown : s.vm.findClass "java/util/ArrayList" = some m.cls := findClass_of_methodNamed Bd.named
  have hnm := (name_of_methodNamed Bd.named Bd.method).1
  have X0 : Stand p l ev ({ frames := 0, cells := 0, slots := 0, locals := 0 } : Room) s m #[(.ref r0), (.int p1)] below meth c s₁ [] 0 0 := Stand.of_body Bd
  have eh0 : s₁.heap = h0 := by rw [← hh, Bd.state]; rfl
  have N0 := Fr.nil n0
  have Zs := Z0
  show Gol p ev below (FrameEnd s) (QEld Z r0 p1 v0 ed ke vs sz i x h0 n0) 0 0 (s₁.setTop (entryFrame m #[(.ref r0), (.int p1)] 2))
  rw [ef_27]
  subst hp
  obtain ⟨E_r0, F_r0_modCount, F_r0_elementData, F_r0_size⟩ := O0
  show GolF _ _ _ _ _ _ _ s₁ m 0 #[.val (.ref r0), .val (.int (Int32.ofNat i))] []
  refine Gol.aloadN X0 hx hby d27_0 (pc' := 1) rfl rfl rfl ?_
  refine Gol.getF X0 hx hby hZ hown (host := "") (Or.inl (hw _ (List.mem_of_getElem? (i := 101) rfl))) Via.refl eh0 F_r0_elementData d27_1 (pc' := 4) rfl ?_
  intro T1 X1 e1
  refine Gol.iloadN X1 hx hby d27_4 (pc' := 5) rfl rfl ?_
  refine Gol.aaload X1 hx hby hZ e1 V_ed d27_5 (pc' := 6) rfl rfl (own_in10 (by omega)) (v := (.ref x)) (by rw [own_n32 (by omega)]; exact hv) ?_
  exact Gol.retA X1 hx hby Bd.returns rfl rfl Bd.notSynchronized d27_6 e1 ⟨rfl, N0, rfl⟩ (by decide) (by decide)
theorem d24_0 : decode jdk_38_method_20_code 0 = .ok (.iload_n 1, 1) := by decide +kernel
theorem d24_1 : decode jdk_38_method_20_code 1 = .ok (.aload_n 0, 1) := by decide +kernel
theorem d24_2 : decode jdk_38_method_20_code 2 = .ok (.getfield 48, 3) := by decide +kernel
theorem d24_5 : decode jdk_38_method_20_code 5 = .ok (.invokestatic 118, 3) := by decide +kernel
theorem d24_8 : decode jdk_38_method_20_code 8 = .ok (.pop, 1) := by decide +kernel
theorem d24_9 : decode jdk_38_method_20_code 9 = .ok (.aload_n 0, 1) := by decide +kernel
theorem d24_10 : decode jdk_38_method_20_code 10 = .ok (.iload_n 1, 1) := by decide +kernel
theorem d24_11 : decode jdk_38_method_20_code 11 = .ok (.invokevirtual 123, 3) := by decide +kernel
theorem d24_14 : decode jdk_38_method_20_code 14 = .ok (.areturn, 1) := by decide +kernel
theorem pn_24 : plainName "java/util/ArrayList" = true := by first | (simp [plainName, overriddenIn]; done) | decide +kernel
theorem ef_24 (m : MethodId) (r0 : Addr) (p1 : Int32) : entryFrame m #[(.ref r0), (.int p1)] 2 = mkF m 0 #[.val (.ref r0), .val (.int p1)] [] := by first | (simp [entryFrame, mkF, argsToLocals, Value.category]; done) | rfl
abbrev QGet (Z : State) (r0 : Addr) (p1 : Int32) (v0 : Value) (ed : Addr) (ke : ClassId) (vs : List Value) (sz : Nat) (i : Nat) (x : Addr) (h0 : Heap) (n0 : Nat) (v : Option Value) (h : Heap) (L : List Loc) : Prop := v = some (.ref x) ∧ Fr n0 L ∧ h = h0
set_option maxRecDepth 65536 in
set_option maxHeartbeats 40000000 in
theorem rmGet (l : Launch) (Z : State) (a0 : Array Value) (hw : ∀ d ∈ tables_1, d.before a0 Z = true) (ws : List Jvm.Cond) (r0 : Addr) (p1 : Int32) (v0 : Value) (ed : Addr) (ke : ClassId) (vs : List Value) (sz : Nat) (i : Nat) (x : Addr) (h0 : Heap) (n0 : Nat) (Z0 : n0 ≤ h0.size) (hp : p1 = Int32.ofNat i) (hi : i < sz) (hsz : sz ≤ 10) (O0 : Al Z h0 r0 v0 (.ref ed) (.int (Int32.ofNat sz))) (V_ed : Arv Z h0 ed ke (.object "java/lang/Object") (10 : Int32) vs .null) (hv : vs.getD i .null = .ref x) :
    MetFree l (⟨"java/util/ArrayList", "get", "(I)Ljava/lang/Object;"⟩ : MethodName) (head1 (Jvm.Cond.code (⟨"java/util/ArrayList", "get", "(I)Ljava/lang/Object;"⟩ : MethodName) jdk_38_method_20_code 2 (some (.object "java/lang/Object")) :: ws) ({ frames := 2, cells := 0, slots := 0, locals := 27 } : Room)) (fun a U => a = #[(.ref r0), (.int p1)] ∧ Z.Warmed39 U.vm ∧ U.heap = h0) (fun _ _ _ _ _ => True) (fun _ U o U' => ∃ v L, o = .returned v ∧ QGet Z r0 p1 v0 ed ke vs sz i x h0 n0 v U'.heap L ∧ FrameEnd U o U' L 0 0) := by
  refine MetFree.of_bodySF (plainFor_of_name pn_24) hisR ?_
  intro p ev s m args below meth c s₁ Bd hml0 hP hK
  obtain ⟨rfl, hZ, hh⟩ := hP
  have hx := Bd.exec
  have hby := Bd.bytes
  have hml : c.maxLocals = 2 := hml0
  have hown : s.vm.findClass "java/util/ArrayList" = some m.cls := findClass_of_methodNamed Bd.named
  have hnm := (name_of_methodNamed Bd.named Bd.method).1
  have X0 : Stand p l ev ({ frames := 2, cells := 0, slots := 0, locals := 27 } : Room) s m #[(.ref r0), (.int p1)] below meth c s₁ [] 0 0 := Stand.of_body Bd
  have eh0 : s₁.heap = h0 := by rw [← hh, Bd.state]; rfl
  have N0 := Fr.nil n0
  have Zs := Z0
  show Gol p ev below (FrameEnd s) (QGet Z r0 p1 v0 ed ke vs sz i x h0 n0) 0 0 (s₁.setTop (entryFrame m #[(.ref r0), (.int p1)] 2))
  rw [ef_24]
  subst hp
  obtain ⟨E_r0, F_r0_modCount, F_r0_elementData, F_r0_size⟩ := O0
  show GolF _ _ _ _ _ _ _ s₁ m 0 #[.val (.ref r0), .val (.int (Int32.ofNat i))] []
  refine Gol.iloadN X0 hx hby d24_0 (pc' := 1) rfl rfl ?_
  refine Gol.aloadN X0 hx hby d24_1 (pc' := 2) rfl rfl rfl ?_
  refine Gol.getF X0 hx hby hZ hown (host := "") (Or.inl (hw _ (List.mem_of_getElem? (i := 112) rfl))) Via.refl eh0 F_r0_size d24_2 (pc' := 5) rfl ?_
  intro T1 X1 e1
  refine Gol.callS X1 hx hby hZ hown 0 [(.int (Int32.ofNat i)), (.int (Int32.ofNat sz))] (hw _ (List.mem_of_getElem? (i := 170) rfl)) (hw _ (List.mem_of_getElem? (i := 171) rfl)) (hw _ (List.mem_of_getElem? (i := 172) rfl)) (hw _ (List.mem_of_getElem? (i := 173) rfl)) (by decide) (rmOci l Z a0 hw [] (Int32.ofNat i) (Int32.ofNat sz)  h0 n0 Zs (own_in10 (by omega)).1 (own_ltn hi (by omega))) (by decide) (by decide) e1 (by rw [hml]; rfl) (rest := []) (Nat.le_of_eq rfl) (by decide) (by decide) (lenOf pd_1 rfl) rfl d24_5 (pc' := 8) rfl ?_
  intro T2 v2 L2 X2 hQ2
  obtain ⟨rfl, Nq2, eq2⟩ := hQ2
  have N2 := Fr.app N0 Nq2
  show GolF _ _ _ _ _ _ _ T2 m 8 #[.val (.ref r0), .val (.int (Int32.ofNat i))] [(.int (Int32.ofNat i))]
  refine Gol.pop X2 hx hby d24_8 (pc' := 9) rfl rfl ?_
  refine Gol.aloadN X2 hx hby d24_9 (pc' := 10) rfl rfl rfl ?_
  refine Gol.iloadN X2 hx hby d24_10 (pc' := 11) rfl rfl ?_
  refine Gol.callV X2 hx hby hZ hown 0 [(.int (Int32.ofNat i))] (a := r0) (hw _ (List.mem_of_getElem? (i := 178) rfl)) (hw _ (List.mem_of_getElem? (i := 179) rfl)) (notFace_of_selects (args := #[]) (mvT hZ (hw _ (List.mem_of_getElem? (i := 181) rfl)))) (hw _ (List.mem_of_getElem? (i := 181) rfl)) (hw _ (List.mem_of_getElem? (i := 180) rfl)) (hw _ (List.mem_of_getElem? (i := 81) rfl)) (hw _ (List.mem_of_getElem? (i := 182) rfl)) (by decide) E_r0 (rmEld l Z a0 hw [] r0 (Int32.ofNat i) v0 ed ke vs sz i x h0 n0 Zs rfl hi hsz ⟨E_r0, F_r0_modCount, F_r0_elementData, F_r0_size⟩ V_ed hv) (by decide) (by decide) eq2 (by rw [hml]; rfl) (rest := []) (Nat.le_of_eq rfl) (by decide) (by decide) (lenOf pd_8 rfl) rfl d24_11 (pc' := 14) rfl ?_
  intro T3 v3 L3 X3 hQ3
  obtain ⟨rfl, Nq3, eq3⟩ := hQ3
  have N3 := Fr.app N2 Nq3
  show GolF _ _ _ _ _ _ _ T3 m 14 #[.val (.ref r0), .val (.int (Int32.ofNat i))] [(.ref x)]
  exact Gol.retA X3 hx hby Bd.returns rfl rfl Bd.notSynchronized d24_14 eq3 ⟨rfl, N3, rfl⟩ (by decide) (by decide)
theorem own_not {args : Array Value} {first s : State} {o : Option Outcome} {idx : List Nat} {q : Jvm.Cond} (h : (Jvm.Cond.not q).value args first o s idx = some true) : q.value args first o s idx = some false := by
  cases hq : q.value args first o s idx with
  | none => simp [Cond.value, hq] at h
  | some b => cases b <;> simp [Cond.value, hq] at h ⊢
theorem own_empty {s : State} {args : Array Value} {t : Term} {a : Addr} {cl : Cell} {ty : FieldType} (hf : Fit s) (ev : t.eval args s none [] s = some (.ref a)) (A : Arr s s.heap a cl ty) (q : (Jvm.Cond.eq (Jvm.Term.length t) (Jvm.Term.int (0 : Int32))).value args s none s [] = some true) : Arv s s.heap a cl.cls ty (0 : Int32) [] .null := by
  obtain ⟨x, y, hx, hy, -, -⟩ := cmp_v (Or.inl q)
  obtain ⟨b, cell, e1, e2, e3, rfl⟩ := Jvm.Lib.length_spec hx
  cases ev.symm.trans e1
  cases (A.fin (Vm.Alike.refl _)).symm.trans e2
  have z := gotT (Cond.eq_ints hx (Term.int_eval 0)) q
  exact Arv.start hf A e3 z (by decide) rfl trivial
theorem pn_0 : plainName "com/example/ballast/ballast/runtime/OutboxReleasePinLaw" = true := by first | (simp [plainName, overriddenIn]; done) | decide +kernel
theorem ef_0 (m : MethodId) (p0 : Int32) (p1 : Int32) (p2 : Int32) : entryFrame m #[(.int p0), (.int p1), (.int p2)] maxLocals = mkF m 0 #[.val (.int p0), .val (.int p1), .val (.int p2), .unset, .unset, .unset, .unset, .unset, .unset, .unset, .unset, .unset, .unset] [] := by first | (simp [entryFrame, mkF, argsToLocals, Value.category, maxLocals]; done) | rfl
abbrev Q0 (Z : State) (p0 : Int32) (p1 : Int32) (p2 : Int32) (e0 : Addr) (k0 : ClassId) (zc : Int32) (h0 : Heap) (n0 : Nat) (v : Option Value) (h : Heap) (L : List Loc) : Prop := v = some (.int 1) ∧ Fr n0 L
set_option maxRecDepth 65536 in
set_option maxHeartbeats 40000000 in
theorem rm0 (l : Launch) (Z : State) (a0 : Array Value) (hw : ∀ d ∈ tables_1, d.before a0 Z = true) (ws : List Jvm.Cond) (p0 : Int32) (p1 : Int32) (p2 : Int32) (e0 : Addr) (k0 : ClassId) (zc : Int32) (h0 : Heap) (n0 : Nat) (Z0 : n0 ≤ h0.size) (S0 : Sta Z Z.heap "java/util/ArrayList" "DEFAULTCAPACITY_EMPTY_ELEMENTDATA" "[Ljava/lang/Object;" (.ref e0)) (V0 : Arv Z Z.heap e0 k0 (.object "java/lang/Object") (0 : Int32) [] .null) (O : Old Z n0 h0) (SC : Sta Z Z.heap "java/lang/String" "COMPACT_STRINGS" "Z" (.int zc)) (hzc : ¬ zc = 0) :
    MetFree l x (head1 (Jvm.Cond.code x code maxLocals ret :: ws) room_1) (fun a U => a = #[(.int p0), (.int p1), (.int p2)] ∧ Z.Warmed39 U.vm ∧ U.heap = h0) (fun _ _ _ _ _ => True) (fun _ U o U' => ∃ v L, o = .returned v ∧ Q0 Z p0 p1 p2 e0 k0 zc h0 n0 v U'.heap L ∧ ReturnedEndW U o U' L 17 53) := by
  refine MetFree.of_bodySF (plainFor_of_name pn_0) hisR ?_
  intro p ev s m args below meth c s₁ Bd hml0 hP hK
  obtain ⟨rfl, hZ, hh⟩ := hP
  have hx := Bd.exec
  have hby := Bd.bytes
  have hml : c.maxLocals = 13 := hml0
  have hown : s.vm.findClass "com/example/ballast/ballast/runtime/OutboxReleasePinLaw" = some m.cls := findClass_of_methodNamed Bd.named
  have hnm := (name_of_methodNamed Bd.named Bd.method).1
  have X0 : Stand p l ev room_1 s m #[(.int p0), (.int p1), (.int p2)] below meth c s₁ [] 0 0 := Stand.of_body Bd
  have eh0 : s₁.heap = h0 := by rw [← hh, Bd.state]; rfl
  have N0 := Fr.nil n0
  have Zs := Z0
  show Gol p ev below (ReturnedEndW s) (Q0 Z p0 p1 p2 e0 k0 zc h0 n0) 17 53 (s₁.setTop (entryFrame m #[(.int p0), (.int p1), (.int p2)] maxLocals))
  rw [ef_0]
  have wStr : ∀ a ∈ Bundle.stringAtoms, a.before a0 Z = true := fun d hd => hw d ((by decide +kernel : ∀ d ∈ Bundle.stringAtoms, d ∈ tables_1) d hd)
  have hws : ∀ d ∈ StrChars.Road.words, d.before a0 Z = true := fun d hd => hw d ((by decide +kernel : ∀ d ∈ StrChars.Road.words, d ∈ tables_1) d hd)
  have hSv : s.Since s.vm n0 := (State.WarmedH.refl s).since n0
  have hkv := Z0
  have X0 : Stand p l ev room_1 (s.setVm s.vm) m #[(.int p0), (.int p1), (.int p2)] below meth c s₁ [] 0 0 := X0
  show GolF _ _ _ _ _ _ _ s₁ m 0 #[.val (.int p0), .val (.int p1), .val (.int p2), .unset, .unset, .unset, .unset, .unset, .unset, .unset, .unset, .unset, .unset] []
  refine Gol.iloadN X0 hx hby at_0 (pc' := 1) rfl rfl ?_
  refine Gol.iconst X0 hx hby at_1 (pc' := 2) rfl (z := (1 : Int32)) rfl ?_
  refine Gol.iand X0 hx hby at_2 (pc' := 3) rfl rfl ?_
  refine Gol.dia (S' := (s₁.setTop (mkF m 11 #[.val (.int p0), .val (.int p1), .val (.int p2), .unset, .unset, .unset, .unset, .unset, .unset, .unset, .unset, .unset, .unset] [(.int (if (p0 &&& (1 : Int32)) = (0 : Int32) then (0 : Int32) else (1 : Int32)))]))) ?_ ?_
  · intro k
    by_cases hd3_1 : (p0 &&& (1 : Int32)) = (0 : Int32)
    · rw [if_pos hd3_1] at k
      refine Gol.ifYes X0 hx hby at_3 (pc' := 10) (by decide) ((if0 _ _).trans (teq hd3_1).1) ?_
      refine Gol.iconst X0 hx hby at_10 (pc' := 11) rfl (z := (0 : Int32)) rfl ?_
      exact k
    · rw [if_neg hd3_1] at k
      refine Gol.ifNo X0 hx hby at_3 (pc' := 6) rfl ((if0 _ _).trans (feq hd3_1).1) ?_
      refine Gol.iconst X0 hx hby at_6 (pc' := 7) rfl (z := (1 : Int32)) rfl ?_
      refine Gol.goto X0 hx hby at_7 (pc' := 11) (by decide) ?_
      exact k
  show GolF _ _ _ _ _ _ _ s₁ m 11 #[.val (.int p0), .val (.int p1), .val (.int p2), .unset, .unset, .unset, .unset, .unset, .unset, .unset, .unset, .unset, .unset] [(.int (if (p0 &&& (1 : Int32)) = (0 : Int32) then (0 : Int32) else (1 : Int32)))]
  refine Gol.istoreN X0 hx hby at_11 (pc' := 12) rfl (l' := #[.val (.int p0), .val (.int p1), .val (.int p2), .val (.int (if (p0 &&& (1 : Int32)) = (0 : Int32) then (0 : Int32) else (1 : Int32))), .unset, .unset, .unset, .unset, .unset, .unset, .unset, .unset, .unset]) rfl ?_
  refine Gol.iloadN X0 hx hby at_12 (pc' := 13) rfl rfl ?_
  refine Gol.iconst X0 hx hby at_13 (pc' := 14) rfl (z := (1 : Int32)) rfl ?_
  refine Gol.iushr X0 hx hby at_14 (pc' := 15) rfl rfl ?_
  refine Gol.iconst X0 hx hby at_15 (pc' := 16) rfl (z := (3 : Int32)) rfl ?_
  refine Gol.iand X0 hx hby at_16 (pc' := 17) rfl rfl ?_
  refine Gol.iconst X0 hx hby at_17 (pc' := 18) rfl (z := (3 : Int32)) rfl ?_
  refine Gol.irem X0 hx hby at_18 (pc' := 19) rfl (by decide) ?_
  obtain ⟨nn, hnn⟩ : ∃ z, z = (((XT.ushr p0 (1 : Int32)) &&& (3 : Int32)) % (3 : Int32)) := ⟨_, rfl⟩
  have hn3 : nn = (0 : Int32) ∨ nn = (1 : Int32) ∨ nn = (2 : Int32) := by rw [hnn]; exact own_n3 _
  rw [← hnn]
  show GolF _ _ _ _ _ _ _ s₁ m 19 #[.val (.int p0), .val (.int p1), .val (.int p2), .val (.int (if (p0 &&& (1 : Int32)) = (0 : Int32) then (0 : Int32) else (1 : Int32))), .unset, .unset, .unset, .unset, .unset, .unset, .unset, .unset, .unset] [(.int nn)]
  refine Gol.istore X0 hx hby at_19 (pc' := 21) rfl (l' := #[.val (.int p0), .val (.int p1), .val (.int p2), .val (.int (if (p0 &&& (1 : Int32)) = (0 : Int32) then (0 : Int32) else (1 : Int32))), .val (.int nn), .unset, .unset, .unset, .unset, .unset, .unset, .unset, .unset]) rfl ?_
  refine Gol.iconst X0 hx hby at_21 (pc' := 22) rfl (z := (1 : Int32)) rfl ?_
  refine Gol.newarr X0 hx hby hZ (hw _ (List.mem_of_getElem? (i := 0) rfl)) eh0 1 at_22 (pc' := 24) rfl (by decide) (by decide) (by decide) (by decide) (by decide) ?_
  intro T2 h2 k2 b2 g2 X2 e2 E2 A2
  have g_b2 : n0 ≤ b2 := Nat.le_trans Zs (Nat.le_of_eq g2.symm)
  have O := O.ext E2
  have Zs := Nat.le_trans Zs E2.1
  have hkv := Nat.le_trans hkv E2.1
  have V_b2 : Arv Z h2 b2 k2 .char (1 : Int32) [(.int (0 : Int32))] (.int (0 : Int32)) := A2.pad (pad_rep [] (.int (0 : Int32)) 1)
  refine Gol.dup X2 hx hby at_24 (pc' := 25) rfl rfl ?_
  refine Gol.iconst X2 hx hby at_25 (pc' := 26) rfl (z := (0 : Int32)) rfl ?_
  refine Gol.iloadN X2 hx hby at_26 (pc' := 27) rfl rfl ?_
  refine Gol.sipush X2 hx hby at_27 (pc' := 30) rfl (z := (255 : Int32)) rfl ?_
  refine Gol.iand X2 hx hby at_30 (pc' := 31) rfl rfl ?_
  refine Gol.i2c X2 hx hby at_31 (pc' := 32) rfl rfl ?_
  refine Gol.castore X2 hx hby hZ e2 V_b2 at_32 (pc' := 33) rfl ⟨by decide, by decide⟩ 0 rfl (Nat.le_of_ble_eq_true rfl) ?_
  intro T3 h3 X3 e3 W3 A3
  have V_b2 : Arv Z h3 b2 k2 .char (1 : Int32) [(.int (nar .char ((p1 &&& (255 : Int32)).toUInt32.toUInt16.toUInt32.toInt32)))] (.int (0 : Int32)) := A3
  have O := O.wr W3 g_b2
  have Zs := Nat.le_trans Zs (Keep.of_wr W3).1
  have hkv := Nat.le_trans hkv (Keep.of_wr W3).1
  have N3 := Fr.snoc X3 N0 g_b2
  refine Gol.astore X3 hx hby at_33 (pc' := 35) rfl rfl (l' := #[.val (.int p0), .val (.int p1), .val (.int p2), .val (.int (if (p0 &&& (1 : Int32)) = (0 : Int32) then (0 : Int32) else (1 : Int32))), .val (.int nn), .val (.ref b2), .unset, .unset, .unset, .unset, .unset, .unset, .unset]) rfl ?_
  refine Gol.iconst X3 hx hby at_35 (pc' := 36) rfl (z := (1 : Int32)) rfl ?_
  refine Gol.newarr X3 hx hby hZ (hw _ (List.mem_of_getElem? (i := 0) rfl)) e3 1 at_36 (pc' := 38) rfl (by decide) (by decide) (by decide) (by decide) (by decide) ?_
  intro T4 h4 k4 b4 g4 X4 e4 E4 A4
  have lo_b2_b4 : b2 < b4 := Nat.lt_of_lt_of_le V_b2.lt (Nat.le_of_eq g4.symm)
  have ne_b2_b4 : b2 ≠ b4 := Nat.ne_of_lt lo_b2_b4
  have g_b4 : n0 ≤ b4 := Nat.le_trans Zs (Nat.le_of_eq g4.symm)
  have V_b2 := V_b2.ext E4
  have O := O.ext E4
  have Zs := Nat.le_trans Zs E4.1
  have hkv := Nat.le_trans hkv E4.1
  have V_b4 : Arv Z h4 b4 k4 .char (1 : Int32) [(.int (0 : Int32))] (.int (0 : Int32)) := A4.pad (pad_rep [] (.int (0 : Int32)) 1)
  refine Gol.dup X4 hx hby at_38 (pc' := 39) rfl rfl ?_
  refine Gol.iconst X4 hx hby at_39 (pc' := 40) rfl (z := (0 : Int32)) rfl ?_
  refine Gol.iloadN X4 hx hby at_40 (pc' := 41) rfl rfl ?_
  refine Gol.sipush X4 hx hby at_41 (pc' := 44) rfl (z := (255 : Int32)) rfl ?_
  refine Gol.iand X4 hx hby at_44 (pc' := 45) rfl rfl ?_
  refine Gol.i2c X4 hx hby at_45 (pc' := 46) rfl rfl ?_
  refine Gol.castore X4 hx hby hZ e4 V_b4 at_46 (pc' := 47) rfl ⟨by decide, by decide⟩ 0 rfl (Nat.le_of_ble_eq_true rfl) ?_
  intro T5 h5 X5 e5 W5 A5
  have V_b4 : Arv Z h5 b4 k4 .char (1 : Int32) [(.int (nar .char ((p2 &&& (255 : Int32)).toUInt32.toUInt16.toUInt32.toInt32)))] (.int (0 : Int32)) := A5
  have V_b2 := V_b2.other W5 ne_b2_b4
  have O := O.wr W5 g_b4
  have Zs := Nat.le_trans Zs (Keep.of_wr W5).1
  have hkv := Nat.le_trans hkv (Keep.of_wr W5).1
  have N5 := Fr.snoc X5 N3 g_b4
  refine Gol.astore X5 hx hby at_47 (pc' := 49) rfl rfl (l' := #[.val (.int p0), .val (.int p1), .val (.int p2), .val (.int (if (p0 &&& (1 : Int32)) = (0 : Int32) then (0 : Int32) else (1 : Int32))), .val (.int nn), .val (.ref b2), .val (.ref b4), .unset, .unset, .unset, .unset, .unset, .unset]) rfl ?_
  refine Gol.newO X5 hx hby hZ hown (hw _ (List.mem_of_getElem? (i := 1) rfl)) (hw _ (List.mem_of_getElem? (i := 2) rfl)) (hw _ (List.mem_of_getElem? (i := 3) rfl)) e5 at_49 (pc' := 52) rfl (by decide) (by decide) ?_
  intro T6 h6 b6 g6 X6 e6 E6 A6 D6
  have lo_b2_b6 : b2 < b6 := Nat.lt_of_lt_of_le V_b2.lt (Nat.le_of_eq g6.symm)
  have ne_b2_b6 : b2 ≠ b6 := Nat.ne_of_lt lo_b2_b6
  have lo_b4_b6 : b4 < b6 := Nat.lt_of_lt_of_le V_b4.lt (Nat.le_of_eq g6.symm)
  have ne_b4_b6 : b4 ≠ b6 := Nat.ne_of_lt lo_b4_b6
  have g_b6 : n0 ≤ b6 := Nat.le_trans Zs (Nat.le_of_eq g6.symm)
  have V_b2 := V_b2.ext E6
  have V_b4 := V_b4.ext E6
  have O := O.ext E6
  have Zs := Nat.le_trans Zs E6.1
  have hkv := Nat.le_trans hkv E6.1
  have E_b6 := A6
  have F_b6_type : Fld Z h6 b6 "com/example/ballast/ballast/runtime/ActorId" "type" "Ljava/lang/String;" .null := D6 (Or.inr (hw _ (List.mem_of_getElem? (i := 46) rfl))) (ty := (.object "java/lang/String")) (by decide)
  have F_b6_key : Fld Z h6 b6 "com/example/ballast/ballast/runtime/ActorId" "key" "Ljava/lang/String;" .null := D6 (Or.inr (hw _ (List.mem_of_getElem? (i := 48) rfl))) (ty := (.object "java/lang/String")) (by decide)
  refine Gol.dup X6 hx hby at_52 (pc' := 53) rfl rfl ?_
  refine Gol.ldcStr X6 hx hby hZ hown (hw _ (List.mem_of_getElem? (i := 4) rfl)) wStr e6 hSv hkv 4 at_53 (pc' := 55) rfl (by decide) (by decide) (by decide) (by decide) ?_
  intro sr7 T7 h7 kv7 X7 e7 E7 hSv hkv' hZ hown
  have E_b6 := E_b6.ext E7
  have F_b6_type := F_b6_type.ext E7
  have F_b6_key := F_b6_key.ext E7
  have V_b2 := V_b2.ext E7
  have V_b4 := V_b4.ext E7
  have O := O.ext E7
  have Zs := Nat.le_trans Zs E7.1
  have hkv := Nat.le_trans hkv E7.1
  have hkv := hkv'
  refine Gol.newO X7 hx hby hZ hown (hw _ (List.mem_of_getElem? (i := 12) rfl)) (hw _ (List.mem_of_getElem? (i := 6) rfl)) (hw _ (List.mem_of_getElem? (i := 5) rfl)) e7 at_55 (pc' := 58) rfl (by decide) (by decide) ?_
  intro T8 h8 b8 g8 X8 e8 E8 A8 D8
  have lo_b6_b8 : b6 < b8 := Nat.lt_of_lt_of_le E_b6.lt (Nat.le_of_eq g8.symm)
  have ne_b6_b8 : b6 ≠ b8 := Nat.ne_of_lt lo_b6_b8
  have lo_b2_b8 : b2 < b8 := Nat.lt_of_lt_of_le V_b2.lt (Nat.le_of_eq g8.symm)
  have ne_b2_b8 : b2 ≠ b8 := Nat.ne_of_lt lo_b2_b8
  have lo_b4_b8 : b4 < b8 := Nat.lt_of_lt_of_le V_b4.lt (Nat.le_of_eq g8.symm)
  have ne_b4_b8 : b4 ≠ b8 := Nat.ne_of_lt lo_b4_b8
  have g_b8 : n0 ≤ b8 := Nat.le_trans Zs (Nat.le_of_eq g8.symm)
  have E_b6 := E_b6.ext E8
  have F_b6_type := F_b6_type.ext E8
  have F_b6_key := F_b6_key.ext E8
  have V_b2 := V_b2.ext E8
  have V_b4 := V_b4.ext E8
  have O := O.ext E8
  have Zs := Nat.le_trans Zs E8.1
  have hkv := Nat.le_trans hkv E8.1
  have E_b8 := A8
  have F_b8_value : Fld Z h8 b8 "java/lang/String" "value" "[B" .null := D8 (Or.inr (hw _ (List.mem_of_getElem? (i := 8) rfl))) (ty := (.array .byte)) (by decide)
  have F_b8_coder : Fld Z h8 b8 "java/lang/String" "coder" "B" (.int (0 : Int32)) := D8 (Or.inr (hw _ (List.mem_of_getElem? (i := 9) rfl))) (ty := .byte) (by decide)
  refine Gol.dup X8 hx hby at_58 (pc' := 59) rfl rfl ?_
  refine Gol.aload X8 hx hby at_59 (pc' := 61) rfl rfl rfl ?_
  refine Gol.callB X8 hx hby hZ hown 4 [(.ref b2)] (a := b8) (ck := 1) (cn := 1) (hw _ (List.mem_of_getElem? (i := 13) rfl)) (hw _ (List.mem_of_getElem? (i := 14) rfl)) (hw _ (List.mem_of_getElem? (i := 15) rfl)) rfl (by decide) (StrChars.Road.backV (W := 4) hZ hws (kI := 4) (hw _ (List.mem_of_getElem? (i := 6) rfl)) (cs := [(nar .char ((p1 &&& (255 : Int32)).toUInt32.toUInt16.toUInt32.toInt32))]) (bs := [((nar .char ((p1 &&& (255 : Int32)).toUInt32.toUInt16.toUInt32.toInt32))).toInt8.toInt32]) (n := 1) g_b8 Zs E_b8 F_b8_value F_b8_coder V_b2 (SC.ext O.2) hzc rfl rfl (by decide) (by decide) (own_lat _) rfl (by decide) (by decide)) e8 (by rw [hml]; rfl) (rest := [(.ref b8), (.ref sr7), (.ref b6), (.ref b6)]) (Nat.le_of_eq rfl) (by decide) (by decide) (lenOf pd_9 rfl) rfl at_61 (pc' := 64) rfl ?_
  intro T9 v9 L9 X9 hQ9
  obtain ⟨rfl, Nq9, Kq9, -⟩ := hQ9
  have N9 := Fr.app N5 Nq9
  have E_b6 := E_b6.keep Kq9
  have E_b8 := E_b8.keep Kq9
  have F_b6_type := F_b6_type.keep Kq9 (ninS ne_b6_b8 nin0)
  have F_b6_key := F_b6_key.keep Kq9 (ninS ne_b6_b8 nin0)
  have V_b2 := V_b2.keep Kq9 (ninS ne_b2_b8 nin0)
  have V_b4 := V_b4.keep Kq9 (ninS ne_b4_b8 nin0)
  have O := O.keep Kq9 (allS g_b8 all0)
  have Zs := Nat.le_trans Zs Kq9.1
  have hkv := Nat.le_trans hkv Kq9.1
  show GolF _ _ _ _ _ _ _ T9 m 64 #[.val (.int p0), .val (.int p1), .val (.int p2), .val (.int (if (p0 &&& (1 : Int32)) = (0 : Int32) then (0 : Int32) else (1 : Int32))), .val (.int nn), .val (.ref b2), .val (.ref b4), .unset, .unset, .unset, .unset, .unset, .unset] [(.ref b8), (.ref sr7), (.ref b6), (.ref b6)]
  refine Gol.callI X9 hx hby hZ hown 1 [(.ref sr7), (.ref b8)] (a := b6) (hw _ (List.mem_of_getElem? (i := 36) rfl)) (hw _ (List.mem_of_getElem? (i := 37) rfl)) (hw _ (List.mem_of_getElem? (i := 3) rfl)) rfl (hw _ (List.mem_of_getElem? (i := 38) rfl)) rfl (by decide) (rmAct l Z a0 hw [] b6 sr7 b8  T9.heap n0 Zs ⟨E_b6, F_b6_type, F_b6_key⟩ g_b6) (by decide) (by decide) rfl (by rw [hml]; rfl) (rest := [(.ref b6)]) (Nat.le_of_eq rfl) (by decide) (by decide) (lenOf pd_10 rfl) rfl at_64 (pc' := 67) rfl ?_
  intro T10 v10 L10 X10 hQ10
  obtain ⟨rfl, Nq10, Kq10⟩ := hQ10
  have N10 := Fr.app N9 Nq10
  have E_b6 := E_b6.keep Kq10
  have V_b4 := V_b4.keep Kq10 (ninS ne_b4_b6 nin0)
  have O := O.keep Kq10 (allS g_b6 all0)
  have Zs := Nat.le_trans Zs Kq10.1
  have hkv := Nat.le_trans hkv Kq10.1
  show GolF _ _ _ _ _ _ _ T10 m 67 #[.val (.int p0), .val (.int p1), .val (.int p2), .val (.int (if (p0 &&& (1 : Int32)) = (0 : Int32) then (0 : Int32) else (1 : Int32))), .val (.int nn), .val (.ref b2), .val (.ref b4), .unset, .unset, .unset, .unset, .unset, .unset] [(.ref b6)]
  refine Gol.astore X10 hx hby at_67 (pc' := 69) rfl rfl (l' := #[.val (.int p0), .val (.int p1), .val (.int p2), .val (.int (if (p0 &&& (1 : Int32)) = (0 : Int32) then (0 : Int32) else (1 : Int32))), .val (.int nn), .val (.ref b2), .val (.ref b4), .val (.ref b6), .unset, .unset, .unset, .unset, .unset]) rfl ?_
  refine Gol.newO X10 hx hby hZ hown (hw _ (List.mem_of_getElem? (i := 1) rfl)) (hw _ (List.mem_of_getElem? (i := 2) rfl)) (hw _ (List.mem_of_getElem? (i := 3) rfl)) rfl at_69 (pc' := 72) rfl (by decide) (by decide) ?_
  intro T11 h11 b11 g11 X11 e11 E11 A11 D11
  have lo_b4_b11 : b4 < b11 := Nat.lt_of_lt_of_le V_b4.lt (Nat.le_of_eq g11.symm)
  have ne_b4_b11 : b4 ≠ b11 := Nat.ne_of_lt lo_b4_b11
  have g_b11 : n0 ≤ b11 := Nat.le_trans Zs (Nat.le_of_eq g11.symm)
  have V_b4 := V_b4.ext E11
  have O := O.ext E11
  have Zs := Nat.le_trans Zs E11.1
  have hkv := Nat.le_trans hkv E11.1
  have E_b11 := A11
  have F_b11_type : Fld Z h11 b11 "com/example/ballast/ballast/runtime/ActorId" "type" "Ljava/lang/String;" .null := D11 (Or.inr (hw _ (List.mem_of_getElem? (i := 46) rfl))) (ty := (.object "java/lang/String")) (by decide)
  have F_b11_key : Fld Z h11 b11 "com/example/ballast/ballast/runtime/ActorId" "key" "Ljava/lang/String;" .null := D11 (Or.inr (hw _ (List.mem_of_getElem? (i := 48) rfl))) (ty := (.object "java/lang/String")) (by decide)
  refine Gol.dup X11 hx hby at_72 (pc' := 73) rfl rfl ?_
  refine Gol.ldcStr X11 hx hby hZ hown (hw _ (List.mem_of_getElem? (i := 49) rfl)) wStr e11 hSv hkv 4 at_73 (pc' := 75) rfl (by decide) (by decide) (by decide) (by decide) ?_
  intro sr12 T12 h12 kv12 X12 e12 E12 hSv hkv' hZ hown
  have E_b11 := E_b11.ext E12
  have F_b11_type := F_b11_type.ext E12
  have F_b11_key := F_b11_key.ext E12
  have V_b4 := V_b4.ext E12
  have O := O.ext E12
  have Zs := Nat.le_trans Zs E12.1
  have hkv := Nat.le_trans hkv E12.1
  have hkv := hkv'
  refine Gol.newO X12 hx hby hZ hown (hw _ (List.mem_of_getElem? (i := 12) rfl)) (hw _ (List.mem_of_getElem? (i := 6) rfl)) (hw _ (List.mem_of_getElem? (i := 5) rfl)) e12 at_75 (pc' := 78) rfl (by decide) (by decide) ?_
  intro T13 h13 b13 g13 X13 e13 E13 A13 D13
  have lo_b11_b13 : b11 < b13 := Nat.lt_of_lt_of_le E_b11.lt (Nat.le_of_eq g13.symm)
  have ne_b11_b13 : b11 ≠ b13 := Nat.ne_of_lt lo_b11_b13
  have lo_b4_b13 : b4 < b13 := Nat.lt_of_lt_of_le V_b4.lt (Nat.le_of_eq g13.symm)
  have ne_b4_b13 : b4 ≠ b13 := Nat.ne_of_lt lo_b4_b13
  have g_b13 : n0 ≤ b13 := Nat.le_trans Zs (Nat.le_of_eq g13.symm)
  have E_b11 := E_b11.ext E13
  have F_b11_type := F_b11_type.ext E13
  have F_b11_key := F_b11_key.ext E13
  have V_b4 := V_b4.ext E13
  have O := O.ext E13
  have Zs := Nat.le_trans Zs E13.1
  have hkv := Nat.le_trans hkv E13.1
  have E_b13 := A13
  have F_b13_value : Fld Z h13 b13 "java/lang/String" "value" "[B" .null := D13 (Or.inr (hw _ (List.mem_of_getElem? (i := 8) rfl))) (ty := (.array .byte)) (by decide)
  have F_b13_coder : Fld Z h13 b13 "java/lang/String" "coder" "B" (.int (0 : Int32)) := D13 (Or.inr (hw _ (List.mem_of_getElem? (i := 9) rfl))) (ty := .byte) (by decide)
  refine Gol.dup X13 hx hby at_78 (pc' := 79) rfl rfl ?_
  refine Gol.aload X13 hx hby at_79 (pc' := 81) rfl rfl rfl ?_
  refine Gol.callB X13 hx hby hZ hown 4 [(.ref b4)] (a := b13) (ck := 1) (cn := 1) (hw _ (List.mem_of_getElem? (i := 13) rfl)) (hw _ (List.mem_of_getElem? (i := 14) rfl)) (hw _ (List.mem_of_getElem? (i := 15) rfl)) rfl (by decide) (StrChars.Road.backV (W := 4) hZ hws (kI := 4) (hw _ (List.mem_of_getElem? (i := 6) rfl)) (cs := [(nar .char ((p2 &&& (255 : Int32)).toUInt32.toUInt16.toUInt32.toInt32))]) (bs := [((nar .char ((p2 &&& (255 : Int32)).toUInt32.toUInt16.toUInt32.toInt32))).toInt8.toInt32]) (n := 1) g_b13 Zs E_b13 F_b13_value F_b13_coder V_b4 (SC.ext O.2) hzc rfl rfl (by decide) (by decide) (own_lat _) rfl (by decide) (by decide)) e13 (by rw [hml]; rfl) (rest := [(.ref b13), (.ref sr12), (.ref b11), (.ref b11)]) (Nat.le_of_eq rfl) (by decide) (by decide) (lenOf pd_9 rfl) rfl at_81 (pc' := 84) rfl ?_
  intro T14 v14 L14 X14 hQ14
  obtain ⟨rfl, Nq14, Kq14, -⟩ := hQ14
  have N14 := Fr.app N10 Nq14
  have E_b11 := E_b11.keep Kq14
  have E_b13 := E_b13.keep Kq14
  have F_b11_type := F_b11_type.keep Kq14 (ninS ne_b11_b13 nin0)
  have F_b11_key := F_b11_key.keep Kq14 (ninS ne_b11_b13 nin0)
  have V_b4 := V_b4.keep Kq14 (ninS ne_b4_b13 nin0)
  have O := O.keep Kq14 (allS g_b13 all0)
  have Zs := Nat.le_trans Zs Kq14.1
  have hkv := Nat.le_trans hkv Kq14.1
  show GolF _ _ _ _ _ _ _ T14 m 84 #[.val (.int p0), .val (.int p1), .val (.int p2), .val (.int (if (p0 &&& (1 : Int32)) = (0 : Int32) then (0 : Int32) else (1 : Int32))), .val (.int nn), .val (.ref b2), .val (.ref b4), .val (.ref b6), .unset, .unset, .unset, .unset, .unset] [(.ref b13), (.ref sr12), (.ref b11), (.ref b11)]
  refine Gol.callI X14 hx hby hZ hown 1 [(.ref sr12), (.ref b13)] (a := b11) (hw _ (List.mem_of_getElem? (i := 36) rfl)) (hw _ (List.mem_of_getElem? (i := 37) rfl)) (hw _ (List.mem_of_getElem? (i := 3) rfl)) rfl (hw _ (List.mem_of_getElem? (i := 38) rfl)) rfl (by decide) (rmAct l Z a0 hw [] b11 sr12 b13  T14.heap n0 Zs ⟨E_b11, F_b11_type, F_b11_key⟩ g_b11) (by decide) (by decide) rfl (by rw [hml]; rfl) (rest := [(.ref b11)]) (Nat.le_of_eq rfl) (by decide) (by decide) (lenOf pd_10 rfl) rfl at_84 (pc' := 87) rfl ?_
  intro T15 v15 L15 X15 hQ15
  obtain ⟨rfl, Nq15, Kq15⟩ := hQ15
  have N15 := Fr.app N14 Nq15
  have E_b11 := E_b11.keep Kq15
  have O := O.keep Kq15 (allS g_b11 all0)
  have Zs := Nat.le_trans Zs Kq15.1
  have hkv := Nat.le_trans hkv Kq15.1
  show GolF _ _ _ _ _ _ _ T15 m 87 #[.val (.int p0), .val (.int p1), .val (.int p2), .val (.int (if (p0 &&& (1 : Int32)) = (0 : Int32) then (0 : Int32) else (1 : Int32))), .val (.int nn), .val (.ref b2), .val (.ref b4), .val (.ref b6), .unset, .unset, .unset, .unset, .unset] [(.ref b11)]
  refine Gol.astore X15 hx hby at_87 (pc' := 89) rfl rfl (l' := #[.val (.int p0), .val (.int p1), .val (.int p2), .val (.int (if (p0 &&& (1 : Int32)) = (0 : Int32) then (0 : Int32) else (1 : Int32))), .val (.int nn), .val (.ref b2), .val (.ref b4), .val (.ref b6), .val (.ref b11), .unset, .unset, .unset, .unset]) rfl ?_
  refine Gol.newO X15 hx hby hZ hown (hw _ (List.mem_of_getElem? (i := 50) rfl)) (hw _ (List.mem_of_getElem? (i := 51) rfl)) (hw _ (List.mem_of_getElem? (i := 52) rfl)) rfl at_89 (pc' := 92) rfl (by decide) (by decide) ?_
  intro T16 h16 b16 g16 X16 e16 E16 A16 D16
  have g_b16 : n0 ≤ b16 := Nat.le_trans Zs (Nat.le_of_eq g16.symm)
  have O := O.ext E16
  have Zs := Nat.le_trans Zs E16.1
  have hkv := Nat.le_trans hkv E16.1
  have E_b16 := A16
  have F_b16_lastSent : Fld Z h16 b16 "com/example/ballast/ballast/runtime/Outbox" "lastSent" "J" (.long (0 : Int64)) := D16 (Or.inl (hw _ (List.mem_of_getElem? (i := 59) rfl))) (ty := .long) (by decide)
  have F_b16_deferredMove : Fld Z h16 b16 "com/example/ballast/ballast/runtime/Outbox" "deferredMove" "I" (.int (0 : Int32)) := D16 (Or.inl (hw _ (List.mem_of_getElem? (i := 61) rfl))) (ty := .int) (by decide)
  have F_b16_held : Fld Z h16 b16 "com/example/ballast/ballast/runtime/Outbox" "held" "Ljava/util/List;" .null := D16 (Or.inl (hw _ (List.mem_of_getElem? (i := 68) rfl))) (ty := (.object "java/util/List")) (by decide)
  refine Gol.dup X16 hx hby at_92 (pc' := 93) rfl rfl ?_
  refine Gol.callI X16 hx hby hZ hown 1 [] (a := b16) (hw _ (List.mem_of_getElem? (i := 53) rfl)) (hw _ (List.mem_of_getElem? (i := 54) rfl)) (hw _ (List.mem_of_getElem? (i := 52) rfl)) rfl (hw _ (List.mem_of_getElem? (i := 55) rfl)) rfl (by decide) (rmInit l Z a0 hw [] b16  h16 n0 Zs ⟨E_b16, F_b16_lastSent, F_b16_held, F_b16_deferredMove⟩ g_b16) (by decide) (by decide) e16 (by rw [hml]; rfl) (rest := [(.ref b16)]) (Nat.le_of_eq rfl) (by decide) (by decide) (lenOf pd_0 rfl) rfl at_93 (pc' := 96) rfl ?_
  intro T17 v17 L17 X17 hQ17
  obtain ⟨rfl, Nq17, Kq17, Oq17⟩ := hQ17
  have N17 := Fr.app N15 Nq17
  have E_b16 := E_b16.keep Kq17
  have O := O.keep Kq17 (allS g_b16 all0)
  have Zs := Nat.le_trans Zs Kq17.1
  have hkv := Nat.le_trans hkv Kq17.1
  show GolF _ _ _ _ _ _ _ T17 m 96 #[.val (.int p0), .val (.int p1), .val (.int p2), .val (.int (if (p0 &&& (1 : Int32)) = (0 : Int32) then (0 : Int32) else (1 : Int32))), .val (.int nn), .val (.ref b2), .val (.ref b4), .val (.ref b6), .val (.ref b11), .unset, .unset, .unset, .unset] [(.ref b16)]
  obtain ⟨E_b16, F_b16_lastSent, F_b16_held, F_b16_deferredMove⟩ := Oq17
  refine Gol.astore X17 hx hby at_96 (pc' := 98) rfl rfl (l' := #[.val (.int p0), .val (.int p1), .val (.int p2), .val (.int (if (p0 &&& (1 : Int32)) = (0 : Int32) then (0 : Int32) else (1 : Int32))), .val (.int nn), .val (.ref b2), .val (.ref b4), .val (.ref b6), .val (.ref b11), .val (.ref b16), .unset, .unset, .unset]) rfl ?_
  refine Gol.iloadN X17 hx hby at_98 (pc' := 99) rfl rfl ?_
  by_cases hc99_18 : (if (p0 &&& (1 : Int32)) = (0 : Int32) then (0 : Int32) else (1 : Int32)) = (0 : Int32)
  · skip
    refine Gol.ifYes X17 hx hby at_99 (pc' := 135) (by decide) ((if0 _ _).trans (teq hc99_18).1) ?_
    refine Gol.aload X17 hx hby at_135 (pc' := 137) rfl rfl rfl ?_
    refine Gol.callV X17 hx hby hZ hown 0 [] (a := b16) (hw _ (List.mem_of_getElem? (i := 62) rfl)) (hw _ (List.mem_of_getElem? (i := 63) rfl)) (notFace_of_selects (args := #[]) (mvT hZ (hw _ (List.mem_of_getElem? (i := 65) rfl)))) (hw _ (List.mem_of_getElem? (i := 65) rfl)) (hw _ (List.mem_of_getElem? (i := 64) rfl)) (hw _ (List.mem_of_getElem? (i := 52) rfl)) (hw _ (List.mem_of_getElem? (i := 66) rfl)) (by decide) E_b16 (rmRelN l Z a0 hw [] b16 (.long (-1 : Int64)) .null (.int (-1 : Int32)) T17.heap n0 Zs ⟨E_b16, F_b16_lastSent, F_b16_held, F_b16_deferredMove⟩ g_b16) (by decide) (by decide) rfl (by rw [hml]; rfl) (rest := []) (Nat.le_of_eq rfl) (by decide) (by decide) (lenOf pd_11 rfl) rfl at_137 (pc' := 140) rfl ?_
    intro T19 v19 L19 X19 hQ19
    obtain ⟨rfl, Nq19, Kq19, Oq19⟩ := hQ19
    have N19 := Fr.app N17 Nq19
    have E_b16 := E_b16.keep Kq19
    have O := O.keep Kq19 (allS g_b16 all0)
    have Zs := Nat.le_trans Zs Kq19.1
    have hkv := Nat.le_trans hkv Kq19.1
    show GolF _ _ _ _ _ _ _ T19 m 140 #[.val (.int p0), .val (.int p1), .val (.int p2), .val (.int (if (p0 &&& (1 : Int32)) = (0 : Int32) then (0 : Int32) else (1 : Int32))), .val (.int nn), .val (.ref b2), .val (.ref b4), .val (.ref b6), .val (.ref b11), .val (.ref b16), .unset, .unset, .unset] [.null]
    obtain ⟨E_b16, F_b16_lastSent, F_b16_held, F_b16_deferredMove⟩ := Oq19
    refine Gol.astore X19 hx hby at_140 (pc' := 142) rfl rfl (l' := #[.val (.int p0), .val (.int p1), .val (.int p2), .val (.int (if (p0 &&& (1 : Int32)) = (0 : Int32) then (0 : Int32) else (1 : Int32))), .val (.int nn), .val (.ref b2), .val (.ref b4), .val (.ref b6), .val (.ref b11), .val (.ref b16), .val .null, .unset, .unset]) rfl ?_
    refine Gol.aload X19 hx hby at_142 (pc' := 144) rfl rfl rfl ?_
    refine Gol.callV X19 hx hby hZ hown 0 [] (a := b16) (hw _ (List.mem_of_getElem? (i := 69) rfl)) (hw _ (List.mem_of_getElem? (i := 70) rfl)) (notFace_of_selects (args := #[]) (mvT hZ (hw _ (List.mem_of_getElem? (i := 72) rfl)))) (hw _ (List.mem_of_getElem? (i := 72) rfl)) (hw _ (List.mem_of_getElem? (i := 71) rfl)) (hw _ (List.mem_of_getElem? (i := 52) rfl)) (hw _ (List.mem_of_getElem? (i := 73) rfl)) (by decide) E_b16 (rmHolN l Z a0 hw [] b16 (.long (-1 : Int64)) .null (.int (-1 : Int32)) T19.heap n0 Zs ⟨E_b16, F_b16_lastSent, F_b16_held, F_b16_deferredMove⟩ g_b16) (by decide) (by decide) rfl (by rw [hml]; rfl) (rest := []) (Nat.le_of_eq rfl) (by decide) (by decide) (lenOf pd_12 rfl) rfl at_144 (pc' := 147) rfl ?_
    intro T20 v20 L20 X20 hQ20
    obtain ⟨rfl, Nq20, eq20⟩ := hQ20
    have N20 := Fr.app N19 Nq20
    show GolF _ _ _ _ _ _ _ T20 m 147 #[.val (.int p0), .val (.int p1), .val (.int p2), .val (.int (if (p0 &&& (1 : Int32)) = (0 : Int32) then (0 : Int32) else (1 : Int32))), .val (.int nn), .val (.ref b2), .val (.ref b4), .val (.ref b6), .val (.ref b11), .val (.ref b16), .val .null, .unset, .unset] [(.int (0 : Int32))]
    refine Gol.ifNo X20 hx hby at_147 (pc' := 150) rfl ((if0 _ _).trans (teq (by decide : (0 : Int32) = (0 : Int32))).2) ?_
    refine Gol.iconst X20 hx hby at_150 (pc' := 151) rfl (z := (1 : Int32)) rfl ?_
    refine Gol.goto X20 hx hby at_151 (pc' := 155) (by decide) ?_
    refine Gol.istore X20 hx hby at_155 (pc' := 157) rfl (l' := #[.val (.int p0), .val (.int p1), .val (.int p2), .val (.int (if (p0 &&& (1 : Int32)) = (0 : Int32) then (0 : Int32) else (1 : Int32))), .val (.int nn), .val (.ref b2), .val (.ref b4), .val (.ref b6), .val (.ref b11), .val (.ref b16), .val .null, .val (.int (1 : Int32)), .unset]) rfl ?_
    refine Gol.iloadN X20 hx hby at_157 (pc' := 158) rfl rfl ?_
    refine Gol.ifNo X20 hx hby at_158 (pc' := 161) rfl ((if0 _ _).trans (teq hc99_18).2) ?_
    refine Gol.iload X20 hx hby at_161 (pc' := 163) rfl rfl ?_
    refine Gol.ifNo X20 hx hby at_163 (pc' := 166) rfl ((if0 _ _).trans (feq (by decide : ¬ ((1 : Int32) = (0 : Int32)))).1) ?_
    refine Gol.aload X20 hx hby at_166 (pc' := 168) rfl rfl rfl ?_
    refine Gol.ifnonnullNo X20 hx hby at_168 (pc' := 171) rfl ?_
    refine Gol.iconst X20 hx hby at_171 (pc' := 172) rfl (z := (1 : Int32)) rfl ?_
    refine Gol.goto X20 hx hby at_172 (pc' := 176) (by decide) ?_
    refine Gol.istore X20 hx hby at_176 (pc' := 178) rfl (l' := #[.val (.int p0), .val (.int p1), .val (.int p2), .val (.int (if (p0 &&& (1 : Int32)) = (0 : Int32) then (0 : Int32) else (1 : Int32))), .val (.int nn), .val (.ref b2), .val (.ref b4), .val (.ref b6), .val (.ref b11), .val (.ref b16), .val .null, .val (.int (1 : Int32)), .unset]) rfl ?_
    refine Gol.goto X20 hx hby at_178 (pc' := 310) (by decide) ?_
    refine Gol.iload X20 hx hby at_310 (pc' := 312) rfl rfl ?_
    refine Gol.ifNo X20 hx hby at_312 (pc' := 315) rfl ((if0 _ _).trans (feq (by decide : ¬ ((1 : Int32) = (0 : Int32)))).1) ?_
    refine Gol.aload X20 hx hby at_315 (pc' := 317) rfl rfl rfl ?_
    refine Gol.callV X20 hx hby hZ hown 0 [] (a := b16) (hw _ (List.mem_of_getElem? (i := 62) rfl)) (hw _ (List.mem_of_getElem? (i := 63) rfl)) (notFace_of_selects (args := #[]) (mvT hZ (hw _ (List.mem_of_getElem? (i := 65) rfl)))) (hw _ (List.mem_of_getElem? (i := 65) rfl)) (hw _ (List.mem_of_getElem? (i := 64) rfl)) (hw _ (List.mem_of_getElem? (i := 52) rfl)) (hw _ (List.mem_of_getElem? (i := 66) rfl)) (by decide) E_b16 (rmRelN l Z a0 hw [] b16 (.long (-1 : Int64)) .null (.int (-1 : Int32)) T19.heap n0 Zs ⟨E_b16, F_b16_lastSent, F_b16_held, F_b16_deferredMove⟩ g_b16) (by decide) (by decide) eq20 (by rw [hml]; rfl) (rest := []) (Nat.le_of_eq rfl) (by decide) (by decide) (lenOf pd_11 rfl) rfl at_317 (pc' := 320) rfl ?_
    intro T21 v21 L21 X21 hQ21
    obtain ⟨rfl, Nq21, Kq21, Oq21⟩ := hQ21
    have N21 := Fr.app N20 Nq21
    have E_b16 := E_b16.keep Kq21
    have O := O.keep Kq21 (allS g_b16 all0)
    have Zs := Nat.le_trans Zs Kq21.1
    have hkv := Nat.le_trans hkv Kq21.1
    show GolF _ _ _ _ _ _ _ T21 m 320 #[.val (.int p0), .val (.int p1), .val (.int p2), .val (.int (if (p0 &&& (1 : Int32)) = (0 : Int32) then (0 : Int32) else (1 : Int32))), .val (.int nn), .val (.ref b2), .val (.ref b4), .val (.ref b6), .val (.ref b11), .val (.ref b16), .val .null, .val (.int (1 : Int32)), .unset] [.null]
    obtain ⟨E_b16, F_b16_lastSent, F_b16_held, F_b16_deferredMove⟩ := Oq21
    refine Gol.ifnonnullNo X21 hx hby at_320 (pc' := 323) rfl ?_
    refine Gol.iconst X21 hx hby at_323 (pc' := 324) rfl (z := (1 : Int32)) rfl ?_
    refine Gol.goto X21 hx hby at_324 (pc' := 328) (by decide) ?_
    refine Gol.istore X21 hx hby at_328 (pc' := 330) rfl (l' := #[.val (.int p0), .val (.int p1), .val (.int p2), .val (.int (if (p0 &&& (1 : Int32)) = (0 : Int32) then (0 : Int32) else (1 : Int32))), .val (.int nn), .val (.ref b2), .val (.ref b4), .val (.ref b6), .val (.ref b11), .val (.ref b16), .val .null, .val (.int (1 : Int32)), .unset]) rfl ?_
    refine Gol.iload X21 hx hby at_330 (pc' := 332) rfl rfl ?_
    exact Gol.retNW X21 hx hby hSv hkv (t := .boolean) Bd.returns (by simp) Bd.notSynchronized at_332 rfl ⟨rfl, N21⟩ (by decide) (by decide)
  · skip
    refine Gol.ifNo X17 hx hby at_99 (pc' := 102) rfl ((if0 _ _).trans (feq hc99_18).1) ?_
    refine Gol.aload X17 hx hby at_102 (pc' := 104) rfl rfl rfl ?_
    refine Gol.callV X17 hx hby hZ hown 0 [] (a := b16) (hw _ (List.mem_of_getElem? (i := 74) rfl)) (hw _ (List.mem_of_getElem? (i := 75) rfl)) (notFace_of_selects (args := #[]) (mvT hZ (hw _ (List.mem_of_getElem? (i := 77) rfl)))) (hw _ (List.mem_of_getElem? (i := 77) rfl)) (hw _ (List.mem_of_getElem? (i := 76) rfl)) (hw _ (List.mem_of_getElem? (i := 52) rfl)) (hw _ (List.mem_of_getElem? (i := 78) rfl)) (by decide) E_b16 (rmHur l Z a0 hw [] b16 (.long (-1 : Int64)) .null .null (.int (-1 : Int32)) e0 k0 T17.heap n0 Zs ⟨E_b16, F_b16_lastSent, F_b16_held, F_b16_deferredMove⟩ g_b16 S0 V0 O) (by decide) (by decide) rfl (by rw [hml]; rfl) (rest := []) (Nat.le_of_eq rfl) (by decide) (by decide) (lenOf pd_0 rfl) rfl at_104 (pc' := 107) rfl ?_
    intro T22 v22 L22 X22 hQ22
    obtain ⟨rfl, Nq22, Kq22, b22, hb22, Oq22, Lq22⟩ := hQ22
    have N22 := Fr.app N17 Nq22
    have lo_b16_b22 : b16 < b22 := Nat.lt_of_lt_of_le E_b16.lt hb22
    have ne_b16_b22 : b16 ≠ b22 := Nat.ne_of_lt lo_b16_b22
    have g_b22 : n0 ≤ b22 := Nat.le_trans Zs hb22
    have E_b16 := E_b16.keep Kq22
    have O := O.keep Kq22 (allS g_b16 all0)
    have Zs := Nat.le_trans Zs Kq22.1
    have hkv := Nat.le_trans hkv Kq22.1
    show GolF _ _ _ _ _ _ _ T22 m 107 #[.val (.int p0), .val (.int p1), .val (.int p2), .val (.int (if (p0 &&& (1 : Int32)) = (0 : Int32) then (0 : Int32) else (1 : Int32))), .val (.int nn), .val (.ref b2), .val (.ref b4), .val (.ref b6), .val (.ref b11), .val (.ref b16), .unset, .unset, .unset] []
    obtain ⟨E_b16, F_b16_lastSent, F_b16_held, F_b16_deferredMove⟩ := Oq22
    obtain ⟨E_b22, F_b22_modCount, F_b22_elementData, F_b22_size⟩ := Lq22
    rcases hn3 with hk | hk | hk
    · skip
      subst hk
      show GolF _ _ _ _ _ _ _ T22 m 107 #[.val (.int p0), .val (.int p1), .val (.int p2), .val (.int (if (p0 &&& (1 : Int32)) = (0 : Int32) then (0 : Int32) else (1 : Int32))), .val (.int (0 : Int32)), .val (.ref b2), .val (.ref b4), .val (.ref b6), .val (.ref b11), .val (.ref b16), .unset, .unset, .unset] []
      refine Gol.iload X22 hx hby at_107 (pc' := 109) rfl rfl ?_
      refine Gol.iconst X22 hx hby at_109 (pc' := 110) rfl (z := (1 : Int32)) rfl ?_
      refine Gol.icmpYes X22 hx hby at_110 (pc' := 121) (by decide) (tlt (by decide : (0 : Int32) < (1 : Int32))).1 ?_
      refine Gol.iload X22 hx hby at_121 (pc' := 123) rfl rfl ?_
      refine Gol.iconst X22 hx hby at_123 (pc' := 124) rfl (z := (2 : Int32)) rfl ?_
      refine Gol.icmpYes X22 hx hby at_124 (pc' := 135) (by decide) (tlt (by decide : (0 : Int32) < (2 : Int32))).1 ?_
      refine Gol.aload X22 hx hby at_135 (pc' := 137) rfl rfl rfl ?_
      refine Gol.callV X22 hx hby hZ hown 0 [] (a := b16) (hw _ (List.mem_of_getElem? (i := 62) rfl)) (hw _ (List.mem_of_getElem? (i := 63) rfl)) (notFace_of_selects (args := #[]) (mvT hZ (hw _ (List.mem_of_getElem? (i := 65) rfl)))) (hw _ (List.mem_of_getElem? (i := 65) rfl)) (hw _ (List.mem_of_getElem? (i := 64) rfl)) (hw _ (List.mem_of_getElem? (i := 52) rfl)) (hw _ (List.mem_of_getElem? (i := 66) rfl)) (by decide) E_b16 (rmRelR l Z a0 hw [] b16 (.long (-1 : Int64)) .null (.int (-1 : Int32)) b22 T22.heap n0 Zs ⟨E_b16, F_b16_lastSent, F_b16_held, F_b16_deferredMove⟩ g_b16) (by decide) (by decide) rfl (by rw [hml]; rfl) (rest := []) (Nat.le_of_eq rfl) (by decide) (by decide) (lenOf pd_11 rfl) rfl at_137 (pc' := 140) rfl ?_
      intro T23 v23 L23 X23 hQ23
      obtain ⟨rfl, Nq23, Kq23, Oq23⟩ := hQ23
      have N23 := Fr.app N22 Nq23
      have E_b16 := E_b16.keep Kq23
      have E_b22 := E_b22.keep Kq23
      have F_b22_modCount := F_b22_modCount.keep Kq23 (ninS ne_b16_b22.symm nin0)
      have F_b22_elementData := F_b22_elementData.keep Kq23 (ninS ne_b16_b22.symm nin0)
      have F_b22_size := F_b22_size.keep Kq23 (ninS ne_b16_b22.symm nin0)
      have O := O.keep Kq23 (allS g_b16 all0)
      have Zs := Nat.le_trans Zs Kq23.1
      have hkv := Nat.le_trans hkv Kq23.1
      show GolF _ _ _ _ _ _ _ T23 m 140 #[.val (.int p0), .val (.int p1), .val (.int p2), .val (.int (if (p0 &&& (1 : Int32)) = (0 : Int32) then (0 : Int32) else (1 : Int32))), .val (.int (0 : Int32)), .val (.ref b2), .val (.ref b4), .val (.ref b6), .val (.ref b11), .val (.ref b16), .unset, .unset, .unset] [(.ref b22)]
      obtain ⟨E_b16, F_b16_lastSent, F_b16_held, F_b16_deferredMove⟩ := Oq23
      refine Gol.astore X23 hx hby at_140 (pc' := 142) rfl rfl (l' := #[.val (.int p0), .val (.int p1), .val (.int p2), .val (.int (if (p0 &&& (1 : Int32)) = (0 : Int32) then (0 : Int32) else (1 : Int32))), .val (.int (0 : Int32)), .val (.ref b2), .val (.ref b4), .val (.ref b6), .val (.ref b11), .val (.ref b16), .val (.ref b22), .unset, .unset]) rfl ?_
      refine Gol.aload X23 hx hby at_142 (pc' := 144) rfl rfl rfl ?_
      refine Gol.callV X23 hx hby hZ hown 0 [] (a := b16) (hw _ (List.mem_of_getElem? (i := 69) rfl)) (hw _ (List.mem_of_getElem? (i := 70) rfl)) (notFace_of_selects (args := #[]) (mvT hZ (hw _ (List.mem_of_getElem? (i := 72) rfl)))) (hw _ (List.mem_of_getElem? (i := 72) rfl)) (hw _ (List.mem_of_getElem? (i := 71) rfl)) (hw _ (List.mem_of_getElem? (i := 52) rfl)) (hw _ (List.mem_of_getElem? (i := 73) rfl)) (by decide) E_b16 (rmHolN l Z a0 hw [] b16 (.long (-1 : Int64)) .null (.int (-1 : Int32)) T23.heap n0 Zs ⟨E_b16, F_b16_lastSent, F_b16_held, F_b16_deferredMove⟩ g_b16) (by decide) (by decide) rfl (by rw [hml]; rfl) (rest := []) (Nat.le_of_eq rfl) (by decide) (by decide) (lenOf pd_12 rfl) rfl at_144 (pc' := 147) rfl ?_
      intro T24 v24 L24 X24 hQ24
      obtain ⟨rfl, Nq24, eq24⟩ := hQ24
      have N24 := Fr.app N23 Nq24
      show GolF _ _ _ _ _ _ _ T24 m 147 #[.val (.int p0), .val (.int p1), .val (.int p2), .val (.int (if (p0 &&& (1 : Int32)) = (0 : Int32) then (0 : Int32) else (1 : Int32))), .val (.int (0 : Int32)), .val (.ref b2), .val (.ref b4), .val (.ref b6), .val (.ref b11), .val (.ref b16), .val (.ref b22), .unset, .unset] [(.int (0 : Int32))]
      refine Gol.ifNo X24 hx hby at_147 (pc' := 150) rfl ((if0 _ _).trans (teq (by decide : (0 : Int32) = (0 : Int32))).2) ?_
      refine Gol.iconst X24 hx hby at_150 (pc' := 151) rfl (z := (1 : Int32)) rfl ?_
      refine Gol.goto X24 hx hby at_151 (pc' := 155) (by decide) ?_
      refine Gol.istore X24 hx hby at_155 (pc' := 157) rfl (l' := #[.val (.int p0), .val (.int p1), .val (.int p2), .val (.int (if (p0 &&& (1 : Int32)) = (0 : Int32) then (0 : Int32) else (1 : Int32))), .val (.int (0 : Int32)), .val (.ref b2), .val (.ref b4), .val (.ref b6), .val (.ref b11), .val (.ref b16), .val (.ref b22), .val (.int (1 : Int32)), .unset]) rfl ?_
      refine Gol.iloadN X24 hx hby at_157 (pc' := 158) rfl rfl ?_
      refine Gol.ifYes X24 hx hby at_158 (pc' := 181) (by decide) ((if0 _ _).trans (feq hc99_18).2) ?_
      refine Gol.aload X24 hx hby at_181 (pc' := 183) rfl rfl rfl ?_
      refine Gol.ifnonnullYes X24 hx hby at_183 (pc' := 188) (by decide) ?_
      refine Gol.iload X24 hx hby at_188 (pc' := 190) rfl rfl ?_
      refine Gol.ifNo X24 hx hby at_190 (pc' := 193) rfl ((if0 _ _).trans (feq (by decide : ¬ ((1 : Int32) = (0 : Int32)))).1) ?_
      refine Gol.aload X24 hx hby at_193 (pc' := 195) rfl rfl rfl ?_
      refine Gol.callF X24 hx hby hZ hown 0 [] (a := b22) (hw _ (List.mem_of_getElem? (i := 103) rfl)) (hw _ (List.mem_of_getElem? (i := 104) rfl)) (mvT hZ (hw _ (List.mem_of_getElem? (i := 105) rfl))) (hw _ (List.mem_of_getElem? (i := 106) rfl)) (hw _ (List.mem_of_getElem? (i := 107) rfl)) (hw _ (List.mem_of_getElem? (i := 108) rfl)) (hw _ (List.mem_of_getElem? (i := 109) rfl)) (hw _ (List.mem_of_getElem? (i := 110) rfl)) (hw _ (List.mem_of_getElem? (i := 81) rfl)) (hw _ (List.mem_of_getElem? (i := 111) rfl)) (by decide) E_b22 (rmSize l Z a0 hw [] b22 (.int (0 : Int32)) (.ref e0) (0 : Int32) T23.heap n0 Zs ⟨E_b22, F_b22_modCount, F_b22_elementData, F_b22_size⟩ g_b22) (by decide) (by decide) eq24 (by rw [hml]; rfl) (rest := []) (Nat.le_of_eq rfl) (by decide) (by decide) (lenOf pd_13 rfl) rfl at_195 (pc' := 200) rfl ?_
      intro T25 v25 L25 X25 hQ25
      obtain ⟨rfl, Nq25, eq25⟩ := hQ25
      have N25 := Fr.app N24 Nq25
      show GolF _ _ _ _ _ _ _ T25 m 200 #[.val (.int p0), .val (.int p1), .val (.int p2), .val (.int (if (p0 &&& (1 : Int32)) = (0 : Int32) then (0 : Int32) else (1 : Int32))), .val (.int (0 : Int32)), .val (.ref b2), .val (.ref b4), .val (.ref b6), .val (.ref b11), .val (.ref b16), .val (.ref b22), .val (.int (1 : Int32)), .unset] [(.int (0 : Int32))]
      refine Gol.iload X25 hx hby at_200 (pc' := 202) rfl rfl ?_
      refine Gol.icmpNo X25 hx hby at_202 (pc' := 205) rfl (teq (by decide : (0 : Int32) = (0 : Int32))).2 ?_
      refine Gol.iconst X25 hx hby at_205 (pc' := 206) rfl (z := (1 : Int32)) rfl ?_
      refine Gol.goto X25 hx hby at_206 (pc' := 210) (by decide) ?_
      refine Gol.istore X25 hx hby at_210 (pc' := 212) rfl (l' := #[.val (.int p0), .val (.int p1), .val (.int p2), .val (.int (if (p0 &&& (1 : Int32)) = (0 : Int32) then (0 : Int32) else (1 : Int32))), .val (.int (0 : Int32)), .val (.ref b2), .val (.ref b4), .val (.ref b6), .val (.ref b11), .val (.ref b16), .val (.ref b22), .val (.int (1 : Int32)), .unset]) rfl ?_
      refine Gol.iload X25 hx hby at_212 (pc' := 214) rfl rfl ?_
      refine Gol.ifNo X25 hx hby at_214 (pc' := 217) rfl ((if0 _ _).trans (feq (by decide : ¬ ((1 : Int32) = (0 : Int32)))).1) ?_
      refine Gol.iload X25 hx hby at_217 (pc' := 219) rfl rfl ?_
      refine Gol.iconst X25 hx hby at_219 (pc' := 220) rfl (z := (1 : Int32)) rfl ?_
      refine Gol.icmpYes X25 hx hby at_220 (pc' := 261) (by decide) (tlt (by decide : (0 : Int32) < (1 : Int32))).1 ?_
      refine Gol.iload X25 hx hby at_261 (pc' := 263) rfl rfl ?_
      refine Gol.ifNo X25 hx hby at_263 (pc' := 266) rfl ((if0 _ _).trans (feq (by decide : ¬ ((1 : Int32) = (0 : Int32)))).1) ?_
      refine Gol.iload X25 hx hby at_266 (pc' := 268) rfl rfl ?_
      refine Gol.iconst X25 hx hby at_268 (pc' := 269) rfl (z := (2 : Int32)) rfl ?_
      refine Gol.icmpYes X25 hx hby at_269 (pc' := 310) (by decide) (tlt (by decide : (0 : Int32) < (2 : Int32))).1 ?_
      refine Gol.iload X25 hx hby at_310 (pc' := 312) rfl rfl ?_
      refine Gol.ifNo X25 hx hby at_312 (pc' := 315) rfl ((if0 _ _).trans (feq (by decide : ¬ ((1 : Int32) = (0 : Int32)))).1) ?_
      refine Gol.aload X25 hx hby at_315 (pc' := 317) rfl rfl rfl ?_
      refine Gol.callV X25 hx hby hZ hown 0 [] (a := b16) (hw _ (List.mem_of_getElem? (i := 62) rfl)) (hw _ (List.mem_of_getElem? (i := 63) rfl)) (notFace_of_selects (args := #[]) (mvT hZ (hw _ (List.mem_of_getElem? (i := 65) rfl)))) (hw _ (List.mem_of_getElem? (i := 65) rfl)) (hw _ (List.mem_of_getElem? (i := 64) rfl)) (hw _ (List.mem_of_getElem? (i := 52) rfl)) (hw _ (List.mem_of_getElem? (i := 66) rfl)) (by decide) E_b16 (rmRelN l Z a0 hw [] b16 (.long (-1 : Int64)) .null (.int (-1 : Int32)) T23.heap n0 Zs ⟨E_b16, F_b16_lastSent, F_b16_held, F_b16_deferredMove⟩ g_b16) (by decide) (by decide) eq25 (by rw [hml]; rfl) (rest := []) (Nat.le_of_eq rfl) (by decide) (by decide) (lenOf pd_11 rfl) rfl at_317 (pc' := 320) rfl ?_
      intro T26 v26 L26 X26 hQ26
      obtain ⟨rfl, Nq26, Kq26, Oq26⟩ := hQ26
      have N26 := Fr.app N25 Nq26
      have E_b16 := E_b16.keep Kq26
      have E_b22 := E_b22.keep Kq26
      have F_b22_modCount := F_b22_modCount.keep Kq26 (ninS ne_b16_b22.symm nin0)
      have F_b22_elementData := F_b22_elementData.keep Kq26 (ninS ne_b16_b22.symm nin0)
      have F_b22_size := F_b22_size.keep Kq26 (ninS ne_b16_b22.symm nin0)
      have O := O.keep Kq26 (allS g_b16 all0)
      have Zs := Nat.le_trans Zs Kq26.1
      have hkv := Nat.le_trans hkv Kq26.1
      show GolF _ _ _ _ _ _ _ T26 m 320 #[.val (.int p0), .val (.int p1), .val (.int p2), .val (.int (if (p0 &&& (1 : Int32)) = (0 : Int32) then (0 : Int32) else (1 : Int32))), .val (.int (0 : Int32)), .val (.ref b2), .val (.ref b4), .val (.ref b6), .val (.ref b11), .val (.ref b16), .val (.ref b22), .val (.int (1 : Int32)), .unset] [.null]
      obtain ⟨E_b16, F_b16_lastSent, F_b16_held, F_b16_deferredMove⟩ := Oq26
      refine Gol.ifnonnullNo X26 hx hby at_320 (pc' := 323) rfl ?_
      refine Gol.iconst X26 hx hby at_323 (pc' := 324) rfl (z := (1 : Int32)) rfl ?_
      refine Gol.goto X26 hx hby at_324 (pc' := 328) (by decide) ?_
      refine Gol.istore X26 hx hby at_328 (pc' := 330) rfl (l' := #[.val (.int p0), .val (.int p1), .val (.int p2), .val (.int (if (p0 &&& (1 : Int32)) = (0 : Int32) then (0 : Int32) else (1 : Int32))), .val (.int (0 : Int32)), .val (.ref b2), .val (.ref b4), .val (.ref b6), .val (.ref b11), .val (.ref b16), .val (.ref b22), .val (.int (1 : Int32)), .unset]) rfl ?_
      refine Gol.iload X26 hx hby at_330 (pc' := 332) rfl rfl ?_
      exact Gol.retNW X26 hx hby hSv hkv (t := .boolean) Bd.returns (by simp) Bd.notSynchronized at_332 rfl ⟨rfl, N26⟩ (by decide) (by decide)
    · skip
      subst hk
      show GolF _ _ _ _ _ _ _ T22 m 107 #[.val (.int p0), .val (.int p1), .val (.int p2), .val (.int (if (p0 &&& (1 : Int32)) = (0 : Int32) then (0 : Int32) else (1 : Int32))), .val (.int (1 : Int32)), .val (.ref b2), .val (.ref b4), .val (.ref b6), .val (.ref b11), .val (.ref b16), .unset, .unset, .unset] []
      refine Gol.iload X22 hx hby at_107 (pc' := 109) rfl rfl ?_
      refine Gol.iconst X22 hx hby at_109 (pc' := 110) rfl (z := (1 : Int32)) rfl ?_
      refine Gol.icmpNo X22 hx hby at_110 (pc' := 113) rfl (flt (by decide : ¬ ((1 : Int32) < (1 : Int32)))).1 ?_
      refine Gol.aload X22 hx hby at_113 (pc' := 115) rfl rfl rfl ?_
      refine Gol.aload X22 hx hby at_115 (pc' := 117) rfl rfl rfl ?_
      refine Gol.aconstNull X22 hx hby at_117 (pc' := 118) rfl ?_
      refine Gol.callV X22 hx hby hZ hown 0 [(.ref b6), .null] (a := b16) (hw _ (List.mem_of_getElem? (i := 114) rfl)) (hw _ (List.mem_of_getElem? (i := 115) rfl)) (notFace_of_selects (args := #[]) (mvT hZ (hw _ (List.mem_of_getElem? (i := 117) rfl)))) (hw _ (List.mem_of_getElem? (i := 117) rfl)) (hw _ (List.mem_of_getElem? (i := 116) rfl)) (hw _ (List.mem_of_getElem? (i := 52) rfl)) (hw _ (List.mem_of_getElem? (i := 118) rfl)) (by decide) E_b16 (rmHoldA l Z a0 hw [] b16 b6 (.long (-1 : Int64)) .null (.int (-1 : Int32)) b22 (0 : Int32) e0 k0 T22.heap n0 Zs ⟨E_b16, F_b16_lastSent, F_b16_held, F_b16_deferredMove⟩ g_b16 g_b22 ne_b16_b22 ⟨E_b22, F_b22_modCount, F_b22_elementData, F_b22_size⟩ S0 V0 O) (by decide) (by decide) rfl (by rw [hml]; rfl) (rest := []) (Nat.le_of_eq rfl) (by decide) (by decide) (lenOf pd_5 rfl) rfl at_118 (pc' := 121) rfl ?_
      intro T27 v27 L27 X27 hQ27
      obtain ⟨rfl, Nq27, Kq27, x27, mz27, e27a, ka27, vs27, hb27, hl27, Oq27, V_e27a, Ov27, hf27, hx27, nx27, Hq27⟩ := hQ27
      have N27 := Fr.app N22 Nq27
      have lo_b16_e27a : b16 < e27a := Nat.lt_of_lt_of_le E_b16.lt hb27
      have ne_b16_e27a : b16 ≠ e27a := Nat.ne_of_lt lo_b16_e27a
      have lo_b22_e27a : b22 < e27a := Nat.lt_of_lt_of_le E_b22.lt hb27
      have ne_b22_e27a : b22 ≠ e27a := Nat.ne_of_lt lo_b22_e27a
      have g_e27a : n0 ≤ e27a := Nat.le_trans Zs hb27
      have lo_b16_x27 : b16 < x27 := Nat.lt_of_lt_of_le E_b16.lt hx27
      have ne_b16_x27 : b16 ≠ x27 := Nat.ne_of_lt lo_b16_x27
      have lo_b22_x27 : b22 < x27 := Nat.lt_of_lt_of_le E_b22.lt hx27
      have ne_b22_x27 : b22 ≠ x27 := Nat.ne_of_lt lo_b22_x27
      have g_x27 : n0 ≤ x27 := Nat.le_trans Zs hx27
      have E_b16 := E_b16.keep Kq27
      have E_b22 := E_b22.keep Kq27
      have F_b16_lastSent := F_b16_lastSent.keep Kq27 (ninS ne_b16_b22 nin0)
      have F_b16_held := F_b16_held.keep Kq27 (ninS ne_b16_b22 nin0)
      have F_b16_deferredMove := F_b16_deferredMove.keep Kq27 (ninS ne_b16_b22 nin0)
      have O := O.keep Kq27 (allS g_b22 all0)
      have Zs := Nat.le_trans Zs Kq27.1
      have hkv := Nat.le_trans hkv Kq27.1
      show GolF _ _ _ _ _ _ _ T27 m 121 #[.val (.int p0), .val (.int p1), .val (.int p2), .val (.int (if (p0 &&& (1 : Int32)) = (0 : Int32) then (0 : Int32) else (1 : Int32))), .val (.int (1 : Int32)), .val (.ref b2), .val (.ref b4), .val (.ref b6), .val (.ref b11), .val (.ref b16), .unset, .unset, .unset] []
      obtain ⟨E_b22, F_b22_modCount, F_b22_elementData, F_b22_size⟩ := Oq27
      obtain ⟨E_x27, F_x27_receiver, F_x27_send⟩ := Hq27
      have ne_x27_e27a := nx27
      refine Gol.iload X27 hx hby at_121 (pc' := 123) rfl rfl ?_
      refine Gol.iconst X27 hx hby at_123 (pc' := 124) rfl (z := (2 : Int32)) rfl ?_
      refine Gol.icmpYes X27 hx hby at_124 (pc' := 135) (by decide) (tlt (by decide : (1 : Int32) < (2 : Int32))).1 ?_
      refine Gol.aload X27 hx hby at_135 (pc' := 137) rfl rfl rfl ?_
      refine Gol.callV X27 hx hby hZ hown 0 [] (a := b16) (hw _ (List.mem_of_getElem? (i := 62) rfl)) (hw _ (List.mem_of_getElem? (i := 63) rfl)) (notFace_of_selects (args := #[]) (mvT hZ (hw _ (List.mem_of_getElem? (i := 65) rfl)))) (hw _ (List.mem_of_getElem? (i := 65) rfl)) (hw _ (List.mem_of_getElem? (i := 64) rfl)) (hw _ (List.mem_of_getElem? (i := 52) rfl)) (hw _ (List.mem_of_getElem? (i := 66) rfl)) (by decide) E_b16 (rmRelR l Z a0 hw [] b16 (.long (-1 : Int64)) .null (.int (-1 : Int32)) b22 T27.heap n0 Zs ⟨E_b16, F_b16_lastSent, F_b16_held, F_b16_deferredMove⟩ g_b16) (by decide) (by decide) rfl (by rw [hml]; rfl) (rest := []) (Nat.le_of_eq rfl) (by decide) (by decide) (lenOf pd_11 rfl) rfl at_137 (pc' := 140) rfl ?_
      intro T28 v28 L28 X28 hQ28
      obtain ⟨rfl, Nq28, Kq28, Oq28⟩ := hQ28
      have N28 := Fr.app N27 Nq28
      have E_b16 := E_b16.keep Kq28
      have E_b22 := E_b22.keep Kq28
      have E_x27 := E_x27.keep Kq28
      have F_b22_modCount := F_b22_modCount.keep Kq28 (ninS ne_b16_b22.symm nin0)
      have F_b22_elementData := F_b22_elementData.keep Kq28 (ninS ne_b16_b22.symm nin0)
      have F_b22_size := F_b22_size.keep Kq28 (ninS ne_b16_b22.symm nin0)
      have F_x27_receiver := F_x27_receiver.keep Kq28 (ninS ne_b16_x27.symm nin0)
      have F_x27_send := F_x27_send.keep Kq28 (ninS ne_b16_x27.symm nin0)
      have V_e27a := V_e27a.keep Kq28 (ninS ne_b16_e27a.symm nin0)
      have O := O.keep Kq28 (allS g_b16 all0)
      have Zs := Nat.le_trans Zs Kq28.1
      have hkv := Nat.le_trans hkv Kq28.1
      show GolF _ _ _ _ _ _ _ T28 m 140 #[.val (.int p0), .val (.int p1), .val (.int p2), .val (.int (if (p0 &&& (1 : Int32)) = (0 : Int32) then (0 : Int32) else (1 : Int32))), .val (.int (1 : Int32)), .val (.ref b2), .val (.ref b4), .val (.ref b6), .val (.ref b11), .val (.ref b16), .unset, .unset, .unset] [(.ref b22)]
      obtain ⟨E_b16, F_b16_lastSent, F_b16_held, F_b16_deferredMove⟩ := Oq28
      refine Gol.astore X28 hx hby at_140 (pc' := 142) rfl rfl (l' := #[.val (.int p0), .val (.int p1), .val (.int p2), .val (.int (if (p0 &&& (1 : Int32)) = (0 : Int32) then (0 : Int32) else (1 : Int32))), .val (.int (1 : Int32)), .val (.ref b2), .val (.ref b4), .val (.ref b6), .val (.ref b11), .val (.ref b16), .val (.ref b22), .unset, .unset]) rfl ?_
      refine Gol.aload X28 hx hby at_142 (pc' := 144) rfl rfl rfl ?_
      refine Gol.callV X28 hx hby hZ hown 0 [] (a := b16) (hw _ (List.mem_of_getElem? (i := 69) rfl)) (hw _ (List.mem_of_getElem? (i := 70) rfl)) (notFace_of_selects (args := #[]) (mvT hZ (hw _ (List.mem_of_getElem? (i := 72) rfl)))) (hw _ (List.mem_of_getElem? (i := 72) rfl)) (hw _ (List.mem_of_getElem? (i := 71) rfl)) (hw _ (List.mem_of_getElem? (i := 52) rfl)) (hw _ (List.mem_of_getElem? (i := 73) rfl)) (by decide) E_b16 (rmHolN l Z a0 hw [] b16 (.long (-1 : Int64)) .null (.int (-1 : Int32)) T28.heap n0 Zs ⟨E_b16, F_b16_lastSent, F_b16_held, F_b16_deferredMove⟩ g_b16) (by decide) (by decide) rfl (by rw [hml]; rfl) (rest := []) (Nat.le_of_eq rfl) (by decide) (by decide) (lenOf pd_12 rfl) rfl at_144 (pc' := 147) rfl ?_
      intro T29 v29 L29 X29 hQ29
      obtain ⟨rfl, Nq29, eq29⟩ := hQ29
      have N29 := Fr.app N28 Nq29
      show GolF _ _ _ _ _ _ _ T29 m 147 #[.val (.int p0), .val (.int p1), .val (.int p2), .val (.int (if (p0 &&& (1 : Int32)) = (0 : Int32) then (0 : Int32) else (1 : Int32))), .val (.int (1 : Int32)), .val (.ref b2), .val (.ref b4), .val (.ref b6), .val (.ref b11), .val (.ref b16), .val (.ref b22), .unset, .unset] [(.int (0 : Int32))]
      refine Gol.ifNo X29 hx hby at_147 (pc' := 150) rfl ((if0 _ _).trans (teq (by decide : (0 : Int32) = (0 : Int32))).2) ?_
      refine Gol.iconst X29 hx hby at_150 (pc' := 151) rfl (z := (1 : Int32)) rfl ?_
      refine Gol.goto X29 hx hby at_151 (pc' := 155) (by decide) ?_
      refine Gol.istore X29 hx hby at_155 (pc' := 157) rfl (l' := #[.val (.int p0), .val (.int p1), .val (.int p2), .val (.int (if (p0 &&& (1 : Int32)) = (0 : Int32) then (0 : Int32) else (1 : Int32))), .val (.int (1 : Int32)), .val (.ref b2), .val (.ref b4), .val (.ref b6), .val (.ref b11), .val (.ref b16), .val (.ref b22), .val (.int (1 : Int32)), .unset]) rfl ?_
      refine Gol.iloadN X29 hx hby at_157 (pc' := 158) rfl rfl ?_
      refine Gol.ifYes X29 hx hby at_158 (pc' := 181) (by decide) ((if0 _ _).trans (feq hc99_18).2) ?_
      refine Gol.aload X29 hx hby at_181 (pc' := 183) rfl rfl rfl ?_
      refine Gol.ifnonnullYes X29 hx hby at_183 (pc' := 188) (by decide) ?_
      refine Gol.iload X29 hx hby at_188 (pc' := 190) rfl rfl ?_
      refine Gol.ifNo X29 hx hby at_190 (pc' := 193) rfl ((if0 _ _).trans (feq (by decide : ¬ ((1 : Int32) = (0 : Int32)))).1) ?_
      refine Gol.aload X29 hx hby at_193 (pc' := 195) rfl rfl rfl ?_
      refine Gol.callF X29 hx hby hZ hown 0 [] (a := b22) (hw _ (List.mem_of_getElem? (i := 103) rfl)) (hw _ (List.mem_of_getElem? (i := 104) rfl)) (mvT hZ (hw _ (List.mem_of_getElem? (i := 105) rfl))) (hw _ (List.mem_of_getElem? (i := 106) rfl)) (hw _ (List.mem_of_getElem? (i := 107) rfl)) (hw _ (List.mem_of_getElem? (i := 108) rfl)) (hw _ (List.mem_of_getElem? (i := 109) rfl)) (hw _ (List.mem_of_getElem? (i := 110) rfl)) (hw _ (List.mem_of_getElem? (i := 81) rfl)) (hw _ (List.mem_of_getElem? (i := 111) rfl)) (by decide) E_b22 (rmSize l Z a0 hw [] b22 (.int mz27) (.ref e27a) (Int32.ofNat 1) T28.heap n0 Zs ⟨E_b22, F_b22_modCount, F_b22_elementData, F_b22_size⟩ g_b22) (by decide) (by decide) eq29 (by rw [hml]; rfl) (rest := []) (Nat.le_of_eq rfl) (by decide) (by decide) (lenOf pd_13 rfl) rfl at_195 (pc' := 200) rfl ?_
      intro T30 v30 L30 X30 hQ30
      obtain ⟨rfl, Nq30, eq30⟩ := hQ30
      have N30 := Fr.app N29 Nq30
      show GolF _ _ _ _ _ _ _ T30 m 200 #[.val (.int p0), .val (.int p1), .val (.int p2), .val (.int (if (p0 &&& (1 : Int32)) = (0 : Int32) then (0 : Int32) else (1 : Int32))), .val (.int (1 : Int32)), .val (.ref b2), .val (.ref b4), .val (.ref b6), .val (.ref b11), .val (.ref b16), .val (.ref b22), .val (.int (1 : Int32)), .unset] [(.int (Int32.ofNat 1))]
      refine Gol.iload X30 hx hby at_200 (pc' := 202) rfl rfl ?_
      refine Gol.icmpNo X30 hx hby at_202 (pc' := 205) rfl (teq rfl).2 ?_
      refine Gol.iconst X30 hx hby at_205 (pc' := 206) rfl (z := (1 : Int32)) rfl ?_
      refine Gol.goto X30 hx hby at_206 (pc' := 210) (by decide) ?_
      refine Gol.istore X30 hx hby at_210 (pc' := 212) rfl (l' := #[.val (.int p0), .val (.int p1), .val (.int p2), .val (.int (if (p0 &&& (1 : Int32)) = (0 : Int32) then (0 : Int32) else (1 : Int32))), .val (.int (1 : Int32)), .val (.ref b2), .val (.ref b4), .val (.ref b6), .val (.ref b11), .val (.ref b16), .val (.ref b22), .val (.int (1 : Int32)), .unset]) rfl ?_
      refine Gol.iload X30 hx hby at_212 (pc' := 214) rfl rfl ?_
      refine Gol.ifNo X30 hx hby at_214 (pc' := 217) rfl ((if0 _ _).trans (feq (by decide : ¬ ((1 : Int32) = (0 : Int32)))).1) ?_
      refine Gol.iload X30 hx hby at_217 (pc' := 219) rfl rfl ?_
      refine Gol.iconst X30 hx hby at_219 (pc' := 220) rfl (z := (1 : Int32)) rfl ?_
      refine Gol.icmpNo X30 hx hby at_220 (pc' := 223) rfl (flt (by decide : ¬ ((1 : Int32) < (1 : Int32)))).1 ?_
      refine Gol.aload X30 hx hby at_223 (pc' := 225) rfl rfl rfl ?_
      refine Gol.iconst X30 hx hby at_225 (pc' := 226) rfl (z := (0 : Int32)) rfl ?_
      refine Gol.callF X30 hx hby hZ hown 0 [(.int (0 : Int32))] (a := b22) (hw _ (List.mem_of_getElem? (i := 162) rfl)) (hw _ (List.mem_of_getElem? (i := 163) rfl)) (mvT hZ (hw _ (List.mem_of_getElem? (i := 164) rfl))) (hw _ (List.mem_of_getElem? (i := 165) rfl)) (hw _ (List.mem_of_getElem? (i := 166) rfl)) (hw _ (List.mem_of_getElem? (i := 167) rfl)) (hw _ (List.mem_of_getElem? (i := 168) rfl)) (hw _ (List.mem_of_getElem? (i := 110) rfl)) (hw _ (List.mem_of_getElem? (i := 81) rfl)) (hw _ (List.mem_of_getElem? (i := 169) rfl)) (by decide) E_b22 (rmGet l Z a0 hw [] b22 (0 : Int32) (.int mz27) e27a ka27 vs27 (1) 0 x27 T28.heap n0 Zs rfl (by omega) (by omega) ⟨E_b22, F_b22_modCount, F_b22_elementData, F_b22_size⟩ V_e27a hf27) (by decide) (by decide) eq30 (by rw [hml]; rfl) (rest := []) (Nat.le_of_eq rfl) (by decide) (by decide) (lenOf pd_8 rfl) rfl at_226 (pc' := 231) rfl ?_
      intro T31 v31 L31 X31 hQ31
      obtain ⟨rfl, Nq31, eq31⟩ := hQ31
      have N31 := Fr.app N30 Nq31
      show GolF _ _ _ _ _ _ _ T31 m 231 #[.val (.int p0), .val (.int p1), .val (.int p2), .val (.int (if (p0 &&& (1 : Int32)) = (0 : Int32) then (0 : Int32) else (1 : Int32))), .val (.int (1 : Int32)), .val (.ref b2), .val (.ref b4), .val (.ref b6), .val (.ref b11), .val (.ref b16), .val (.ref b22), .val (.int (1 : Int32)), .unset] [(.ref x27)]
      refine Gol.castY X31 hx hby hZ hown (hw _ (List.mem_of_getElem? (i := 183) rfl)) eq31 (Ins.self E_x27) at_231 (pc' := 234) rfl ?_
      intro T32 X32 e32
      refine Gol.astore X32 hx hby at_234 (pc' := 236) rfl rfl (l' := #[.val (.int p0), .val (.int p1), .val (.int p2), .val (.int (if (p0 &&& (1 : Int32)) = (0 : Int32) then (0 : Int32) else (1 : Int32))), .val (.int (1 : Int32)), .val (.ref b2), .val (.ref b4), .val (.ref b6), .val (.ref b11), .val (.ref b16), .val (.ref b22), .val (.int (1 : Int32)), .val (.ref x27)]) rfl ?_
      refine Gol.aload X32 hx hby at_236 (pc' := 238) rfl rfl rfl ?_
      refine Gol.callV X32 hx hby hZ hown 0 [] (a := x27) (hw _ (List.mem_of_getElem? (i := 185) rfl)) (hw _ (List.mem_of_getElem? (i := 186) rfl)) (notFace_of_selects (args := #[]) (mvT hZ (hw _ (List.mem_of_getElem? (i := 188) rfl)))) (hw _ (List.mem_of_getElem? (i := 188) rfl)) (hw _ (List.mem_of_getElem? (i := 187) rfl)) (hw _ (List.mem_of_getElem? (i := 121) rfl)) (hw _ (List.mem_of_getElem? (i := 189) rfl)) (by decide) E_x27 (rmRecv l Z a0 hw [] x27 .null b6 T28.heap n0 Zs ⟨E_x27, F_x27_receiver, F_x27_send⟩ g_x27) (by decide) (by decide) e32 (by rw [hml]; rfl) (rest := []) (Nat.le_of_eq rfl) (by decide) (by decide) (lenOf pd_14 rfl) rfl at_238 (pc' := 241) rfl ?_
      intro T33 v33 L33 X33 hQ33
      obtain ⟨rfl, Nq33, eq33⟩ := hQ33
      have N33 := Fr.app N31 Nq33
      show GolF _ _ _ _ _ _ _ T33 m 241 #[.val (.int p0), .val (.int p1), .val (.int p2), .val (.int (if (p0 &&& (1 : Int32)) = (0 : Int32) then (0 : Int32) else (1 : Int32))), .val (.int (1 : Int32)), .val (.ref b2), .val (.ref b4), .val (.ref b6), .val (.ref b11), .val (.ref b16), .val (.ref b22), .val (.int (1 : Int32)), .val (.ref x27)] [(.ref b6)]
      refine Gol.aload X33 hx hby at_241 (pc' := 243) rfl rfl rfl ?_
      refine Gol.acmp X33 hx hby (pc' := 246) true at_243 rfl rfl (decide_eq_true rfl) (by decide) (by decide) ?_
      refine Gol.aload X33 hx hby at_246 (pc' := 248) rfl rfl rfl ?_
      refine Gol.callV X33 hx hby hZ hown 0 [] (a := x27) (hw _ (List.mem_of_getElem? (i := 190) rfl)) (hw _ (List.mem_of_getElem? (i := 191) rfl)) (notFace_of_selects (args := #[]) (mvT hZ (hw _ (List.mem_of_getElem? (i := 193) rfl)))) (hw _ (List.mem_of_getElem? (i := 193) rfl)) (hw _ (List.mem_of_getElem? (i := 192) rfl)) (hw _ (List.mem_of_getElem? (i := 121) rfl)) (hw _ (List.mem_of_getElem? (i := 194) rfl)) (by decide) E_x27 (rmSend l Z a0 hw [] x27 (.ref b6) T28.heap n0 Zs ⟨E_x27, F_x27_receiver, F_x27_send⟩ g_x27) (by decide) (by decide) eq33 (by rw [hml]; rfl) (rest := []) (Nat.le_of_eq rfl) (by decide) (by decide) (lenOf pd_15 rfl) rfl at_248 (pc' := 251) rfl ?_
      intro T34 v34 L34 X34 hQ34
      obtain ⟨rfl, Nq34, eq34⟩ := hQ34
      have N34 := Fr.app N33 Nq34
      show GolF _ _ _ _ _ _ _ T34 m 251 #[.val (.int p0), .val (.int p1), .val (.int p2), .val (.int (if (p0 &&& (1 : Int32)) = (0 : Int32) then (0 : Int32) else (1 : Int32))), .val (.int (1 : Int32)), .val (.ref b2), .val (.ref b4), .val (.ref b6), .val (.ref b11), .val (.ref b16), .val (.ref b22), .val (.int (1 : Int32)), .val (.ref x27)] [.null]
      refine Gol.ifnonnullNo X34 hx hby at_251 (pc' := 254) rfl ?_
      refine Gol.iconst X34 hx hby at_254 (pc' := 255) rfl (z := (1 : Int32)) rfl ?_
      refine Gol.goto X34 hx hby at_255 (pc' := 259) (by decide) ?_
      refine Gol.istore X34 hx hby at_259 (pc' := 261) rfl (l' := #[.val (.int p0), .val (.int p1), .val (.int p2), .val (.int (if (p0 &&& (1 : Int32)) = (0 : Int32) then (0 : Int32) else (1 : Int32))), .val (.int (1 : Int32)), .val (.ref b2), .val (.ref b4), .val (.ref b6), .val (.ref b11), .val (.ref b16), .val (.ref b22), .val (.int (1 : Int32)), .val (.ref x27)]) rfl ?_
      refine Gol.iload X34 hx hby at_261 (pc' := 263) rfl rfl ?_
      refine Gol.ifNo X34 hx hby at_263 (pc' := 266) rfl ((if0 _ _).trans (feq (by decide : ¬ ((1 : Int32) = (0 : Int32)))).1) ?_
      refine Gol.iload X34 hx hby at_266 (pc' := 268) rfl rfl ?_
      refine Gol.iconst X34 hx hby at_268 (pc' := 269) rfl (z := (2 : Int32)) rfl ?_
      refine Gol.icmpYes X34 hx hby at_269 (pc' := 310) (by decide) (tlt (by decide : (1 : Int32) < (2 : Int32))).1 ?_
      refine Gol.iload X34 hx hby at_310 (pc' := 312) rfl rfl ?_
      refine Gol.ifNo X34 hx hby at_312 (pc' := 315) rfl ((if0 _ _).trans (feq (by decide : ¬ ((1 : Int32) = (0 : Int32)))).1) ?_
      refine Gol.aload X34 hx hby at_315 (pc' := 317) rfl rfl rfl ?_
      refine Gol.callV X34 hx hby hZ hown 0 [] (a := b16) (hw _ (List.mem_of_getElem? (i := 62) rfl)) (hw _ (List.mem_of_getElem? (i := 63) rfl)) (notFace_of_selects (args := #[]) (mvT hZ (hw _ (List.mem_of_getElem? (i := 65) rfl)))) (hw _ (List.mem_of_getElem? (i := 65) rfl)) (hw _ (List.mem_of_getElem? (i := 64) rfl)) (hw _ (List.mem_of_getElem? (i := 52) rfl)) (hw _ (List.mem_of_getElem? (i := 66) rfl)) (by decide) E_b16 (rmRelN l Z a0 hw [] b16 (.long (-1 : Int64)) .null (.int (-1 : Int32)) T28.heap n0 Zs ⟨E_b16, F_b16_lastSent, F_b16_held, F_b16_deferredMove⟩ g_b16) (by decide) (by decide) eq34 (by rw [hml]; rfl) (rest := []) (Nat.le_of_eq rfl) (by decide) (by decide) (lenOf pd_11 rfl) rfl at_317 (pc' := 320) rfl ?_
      intro T35 v35 L35 X35 hQ35
      obtain ⟨rfl, Nq35, Kq35, Oq35⟩ := hQ35
      have N35 := Fr.app N34 Nq35
      have E_b16 := E_b16.keep Kq35
      have E_b22 := E_b22.keep Kq35
      have E_x27 := E_x27.keep Kq35
      have F_b22_modCount := F_b22_modCount.keep Kq35 (ninS ne_b16_b22.symm nin0)
      have F_b22_elementData := F_b22_elementData.keep Kq35 (ninS ne_b16_b22.symm nin0)
      have F_b22_size := F_b22_size.keep Kq35 (ninS ne_b16_b22.symm nin0)
      have F_x27_receiver := F_x27_receiver.keep Kq35 (ninS ne_b16_x27.symm nin0)
      have F_x27_send := F_x27_send.keep Kq35 (ninS ne_b16_x27.symm nin0)
      have V_e27a := V_e27a.keep Kq35 (ninS ne_b16_e27a.symm nin0)
      have O := O.keep Kq35 (allS g_b16 all0)
      have Zs := Nat.le_trans Zs Kq35.1
      have hkv := Nat.le_trans hkv Kq35.1
      show GolF _ _ _ _ _ _ _ T35 m 320 #[.val (.int p0), .val (.int p1), .val (.int p2), .val (.int (if (p0 &&& (1 : Int32)) = (0 : Int32) then (0 : Int32) else (1 : Int32))), .val (.int (1 : Int32)), .val (.ref b2), .val (.ref b4), .val (.ref b6), .val (.ref b11), .val (.ref b16), .val (.ref b22), .val (.int (1 : Int32)), .val (.ref x27)] [.null]
      obtain ⟨E_b16, F_b16_lastSent, F_b16_held, F_b16_deferredMove⟩ := Oq35
      refine Gol.ifnonnullNo X35 hx hby at_320 (pc' := 323) rfl ?_
      refine Gol.iconst X35 hx hby at_323 (pc' := 324) rfl (z := (1 : Int32)) rfl ?_
      refine Gol.goto X35 hx hby at_324 (pc' := 328) (by decide) ?_
      refine Gol.istore X35 hx hby at_328 (pc' := 330) rfl (l' := #[.val (.int p0), .val (.int p1), .val (.int p2), .val (.int (if (p0 &&& (1 : Int32)) = (0 : Int32) then (0 : Int32) else (1 : Int32))), .val (.int (1 : Int32)), .val (.ref b2), .val (.ref b4), .val (.ref b6), .val (.ref b11), .val (.ref b16), .val (.ref b22), .val (.int (1 : Int32)), .val (.ref x27)]) rfl ?_
      refine Gol.iload X35 hx hby at_330 (pc' := 332) rfl rfl ?_
      exact Gol.retNW X35 hx hby hSv hkv (t := .boolean) Bd.returns (by simp) Bd.notSynchronized at_332 rfl ⟨rfl, N35⟩ (by decide) (by decide)
    · skip
      subst hk
      show GolF _ _ _ _ _ _ _ T22 m 107 #[.val (.int p0), .val (.int p1), .val (.int p2), .val (.int (if (p0 &&& (1 : Int32)) = (0 : Int32) then (0 : Int32) else (1 : Int32))), .val (.int (2 : Int32)), .val (.ref b2), .val (.ref b4), .val (.ref b6), .val (.ref b11), .val (.ref b16), .unset, .unset, .unset] []
      refine Gol.iload X22 hx hby at_107 (pc' := 109) rfl rfl ?_
      refine Gol.iconst X22 hx hby at_109 (pc' := 110) rfl (z := (1 : Int32)) rfl ?_
      refine Gol.icmpNo X22 hx hby at_110 (pc' := 113) rfl (flt (by decide : ¬ ((2 : Int32) < (1 : Int32)))).1 ?_
      refine Gol.aload X22 hx hby at_113 (pc' := 115) rfl rfl rfl ?_
      refine Gol.aload X22 hx hby at_115 (pc' := 117) rfl rfl rfl ?_
      refine Gol.aconstNull X22 hx hby at_117 (pc' := 118) rfl ?_
      refine Gol.callV X22 hx hby hZ hown 0 [(.ref b6), .null] (a := b16) (hw _ (List.mem_of_getElem? (i := 114) rfl)) (hw _ (List.mem_of_getElem? (i := 115) rfl)) (notFace_of_selects (args := #[]) (mvT hZ (hw _ (List.mem_of_getElem? (i := 117) rfl)))) (hw _ (List.mem_of_getElem? (i := 117) rfl)) (hw _ (List.mem_of_getElem? (i := 116) rfl)) (hw _ (List.mem_of_getElem? (i := 52) rfl)) (hw _ (List.mem_of_getElem? (i := 118) rfl)) (by decide) E_b16 (rmHoldA l Z a0 hw [] b16 b6 (.long (-1 : Int64)) .null (.int (-1 : Int32)) b22 (0 : Int32) e0 k0 T22.heap n0 Zs ⟨E_b16, F_b16_lastSent, F_b16_held, F_b16_deferredMove⟩ g_b16 g_b22 ne_b16_b22 ⟨E_b22, F_b22_modCount, F_b22_elementData, F_b22_size⟩ S0 V0 O) (by decide) (by decide) rfl (by rw [hml]; rfl) (rest := []) (Nat.le_of_eq rfl) (by decide) (by decide) (lenOf pd_5 rfl) rfl at_118 (pc' := 121) rfl ?_
      intro T36 v36 L36 X36 hQ36
      obtain ⟨rfl, Nq36, Kq36, x36, mz36, e36a, ka36, vs36, hb36, hl36, Oq36, V_e36a, Ov36, hf36, hx36, nx36, Hq36⟩ := hQ36
      have N36 := Fr.app N22 Nq36
      have lo_b16_e36a : b16 < e36a := Nat.lt_of_lt_of_le E_b16.lt hb36
      have ne_b16_e36a : b16 ≠ e36a := Nat.ne_of_lt lo_b16_e36a
      have lo_b22_e36a : b22 < e36a := Nat.lt_of_lt_of_le E_b22.lt hb36
      have ne_b22_e36a : b22 ≠ e36a := Nat.ne_of_lt lo_b22_e36a
      have g_e36a : n0 ≤ e36a := Nat.le_trans Zs hb36
      have lo_b16_x36 : b16 < x36 := Nat.lt_of_lt_of_le E_b16.lt hx36
      have ne_b16_x36 : b16 ≠ x36 := Nat.ne_of_lt lo_b16_x36
      have lo_b22_x36 : b22 < x36 := Nat.lt_of_lt_of_le E_b22.lt hx36
      have ne_b22_x36 : b22 ≠ x36 := Nat.ne_of_lt lo_b22_x36
      have g_x36 : n0 ≤ x36 := Nat.le_trans Zs hx36
      have E_b16 := E_b16.keep Kq36
      have E_b22 := E_b22.keep Kq36
      have F_b16_lastSent := F_b16_lastSent.keep Kq36 (ninS ne_b16_b22 nin0)
      have F_b16_held := F_b16_held.keep Kq36 (ninS ne_b16_b22 nin0)
      have F_b16_deferredMove := F_b16_deferredMove.keep Kq36 (ninS ne_b16_b22 nin0)
      have O := O.keep Kq36 (allS g_b22 all0)
      have Zs := Nat.le_trans Zs Kq36.1
      have hkv := Nat.le_trans hkv Kq36.1
      show GolF _ _ _ _ _ _ _ T36 m 121 #[.val (.int p0), .val (.int p1), .val (.int p2), .val (.int (if (p0 &&& (1 : Int32)) = (0 : Int32) then (0 : Int32) else (1 : Int32))), .val (.int (2 : Int32)), .val (.ref b2), .val (.ref b4), .val (.ref b6), .val (.ref b11), .val (.ref b16), .unset, .unset, .unset] []
      obtain ⟨E_b22, F_b22_modCount, F_b22_elementData, F_b22_size⟩ := Oq36
      obtain ⟨E_x36, F_x36_receiver, F_x36_send⟩ := Hq36
      have ne_x36_e36a := nx36
      refine Gol.iload X36 hx hby at_121 (pc' := 123) rfl rfl ?_
      refine Gol.iconst X36 hx hby at_123 (pc' := 124) rfl (z := (2 : Int32)) rfl ?_
      refine Gol.icmpNo X36 hx hby at_124 (pc' := 127) rfl (flt (by decide : ¬ ((2 : Int32) < (2 : Int32)))).1 ?_
      refine Gol.aload X36 hx hby at_127 (pc' := 129) rfl rfl rfl ?_
      refine Gol.aload X36 hx hby at_129 (pc' := 131) rfl rfl rfl ?_
      refine Gol.aconstNull X36 hx hby at_131 (pc' := 132) rfl ?_
      refine Gol.callV X36 hx hby hZ hown 0 [(.ref b11), .null] (a := b16) (hw _ (List.mem_of_getElem? (i := 114) rfl)) (hw _ (List.mem_of_getElem? (i := 115) rfl)) (notFace_of_selects (args := #[]) (mvT hZ (hw _ (List.mem_of_getElem? (i := 117) rfl)))) (hw _ (List.mem_of_getElem? (i := 117) rfl)) (hw _ (List.mem_of_getElem? (i := 116) rfl)) (hw _ (List.mem_of_getElem? (i := 52) rfl)) (hw _ (List.mem_of_getElem? (i := 118) rfl)) (by decide) E_b16 (rmHoldB l Z a0 hw [] b16 b11 (.long (-1 : Int64)) .null (.int (-1 : Int32)) b22 mz36 e36a ka36 vs36 1 T36.heap n0 Zs ⟨E_b16, F_b16_lastSent, F_b16_held, F_b16_deferredMove⟩ g_b16 g_b22 ne_b16_b22 ⟨E_b22, F_b22_modCount, F_b22_elementData, F_b22_size⟩ (by omega) hl36 V_e36a Ov36 g_e36a ne_b22_e36a ne_b16_e36a) (by decide) (by decide) rfl (by rw [hml]; rfl) (rest := []) (Nat.le_of_eq rfl) (by decide) (by decide) (lenOf pd_5 rfl) rfl at_132 (pc' := 135) rfl ?_
      intro T37 v37 L37 X37 hQ37
      obtain ⟨rfl, Nq37, Kq37, x37, mz37, Oq37, Vq37, hx37, Hq37⟩ := hQ37
      have N37 := Fr.app N36 Nq37
      have lo_b16_x37 : b16 < x37 := Nat.lt_of_lt_of_le E_b16.lt hx37
      have ne_b16_x37 : b16 ≠ x37 := Nat.ne_of_lt lo_b16_x37
      have lo_b22_x37 : b22 < x37 := Nat.lt_of_lt_of_le E_b22.lt hx37
      have ne_b22_x37 : b22 ≠ x37 := Nat.ne_of_lt lo_b22_x37
      have lo_x36_x37 : x36 < x37 := Nat.lt_of_lt_of_le E_x36.lt hx37
      have ne_x36_x37 : x36 ≠ x37 := Nat.ne_of_lt lo_x36_x37
      have lo_e36a_x37 : e36a < x37 := Nat.lt_of_lt_of_le V_e36a.lt hx37
      have ne_e36a_x37 : e36a ≠ x37 := Nat.ne_of_lt lo_e36a_x37
      have g_x37 : n0 ≤ x37 := Nat.le_trans Zs hx37
      have E_b16 := E_b16.keep Kq37
      have E_b22 := E_b22.keep Kq37
      have E_x36 := E_x36.keep Kq37
      have F_b16_lastSent := F_b16_lastSent.keep Kq37 (ninS ne_b16_b22 (ninS ne_b16_e36a nin0))
      have F_b16_held := F_b16_held.keep Kq37 (ninS ne_b16_b22 (ninS ne_b16_e36a nin0))
      have F_b16_deferredMove := F_b16_deferredMove.keep Kq37 (ninS ne_b16_b22 (ninS ne_b16_e36a nin0))
      have F_x36_receiver := F_x36_receiver.keep Kq37 (ninS ne_b22_x36.symm (ninS ne_x36_e36a nin0))
      have F_x36_send := F_x36_send.keep Kq37 (ninS ne_b22_x36.symm (ninS ne_x36_e36a nin0))
      have O := O.keep Kq37 (allS g_b22 (allS g_e36a all0))
      have Zs := Nat.le_trans Zs Kq37.1
      have hkv := Nat.le_trans hkv Kq37.1
      show GolF _ _ _ _ _ _ _ T37 m 135 #[.val (.int p0), .val (.int p1), .val (.int p2), .val (.int (if (p0 &&& (1 : Int32)) = (0 : Int32) then (0 : Int32) else (1 : Int32))), .val (.int (2 : Int32)), .val (.ref b2), .val (.ref b4), .val (.ref b6), .val (.ref b11), .val (.ref b16), .unset, .unset, .unset] []
      obtain ⟨E_b22, F_b22_modCount, F_b22_elementData, F_b22_size⟩ := Oq37
      have V_e36a := Vq37
      obtain ⟨E_x37, F_x37_receiver, F_x37_send⟩ := Hq37
      refine Gol.aload X37 hx hby at_135 (pc' := 137) rfl rfl rfl ?_
      refine Gol.callV X37 hx hby hZ hown 0 [] (a := b16) (hw _ (List.mem_of_getElem? (i := 62) rfl)) (hw _ (List.mem_of_getElem? (i := 63) rfl)) (notFace_of_selects (args := #[]) (mvT hZ (hw _ (List.mem_of_getElem? (i := 65) rfl)))) (hw _ (List.mem_of_getElem? (i := 65) rfl)) (hw _ (List.mem_of_getElem? (i := 64) rfl)) (hw _ (List.mem_of_getElem? (i := 52) rfl)) (hw _ (List.mem_of_getElem? (i := 66) rfl)) (by decide) E_b16 (rmRelR l Z a0 hw [] b16 (.long (-1 : Int64)) .null (.int (-1 : Int32)) b22 T37.heap n0 Zs ⟨E_b16, F_b16_lastSent, F_b16_held, F_b16_deferredMove⟩ g_b16) (by decide) (by decide) rfl (by rw [hml]; rfl) (rest := []) (Nat.le_of_eq rfl) (by decide) (by decide) (lenOf pd_11 rfl) rfl at_137 (pc' := 140) rfl ?_
      intro T38 v38 L38 X38 hQ38
      obtain ⟨rfl, Nq38, Kq38, Oq38⟩ := hQ38
      have N38 := Fr.app N37 Nq38
      have E_b16 := E_b16.keep Kq38
      have E_b22 := E_b22.keep Kq38
      have E_x36 := E_x36.keep Kq38
      have E_x37 := E_x37.keep Kq38
      have F_x36_receiver := F_x36_receiver.keep Kq38 (ninS ne_b16_x36.symm nin0)
      have F_x36_send := F_x36_send.keep Kq38 (ninS ne_b16_x36.symm nin0)
      have F_b22_modCount := F_b22_modCount.keep Kq38 (ninS ne_b16_b22.symm nin0)
      have F_b22_elementData := F_b22_elementData.keep Kq38 (ninS ne_b16_b22.symm nin0)
      have F_b22_size := F_b22_size.keep Kq38 (ninS ne_b16_b22.symm nin0)
      have F_x37_receiver := F_x37_receiver.keep Kq38 (ninS ne_b16_x37.symm nin0)
      have F_x37_send := F_x37_send.keep Kq38 (ninS ne_b16_x37.symm nin0)
      have V_e36a := V_e36a.keep Kq38 (ninS ne_b16_e36a.symm nin0)
      have O := O.keep Kq38 (allS g_b16 all0)
      have Zs := Nat.le_trans Zs Kq38.1
      have hkv := Nat.le_trans hkv Kq38.1
      show GolF _ _ _ _ _ _ _ T38 m 140 #[.val (.int p0), .val (.int p1), .val (.int p2), .val (.int (if (p0 &&& (1 : Int32)) = (0 : Int32) then (0 : Int32) else (1 : Int32))), .val (.int (2 : Int32)), .val (.ref b2), .val (.ref b4), .val (.ref b6), .val (.ref b11), .val (.ref b16), .unset, .unset, .unset] [(.ref b22)]
      obtain ⟨E_b16, F_b16_lastSent, F_b16_held, F_b16_deferredMove⟩ := Oq38
      refine Gol.astore X38 hx hby at_140 (pc' := 142) rfl rfl (l' := #[.val (.int p0), .val (.int p1), .val (.int p2), .val (.int (if (p0 &&& (1 : Int32)) = (0 : Int32) then (0 : Int32) else (1 : Int32))), .val (.int (2 : Int32)), .val (.ref b2), .val (.ref b4), .val (.ref b6), .val (.ref b11), .val (.ref b16), .val (.ref b22), .unset, .unset]) rfl ?_
      refine Gol.aload X38 hx hby at_142 (pc' := 144) rfl rfl rfl ?_
      refine Gol.callV X38 hx hby hZ hown 0 [] (a := b16) (hw _ (List.mem_of_getElem? (i := 69) rfl)) (hw _ (List.mem_of_getElem? (i := 70) rfl)) (notFace_of_selects (args := #[]) (mvT hZ (hw _ (List.mem_of_getElem? (i := 72) rfl)))) (hw _ (List.mem_of_getElem? (i := 72) rfl)) (hw _ (List.mem_of_getElem? (i := 71) rfl)) (hw _ (List.mem_of_getElem? (i := 52) rfl)) (hw _ (List.mem_of_getElem? (i := 73) rfl)) (by decide) E_b16 (rmHolN l Z a0 hw [] b16 (.long (-1 : Int64)) .null (.int (-1 : Int32)) T38.heap n0 Zs ⟨E_b16, F_b16_lastSent, F_b16_held, F_b16_deferredMove⟩ g_b16) (by decide) (by decide) rfl (by rw [hml]; rfl) (rest := []) (Nat.le_of_eq rfl) (by decide) (by decide) (lenOf pd_12 rfl) rfl at_144 (pc' := 147) rfl ?_
      intro T39 v39 L39 X39 hQ39
      obtain ⟨rfl, Nq39, eq39⟩ := hQ39
      have N39 := Fr.app N38 Nq39
      show GolF _ _ _ _ _ _ _ T39 m 147 #[.val (.int p0), .val (.int p1), .val (.int p2), .val (.int (if (p0 &&& (1 : Int32)) = (0 : Int32) then (0 : Int32) else (1 : Int32))), .val (.int (2 : Int32)), .val (.ref b2), .val (.ref b4), .val (.ref b6), .val (.ref b11), .val (.ref b16), .val (.ref b22), .unset, .unset] [(.int (0 : Int32))]
      refine Gol.ifNo X39 hx hby at_147 (pc' := 150) rfl ((if0 _ _).trans (teq (by decide : (0 : Int32) = (0 : Int32))).2) ?_
      refine Gol.iconst X39 hx hby at_150 (pc' := 151) rfl (z := (1 : Int32)) rfl ?_
      refine Gol.goto X39 hx hby at_151 (pc' := 155) (by decide) ?_
      refine Gol.istore X39 hx hby at_155 (pc' := 157) rfl (l' := #[.val (.int p0), .val (.int p1), .val (.int p2), .val (.int (if (p0 &&& (1 : Int32)) = (0 : Int32) then (0 : Int32) else (1 : Int32))), .val (.int (2 : Int32)), .val (.ref b2), .val (.ref b4), .val (.ref b6), .val (.ref b11), .val (.ref b16), .val (.ref b22), .val (.int (1 : Int32)), .unset]) rfl ?_
      refine Gol.iloadN X39 hx hby at_157 (pc' := 158) rfl rfl ?_
      refine Gol.ifYes X39 hx hby at_158 (pc' := 181) (by decide) ((if0 _ _).trans (feq hc99_18).2) ?_
      refine Gol.aload X39 hx hby at_181 (pc' := 183) rfl rfl rfl ?_
      refine Gol.ifnonnullYes X39 hx hby at_183 (pc' := 188) (by decide) ?_
      refine Gol.iload X39 hx hby at_188 (pc' := 190) rfl rfl ?_
      refine Gol.ifNo X39 hx hby at_190 (pc' := 193) rfl ((if0 _ _).trans (feq (by decide : ¬ ((1 : Int32) = (0 : Int32)))).1) ?_
      refine Gol.aload X39 hx hby at_193 (pc' := 195) rfl rfl rfl ?_
      refine Gol.callF X39 hx hby hZ hown 0 [] (a := b22) (hw _ (List.mem_of_getElem? (i := 103) rfl)) (hw _ (List.mem_of_getElem? (i := 104) rfl)) (mvT hZ (hw _ (List.mem_of_getElem? (i := 105) rfl))) (hw _ (List.mem_of_getElem? (i := 106) rfl)) (hw _ (List.mem_of_getElem? (i := 107) rfl)) (hw _ (List.mem_of_getElem? (i := 108) rfl)) (hw _ (List.mem_of_getElem? (i := 109) rfl)) (hw _ (List.mem_of_getElem? (i := 110) rfl)) (hw _ (List.mem_of_getElem? (i := 81) rfl)) (hw _ (List.mem_of_getElem? (i := 111) rfl)) (by decide) E_b22 (rmSize l Z a0 hw [] b22 (.int mz37) (.ref e36a) (Int32.ofNat (1 + 1)) T38.heap n0 Zs ⟨E_b22, F_b22_modCount, F_b22_elementData, F_b22_size⟩ g_b22) (by decide) (by decide) eq39 (by rw [hml]; rfl) (rest := []) (Nat.le_of_eq rfl) (by decide) (by decide) (lenOf pd_13 rfl) rfl at_195 (pc' := 200) rfl ?_
      intro T40 v40 L40 X40 hQ40
      obtain ⟨rfl, Nq40, eq40⟩ := hQ40
      have N40 := Fr.app N39 Nq40
      show GolF _ _ _ _ _ _ _ T40 m 200 #[.val (.int p0), .val (.int p1), .val (.int p2), .val (.int (if (p0 &&& (1 : Int32)) = (0 : Int32) then (0 : Int32) else (1 : Int32))), .val (.int (2 : Int32)), .val (.ref b2), .val (.ref b4), .val (.ref b6), .val (.ref b11), .val (.ref b16), .val (.ref b22), .val (.int (1 : Int32)), .unset] [(.int (Int32.ofNat (1 + 1)))]
      refine Gol.iload X40 hx hby at_200 (pc' := 202) rfl rfl ?_
      refine Gol.icmpNo X40 hx hby at_202 (pc' := 205) rfl (teq rfl).2 ?_
      refine Gol.iconst X40 hx hby at_205 (pc' := 206) rfl (z := (1 : Int32)) rfl ?_
      refine Gol.goto X40 hx hby at_206 (pc' := 210) (by decide) ?_
      refine Gol.istore X40 hx hby at_210 (pc' := 212) rfl (l' := #[.val (.int p0), .val (.int p1), .val (.int p2), .val (.int (if (p0 &&& (1 : Int32)) = (0 : Int32) then (0 : Int32) else (1 : Int32))), .val (.int (2 : Int32)), .val (.ref b2), .val (.ref b4), .val (.ref b6), .val (.ref b11), .val (.ref b16), .val (.ref b22), .val (.int (1 : Int32)), .unset]) rfl ?_
      refine Gol.iload X40 hx hby at_212 (pc' := 214) rfl rfl ?_
      refine Gol.ifNo X40 hx hby at_214 (pc' := 217) rfl ((if0 _ _).trans (feq (by decide : ¬ ((1 : Int32) = (0 : Int32)))).1) ?_
      refine Gol.iload X40 hx hby at_217 (pc' := 219) rfl rfl ?_
      refine Gol.iconst X40 hx hby at_219 (pc' := 220) rfl (z := (1 : Int32)) rfl ?_
      refine Gol.icmpNo X40 hx hby at_220 (pc' := 223) rfl (flt (by decide : ¬ ((2 : Int32) < (1 : Int32)))).1 ?_
      refine Gol.aload X40 hx hby at_223 (pc' := 225) rfl rfl rfl ?_
      refine Gol.iconst X40 hx hby at_225 (pc' := 226) rfl (z := (0 : Int32)) rfl ?_
      refine Gol.callF X40 hx hby hZ hown 0 [(.int (0 : Int32))] (a := b22) (hw _ (List.mem_of_getElem? (i := 162) rfl)) (hw _ (List.mem_of_getElem? (i := 163) rfl)) (mvT hZ (hw _ (List.mem_of_getElem? (i := 164) rfl))) (hw _ (List.mem_of_getElem? (i := 165) rfl)) (hw _ (List.mem_of_getElem? (i := 166) rfl)) (hw _ (List.mem_of_getElem? (i := 167) rfl)) (hw _ (List.mem_of_getElem? (i := 168) rfl)) (hw _ (List.mem_of_getElem? (i := 110) rfl)) (hw _ (List.mem_of_getElem? (i := 81) rfl)) (hw _ (List.mem_of_getElem? (i := 169) rfl)) (by decide) E_b22 (rmGet l Z a0 hw [] b22 (0 : Int32) (.int mz37) e36a ka36 (vs36.set 1 (.ref x37)) ((1 + 1)) 0 x36 T38.heap n0 Zs rfl (by omega) (by omega) ⟨E_b22, F_b22_modCount, F_b22_elementData, F_b22_size⟩ V_e36a ((own_set0 _ _ _).trans hf36)) (by decide) (by decide) eq40 (by rw [hml]; rfl) (rest := []) (Nat.le_of_eq rfl) (by decide) (by decide) (lenOf pd_8 rfl) rfl at_226 (pc' := 231) rfl ?_
      intro T41 v41 L41 X41 hQ41
      obtain ⟨rfl, Nq41, eq41⟩ := hQ41
      have N41 := Fr.app N40 Nq41
      show GolF _ _ _ _ _ _ _ T41 m 231 #[.val (.int p0), .val (.int p1), .val (.int p2), .val (.int (if (p0 &&& (1 : Int32)) = (0 : Int32) then (0 : Int32) else (1 : Int32))), .val (.int (2 : Int32)), .val (.ref b2), .val (.ref b4), .val (.ref b6), .val (.ref b11), .val (.ref b16), .val (.ref b22), .val (.int (1 : Int32)), .unset] [(.ref x36)]
      refine Gol.castY X41 hx hby hZ hown (hw _ (List.mem_of_getElem? (i := 183) rfl)) eq41 (Ins.self E_x36) at_231 (pc' := 234) rfl ?_
      intro T42 X42 e42
      refine Gol.astore X42 hx hby at_234 (pc' := 236) rfl rfl (l' := #[.val (.int p0), .val (.int p1), .val (.int p2), .val (.int (if (p0 &&& (1 : Int32)) = (0 : Int32) then (0 : Int32) else (1 : Int32))), .val (.int (2 : Int32)), .val (.ref b2), .val (.ref b4), .val (.ref b6), .val (.ref b11), .val (.ref b16), .val (.ref b22), .val (.int (1 : Int32)), .val (.ref x36)]) rfl ?_
      refine Gol.aload X42 hx hby at_236 (pc' := 238) rfl rfl rfl ?_
      refine Gol.callV X42 hx hby hZ hown 0 [] (a := x36) (hw _ (List.mem_of_getElem? (i := 185) rfl)) (hw _ (List.mem_of_getElem? (i := 186) rfl)) (notFace_of_selects (args := #[]) (mvT hZ (hw _ (List.mem_of_getElem? (i := 188) rfl)))) (hw _ (List.mem_of_getElem? (i := 188) rfl)) (hw _ (List.mem_of_getElem? (i := 187) rfl)) (hw _ (List.mem_of_getElem? (i := 121) rfl)) (hw _ (List.mem_of_getElem? (i := 189) rfl)) (by decide) E_x36 (rmRecv l Z a0 hw [] x36 .null b6 T38.heap n0 Zs ⟨E_x36, F_x36_receiver, F_x36_send⟩ g_x36) (by decide) (by decide) e42 (by rw [hml]; rfl) (rest := []) (Nat.le_of_eq rfl) (by decide) (by decide) (lenOf pd_14 rfl) rfl at_238 (pc' := 241) rfl ?_
      intro T43 v43 L43 X43 hQ43
      obtain ⟨rfl, Nq43, eq43⟩ := hQ43
      have N43 := Fr.app N41 Nq43
      show GolF _ _ _ _ _ _ _ T43 m 241 #[.val (.int p0), .val (.int p1), .val (.int p2), .val (.int (if (p0 &&& (1 : Int32)) = (0 : Int32) then (0 : Int32) else (1 : Int32))), .val (.int (2 : Int32)), .val (.ref b2), .val (.ref b4), .val (.ref b6), .val (.ref b11), .val (.ref b16), .val (.ref b22), .val (.int (1 : Int32)), .val (.ref x36)] [(.ref b6)]
      refine Gol.aload X43 hx hby at_241 (pc' := 243) rfl rfl rfl ?_
      refine Gol.acmp X43 hx hby (pc' := 246) true at_243 rfl rfl (decide_eq_true rfl) (by decide) (by decide) ?_
      refine Gol.aload X43 hx hby at_246 (pc' := 248) rfl rfl rfl ?_
      refine Gol.callV X43 hx hby hZ hown 0 [] (a := x36) (hw _ (List.mem_of_getElem? (i := 190) rfl)) (hw _ (List.mem_of_getElem? (i := 191) rfl)) (notFace_of_selects (args := #[]) (mvT hZ (hw _ (List.mem_of_getElem? (i := 193) rfl)))) (hw _ (List.mem_of_getElem? (i := 193) rfl)) (hw _ (List.mem_of_getElem? (i := 192) rfl)) (hw _ (List.mem_of_getElem? (i := 121) rfl)) (hw _ (List.mem_of_getElem? (i := 194) rfl)) (by decide) E_x36 (rmSend l Z a0 hw [] x36 (.ref b6) T38.heap n0 Zs ⟨E_x36, F_x36_receiver, F_x36_send⟩ g_x36) (by decide) (by decide) eq43 (by rw [hml]; rfl) (rest := []) (Nat.le_of_eq rfl) (by decide) (by decide) (lenOf pd_15 rfl) rfl at_248 (pc' := 251) rfl ?_
      intro T44 v44 L44 X44 hQ44
      obtain ⟨rfl, Nq44, eq44⟩ := hQ44
      have N44 := Fr.app N43 Nq44
      show GolF _ _ _ _ _ _ _ T44 m 251 #[.val (.int p0), .val (.int p1), .val (.int p2), .val (.int (if (p0 &&& (1 : Int32)) = (0 : Int32) then (0 : Int32) else (1 : Int32))), .val (.int (2 : Int32)), .val (.ref b2), .val (.ref b4), .val (.ref b6), .val (.ref b11), .val (.ref b16), .val (.ref b22), .val (.int (1 : Int32)), .val (.ref x36)] [.null]
      refine Gol.ifnonnullNo X44 hx hby at_251 (pc' := 254) rfl ?_
      refine Gol.iconst X44 hx hby at_254 (pc' := 255) rfl (z := (1 : Int32)) rfl ?_
      refine Gol.goto X44 hx hby at_255 (pc' := 259) (by decide) ?_
      refine Gol.istore X44 hx hby at_259 (pc' := 261) rfl (l' := #[.val (.int p0), .val (.int p1), .val (.int p2), .val (.int (if (p0 &&& (1 : Int32)) = (0 : Int32) then (0 : Int32) else (1 : Int32))), .val (.int (2 : Int32)), .val (.ref b2), .val (.ref b4), .val (.ref b6), .val (.ref b11), .val (.ref b16), .val (.ref b22), .val (.int (1 : Int32)), .val (.ref x36)]) rfl ?_
      refine Gol.iload X44 hx hby at_261 (pc' := 263) rfl rfl ?_
      refine Gol.ifNo X44 hx hby at_263 (pc' := 266) rfl ((if0 _ _).trans (feq (by decide : ¬ ((1 : Int32) = (0 : Int32)))).1) ?_
      refine Gol.iload X44 hx hby at_266 (pc' := 268) rfl rfl ?_
      refine Gol.iconst X44 hx hby at_268 (pc' := 269) rfl (z := (2 : Int32)) rfl ?_
      refine Gol.icmpNo X44 hx hby at_269 (pc' := 272) rfl (flt (by decide : ¬ ((2 : Int32) < (2 : Int32)))).1 ?_
      refine Gol.aload X44 hx hby at_272 (pc' := 274) rfl rfl rfl ?_
      refine Gol.iconst X44 hx hby at_274 (pc' := 275) rfl (z := (1 : Int32)) rfl ?_
      refine Gol.callF X44 hx hby hZ hown 0 [(.int (1 : Int32))] (a := b22) (hw _ (List.mem_of_getElem? (i := 162) rfl)) (hw _ (List.mem_of_getElem? (i := 163) rfl)) (mvT hZ (hw _ (List.mem_of_getElem? (i := 164) rfl))) (hw _ (List.mem_of_getElem? (i := 165) rfl)) (hw _ (List.mem_of_getElem? (i := 166) rfl)) (hw _ (List.mem_of_getElem? (i := 167) rfl)) (hw _ (List.mem_of_getElem? (i := 168) rfl)) (hw _ (List.mem_of_getElem? (i := 110) rfl)) (hw _ (List.mem_of_getElem? (i := 81) rfl)) (hw _ (List.mem_of_getElem? (i := 169) rfl)) (by decide) E_b22 (rmGet l Z a0 hw [] b22 (1 : Int32) (.int mz37) e36a ka36 (vs36.set 1 (.ref x37)) ((1 + 1)) 1 x37 T38.heap n0 Zs rfl (by omega) (by omega) ⟨E_b22, F_b22_modCount, F_b22_elementData, F_b22_size⟩ V_e36a (own_set1 _ _ hl36)) (by decide) (by decide) eq44 (by rw [hml]; rfl) (rest := []) (Nat.le_of_eq rfl) (by decide) (by decide) (lenOf pd_8 rfl) rfl at_275 (pc' := 280) rfl ?_
      intro T45 v45 L45 X45 hQ45
      obtain ⟨rfl, Nq45, eq45⟩ := hQ45
      have N45 := Fr.app N44 Nq45
      show GolF _ _ _ _ _ _ _ T45 m 280 #[.val (.int p0), .val (.int p1), .val (.int p2), .val (.int (if (p0 &&& (1 : Int32)) = (0 : Int32) then (0 : Int32) else (1 : Int32))), .val (.int (2 : Int32)), .val (.ref b2), .val (.ref b4), .val (.ref b6), .val (.ref b11), .val (.ref b16), .val (.ref b22), .val (.int (1 : Int32)), .val (.ref x36)] [(.ref x37)]
      refine Gol.castY X45 hx hby hZ hown (hw _ (List.mem_of_getElem? (i := 183) rfl)) eq45 (Ins.self E_x37) at_280 (pc' := 283) rfl ?_
      intro T46 X46 e46
      refine Gol.astore X46 hx hby at_283 (pc' := 285) rfl rfl (l' := #[.val (.int p0), .val (.int p1), .val (.int p2), .val (.int (if (p0 &&& (1 : Int32)) = (0 : Int32) then (0 : Int32) else (1 : Int32))), .val (.int (2 : Int32)), .val (.ref b2), .val (.ref b4), .val (.ref b6), .val (.ref b11), .val (.ref b16), .val (.ref b22), .val (.int (1 : Int32)), .val (.ref x37)]) rfl ?_
      refine Gol.aload X46 hx hby at_285 (pc' := 287) rfl rfl rfl ?_
      refine Gol.callV X46 hx hby hZ hown 0 [] (a := x37) (hw _ (List.mem_of_getElem? (i := 185) rfl)) (hw _ (List.mem_of_getElem? (i := 186) rfl)) (notFace_of_selects (args := #[]) (mvT hZ (hw _ (List.mem_of_getElem? (i := 188) rfl)))) (hw _ (List.mem_of_getElem? (i := 188) rfl)) (hw _ (List.mem_of_getElem? (i := 187) rfl)) (hw _ (List.mem_of_getElem? (i := 121) rfl)) (hw _ (List.mem_of_getElem? (i := 189) rfl)) (by decide) E_x37 (rmRecv l Z a0 hw [] x37 .null b11 T38.heap n0 Zs ⟨E_x37, F_x37_receiver, F_x37_send⟩ g_x37) (by decide) (by decide) e46 (by rw [hml]; rfl) (rest := []) (Nat.le_of_eq rfl) (by decide) (by decide) (lenOf pd_14 rfl) rfl at_287 (pc' := 290) rfl ?_
      intro T47 v47 L47 X47 hQ47
      obtain ⟨rfl, Nq47, eq47⟩ := hQ47
      have N47 := Fr.app N45 Nq47
      show GolF _ _ _ _ _ _ _ T47 m 290 #[.val (.int p0), .val (.int p1), .val (.int p2), .val (.int (if (p0 &&& (1 : Int32)) = (0 : Int32) then (0 : Int32) else (1 : Int32))), .val (.int (2 : Int32)), .val (.ref b2), .val (.ref b4), .val (.ref b6), .val (.ref b11), .val (.ref b16), .val (.ref b22), .val (.int (1 : Int32)), .val (.ref x37)] [(.ref b11)]
      refine Gol.aload X47 hx hby at_290 (pc' := 292) rfl rfl rfl ?_
      refine Gol.acmp X47 hx hby (pc' := 295) true at_292 rfl rfl (decide_eq_true rfl) (by decide) (by decide) ?_
      refine Gol.aload X47 hx hby at_295 (pc' := 297) rfl rfl rfl ?_
      refine Gol.callV X47 hx hby hZ hown 0 [] (a := x37) (hw _ (List.mem_of_getElem? (i := 190) rfl)) (hw _ (List.mem_of_getElem? (i := 191) rfl)) (notFace_of_selects (args := #[]) (mvT hZ (hw _ (List.mem_of_getElem? (i := 193) rfl)))) (hw _ (List.mem_of_getElem? (i := 193) rfl)) (hw _ (List.mem_of_getElem? (i := 192) rfl)) (hw _ (List.mem_of_getElem? (i := 121) rfl)) (hw _ (List.mem_of_getElem? (i := 194) rfl)) (by decide) E_x37 (rmSend l Z a0 hw [] x37 (.ref b11) T38.heap n0 Zs ⟨E_x37, F_x37_receiver, F_x37_send⟩ g_x37) (by decide) (by decide) eq47 (by rw [hml]; rfl) (rest := []) (Nat.le_of_eq rfl) (by decide) (by decide) (lenOf pd_15 rfl) rfl at_297 (pc' := 300) rfl ?_
      intro T48 v48 L48 X48 hQ48
      obtain ⟨rfl, Nq48, eq48⟩ := hQ48
      have N48 := Fr.app N47 Nq48
      show GolF _ _ _ _ _ _ _ T48 m 300 #[.val (.int p0), .val (.int p1), .val (.int p2), .val (.int (if (p0 &&& (1 : Int32)) = (0 : Int32) then (0 : Int32) else (1 : Int32))), .val (.int (2 : Int32)), .val (.ref b2), .val (.ref b4), .val (.ref b6), .val (.ref b11), .val (.ref b16), .val (.ref b22), .val (.int (1 : Int32)), .val (.ref x37)] [.null]
      refine Gol.ifnonnullNo X48 hx hby at_300 (pc' := 303) rfl ?_
      refine Gol.iconst X48 hx hby at_303 (pc' := 304) rfl (z := (1 : Int32)) rfl ?_
      refine Gol.goto X48 hx hby at_304 (pc' := 308) (by decide) ?_
      refine Gol.istore X48 hx hby at_308 (pc' := 310) rfl (l' := #[.val (.int p0), .val (.int p1), .val (.int p2), .val (.int (if (p0 &&& (1 : Int32)) = (0 : Int32) then (0 : Int32) else (1 : Int32))), .val (.int (2 : Int32)), .val (.ref b2), .val (.ref b4), .val (.ref b6), .val (.ref b11), .val (.ref b16), .val (.ref b22), .val (.int (1 : Int32)), .val (.ref x37)]) rfl ?_
      refine Gol.iload X48 hx hby at_310 (pc' := 312) rfl rfl ?_
      refine Gol.ifNo X48 hx hby at_312 (pc' := 315) rfl ((if0 _ _).trans (feq (by decide : ¬ ((1 : Int32) = (0 : Int32)))).1) ?_
      refine Gol.aload X48 hx hby at_315 (pc' := 317) rfl rfl rfl ?_
      refine Gol.callV X48 hx hby hZ hown 0 [] (a := b16) (hw _ (List.mem_of_getElem? (i := 62) rfl)) (hw _ (List.mem_of_getElem? (i := 63) rfl)) (notFace_of_selects (args := #[]) (mvT hZ (hw _ (List.mem_of_getElem? (i := 65) rfl)))) (hw _ (List.mem_of_getElem? (i := 65) rfl)) (hw _ (List.mem_of_getElem? (i := 64) rfl)) (hw _ (List.mem_of_getElem? (i := 52) rfl)) (hw _ (List.mem_of_getElem? (i := 66) rfl)) (by decide) E_b16 (rmRelN l Z a0 hw [] b16 (.long (-1 : Int64)) .null (.int (-1 : Int32)) T38.heap n0 Zs ⟨E_b16, F_b16_lastSent, F_b16_held, F_b16_deferredMove⟩ g_b16) (by decide) (by decide) eq48 (by rw [hml]; rfl) (rest := []) (Nat.le_of_eq rfl) (by decide) (by decide) (lenOf pd_11 rfl) rfl at_317 (pc' := 320) rfl ?_
      intro T49 v49 L49 X49 hQ49
      obtain ⟨rfl, Nq49, Kq49, Oq49⟩ := hQ49
      have N49 := Fr.app N48 Nq49
      have E_b16 := E_b16.keep Kq49
      have E_b22 := E_b22.keep Kq49
      have E_x36 := E_x36.keep Kq49
      have E_x37 := E_x37.keep Kq49
      have F_x36_receiver := F_x36_receiver.keep Kq49 (ninS ne_b16_x36.symm nin0)
      have F_x36_send := F_x36_send.keep Kq49 (ninS ne_b16_x36.symm nin0)
      have F_b22_modCount := F_b22_modCount.keep Kq49 (ninS ne_b16_b22.symm nin0)
      have F_b22_elementData := F_b22_elementData.keep Kq49 (ninS ne_b16_b22.symm nin0)
      have F_b22_size := F_b22_size.keep Kq49 (ninS ne_b16_b22.symm nin0)
      have F_x37_receiver := F_x37_receiver.keep Kq49 (ninS ne_b16_x37.symm nin0)
      have F_x37_send := F_x37_send.keep Kq49 (ninS ne_b16_x37.symm nin0)
      have V_e36a := V_e36a.keep Kq49 (ninS ne_b16_e36a.symm nin0)
      have O := O.keep Kq49 (allS g_b16 all0)
      have Zs := Nat.le_trans Zs Kq49.1
      have hkv := Nat.le_trans hkv Kq49.1
      show GolF _ _ _ _ _ _ _ T49 m 320 #[.val (.int p0), .val (.int p1), .val (.int p2), .val (.int (if (p0 &&& (1 : Int32)) = (0 : Int32) then (0 : Int32) else (1 : Int32))), .val (.int (2 : Int32)), .val (.ref b2), .val (.ref b4), .val (.ref b6), .val (.ref b11), .val (.ref b16), .val (.ref b22), .val (.int (1 : Int32)), .val (.ref x37)] [.null]
      obtain ⟨E_b16, F_b16_lastSent, F_b16_held, F_b16_deferredMove⟩ := Oq49
      refine Gol.ifnonnullNo X49 hx hby at_320 (pc' := 323) rfl ?_
      refine Gol.iconst X49 hx hby at_323 (pc' := 324) rfl (z := (1 : Int32)) rfl ?_
      refine Gol.goto X49 hx hby at_324 (pc' := 328) (by decide) ?_
      refine Gol.istore X49 hx hby at_328 (pc' := 330) rfl (l' := #[.val (.int p0), .val (.int p1), .val (.int p2), .val (.int (if (p0 &&& (1 : Int32)) = (0 : Int32) then (0 : Int32) else (1 : Int32))), .val (.int (2 : Int32)), .val (.ref b2), .val (.ref b4), .val (.ref b6), .val (.ref b11), .val (.ref b16), .val (.ref b22), .val (.int (1 : Int32)), .val (.ref x37)]) rfl ?_
      refine Gol.iload X49 hx hby at_330 (pc' := 332) rfl rfl ?_
      exact Gol.retNW X49 hx hby hSv hkv (t := .boolean) Bd.returns (by simp) Bd.notSynchronized at_332 rfl ⟨rfl, N49⟩ (by decide) (by decide)
set_option maxRecDepth 65536 in
set_option maxHeartbeats 40000000 in
theorem comes_1 {Post : Tables → Env → Array Value → State → Outcome → State → Prop} (hpost : ∀ tb e args s v u, (limb_1_1.after args s (.returned v) u = true ∧ limb_1_2.after args s (.returned v) u = true ∧ True) → ReturnedEndW s (.returned v) u (Jvm.fieldLocs frame_1_writes args s ++ Jvm.arrayLocs frame_1_arrays args s ++ Jvm.staticLocs frame_1_statics s) 40 2240 → Post tb e args s (.returned v) u) :
    ArmFor flags0 classFile x code maxLocals ret World_1 tables_1 room_1 Calls_1 rest_1 Pre_1 Post := by
  intro l hfl _ _ p e ha hc hk s m args below hf hA hF happ hP
  obtain ⟨hcalls, hrest, hpre⟩ := hP
  obtain ⟨-, -, -, hnamed, -, -, -, hat⟩ := (Spec.applies_iff hf).mp happ
  obtain ⟨hg, hn⟩ := and_e (Cond.before_iff.mp (show (Jvm.Cond.and given_1 narrow_1).before args s = true from hpre))
  obtain ⟨gc, gr0⟩ := and_e hg
  obtain ⟨gk0, gr1⟩ := and_e gr0
  obtain ⟨gk1, gr2⟩ := and_e gr1
  obtain ⟨w0, w1, w2, rfl⟩ : ∃ w0 w1 w2 : Value, args = #[w0, w1, w2] := by
    have hs : args.size = 3 := by simpa [Cond.value, given_1] using gc
    obtain ⟨L⟩ := args
    match L, hs with
    | [w0, w1, w2], _ => exact ⟨w0, w1, w2, rfl⟩
  have hw := fun d (hd : d ∈ tables_1) => atoms_spec (ws := Jvm.Cond.code x code maxLocals ret :: tables_1) hat d (List.mem_cons_of_mem _ hd)
  have hfit : Fit s := fun {y c} hc i hi => by
    obtain ⟨ha, rfl⟩ := Array.getElem?_eq_some_iff.mp hc
    have q := List.all_eq_true.mp ((Array.all_eq_true_iff_forall_mem.mp hF) _ (Array.getElem_mem ha)) i (List.mem_range.mpr hi)
    simpa [Array.getElem?_eq_getElem hi] using q
  obtain ⟨hsets, hown0⟩ := atoms_of _ (rest_1_c_eq ▸ (show rest_1_c.before _ s = true from hrest))
  have hr0 := Cond.before_iff.mp hown0
  obtain ⟨i0, ei0⟩ := is_v gk0
  obtain rfl : w0 = (.int i0) := Option.some.inj ei0
  obtain ⟨i1, ei1⟩ := is_v gk1
  obtain rfl : w1 = (.int i1) := Option.some.inj ei1
  obtain ⟨i2, ei2⟩ := is_v gr2
  obtain rfl : w2 = (.int i2) := Option.some.inj ei2
  have hs := fun i (d : Jvm.Cond) (hd : jdkStatics_1[i]? = some d) => hsets d (List.mem_of_getElem? hd)
  have qa := Cond.before_iff.mp (hs 15 _ rfl)
  have qx := hs 16 _ rfl
  have ql := Cond.before_iff.mp (hs 17 _ rfl)
  obtain ⟨e0, _, _, _, ev, -⟩ := Cond.exactly_spec qx
  have S0 := Sta.start ev (Or.inr ⟨hw _ (List.mem_of_getElem? (i := 81) rfl), hs 11 _ rfl⟩)
  obtain ⟨cl, Ar⟩ := Arr.start ev qa
  have V0 := own_empty hfit ev Ar ql
  obtain ⟨zc, evc⟩ := is_v (Cond.before_iff.mp (hs 1 _ rfl))
  have SC := Sta.start evc (Or.inl (hs 0 _ rfl))
  have hzc : ¬ zc = 0 := gotF (Cond.eq_ints evc (Term.int_eval 0)) (own_not (Cond.before_iff.mp (hs 2 _ rfl)))
  obtain ⟨n, o, h1, h2, h3, _, L, rfl, ⟨rfl, N⟩, hq⟩ := rm0 l s _ hw tables_1 i0 i1 i2 e0 cl.cls zc s.heap s.heap.size (Nat.le_refl _) S0 V0 (Old.start s) SC hzc p e ha hc hk s m _ below hf ((Spec.applies_iff_loose hf).mp happ).1 ⟨rfl, State.Warmed39.refl s, rfl⟩ trivial
  refine ⟨n, _, h1, h2, h3, hpost _ _ _ _ _ _ ⟨Cond.after_iff.mpr rfl, Cond.after_iff.mpr (eq_i res_at (Term.int_eval (1)) rfl), trivial⟩ ⟨hq.1, hq.2.1, hq.2.2.1, (hq.2.2.2.sift fun y hy => Or.inr (N y hy)).mono (by decide) (by decide)⟩⟩
theorem main_1_1 : Claimed_1_1 := comes_1 fun _ _ _ _ _ _ h hF => ⟨h.1, hF⟩
theorem main_1_2 : Claimed_1_2 := comes_1 fun _ _ _ _ _ _ h hF => ⟨h.2.1, hF⟩
end Jvm.Pilot.@@N@@
namespace Jvm.Pilot.@@N@@
open Jvm Jvm.ClassFile Sem Op Lib Jvm.Free Jvm.Stand Jvm.Pilot.@@N@@.Jvm.D
/-! MADE BY PROGRAM (witnessworld.py) out of the Statement's table words and the real class files: 32 classes; the members and pool entries that the words name. The judged class is class 1, her method 1. -/
namespace start1
open Jvm.ClassFile
def u (s : String) : CpInfo := .utf8 (stringToUtf16 s)
/-- a pool by its gaps: so many unusable entries, then the entry; so many at the end -/
def gap : Nat → List CpInfo → List CpInfo
  | 0, r => r
  | n + 1, r => .unusable :: gap n r
def poolList (es : List (Nat × CpInfo)) (last : Nat) : List CpInfo := es.foldr (fun e r => gap e.1 (e.2 :: r)) (gap last [])
def pool (es : List (Nat × CpInfo)) (last : Nat) : Array CpInfo := ⟨poolList es last⟩
def fileOf (pool : Array CpInfo) (this : Nat) (attrs : Array Attribute := #[]) (ms : Array MethodInfo := #[]) (fl : Nat := 33) (sup : Nat := 0) (ifs : Array Nat := #[]) (fds : Array FieldInfo := #[]) : ClassFile where
  minorVersion := 0
  majorVersion := 65
  constantPool := pool
  accessFlags := fl
  thisClass := this
  superClass := sup
  interfaces := ifs
  fields := fds
  methods := ms
  attributes := attrs
def plain (name : String) (sup : Option ClassId) : Class where
  name := name
  kind := .ordinary
  loader := none
  accessFlags := 33
  super := sup
  interfaces := #[]
  cf := none
  fields := #[]
  methods := #[]
  instanceTypes := #[]
  staticTypes := #[]
  resolved := #[]
  callSites := []
  init := .initialized
  statics := none
  mirror := none

def pool0 : Array CpInfo := pool [(5, u "<init>"), (0, u "()V"), (1, .class_ 10), (1, u "java/lang/Object")] 113

def k0c0 : Code := { maxStack := 0, maxLocals := 1, code := object_method_1_code, exceptionTable := #[], attributes := #[] }
def k0m0 : Method := { name := "<init>", desc := "()V", sig := { parameters := [], returnType := none }, accessFlags := 1, code := some k0c0 }
/-- java/lang/Object -/
def k0 : Class := { plain "java/lang/Object" none with
  accessFlags := 33
  interfaces := #[]
  cf := some (fileOf pool0 8 #[] #[{ accessFlags := 1, nameIndex := 5, descriptorIndex := 6, attributes := #[] }] 33 0 #[] #[])
  fields := #[]
  methods := #[k0m0]
  instanceTypes := #[]
  staticTypes := #[]
  resolved := Array.replicate 124 none
  statics := none }

def pool1 : Array CpInfo := pool [(2, .class_ 4), (0, .nameAndType 5 6), (0, u "java/lang/Object"), (0, u "<init>"), (0, u "()V"), (0, .class_ 8), (0, u "com/example/ballast/ballast/runtime/ActorId"), (0, .string 10), (0, u "A"), (0, .class_ 12), (0, u "java/lang/String"), (0, .methodref 11 14), (0, .nameAndType 5 15), (0, u "([C)V"), (0, .methodref 7 17), (0, .nameAndType 5 18), (0, u "(Ljava/lang/String;Ljava/lang/String;)V"), (0, .string 20), (0, u "B"), (0, .class_ 22), (0, u "com/example/ballast/ballast/runtime/Outbox"), (0, .methodref 21 3), (0, .methodref 21 25), (0, .nameAndType 26 6), (0, u "holdUntilReleased"), (0, .methodref 21 28), (0, .nameAndType 29 30), (0, u "hold"), (0, u "(Lcom/example/ballast/ballast/runtime/ActorId;Ljava/util/function/IntConsumer;)V"), (0, .methodref 21 32), (0, .nameAndType 33 34), (0, u "release"), (0, u "()Ljava/util/List;"), (0, .methodref 21 36), (0, .nameAndType 37 38), (0, u "isHolding"), (0, u "()Z"), (0, .interfaceMethodref 40 41), (0, .class_ 42), (0, .nameAndType 43 44), (0, u "java/util/List"), (0, u "size"), (0, u "()I"), (0, .interfaceMethodref 40 46), (0, .nameAndType 47 48), (0, u "get"), (0, u "(I)Ljava/lang/Object;"), (0, .class_ 50), (0, u "com/example/ballast/ballast/runtime/Outbox$Held"), (0, .methodref 49 52), (0, .nameAndType 53 54), (0, u "receiver"), (0, u "()Lcom/example/ballast/ballast/runtime/ActorId;"), (0, .methodref 49 56), (0, .nameAndType 57 58), (0, u "send"), (0, u "()Ljava/util/function/IntConsumer;"), (0, .class_ 60), (0, u "com/example/ballast/ballast/runtime/OutboxReleasePinLaw"), (2, u "law"), (0, u "(III)Z")] 7

def k1m0 : Method := { name := "<init>", desc := "()V", sig := { parameters := [], returnType := none }, accessFlags := 1, code := none }
def k1c1 : Code := { maxStack := 6, maxLocals := 13, code := code, exceptionTable := #[], attributes := #[] }
def k1m1 : Method := { name := "law", desc := "(III)Z", sig := { parameters := [.int, .int, .int], returnType := some .boolean }, accessFlags := 9, code := some k1c1 }
/-- com/example/ballast/ballast/runtime/OutboxReleasePinLaw -/
def k1 : Class := { plain "com/example/ballast/ballast/runtime/OutboxReleasePinLaw" (some 0) with
  accessFlags := 49
  interfaces := #[]
  cf := some (fileOf pool1 59 #[] #[{ accessFlags := 1, nameIndex := 5, descriptorIndex := 6, attributes := #[] }, { accessFlags := 9, nameIndex := 63, descriptorIndex := 64, attributes := #[] }] 49 2 #[] #[])
  fields := #[]
  methods := #[k1m0, k1m1]
  instanceTypes := #[]
  staticTypes := #[]
  resolved := Array.replicate 72 none
  statics := none }

def pool2 : Array CpInfo := pool [(1, .methodref 2 3), (0, .class_ 4), (0, .nameAndType 5 6), (0, u "java/lang/Object"), (0, u "<init>"), (0, u "()V"), (0, .class_ 8), (0, u "java/lang/Record")] 13

def k2c0 : Code := { maxStack := 1, maxLocals := 1, code := jdk_30_method_1_code, exceptionTable := #[], attributes := #[] }
def k2m0 : Method := { name := "<init>", desc := "()V", sig := { parameters := [], returnType := none }, accessFlags := 4, code := some k2c0 }
/-- java/lang/Record -/
def k2 : Class := { plain "java/lang/Record" (some 0) with
  accessFlags := 1057
  interfaces := #[]
  cf := some (fileOf pool2 7 #[] #[{ accessFlags := 4, nameIndex := 5, descriptorIndex := 6, attributes := #[] }] 1057 2 #[] #[])
  fields := #[]
  methods := #[k2m0]
  instanceTypes := #[]
  staticTypes := #[]
  resolved := Array.replicate 22 none
  statics := none }

def pool3 : Array CpInfo := pool [(1, .methodref 2 3), (0, .class_ 4), (0, .nameAndType 5 6), (0, u "java/lang/Record"), (0, u "<init>"), (0, u "()V"), (0, .fieldref 8 9), (0, .class_ 10), (0, .nameAndType 11 12), (0, u "com/example/ballast/ballast/runtime/ActorId"), (0, u "type"), (0, u "Ljava/lang/String;"), (0, .fieldref 8 14), (0, .nameAndType 15 12), (0, u "key"), (12, u "(Ljava/lang/String;Ljava/lang/String;)V")] 36

def k3c0 : Code := { maxStack := 2, maxLocals := 3, code := prog_59_method_1_code, exceptionTable := #[], attributes := #[] }
def k3m0 : Method := { name := "<init>", desc := "(Ljava/lang/String;Ljava/lang/String;)V", sig := { parameters := [(.object "java/lang/String"), (.object "java/lang/String")], returnType := none }, accessFlags := 1, code := some k3c0 }
/-- com/example/ballast/ballast/runtime/ActorId -/
def k3 : Class := { plain "com/example/ballast/ballast/runtime/ActorId" (some 2) with
  accessFlags := 49
  interfaces := #[]
  cf := some (fileOf pool3 8 #[] #[{ accessFlags := 1, nameIndex := 5, descriptorIndex := 28, attributes := #[] }] 49 2 #[] #[{ accessFlags := 18, nameIndex := 11, descriptorIndex := 12, attributes := #[] }, { accessFlags := 18, nameIndex := 15, descriptorIndex := 12, attributes := #[] }])
  fields := #[{ name := "type", type := (.object "java/lang/String"), accessFlags := 18, slot := 0, constantValue := 0 }, { name := "key", type := (.object "java/lang/String"), accessFlags := 18, slot := 1, constantValue := 0 }]
  methods := #[k3m0]
  instanceTypes := #[(.object "java/lang/String"), (.object "java/lang/String")]
  staticTypes := #[]
  resolved := Array.replicate 65 none
  statics := none }

def pool4 : Array CpInfo := pool [(1, .class_ 2), (0, u "java/io/Serializable"), (0, .class_ 4), (0, u "java/lang/Object")] 2

/-- java/io/Serializable -/
def k4 : Class := { plain "java/io/Serializable" (some 0) with
  accessFlags := 1537
  interfaces := #[]
  cf := some (fileOf pool4 1 #[] #[] 1537 3 #[] #[])
  fields := #[]
  methods := #[]
  instanceTypes := #[]
  staticTypes := #[]
  resolved := Array.replicate 7 none
  statics := none }

def pool5 : Array CpInfo := pool [(1, .class_ 2), (0, u "java/lang/Comparable"), (0, .class_ 4), (0, u "java/lang/Object")] 7

/-- java/lang/Comparable -/
def k5 : Class := { plain "java/lang/Comparable" (some 0) with
  accessFlags := 1537
  interfaces := #[]
  cf := some (fileOf pool5 1 #[] #[] 1537 3 #[] #[])
  fields := #[]
  methods := #[]
  instanceTypes := #[]
  staticTypes := #[]
  resolved := Array.replicate 12 none
  statics := none }

def pool6 : Array CpInfo := pool [(2, .class_ 4), (1, u "java/lang/CharSequence"), (42, .class_ 48), (0, u "java/lang/CharSequence$1CodePointIterator"), (10, .class_ 60), (0, u "java/lang/CharSequence$1CharIterator"), (5, .class_ 67), (0, u "java/lang/Object")] 63

/-- java/lang/CharSequence -/
def k6 : Class := { plain "java/lang/CharSequence" (some 0) with
  accessFlags := 1537
  interfaces := #[]
  cf := some (fileOf pool6 2 #[.nestMembers #[47, 59]] #[] 1537 66 #[] #[])
  fields := #[]
  methods := #[]
  instanceTypes := #[]
  staticTypes := #[]
  resolved := Array.replicate 131 none
  statics := none }

def pool7 : Array CpInfo := pool [(1, .class_ 2), (0, u "java/lang/constant/Constable"), (0, .class_ 4), (0, u "java/lang/Object")] 6

/-- java/lang/constant/Constable -/
def k7 : Class := { plain "java/lang/constant/Constable" (some 0) with
  accessFlags := 1537
  interfaces := #[]
  cf := some (fileOf pool7 1 #[] #[] 1537 3 #[] #[])
  fields := #[]
  methods := #[]
  instanceTypes := #[]
  staticTypes := #[]
  resolved := Array.replicate 11 none
  statics := none }

def pool8 : Array CpInfo := pool [(1, .class_ 2), (0, u "java/lang/constant/ConstantDesc"), (0, .class_ 4), (0, u "java/lang/Object")] 32

/-- java/lang/constant/ConstantDesc -/
def k8 : Class := { plain "java/lang/constant/ConstantDesc" (some 0) with
  accessFlags := 1537
  interfaces := #[]
  cf := some (fileOf pool8 1 #[] #[] 1537 3 #[] #[])
  fields := #[]
  methods := #[]
  instanceTypes := #[]
  staticTypes := #[]
  resolved := Array.replicate 37 none
  statics := none }

def pool9 : Array CpInfo := pool [(1, .methodref 2 3), (0, .class_ 4), (0, .nameAndType 5 6), (0, u "java/lang/Object"), (0, u "<init>"), (0, u "()V"), (2, .fieldref 10 11), (0, .class_ 12), (0, .nameAndType 13 14), (0, u "java/lang/String"), (0, u "value"), (0, u "[B"), (0, .fieldref 10 16), (0, .nameAndType 17 18), (0, u "coder"), (0, u "B"), (2, u "hash"), (0, u "I"), (2, u "hashIsZero"), (0, u "Z"), (0, .methodref 10 28), (0, .nameAndType 5 29), (0, u "([CIILjava/lang/Void;)V"), (8, .fieldref 10 39), (0, .nameAndType 40 26), (0, u "COMPACT_STRINGS"), (1, .class_ 44), (1, u "java/lang/StringUTF16"), (0, u "compress"), (1, .methodref 42 48), (0, .nameAndType 49 50), (0, u "coderFromArrayLen"), (0, u "([BI)B"), (126, .methodref 42 178), (0, .nameAndType 45 179), (0, u "([CII)[B"), (395, .class_ 576), (0, u "java/lang/CharSequence"), (22, u "CASE_INSENSITIVE_ORDER"), (0, u "Ljava/util/Comparator;"), (409, u "([C)V"), (90, u "serialPersistentFields"), (0, u "[Ljava/io/ObjectStreamField;"), (0, .class_ 1104), (0, u "java/lang/String$CaseInsensitiveComparator"), (1, .class_ 1107), (0, u "java/io/Serializable"), (0, .class_ 1109), (0, u "java/lang/Comparable"), (0, .class_ 1111), (0, u "java/lang/constant/Constable"), (0, .class_ 1113), (0, u "java/lang/constant/ConstantDesc"), (2, u "serialVersionUID"), (0, u "J"), (3, u "REPL"), (0, u "C"), (2, u "LATIN1"), (1, u "UTF16")] 323

def k9m0 : Method := { name := "<init>", desc := "()V", sig := { parameters := [], returnType := none }, accessFlags := 1, code := none }
def k9c1 : Code := { maxStack := 5, maxLocals := 2, code := jdk_42_method_3_code, exceptionTable := #[], attributes := #[] }
def k9m1 : Method := { name := "<init>", desc := "([C)V", sig := { parameters := [(.array .char)], returnType := none }, accessFlags := 1, code := some k9c1 }
def k9c2 : Code := { maxStack := 4, maxLocals := 6, code := jdk_42_method_149_code, exceptionTable := #[], attributes := #[] }
def k9m2 : Method := { name := "<init>", desc := "([CIILjava/lang/Void;)V", sig := { parameters := [(.array .char), .int, .int, (.object "java/lang/Void")], returnType := none }, accessFlags := 2, code := some k9c2 }
/-- java/lang/String -/
def k9 : Class := { plain "java/lang/String" (some 0) with
  accessFlags := 49
  interfaces := #[4, 5, 6, 7, 8]
  cf := some (fileOf pool9 10 #[.nestMembers #[1103]] #[{ accessFlags := 1, nameIndex := 5, descriptorIndex := 6, attributes := #[] }, { accessFlags := 1, nameIndex := 5, descriptorIndex := 1010, attributes := #[] }, { accessFlags := 2, nameIndex := 5, descriptorIndex := 29, attributes := #[] }] 49 2 #[1106, 1108, 575, 1110, 1112] #[{ accessFlags := 18, nameIndex := 13, descriptorIndex := 14, attributes := #[] }, { accessFlags := 18, nameIndex := 17, descriptorIndex := 18, attributes := #[] }, { accessFlags := 2, nameIndex := 21, descriptorIndex := 22, attributes := #[] }, { accessFlags := 2, nameIndex := 25, descriptorIndex := 26, attributes := #[] }, { accessFlags := 26, nameIndex := 1116, descriptorIndex := 1117, attributes := #[] }, { accessFlags := 24, nameIndex := 40, descriptorIndex := 26, attributes := #[] }, { accessFlags := 26, nameIndex := 1101, descriptorIndex := 1102, attributes := #[] }, { accessFlags := 26, nameIndex := 1121, descriptorIndex := 1122, attributes := #[] }, { accessFlags := 25, nameIndex := 599, descriptorIndex := 600, attributes := #[] }, { accessFlags := 24, nameIndex := 1125, descriptorIndex := 18, attributes := #[] }, { accessFlags := 24, nameIndex := 1127, descriptorIndex := 18, attributes := #[] }])
  fields := #[{ name := "value", type := (.array .byte), accessFlags := 18, slot := 0, constantValue := 0 }, { name := "coder", type := .byte, accessFlags := 18, slot := 1, constantValue := 0 }, { name := "hash", type := .int, accessFlags := 2, slot := 2, constantValue := 0 }, { name := "hashIsZero", type := .boolean, accessFlags := 2, slot := 3, constantValue := 0 }, { name := "serialVersionUID", type := .long, accessFlags := 26, slot := 0, constantValue := 0 }, { name := "COMPACT_STRINGS", type := .boolean, accessFlags := 24, slot := 1, constantValue := 0 }, { name := "serialPersistentFields", type := (.array (.object "java/io/ObjectStreamField")), accessFlags := 26, slot := 2, constantValue := 0 }, { name := "REPL", type := .char, accessFlags := 26, slot := 3, constantValue := 0 }, { name := "CASE_INSENSITIVE_ORDER", type := (.object "java/util/Comparator"), accessFlags := 25, slot := 4, constantValue := 0 }, { name := "LATIN1", type := .byte, accessFlags := 24, slot := 5, constantValue := 0 }, { name := "UTF16", type := .byte, accessFlags := 24, slot := 6, constantValue := 0 }]
  methods := #[k9m0, k9m1, k9m2]
  instanceTypes := #[(.array .byte), .byte, .int, .boolean]
  staticTypes := #[.long, .boolean, (.array (.object "java/io/ObjectStreamField")), .char, (.object "java/util/Comparator"), .byte, .byte]
  resolved := Array.replicate 1451 none
  statics := some 0 }

def pool10 : Array CpInfo := pool [(6, .class_ 8), (1, u "java/lang/Object"), (0, u "<init>"), (0, u "()V"), (1, .class_ 14), (1, u "java/lang/StringUTF16"), (31, u "$assertionsDisabled"), (0, u "Z"), (13, u "HI_BYTE_SHIFT"), (0, u "I"), (2, u "LO_BYTE_SHIFT"), (49, .methodref 12 116), (0, .nameAndType 117 118), (0, u "compress"), (0, u "([CI[BII)I"), (3, u "([CII)[B"), (138, u "coderFromArrayLen"), (0, u "([BI)B"), (106, .class_ 371), (1, u "java/lang/StringUTF16$LinesSpliterator"), (58, u "MAX_LENGTH"), (196, .class_ 628), (0, u "java/lang/StringUTF16$CodePointsSpliterator"), (0, .class_ 630), (0, u "java/lang/StringUTF16$CharsSpliterator")] 4

def k10m0 : Method := { name := "<init>", desc := "()V", sig := { parameters := [], returnType := none }, accessFlags := 0, code := none }
def k10c1 : Code := { maxStack := 2, maxLocals := 2, code := jdk_52_method_15_code, exceptionTable := #[], attributes := #[] }
def k10m1 : Method := { name := "coderFromArrayLen", desc := "([BI)B", sig := { parameters := [(.array .byte), .int], returnType := some .byte }, accessFlags := 8, code := some k10c1 }
def k10c2 : Code := { maxStack := 5, maxLocals := 6, code := jdk_52_method_16_code, exceptionTable := #[], attributes := #[] }
def k10m2 : Method := { name := "compress", desc := "([CII)[B", sig := { parameters := [(.array .char), .int, .int], returnType := some (.array .byte) }, accessFlags := 9, code := some k10c2 }
def k10c3 : Code := { maxStack := 3, maxLocals := 7, code := jdk_52_method_21_code, exceptionTable := #[], attributes := #[] }
def k10m3 : Method := { name := "compress", desc := "([CI[BII)I", sig := { parameters := [(.array .char), .int, (.array .byte), .int, .int], returnType := some .int }, accessFlags := 9, code := some k10c3 }
/-- java/lang/StringUTF16 -/
def k10 : Class := { plain "java/lang/StringUTF16" (some 0) with
  accessFlags := 48
  interfaces := #[]
  cf := some (fileOf pool10 12 #[.nestMembers #[627, 629, 369]] #[{ accessFlags := 0, nameIndex := 9, descriptorIndex := 10, attributes := #[] }, { accessFlags := 8, nameIndex := 261, descriptorIndex := 262, attributes := #[] }, { accessFlags := 9, nameIndex := 117, descriptorIndex := 122, attributes := #[] }, { accessFlags := 9, nameIndex := 117, descriptorIndex := 118, attributes := #[] }] 48 6 #[] #[{ accessFlags := 26, nameIndex := 61, descriptorIndex := 62, attributes := #[] }, { accessFlags := 26, nameIndex := 65, descriptorIndex := 62, attributes := #[] }, { accessFlags := 24, nameIndex := 430, descriptorIndex := 62, attributes := #[] }, { accessFlags := 4120, nameIndex := 46, descriptorIndex := 47, attributes := #[] }])
  fields := #[{ name := "HI_BYTE_SHIFT", type := .int, accessFlags := 26, slot := 0, constantValue := 0 }, { name := "LO_BYTE_SHIFT", type := .int, accessFlags := 26, slot := 1, constantValue := 0 }, { name := "MAX_LENGTH", type := .int, accessFlags := 24, slot := 2, constantValue := 0 }, { name := "$assertionsDisabled", type := .boolean, accessFlags := 4120, slot := 3, constantValue := 0 }]
  methods := #[k10m0, k10m1, k10m2, k10m3]
  instanceTypes := #[]
  staticTypes := #[.int, .int, .int, .boolean]
  resolved := Array.replicate 635 none
  statics := none }

def pool11 : Array CpInfo := pool [(1, .methodref 2 3), (0, .class_ 4), (0, .nameAndType 5 6), (0, u "java/lang/Object"), (0, u "<init>"), (0, u "()V"), (0, .long 18446744073709551615), (1, .fieldref 10 11), (0, .class_ 12), (0, .nameAndType 13 14), (0, u "com/example/ballast/ballast/runtime/Outbox"), (0, u "lastSent"), (0, u "J"), (0, .fieldref 10 16), (0, .nameAndType 17 18), (0, u "deferredMove"), (0, u "I"), (2, u "awaitingFlush"), (0, u "Z"), (0, .class_ 24), (0, u "java/util/ArrayList"), (0, .methodref 23 3), (0, .fieldref 10 27), (0, .nameAndType 28 29), (0, u "held"), (0, u "Ljava/util/List;"), (0, .class_ 31), (0, u "com/example/ballast/ballast/runtime/Outbox$Held"), (0, .methodref 30 33), (0, .nameAndType 5 34), (0, u "(Lcom/example/ballast/ballast/runtime/ActorId;Ljava/util/function/IntConsumer;)V"), (0, .interfaceMethodref 36 37), (0, .class_ 38), (0, .nameAndType 39 40), (0, u "java/util/List"), (0, u "add"), (0, u "(Ljava/lang/Object;)Z"), (8, u "()Z"), (2, u "holdUntilReleased"), (0, u "isHolding"), (0, u "hold"), (0, u "release"), (0, u "()Ljava/util/List;")] 10

def k11c0 : Code := { maxStack := 3, maxLocals := 1, code := prog_120_method_1_code, exceptionTable := #[], attributes := #[] }
def k11m0 : Method := { name := "<init>", desc := "()V", sig := { parameters := [], returnType := none }, accessFlags := 0, code := some k11c0 }
def k11c1 : Code := { maxStack := 3, maxLocals := 1, code := prog_120_method_6_code, exceptionTable := #[], attributes := #[] }
def k11m1 : Method := { name := "holdUntilReleased", desc := "()V", sig := { parameters := [], returnType := none }, accessFlags := 0, code := some k11c1 }
def k11c2 : Code := { maxStack := 1, maxLocals := 1, code := prog_120_method_7_code, exceptionTable := #[], attributes := #[] }
def k11m2 : Method := { name := "isHolding", desc := "()Z", sig := { parameters := [], returnType := some .boolean }, accessFlags := 0, code := some k11c2 }
def k11c3 : Code := { maxStack := 5, maxLocals := 3, code := prog_120_method_8_code, exceptionTable := #[], attributes := #[] }
def k11m3 : Method := { name := "hold", desc := "(Lcom/example/ballast/ballast/runtime/ActorId;Ljava/util/function/IntConsumer;)V", sig := { parameters := [(.object "com/example/ballast/ballast/runtime/ActorId"), (.object "java/util/function/IntConsumer")], returnType := none }, accessFlags := 0, code := some k11c3 }
def k11c4 : Code := { maxStack := 2, maxLocals := 2, code := prog_120_method_9_code, exceptionTable := #[], attributes := #[] }
def k11m4 : Method := { name := "release", desc := "()Ljava/util/List;", sig := { parameters := [], returnType := some (.object "java/util/List") }, accessFlags := 0, code := some k11c4 }
/-- com/example/ballast/ballast/runtime/Outbox -/
def k11 : Class := { plain "com/example/ballast/ballast/runtime/Outbox" (some 0) with
  accessFlags := 48
  interfaces := #[]
  cf := some (fileOf pool11 10 #[.nestMembers #[30]] #[{ accessFlags := 0, nameIndex := 5, descriptorIndex := 6, attributes := #[] }, { accessFlags := 0, nameIndex := 52, descriptorIndex := 6, attributes := #[] }, { accessFlags := 0, nameIndex := 53, descriptorIndex := 49, attributes := #[] }, { accessFlags := 0, nameIndex := 54, descriptorIndex := 34, attributes := #[] }, { accessFlags := 0, nameIndex := 55, descriptorIndex := 56, attributes := #[] }] 48 2 #[] #[{ accessFlags := 2, nameIndex := 13, descriptorIndex := 14, attributes := #[] }, { accessFlags := 2, nameIndex := 21, descriptorIndex := 22, attributes := #[] }, { accessFlags := 2, nameIndex := 28, descriptorIndex := 29, attributes := #[] }, { accessFlags := 2, nameIndex := 17, descriptorIndex := 18, attributes := #[] }])
  fields := #[{ name := "lastSent", type := .long, accessFlags := 2, slot := 0, constantValue := 0 }, { name := "awaitingFlush", type := .boolean, accessFlags := 2, slot := 1, constantValue := 0 }, { name := "held", type := (.object "java/util/List"), accessFlags := 2, slot := 2, constantValue := 0 }, { name := "deferredMove", type := .int, accessFlags := 2, slot := 3, constantValue := 0 }]
  methods := #[k11m0, k11m1, k11m2, k11m3, k11m4]
  instanceTypes := #[.long, .boolean, (.object "java/util/List"), .int]
  staticTypes := #[]
  resolved := Array.replicate 67 none
  statics := none }

def pool12 : Array CpInfo := pool [(8, .class_ 10), (1, u "java/lang/Iterable"), (24, .class_ 36), (0, u "java/lang/Object")] 25

/-- java/lang/Iterable -/
def k12 : Class := { plain "java/lang/Iterable" (some 0) with
  accessFlags := 1537
  interfaces := #[]
  cf := some (fileOf pool12 8 #[] #[] 1537 35 #[] #[])
  fields := #[]
  methods := #[]
  instanceTypes := #[]
  staticTypes := #[]
  resolved := Array.replicate 62 none
  statics := none }

def pool13 : Array CpInfo := pool [(10, .class_ 12), (1, u "java/util/Collection"), (47, .class_ 61), (0, u "java/lang/Object"), (0, .class_ 63), (0, u "java/lang/Iterable")] 51

/-- java/util/Collection -/
def k13 : Class := { plain "java/util/Collection" (some 0) with
  accessFlags := 1537
  interfaces := #[12]
  cf := some (fileOf pool13 10 #[] #[] 1537 60 #[62] #[])
  fields := #[]
  methods := #[]
  instanceTypes := #[]
  staticTypes := #[]
  resolved := Array.replicate 115 none
  statics := none }

def pool14 : Array CpInfo := pool [(1, .methodref 2 3), (0, .class_ 4), (0, .nameAndType 5 6), (0, u "java/lang/Object"), (0, u "<init>"), (0, u "()V"), (1, .class_ 10), (1, u "java/util/AbstractCollection"), (66, .class_ 78), (0, u "java/util/Collection")] 81

def k14c0 : Code := { maxStack := 1, maxLocals := 1, code := jdk_22_method_1_code, exceptionTable := #[], attributes := #[] }
def k14m0 : Method := { name := "<init>", desc := "()V", sig := { parameters := [], returnType := none }, accessFlags := 4, code := some k14c0 }
/-- java/util/AbstractCollection -/
def k14 : Class := { plain "java/util/AbstractCollection" (some 0) with
  accessFlags := 1057
  interfaces := #[13]
  cf := some (fileOf pool14 8 #[] #[{ accessFlags := 4, nameIndex := 5, descriptorIndex := 6, attributes := #[] }] 1057 2 #[77] #[])
  fields := #[]
  methods := #[k14m0]
  instanceTypes := #[]
  staticTypes := #[]
  resolved := Array.replicate 160 none
  statics := none }

def pool15 : Array CpInfo := pool [(8, .class_ 10), (1, u "java/util/SequencedCollection"), (15, .class_ 27), (0, u "java/lang/Object"), (0, .class_ 29), (0, u "java/util/Collection")] 27

/-- java/util/SequencedCollection -/
def k15 : Class := { plain "java/util/SequencedCollection" (some 0) with
  accessFlags := 1537
  interfaces := #[13]
  cf := some (fileOf pool15 8 #[] #[] 1537 26 #[28] #[])
  fields := #[]
  methods := #[]
  instanceTypes := #[]
  staticTypes := #[]
  resolved := Array.replicate 57 none
  statics := none }

def pool16 : Array CpInfo := pool [(8, .class_ 10), (1, u "java/util/List"), (49, u "add"), (3, u "(Ljava/lang/Object;)Z"), (10, u "get"), (0, u "(I)Ljava/lang/Object;"), (2, u "size"), (0, u "()I"), (22, .class_ 104), (0, u "java/lang/Object"), (15, .class_ 121), (0, u "java/util/SequencedCollection")] 129

def k16m0 : Method := { name := "size", desc := "()I", sig := { parameters := [], returnType := some .int }, accessFlags := 1025, code := none }
def k16m1 : Method := { name := "add", desc := "(Ljava/lang/Object;)Z", sig := { parameters := [(.object "java/lang/Object")], returnType := some .boolean }, accessFlags := 1025, code := none }
def k16m2 : Method := { name := "get", desc := "(I)Ljava/lang/Object;", sig := { parameters := [.int], returnType := some (.object "java/lang/Object") }, accessFlags := 1025, code := none }
/-- java/util/List -/
def k16 : Class := { plain "java/util/List" (some 0) with
  accessFlags := 1537
  interfaces := #[15]
  cf := some (fileOf pool16 8 #[] #[{ accessFlags := 1025, nameIndex := 79, descriptorIndex := 80, attributes := #[] }, { accessFlags := 1025, nameIndex := 60, descriptorIndex := 64, attributes := #[] }, { accessFlags := 1025, nameIndex := 75, descriptorIndex := 76, attributes := #[] }] 1537 103 #[120] #[])
  fields := #[]
  methods := #[k16m0, k16m1, k16m2]
  instanceTypes := #[]
  staticTypes := #[]
  resolved := Array.replicate 251 none
  statics := none }

def pool17 : Array CpInfo := pool [(1, .methodref 2 3), (0, .class_ 4), (0, .nameAndType 5 6), (0, u "java/util/AbstractCollection"), (0, u "<init>"), (0, u "()V"), (0, .fieldref 8 9), (0, .class_ 10), (0, .nameAndType 11 12), (0, u "java/util/AbstractList"), (0, u "modCount"), (0, u "I"), (64, .class_ 78), (0, u "java/util/AbstractList$Itr"), (3, .class_ 83), (0, u "java/util/AbstractList$ListItr"), (9, .class_ 94), (0, u "java/util/AbstractList$RandomAccessSubList"), (3, .class_ 99), (0, u "java/util/AbstractList$SubList"), (33, .class_ 134), (0, u "java/util/List"), (73, .class_ 209), (0, u "java/util/AbstractList$SubList$1"), (0, .class_ 211), (0, u "java/util/AbstractList$RandomAccessSpliterator")] 6

def k17c0 : Code := { maxStack := 2, maxLocals := 1, code := jdk_39_method_1_code, exceptionTable := #[], attributes := #[] }
def k17m0 : Method := { name := "<init>", desc := "()V", sig := { parameters := [], returnType := none }, accessFlags := 4, code := some k17c0 }
/-- java/util/AbstractList -/
def k17 : Class := { plain "java/util/AbstractList" (some 14) with
  accessFlags := 1057
  interfaces := #[16]
  cf := some (fileOf pool17 8 #[.nestMembers #[93, 98, 208, 210, 82, 77]] #[{ accessFlags := 4, nameIndex := 5, descriptorIndex := 6, attributes := #[] }] 1057 2 #[133] #[{ accessFlags := 132, nameIndex := 11, descriptorIndex := 12, attributes := #[] }])
  fields := #[{ name := "modCount", type := .int, accessFlags := 132, slot := 0, constantValue := 0 }]
  methods := #[k17m0]
  instanceTypes := #[.int]
  staticTypes := #[]
  resolved := Array.replicate 218 none
  statics := none }

def pool18 : Array CpInfo := pool [(1, .class_ 2), (0, u "java/util/RandomAccess"), (0, .class_ 4), (0, u "java/lang/Object")] 2

/-- java/util/RandomAccess -/
def k18 : Class := { plain "java/util/RandomAccess" (some 0) with
  accessFlags := 1537
  interfaces := #[]
  cf := some (fileOf pool18 1 #[] #[] 1537 3 #[] #[])
  fields := #[]
  methods := #[]
  instanceTypes := #[]
  staticTypes := #[]
  resolved := Array.replicate 7 none
  statics := none }

def pool19 : Array CpInfo := pool [(1, .class_ 2), (0, u "java/lang/Cloneable"), (0, .class_ 4), (0, u "java/lang/Object")] 2

/-- java/lang/Cloneable -/
def k19 : Class := { plain "java/lang/Cloneable" (some 0) with
  accessFlags := 1537
  interfaces := #[]
  cf := some (fileOf pool19 1 #[] #[] 1537 3 #[] #[])
  fields := #[]
  methods := #[]
  instanceTypes := #[]
  staticTypes := #[]
  resolved := Array.replicate 7 none
  statics := none }

def pool20 : Array CpInfo := pool [(1, .methodref 2 3), (0, .class_ 4), (0, .nameAndType 5 6), (0, u "java/util/AbstractList"), (0, u "<init>"), (0, u "()V"), (0, .class_ 8), (0, u "java/lang/Object"), (0, .fieldref 10 11), (0, .class_ 12), (0, .nameAndType 13 14), (0, u "java/util/ArrayList"), (0, u "elementData"), (0, u "[Ljava/lang/Object;"), (2, u "EMPTY_ELEMENTDATA"), (21, .fieldref 10 40), (0, .nameAndType 41 14), (0, u "DEFAULTCAPACITY_EMPTY_ELEMENTDATA"), (5, u "()[Ljava/lang/Object;"), (0, .fieldref 10 49), (0, .nameAndType 50 51), (0, u "size"), (0, u "I"), (11, .fieldref 10 64), (0, .nameAndType 65 51), (0, u "modCount"), (3, .methodref 10 70), (0, .nameAndType 71 72), (0, u "grow"), (0, u "(I)[Ljava/lang/Object;"), (6, .methodref 80 81), (0, .class_ 82), (0, .nameAndType 83 84), (0, u "java/lang/Math"), (0, u "max"), (0, u "(II)I"), (11, u "(Ljava/lang/Object;)Z"), (21, .methodref 119 120), (0, .class_ 121), (0, .nameAndType 122 84), (0, u "java/util/Objects"), (0, u "checkIndex"), (0, .methodref 10 124), (0, .nameAndType 13 125), (0, u "(I)Ljava/lang/Object;"), (3, .methodref 10 130), (0, .nameAndType 71 47), (0, .methodref 10 132), (0, .nameAndType 133 134), (0, u "add"), (0, u "(Ljava/lang/Object;[Ljava/lang/Object;I)V"), (13, .class_ 149), (0, u "java/util/List"), (36, u "()I"), (75, .class_ 263), (0, u "java/util/ArrayList$ListItr"), (3, .class_ 268), (0, u "java/util/ArrayList$Itr"), (7, .class_ 277), (0, u "java/util/ArrayList$SubList"), (12, .class_ 291), (0, u "java/util/ArrayList$ArrayListSpliterator"), (37, .class_ 330), (0, u "java/util/RandomAccess"), (0, .class_ 332), (0, u "java/lang/Cloneable"), (0, .class_ 334), (0, u "java/io/Serializable"), (0, u "serialVersionUID"), (0, u "J"), (3, u "DEFAULT_CAPACITY"), (40, u "get"), (118, .class_ 501), (0, u "java/util/ArrayList$SubList$2"), (0, .class_ 503), (0, u "java/util/ArrayList$SubList$1")] 5

def k20c0 : Code := { maxStack := 2, maxLocals := 1, code := jdk_38_method_2_code, exceptionTable := #[], attributes := #[] }
def k20m0 : Method := { name := "<init>", desc := "()V", sig := { parameters := [], returnType := none }, accessFlags := 1, code := some k20c0 }
def k20c1 : Code := { maxStack := 4, maxLocals := 4, code := jdk_38_method_6_code, exceptionTable := #[], attributes := #[] }
def k20m1 : Method := { name := "grow", desc := "(I)[Ljava/lang/Object;", sig := { parameters := [.int], returnType := some (.array (.object "java/lang/Object")) }, accessFlags := 2, code := some k20c1 }
def k20c2 : Code := { maxStack := 3, maxLocals := 1, code := jdk_38_method_7_code, exceptionTable := #[], attributes := #[] }
def k20m2 : Method := { name := "grow", desc := "()[Ljava/lang/Object;", sig := { parameters := [], returnType := some (.array (.object "java/lang/Object")) }, accessFlags := 2, code := some k20c2 }
def k20c3 : Code := { maxStack := 1, maxLocals := 1, code := jdk_38_method_8_code, exceptionTable := #[], attributes := #[] }
def k20m3 : Method := { name := "size", desc := "()I", sig := { parameters := [], returnType := some .int }, accessFlags := 1, code := some k20c3 }
def k20c4 : Code := { maxStack := 2, maxLocals := 2, code := jdk_38_method_18_code, exceptionTable := #[], attributes := #[] }
def k20m4 : Method := { name := "elementData", desc := "(I)Ljava/lang/Object;", sig := { parameters := [.int], returnType := some (.object "java/lang/Object") }, accessFlags := 0, code := some k20c4 }
def k20c5 : Code := { maxStack := 2, maxLocals := 2, code := jdk_38_method_20_code, exceptionTable := #[], attributes := #[] }
def k20m5 : Method := { name := "get", desc := "(I)Ljava/lang/Object;", sig := { parameters := [.int], returnType := some (.object "java/lang/Object") }, accessFlags := 1, code := some k20c5 }
def k20c6 : Code := { maxStack := 3, maxLocals := 4, code := jdk_38_method_24_code, exceptionTable := #[], attributes := #[] }
def k20m6 : Method := { name := "add", desc := "(Ljava/lang/Object;[Ljava/lang/Object;I)V", sig := { parameters := [(.object "java/lang/Object"), (.array (.object "java/lang/Object")), .int], returnType := none }, accessFlags := 2, code := some k20c6 }
def k20c7 : Code := { maxStack := 4, maxLocals := 2, code := jdk_38_method_25_code, exceptionTable := #[], attributes := #[] }
def k20m7 : Method := { name := "add", desc := "(Ljava/lang/Object;)Z", sig := { parameters := [(.object "java/lang/Object")], returnType := some .boolean }, accessFlags := 1, code := some k20c7 }
/-- java/util/ArrayList -/
def k20 : Class := { plain "java/util/ArrayList" (some 17) with
  accessFlags := 33
  interfaces := #[16, 18, 19, 4]
  cf := some (fileOf pool20 10 #[.nestMembers #[290, 276, 500, 502, 262, 267]] #[{ accessFlags := 1, nameIndex := 5, descriptorIndex := 6, attributes := #[] }, { accessFlags := 2, nameIndex := 71, descriptorIndex := 72, attributes := #[] }, { accessFlags := 2, nameIndex := 71, descriptorIndex := 47, attributes := #[] }, { accessFlags := 1, nameIndex := 50, descriptorIndex := 186, attributes := #[] }, { accessFlags := 0, nameIndex := 13, descriptorIndex := 125, attributes := #[] }, { accessFlags := 1, nameIndex := 381, descriptorIndex := 125, attributes := #[] }, { accessFlags := 2, nameIndex := 133, descriptorIndex := 134, attributes := #[] }, { accessFlags := 1, nameIndex := 133, descriptorIndex := 96, attributes := #[] }] 33 2 #[148, 329, 331, 333] #[{ accessFlags := 26, nameIndex := 335, descriptorIndex := 336, attributes := #[] }, { accessFlags := 26, nameIndex := 340, descriptorIndex := 51, attributes := #[] }, { accessFlags := 26, nameIndex := 17, descriptorIndex := 14, attributes := #[] }, { accessFlags := 26, nameIndex := 41, descriptorIndex := 14, attributes := #[] }, { accessFlags := 128, nameIndex := 13, descriptorIndex := 14, attributes := #[] }, { accessFlags := 2, nameIndex := 50, descriptorIndex := 51, attributes := #[] }])
  fields := #[{ name := "serialVersionUID", type := .long, accessFlags := 26, slot := 0, constantValue := 0 }, { name := "DEFAULT_CAPACITY", type := .int, accessFlags := 26, slot := 1, constantValue := 0 }, { name := "EMPTY_ELEMENTDATA", type := (.array (.object "java/lang/Object")), accessFlags := 26, slot := 2, constantValue := 0 }, { name := "DEFAULTCAPACITY_EMPTY_ELEMENTDATA", type := (.array (.object "java/lang/Object")), accessFlags := 26, slot := 3, constantValue := 0 }, { name := "elementData", type := (.array (.object "java/lang/Object")), accessFlags := 128, slot := 1, constantValue := 0 }, { name := "size", type := .int, accessFlags := 2, slot := 2, constantValue := 0 }]
  methods := #[k20m0, k20m1, k20m2, k20m3, k20m4, k20m5, k20m6, k20m7]
  instanceTypes := #[.int, (.array (.object "java/lang/Object")), .int]
  staticTypes := #[.long, .int, (.array (.object "java/lang/Object")), (.array (.object "java/lang/Object"))]
  resolved := Array.replicate 509 none
  statics := some 1 }

def pool21 : Array CpInfo := pool [(1, .methodref 2 3), (0, .class_ 4), (0, .nameAndType 5 6), (0, u "java/lang/Record"), (0, u "<init>"), (0, u "()V"), (0, .fieldref 8 9), (0, .class_ 10), (0, .nameAndType 11 12), (0, u "com/example/ballast/ballast/runtime/Outbox$Held"), (0, u "receiver"), (0, u "Lcom/example/ballast/ballast/runtime/ActorId;"), (0, .fieldref 8 14), (0, .nameAndType 15 16), (0, u "send"), (0, u "Ljava/util/function/IntConsumer;"), (12, u "(Lcom/example/ballast/ballast/runtime/ActorId;Ljava/util/function/IntConsumer;)V"), (6, u "()Lcom/example/ballast/ballast/runtime/ActorId;"), (0, u "()Ljava/util/function/IntConsumer;"), (3, .class_ 42), (0, u "com/example/ballast/ballast/runtime/Outbox")] 20

def k21c0 : Code := { maxStack := 2, maxLocals := 3, code := prog_121_method_1_code, exceptionTable := #[], attributes := #[] }
def k21m0 : Method := { name := "<init>", desc := "(Lcom/example/ballast/ballast/runtime/ActorId;Ljava/util/function/IntConsumer;)V", sig := { parameters := [(.object "com/example/ballast/ballast/runtime/ActorId"), (.object "java/util/function/IntConsumer")], returnType := none }, accessFlags := 0, code := some k21c0 }
def k21c1 : Code := { maxStack := 1, maxLocals := 1, code := prog_121_method_5_code, exceptionTable := #[], attributes := #[] }
def k21m1 : Method := { name := "receiver", desc := "()Lcom/example/ballast/ballast/runtime/ActorId;", sig := { parameters := [], returnType := some (.object "com/example/ballast/ballast/runtime/ActorId") }, accessFlags := 1, code := some k21c1 }
def k21c2 : Code := { maxStack := 1, maxLocals := 1, code := prog_121_method_6_code, exceptionTable := #[], attributes := #[] }
def k21m2 : Method := { name := "send", desc := "()Ljava/util/function/IntConsumer;", sig := { parameters := [], returnType := some (.object "java/util/function/IntConsumer") }, accessFlags := 1, code := some k21c2 }
/-- com/example/ballast/ballast/runtime/Outbox$Held -/
def k21 : Class := { plain "com/example/ballast/ballast/runtime/Outbox$Held" (some 2) with
  accessFlags := 48
  interfaces := #[]
  cf := some (fileOf pool21 8 #[.nestHost 41] #[{ accessFlags := 0, nameIndex := 5, descriptorIndex := 29, attributes := #[] }, { accessFlags := 1, nameIndex := 11, descriptorIndex := 36, attributes := #[] }, { accessFlags := 1, nameIndex := 15, descriptorIndex := 37, attributes := #[] }] 48 2 #[] #[{ accessFlags := 18, nameIndex := 11, descriptorIndex := 12, attributes := #[] }, { accessFlags := 18, nameIndex := 15, descriptorIndex := 16, attributes := #[] }])
  fields := #[{ name := "receiver", type := (.object "com/example/ballast/ballast/runtime/ActorId"), accessFlags := 18, slot := 0, constantValue := 0 }, { name := "send", type := (.object "java/util/function/IntConsumer"), accessFlags := 18, slot := 1, constantValue := 0 }]
  methods := #[k21m0, k21m1, k21m2]
  instanceTypes := #[(.object "com/example/ballast/ballast/runtime/ActorId"), (.object "java/util/function/IntConsumer")]
  staticTypes := #[]
  resolved := Array.replicate 63 none
  statics := none }

def pool22 : Array CpInfo := pool [(1, .class_ 2), (0, u "java/lang/Math"), (1, .class_ 6), (1, u "java/lang/Object"), (0, u "<init>"), (0, u "()V"), (89, .class_ 100), (1, u "java/lang/Math$RandomNumberGeneratorHolder"), (71, u "negativeZeroFloatBits"), (0, u "J"), (2, u "negativeZeroDoubleBits"), (21, u "max"), (46, u "$assertionsDisabled"), (0, u "Z"), (88, u "(II)I"), (2, u "twoToTheDoubleScaleDown"), (0, u "D"), (4, u "twoToTheDoubleScaleUp"), (9, u "E"), (3, u "PI"), (2, u "TAU"), (2, u "DEGREES_TO_RADIANS"), (0, u "RADIANS_TO_DEGREES")] 94

def k22m0 : Method := { name := "<init>", desc := "()V", sig := { parameters := [], returnType := none }, accessFlags := 2, code := none }
def k22c1 : Code := { maxStack := 2, maxLocals := 2, code := jdk_29_method_65_code, exceptionTable := #[], attributes := #[] }
def k22m1 : Method := { name := "max", desc := "(II)I", sig := { parameters := [.int, .int], returnType := some .int }, accessFlags := 9, code := some k22c1 }
/-- java/lang/Math -/
def k22 : Class := { plain "java/lang/Math" (some 0) with
  accessFlags := 49
  interfaces := #[]
  cf := some (fileOf pool22 1 #[.nestMembers #[98]] #[{ accessFlags := 2, nameIndex := 7, descriptorIndex := 8, attributes := #[] }, { accessFlags := 9, nameIndex := 198, descriptorIndex := 335, attributes := #[] }] 49 4 #[] #[{ accessFlags := 25, nameIndex := 354, descriptorIndex := 339, attributes := #[] }, { accessFlags := 25, nameIndex := 358, descriptorIndex := 339, attributes := #[] }, { accessFlags := 25, nameIndex := 361, descriptorIndex := 339, attributes := #[] }, { accessFlags := 26, nameIndex := 364, descriptorIndex := 339, attributes := #[] }, { accessFlags := 26, nameIndex := 365, descriptorIndex := 339, attributes := #[] }, { accessFlags := 26, nameIndex := 172, descriptorIndex := 173, attributes := #[] }, { accessFlags := 26, nameIndex := 176, descriptorIndex := 173, attributes := #[] }, { accessFlags := 8, nameIndex := 344, descriptorIndex := 339, attributes := #[] }, { accessFlags := 8, nameIndex := 338, descriptorIndex := 339, attributes := #[] }, { accessFlags := 4120, nameIndex := 245, descriptorIndex := 246, attributes := #[] }])
  fields := #[{ name := "E", type := .double, accessFlags := 25, slot := 0, constantValue := 0 }, { name := "PI", type := .double, accessFlags := 25, slot := 1, constantValue := 0 }, { name := "TAU", type := .double, accessFlags := 25, slot := 2, constantValue := 0 }, { name := "DEGREES_TO_RADIANS", type := .double, accessFlags := 26, slot := 3, constantValue := 0 }, { name := "RADIANS_TO_DEGREES", type := .double, accessFlags := 26, slot := 4, constantValue := 0 }, { name := "negativeZeroFloatBits", type := .long, accessFlags := 26, slot := 5, constantValue := 0 }, { name := "negativeZeroDoubleBits", type := .long, accessFlags := 26, slot := 6, constantValue := 0 }, { name := "twoToTheDoubleScaleUp", type := .double, accessFlags := 8, slot := 7, constantValue := 0 }, { name := "twoToTheDoubleScaleDown", type := .double, accessFlags := 8, slot := 8, constantValue := 0 }, { name := "$assertionsDisabled", type := .boolean, accessFlags := 4120, slot := 9, constantValue := 0 }]
  methods := #[k22m0, k22m1]
  instanceTypes := #[]
  staticTypes := #[.double, .double, .double, .double, .double, .long, .long, .double, .double, .boolean]
  resolved := Array.replicate 460 none
  statics := none }

def pool23 : Array CpInfo := pool [(2, .class_ 4), (1, u "java/lang/Object"), (0, u "<init>"), (0, u "()V"), (35, .class_ 44), (1, u "java/util/Objects"), (60, .methodref 106 107), (0, .class_ 108), (0, .nameAndType 109 110), (0, u "jdk/internal/util/Preconditions"), (0, u "checkIndex"), (0, u "(IILjava/util/function/BiFunction;)I"), (60, u "(II)I")] 12

def k23m0 : Method := { name := "<init>", desc := "()V", sig := { parameters := [], returnType := none }, accessFlags := 2, code := none }
def k23c1 : Code := { maxStack := 3, maxLocals := 2, code := jdk_31_method_17_code, exceptionTable := #[], attributes := #[] }
def k23m1 : Method := { name := "checkIndex", desc := "(II)I", sig := { parameters := [.int, .int], returnType := some .int }, accessFlags := 9, code := some k23c1 }
/-- java/util/Objects -/
def k23 : Class := { plain "java/util/Objects" (some 0) with
  accessFlags := 49
  interfaces := #[]
  cf := some (fileOf pool23 42 #[] #[{ accessFlags := 2, nameIndex := 5, descriptorIndex := 6, attributes := #[] }, { accessFlags := 9, nameIndex := 109, descriptorIndex := 171, attributes := #[] }] 49 2 #[] #[])
  fields := #[]
  methods := #[k23m0, k23m1]
  instanceTypes := #[]
  staticTypes := #[]
  resolved := Array.replicate 184 none
  statics := none }

def pool24 : Array CpInfo := pool [(2, .class_ 4), (1, u "java/lang/Object"), (0, u "<init>"), (0, u "()V"), (17, .class_ 26), (1, u "jdk/internal/util/Preconditions"), (6, u "checkIndex"), (21, .class_ 56), (0, u "jdk/internal/util/Preconditions$4"), (57, .class_ 115), (0, u "jdk/internal/util/Preconditions$1"), (7, u "SIOOBE_FORMATTER"), (0, u "Ljava/util/function/BiFunction;"), (0, .class_ 126), (0, u "jdk/internal/util/Preconditions$2"), (3, u "AIOOBE_FORMATTER"), (0, .class_ 132), (0, u "jdk/internal/util/Preconditions$3"), (3, u "IOOBE_FORMATTER"), (41, u "(IILjava/util/function/BiFunction;)I")] 15

def k24m0 : Method := { name := "<init>", desc := "()V", sig := { parameters := [], returnType := none }, accessFlags := 1, code := none }
def k24c1 : Code := { maxStack := 3, maxLocals := 3, code := jdk_41_method_11_code, exceptionTable := #[], attributes := #[] }
def k24m1 : Method := { name := "checkIndex", desc := "(IILjava/util/function/BiFunction;)I", sig := { parameters := [.int, .int, (.object "java/util/function/BiFunction")], returnType := some .int }, accessFlags := 9, code := some k24c1 }
/-- jdk/internal/util/Preconditions -/
def k24 : Class := { plain "jdk/internal/util/Preconditions" (some 0) with
  accessFlags := 33
  interfaces := #[]
  cf := some (fileOf pool24 24 #[.nestMembers #[55, 131, 125, 114]] #[{ accessFlags := 1, nameIndex := 5, descriptorIndex := 6, attributes := #[] }, { accessFlags := 9, nameIndex := 33, descriptorIndex := 178, attributes := #[] }] 33 2 #[] #[{ accessFlags := 25, nameIndex := 123, descriptorIndex := 124, attributes := #[] }, { accessFlags := 25, nameIndex := 130, descriptorIndex := 124, attributes := #[] }, { accessFlags := 25, nameIndex := 136, descriptorIndex := 124, attributes := #[] }])
  fields := #[{ name := "SIOOBE_FORMATTER", type := (.object "java/util/function/BiFunction"), accessFlags := 25, slot := 0, constantValue := 0 }, { name := "AIOOBE_FORMATTER", type := (.object "java/util/function/BiFunction"), accessFlags := 25, slot := 1, constantValue := 0 }, { name := "IOOBE_FORMATTER", type := (.object "java/util/function/BiFunction"), accessFlags := 25, slot := 2, constantValue := 0 }]
  methods := #[k24m0, k24m1]
  instanceTypes := #[]
  staticTypes := #[(.object "java/util/function/BiFunction"), (.object "java/util/function/BiFunction"), (.object "java/util/function/BiFunction")]
  resolved := Array.replicate 194 none
  statics := some 2 }

def pool25 : Array CpInfo := pool [(4, .class_ 6), (1, u "java/lang/Object"), (0, u "<init>"), (0, u "()V"), (5, .class_ 16), (1, u "java/lang/StringLatin1"), (104, u "$assertionsDisabled"), (0, u "Z"), (98, .class_ 223), (1, u "java/lang/StringLatin1$LinesSpliterator"), (166, .class_ 391), (0, u "java/lang/StringLatin1$CharsSpliterator")] 3

def k25m0 : Method := { name := "<init>", desc := "()V", sig := { parameters := [], returnType := none }, accessFlags := 0, code := none }
/-- java/lang/StringLatin1 -/
def k25 : Class := { plain "java/lang/StringLatin1" (some 0) with
  accessFlags := 48
  interfaces := #[]
  cf := some (fileOf pool25 14 #[.nestMembers #[390, 221]] #[{ accessFlags := 0, nameIndex := 7, descriptorIndex := 8, attributes := #[] }] 48 4 #[] #[{ accessFlags := 4120, nameIndex := 121, descriptorIndex := 122, attributes := #[] }])
  fields := #[{ name := "$assertionsDisabled", type := .boolean, accessFlags := 4120, slot := 0, constantValue := 0 }]
  methods := #[k25m0]
  instanceTypes := #[]
  staticTypes := #[.boolean]
  resolved := Array.replicate 395 none
  statics := none }

def pool26 : Array CpInfo := pool [(9, u "<init>"), (6, .class_ 18), (1, u "java/lang/Object"), (0, u "()V"), (1, .class_ 23), (1, u "jdk/internal/util/ArraysSupport"), (0, u "LOG2_ARRAY_LONG_INDEX_SCALE"), (0, u "I"), (2, u "U"), (0, u "Ljdk/internal/misc/Unsafe;"), (8, u "BIG_ENDIAN"), (0, u "Z"), (8, u "LOG2_BYTE_BIT_SIZE"), (4, u "LOG2_ARRAY_INT_INDEX_SCALE"), (54, u "JLA"), (0, u "Ljdk/internal/access/JavaLangAccess;"), (11, u "LOG2_ARRAY_BOOLEAN_INDEX_SCALE"), (9, u "LOG2_ARRAY_BYTE_INDEX_SCALE"), (5, u "LOG2_ARRAY_CHAR_INDEX_SCALE"), (5, u "LOG2_ARRAY_SHORT_INDEX_SCALE"), (18, u "LOG2_ARRAY_FLOAT_INDEX_SCALE"), (24, u "LOG2_ARRAY_DOUBLE_INDEX_SCALE"), (89, u "T_BOOLEAN"), (2, u "T_CHAR"), (1, u "T_FLOAT"), (1, u "T_DOUBLE"), (1, u "T_BYTE"), (1, u "T_SHORT"), (1, u "T_INT"), (1, u "T_LONG"), (1, u "SOFT_MAX_ARRAY_LENGTH")] 83

def k26m0 : Method := { name := "<init>", desc := "()V", sig := { parameters := [], returnType := none }, accessFlags := 2, code := none }
/-- jdk/internal/util/ArraysSupport -/
def k26 : Class := { plain "jdk/internal/util/ArraysSupport" (some 0) with
  accessFlags := 33
  interfaces := #[]
  cf := some (fileOf pool26 21 #[] #[{ accessFlags := 2, nameIndex := 9, descriptorIndex := 19, attributes := #[] }] 33 16 #[] #[{ accessFlags := 24, nameIndex := 28, descriptorIndex := 29, attributes := #[] }, { accessFlags := 26, nameIndex := 38, descriptorIndex := 39, attributes := #[] }, { accessFlags := 25, nameIndex := 121, descriptorIndex := 25, attributes := #[] }, { accessFlags := 25, nameIndex := 131, descriptorIndex := 25, attributes := #[] }, { accessFlags := 25, nameIndex := 137, descriptorIndex := 25, attributes := #[] }, { accessFlags := 25, nameIndex := 143, descriptorIndex := 25, attributes := #[] }, { accessFlags := 25, nameIndex := 53, descriptorIndex := 25, attributes := #[] }, { accessFlags := 25, nameIndex := 24, descriptorIndex := 25, attributes := #[] }, { accessFlags := 25, nameIndex := 162, descriptorIndex := 25, attributes := #[] }, { accessFlags := 25, nameIndex := 187, descriptorIndex := 25, attributes := #[] }, { accessFlags := 26, nameIndex := 48, descriptorIndex := 25, attributes := #[] }, { accessFlags := 25, nameIndex := 277, descriptorIndex := 25, attributes := #[] }, { accessFlags := 25, nameIndex := 280, descriptorIndex := 25, attributes := #[] }, { accessFlags := 25, nameIndex := 282, descriptorIndex := 25, attributes := #[] }, { accessFlags := 25, nameIndex := 284, descriptorIndex := 25, attributes := #[] }, { accessFlags := 25, nameIndex := 286, descriptorIndex := 25, attributes := #[] }, { accessFlags := 25, nameIndex := 288, descriptorIndex := 25, attributes := #[] }, { accessFlags := 25, nameIndex := 290, descriptorIndex := 25, attributes := #[] }, { accessFlags := 25, nameIndex := 292, descriptorIndex := 25, attributes := #[] }, { accessFlags := 26, nameIndex := 108, descriptorIndex := 109, attributes := #[] }, { accessFlags := 25, nameIndex := 294, descriptorIndex := 25, attributes := #[] }])
  fields := #[{ name := "U", type := (.object "jdk/internal/misc/Unsafe"), accessFlags := 24, slot := 0, constantValue := 0 }, { name := "BIG_ENDIAN", type := .boolean, accessFlags := 26, slot := 1, constantValue := 0 }, { name := "LOG2_ARRAY_BOOLEAN_INDEX_SCALE", type := .int, accessFlags := 25, slot := 2, constantValue := 0 }, { name := "LOG2_ARRAY_BYTE_INDEX_SCALE", type := .int, accessFlags := 25, slot := 3, constantValue := 0 }, { name := "LOG2_ARRAY_CHAR_INDEX_SCALE", type := .int, accessFlags := 25, slot := 4, constantValue := 0 }, { name := "LOG2_ARRAY_SHORT_INDEX_SCALE", type := .int, accessFlags := 25, slot := 5, constantValue := 0 }, { name := "LOG2_ARRAY_INT_INDEX_SCALE", type := .int, accessFlags := 25, slot := 6, constantValue := 0 }, { name := "LOG2_ARRAY_LONG_INDEX_SCALE", type := .int, accessFlags := 25, slot := 7, constantValue := 0 }, { name := "LOG2_ARRAY_FLOAT_INDEX_SCALE", type := .int, accessFlags := 25, slot := 8, constantValue := 0 }, { name := "LOG2_ARRAY_DOUBLE_INDEX_SCALE", type := .int, accessFlags := 25, slot := 9, constantValue := 0 }, { name := "LOG2_BYTE_BIT_SIZE", type := .int, accessFlags := 26, slot := 10, constantValue := 0 }, { name := "T_BOOLEAN", type := .int, accessFlags := 25, slot := 11, constantValue := 0 }, { name := "T_CHAR", type := .int, accessFlags := 25, slot := 12, constantValue := 0 }, { name := "T_FLOAT", type := .int, accessFlags := 25, slot := 13, constantValue := 0 }, { name := "T_DOUBLE", type := .int, accessFlags := 25, slot := 14, constantValue := 0 }, { name := "T_BYTE", type := .int, accessFlags := 25, slot := 15, constantValue := 0 }, { name := "T_SHORT", type := .int, accessFlags := 25, slot := 16, constantValue := 0 }, { name := "T_INT", type := .int, accessFlags := 25, slot := 17, constantValue := 0 }, { name := "T_LONG", type := .int, accessFlags := 25, slot := 18, constantValue := 0 }, { name := "JLA", type := (.object "jdk/internal/access/JavaLangAccess"), accessFlags := 26, slot := 19, constantValue := 0 }, { name := "SOFT_MAX_ARRAY_LENGTH", type := .int, accessFlags := 25, slot := 20, constantValue := 0 }]
  methods := #[k26m0]
  instanceTypes := #[]
  staticTypes := #[(.object "jdk/internal/misc/Unsafe"), .boolean, .int, .int, .int, .int, .int, .int, .int, .int, .int, .int, .int, .int, .int, .int, .int, .int, .int, (.object "jdk/internal/access/JavaLangAccess"), .int]
  resolved := Array.replicate 378 none
  statics := none }

/-- the primitive byte -/
def k27 : Class := { plain "byte" none with kind := .primitive 'B', accessFlags := 0x411 }
/-- [B -/
def k28 : Class := { plain "[B" (some 0) with kind := .array 27 .byte, interfaces := #[19, 4], accessFlags := 1041 }

/-- the primitive char -/
def k29 : Class := { plain "char" none with kind := .primitive 'C', accessFlags := 0x411 }
/-- [C -/
def k30 : Class := { plain "[C" (some 0) with kind := .array 29 .char, interfaces := #[19, 4], accessFlags := 1041 }

/-- [Ljava/lang/Object; -/
def k31 : Class := { plain "[Ljava/lang/Object;" (some 0) with kind := .array 0 (.object "java/lang/Object"), interfaces := #[19, 4], accessFlags := 1041 }

def heap : Heap := #[{ cls := 9, slots := #[.long 0, .int 1, .null, .int 0, .null, .int 0, .int 0], vm := .statics 9 },
  { cls := 20, slots := #[.long 0, .int 0, .ref 3, .ref 4], vm := .statics 20 },
  { cls := 24, slots := #[.null, .null, .null], vm := .statics 24 },
  { cls := 31, slots := #[], vm := .none },
  { cls := 31, slots := #[], vm := .none }]
def classes : Array Class := #[k0, k1, k2, k3, k4, k5, k6, k7, k8, k9, k10, k11, k12, k13, k14, k15, k16, k17, k18, k19, k20, k21, k22, k23, k24, k25, k26, k27, k28, k29, k30, k31]
def interned : List (Array UInt16 × Addr) := []
def slotsUsed : Nat := 14
def theMethod : MethodId := ⟨1, 1⟩
def args0 : Array Value := #[.int 5, .int 65, .int 66]
def aboutOver (below : List Frame) : State where
  vm := { classes := classes, interned := interned.toArray }
  heap := heap
  slotsUsed := slotsUsed
  threads := #[{ frames := .invoking theMethod args0 :: below }]
def below0 : List Frame := [.native { method := ⟨0, 0⟩, args := #[] }]
def about1 : State := aboutOver below0
def p0 : Program := .bare "" "" ""
def e0 : Env := launch0.env 0 0 0
theorem w_frames : about1.frames = Frame.invoking theMethod args0 :: below0 := rfl
set_option maxRecDepth 65536 in
theorem w_args : argsFit about1.vm theMethod args0 = true := by decide +kernel
set_option maxRecDepth 65536 in
theorem w_heap : heapFits about1 = true := by decide +kernel
set_option maxRecDepth 65536 in
theorem w_runnable : about1.curStatus? = some .runnable := by decide +kernel
set_option maxRecDepth 65536 in
theorem w_alone : about1.alone = true := by decide +kernel
set_option maxRecDepth 65536 in
theorem w_named : about1.methodNamed? x = some theMethod := by decide +kernel
set_option maxRecDepth 65536 in
theorem w_hears : about1.hears theMethod below0 = true := by decide +kernel
set_option maxRecDepth 65536 in
theorem w_ripe : about1.ripe theMethod args0 below0 = true := by decide +kernel
theorem w_running : about1.status = .running := rfl
set_option maxRecDepth 65536 in
theorem w_room : about1.hasRoom e0.platform room_1 = true :=
  launch0.hasRoom_least _ room_1 (by decide +kernel) (by decide +kernel) (by decide +kernel) (by decide +kernel) (by decide +kernel) (by decide +kernel)
theorem allAtoms_all (ts : List Jvm.Cond) (a : Array Jvm.Value) (st : Jvm.State) : (allAtoms ts).before a st = ts.all (fun c => c.before a st) := by
  induction ts with
  | nil => rfl
  | cons c t ih =>
    show (Jvm.Cond.and c (allAtoms t)).before a st = _
    rw [Jvm.Cond.before_and, ih, List.all_cons]
def words1 : List Jvm.Cond := Jvm.Cond.code x code maxLocals ret :: tables_1
/-- a 'code' word, met by the world's own term for the bytes: nothing is compared byte by byte -/
theorem code_word {y : MethodName} {bytes : ByteArray} {mx : Nat} {rt : Option FieldType} {a : Array Value} {s : State} {m : MethodId} {meth : Method} {c : Code} (h1 : s.methodNamed? y = some m) (h2 : s.vm.method? m = some meth) (h3 : meth.code = some c) (h4 : c.code = bytes)
    (h5 : (c.maxLocals == mx && c.exceptionTable.isEmpty && decide (c.maxStack ≤ mostOperands) && decide (meth.sig.returnType = rt) && !meth.locks && decide (parseMethodDescriptor y.desc = some meth.sig)) = true) : (Jvm.Cond.code y bytes mx rt).before a s = true := by
  simp only [Bool.and_eq_true, beq_iff_eq, Bool.not_eq_true', decide_eq_true_eq] at h5
  obtain ⟨⟨⟨⟨⟨g1, g2⟩, g3⟩, g4⟩, g5⟩, g6⟩ := h5
  simp [Cond.before, Cond.holds, Cond.value, h1, h2, h3, h4, g1, g2, g3, g4, g5, g6]
def isCode : Jvm.Cond → Bool
  | .code _ _ _ _ => true
  | _ => false
theorem all_split {L : List Jvm.Cond} {P : Jvm.Cond → Bool} (h1 : L.all (fun c => isCode c || P c) = true) (h2 : ∀ c ∈ L.filter isCode, P c = true) : L.all P = true := by
  refine List.all_eq_true.mpr fun c hc => ?_
  have h := List.all_eq_true.mp h1 c hc
  rcases Bool.eq_false_or_eq_true (isCode c) with hi | hi
  · exact h2 c (List.mem_filter.mpr ⟨hc, hi⟩)
  · simpa [hi] using h
set_option maxRecDepth 65536 in
theorem w_c0 : (Jvm.Cond.code x code maxLocals ret).before args0 about1 = true := code_word (m := ⟨1, 1⟩) (meth := k1m1) (c := k1c1) (by decide +kernel) rfl rfl rfl (by decide +kernel)
set_option maxRecDepth 65536 in
theorem w_c1 : (Jvm.Cond.code ({ cls := "java/lang/String", name := "<init>", desc := "([C)V" } : Jvm.MethodName) jdk_42_method_3_code (2 : Nat) (Option.none : Option Jvm.ClassFile.FieldType)).before args0 about1 = true := code_word (m := ⟨9, 1⟩) (meth := k9m1) (c := k9c1) (by decide +kernel) rfl rfl rfl (by decide +kernel)
set_option maxRecDepth 65536 in
theorem w_c2 : (Jvm.Cond.code ({ cls := "java/lang/String", name := "<init>", desc := "([CIILjava/lang/Void;)V" } : Jvm.MethodName) jdk_42_method_149_code (6 : Nat) (Option.none : Option Jvm.ClassFile.FieldType)).before args0 about1 = true := code_word (m := ⟨9, 2⟩) (meth := k9m2) (c := k9c2) (by decide +kernel) rfl rfl rfl (by decide +kernel)
set_option maxRecDepth 65536 in
theorem w_c3 : (Jvm.Cond.code ({ cls := "java/lang/Object", name := "<init>", desc := "()V" } : Jvm.MethodName) object_method_1_code (1 : Nat) (Option.none : Option Jvm.ClassFile.FieldType)).before args0 about1 = true := code_word (m := ⟨0, 0⟩) (meth := k0m0) (c := k0c0) (by decide +kernel) rfl rfl rfl (by decide +kernel)
set_option maxRecDepth 65536 in
theorem w_c4 : (Jvm.Cond.code ({ cls := "java/lang/StringUTF16", name := "compress", desc := "([CII)[B" } : Jvm.MethodName) jdk_52_method_16_code (6 : Nat) (Option.some (Jvm.ClassFile.FieldType.array Jvm.ClassFile.FieldType.byte))).before args0 about1 = true := code_word (m := ⟨10, 2⟩) (meth := k10m2) (c := k10c2) (by decide +kernel) rfl rfl rfl (by decide +kernel)
set_option maxRecDepth 65536 in
theorem w_c5 : (Jvm.Cond.code ({ cls := "java/lang/StringUTF16", name := "compress", desc := "([CI[BII)I" } : Jvm.MethodName) jdk_52_method_21_code (7 : Nat) (Option.some Jvm.ClassFile.FieldType.int)).before args0 about1 = true := code_word (m := ⟨10, 3⟩) (meth := k10m3) (c := k10c3) (by decide +kernel) rfl rfl rfl (by decide +kernel)
set_option maxRecDepth 65536 in
theorem w_c6 : (Jvm.Cond.code ({ cls := "java/lang/StringUTF16", name := "coderFromArrayLen", desc := "([BI)B" } : Jvm.MethodName) jdk_52_method_15_code (2 : Nat) (Option.some Jvm.ClassFile.FieldType.byte)).before args0 about1 = true := code_word (m := ⟨10, 1⟩) (meth := k10m1) (c := k10c1) (by decide +kernel) rfl rfl rfl (by decide +kernel)
set_option maxRecDepth 65536 in
theorem w_c7 : (Jvm.Cond.code ({ cls := "com/example/ballast/ballast/runtime/ActorId", name := "<init>", desc := "(Ljava/lang/String;Ljava/lang/String;)V" } : Jvm.MethodName) prog_59_method_1_code (3 : Nat) (Option.none : Option Jvm.ClassFile.FieldType)).before args0 about1 = true := code_word (m := ⟨3, 0⟩) (meth := k3m0) (c := k3c0) (by decide +kernel) rfl rfl rfl (by decide +kernel)
set_option maxRecDepth 65536 in
theorem w_c8 : (Jvm.Cond.code ({ cls := "java/lang/Record", name := "<init>", desc := "()V" } : Jvm.MethodName) jdk_30_method_1_code (1 : Nat) (Option.none : Option Jvm.ClassFile.FieldType)).before args0 about1 = true := code_word (m := ⟨2, 0⟩) (meth := k2m0) (c := k2c0) (by decide +kernel) rfl rfl rfl (by decide +kernel)
set_option maxRecDepth 65536 in
theorem w_c9 : (Jvm.Cond.code ({ cls := "com/example/ballast/ballast/runtime/Outbox", name := "<init>", desc := "()V" } : Jvm.MethodName) prog_120_method_1_code (1 : Nat) (Option.none : Option Jvm.ClassFile.FieldType)).before args0 about1 = true := code_word (m := ⟨11, 0⟩) (meth := k11m0) (c := k11c0) (by decide +kernel) rfl rfl rfl (by decide +kernel)
set_option maxRecDepth 65536 in
theorem w_c10 : (Jvm.Cond.code ({ cls := "com/example/ballast/ballast/runtime/Outbox", name := "release", desc := "()Ljava/util/List;" } : Jvm.MethodName) prog_120_method_9_code (2 : Nat) (Option.some (Jvm.ClassFile.FieldType.object "java/util/List"))).before args0 about1 = true := code_word (m := ⟨11, 4⟩) (meth := k11m4) (c := k11c4) (by decide +kernel) rfl rfl rfl (by decide +kernel)
set_option maxRecDepth 65536 in
theorem w_c11 : (Jvm.Cond.code ({ cls := "com/example/ballast/ballast/runtime/Outbox", name := "isHolding", desc := "()Z" } : Jvm.MethodName) prog_120_method_7_code (1 : Nat) (Option.some Jvm.ClassFile.FieldType.boolean)).before args0 about1 = true := code_word (m := ⟨11, 2⟩) (meth := k11m2) (c := k11c2) (by decide +kernel) rfl rfl rfl (by decide +kernel)
set_option maxRecDepth 65536 in
theorem w_c12 : (Jvm.Cond.code ({ cls := "com/example/ballast/ballast/runtime/Outbox", name := "holdUntilReleased", desc := "()V" } : Jvm.MethodName) prog_120_method_6_code (1 : Nat) (Option.none : Option Jvm.ClassFile.FieldType)).before args0 about1 = true := code_word (m := ⟨11, 1⟩) (meth := k11m1) (c := k11c1) (by decide +kernel) rfl rfl rfl (by decide +kernel)
set_option maxRecDepth 65536 in
theorem w_c13 : (Jvm.Cond.code ({ cls := "java/util/ArrayList", name := "<init>", desc := "()V" } : Jvm.MethodName) jdk_38_method_2_code (1 : Nat) (Option.none : Option Jvm.ClassFile.FieldType)).before args0 about1 = true := code_word (m := ⟨20, 0⟩) (meth := k20m0) (c := k20c0) (by decide +kernel) rfl rfl rfl (by decide +kernel)
set_option maxRecDepth 65536 in
theorem w_c14 : (Jvm.Cond.code ({ cls := "java/util/AbstractList", name := "<init>", desc := "()V" } : Jvm.MethodName) jdk_39_method_1_code (1 : Nat) (Option.none : Option Jvm.ClassFile.FieldType)).before args0 about1 = true := code_word (m := ⟨17, 0⟩) (meth := k17m0) (c := k17c0) (by decide +kernel) rfl rfl rfl (by decide +kernel)
set_option maxRecDepth 65536 in
theorem w_c15 : (Jvm.Cond.code ({ cls := "java/util/AbstractCollection", name := "<init>", desc := "()V" } : Jvm.MethodName) jdk_22_method_1_code (1 : Nat) (Option.none : Option Jvm.ClassFile.FieldType)).before args0 about1 = true := code_word (m := ⟨14, 0⟩) (meth := k14m0) (c := k14c0) (by decide +kernel) rfl rfl rfl (by decide +kernel)
set_option maxRecDepth 65536 in
theorem w_c16 : (Jvm.Cond.code ({ cls := "java/util/ArrayList", name := "size", desc := "()I" } : Jvm.MethodName) jdk_38_method_8_code (1 : Nat) (Option.some Jvm.ClassFile.FieldType.int)).before args0 about1 = true := code_word (m := ⟨20, 3⟩) (meth := k20m3) (c := k20c3) (by decide +kernel) rfl rfl rfl (by decide +kernel)
set_option maxRecDepth 65536 in
theorem w_c17 : (Jvm.Cond.code ({ cls := "com/example/ballast/ballast/runtime/Outbox", name := "hold", desc := "(Lcom/example/ballast/ballast/runtime/ActorId;Ljava/util/function/IntConsumer;)V" } : Jvm.MethodName) prog_120_method_8_code (3 : Nat) (Option.none : Option Jvm.ClassFile.FieldType)).before args0 about1 = true := code_word (m := ⟨11, 3⟩) (meth := k11m3) (c := k11c3) (by decide +kernel) rfl rfl rfl (by decide +kernel)
set_option maxRecDepth 65536 in
theorem w_c18 : (Jvm.Cond.code ({ cls := "com/example/ballast/ballast/runtime/Outbox$Held", name := "<init>", desc := "(Lcom/example/ballast/ballast/runtime/ActorId;Ljava/util/function/IntConsumer;)V" } : Jvm.MethodName) prog_121_method_1_code (3 : Nat) (Option.none : Option Jvm.ClassFile.FieldType)).before args0 about1 = true := code_word (m := ⟨21, 0⟩) (meth := k21m0) (c := k21c0) (by decide +kernel) rfl rfl rfl (by decide +kernel)
set_option maxRecDepth 65536 in
theorem w_c19 : (Jvm.Cond.code ({ cls := "java/util/ArrayList", name := "add", desc := "(Ljava/lang/Object;)Z" } : Jvm.MethodName) jdk_38_method_25_code (2 : Nat) (Option.some Jvm.ClassFile.FieldType.boolean)).before args0 about1 = true := code_word (m := ⟨20, 7⟩) (meth := k20m7) (c := k20c7) (by decide +kernel) rfl rfl rfl (by decide +kernel)
set_option maxRecDepth 65536 in
theorem w_c20 : (Jvm.Cond.code ({ cls := "java/util/ArrayList", name := "add", desc := "(Ljava/lang/Object;[Ljava/lang/Object;I)V" } : Jvm.MethodName) jdk_38_method_24_code (4 : Nat) (Option.none : Option Jvm.ClassFile.FieldType)).before args0 about1 = true := code_word (m := ⟨20, 6⟩) (meth := k20m6) (c := k20c6) (by decide +kernel) rfl rfl rfl (by decide +kernel)
set_option maxRecDepth 65536 in
theorem w_c21 : (Jvm.Cond.code ({ cls := "java/util/ArrayList", name := "grow", desc := "()[Ljava/lang/Object;" } : Jvm.MethodName) jdk_38_method_7_code (1 : Nat) (Option.some (Jvm.ClassFile.FieldType.array (Jvm.ClassFile.FieldType.object "java/lang/Object")))).before args0 about1 = true := code_word (m := ⟨20, 2⟩) (meth := k20m2) (c := k20c2) (by decide +kernel) rfl rfl rfl (by decide +kernel)
set_option maxRecDepth 65536 in
theorem w_c22 : (Jvm.Cond.code ({ cls := "java/util/ArrayList", name := "grow", desc := "(I)[Ljava/lang/Object;" } : Jvm.MethodName) jdk_38_method_6_code (4 : Nat) (Option.some (Jvm.ClassFile.FieldType.array (Jvm.ClassFile.FieldType.object "java/lang/Object")))).before args0 about1 = true := code_word (m := ⟨20, 1⟩) (meth := k20m1) (c := k20c1) (by decide +kernel) rfl rfl rfl (by decide +kernel)
set_option maxRecDepth 65536 in
theorem w_c23 : (Jvm.Cond.code ({ cls := "java/lang/Math", name := "max", desc := "(II)I" } : Jvm.MethodName) jdk_29_method_65_code (2 : Nat) (Option.some Jvm.ClassFile.FieldType.int)).before args0 about1 = true := code_word (m := ⟨22, 1⟩) (meth := k22m1) (c := k22c1) (by decide +kernel) rfl rfl rfl (by decide +kernel)
set_option maxRecDepth 65536 in
theorem w_c24 : (Jvm.Cond.code ({ cls := "java/util/ArrayList", name := "get", desc := "(I)Ljava/lang/Object;" } : Jvm.MethodName) jdk_38_method_20_code (2 : Nat) (Option.some (Jvm.ClassFile.FieldType.object "java/lang/Object"))).before args0 about1 = true := code_word (m := ⟨20, 5⟩) (meth := k20m5) (c := k20c5) (by decide +kernel) rfl rfl rfl (by decide +kernel)
set_option maxRecDepth 65536 in
theorem w_c25 : (Jvm.Cond.code ({ cls := "java/util/Objects", name := "checkIndex", desc := "(II)I" } : Jvm.MethodName) jdk_31_method_17_code (2 : Nat) (Option.some Jvm.ClassFile.FieldType.int)).before args0 about1 = true := code_word (m := ⟨23, 1⟩) (meth := k23m1) (c := k23c1) (by decide +kernel) rfl rfl rfl (by decide +kernel)
set_option maxRecDepth 65536 in
theorem w_c26 : (Jvm.Cond.code ({ cls := "jdk/internal/util/Preconditions", name := "checkIndex", desc := "(IILjava/util/function/BiFunction;)I" } : Jvm.MethodName) jdk_41_method_11_code (3 : Nat) (Option.some Jvm.ClassFile.FieldType.int)).before args0 about1 = true := code_word (m := ⟨24, 1⟩) (meth := k24m1) (c := k24c1) (by decide +kernel) rfl rfl rfl (by decide +kernel)
set_option maxRecDepth 65536 in
theorem w_c27 : (Jvm.Cond.code ({ cls := "java/util/ArrayList", name := "elementData", desc := "(I)Ljava/lang/Object;" } : Jvm.MethodName) jdk_38_method_18_code (2 : Nat) (Option.some (Jvm.ClassFile.FieldType.object "java/lang/Object"))).before args0 about1 = true := code_word (m := ⟨20, 4⟩) (meth := k20m4) (c := k20c4) (by decide +kernel) rfl rfl rfl (by decide +kernel)
set_option maxRecDepth 65536 in
theorem w_c28 : (Jvm.Cond.code ({ cls := "com/example/ballast/ballast/runtime/Outbox$Held", name := "receiver", desc := "()Lcom/example/ballast/ballast/runtime/ActorId;" } : Jvm.MethodName) prog_121_method_5_code (1 : Nat) (Option.some (Jvm.ClassFile.FieldType.object "com/example/ballast/ballast/runtime/ActorId"))).before args0 about1 = true := code_word (m := ⟨21, 1⟩) (meth := k21m1) (c := k21c1) (by decide +kernel) rfl rfl rfl (by decide +kernel)
set_option maxRecDepth 65536 in
theorem w_c29 : (Jvm.Cond.code ({ cls := "com/example/ballast/ballast/runtime/Outbox$Held", name := "send", desc := "()Ljava/util/function/IntConsumer;" } : Jvm.MethodName) prog_121_method_6_code (1 : Nat) (Option.some (Jvm.ClassFile.FieldType.object "java/util/function/IntConsumer"))).before args0 about1 = true := code_word (m := ⟨21, 2⟩) (meth := k21m2) (c := k21c2) (by decide +kernel) rfl rfl rfl (by decide +kernel)
def codes1 : List Jvm.Cond := [Jvm.Cond.code x code maxLocals ret, Jvm.Cond.code ({ cls := "java/lang/String", name := "<init>", desc := "([C)V" } : Jvm.MethodName) jdk_42_method_3_code (2 : Nat) (Option.none : Option Jvm.ClassFile.FieldType), Jvm.Cond.code ({ cls := "java/lang/String", name := "<init>", desc := "([CIILjava/lang/Void;)V" } : Jvm.MethodName) jdk_42_method_149_code (6 : Nat) (Option.none : Option Jvm.ClassFile.FieldType), Jvm.Cond.code ({ cls := "java/lang/Object", name := "<init>", desc := "()V" } : Jvm.MethodName) object_method_1_code (1 : Nat) (Option.none : Option Jvm.ClassFile.FieldType), Jvm.Cond.code ({ cls := "java/lang/StringUTF16", name := "compress", desc := "([CII)[B" } : Jvm.MethodName) jdk_52_method_16_code (6 : Nat) (Option.some (Jvm.ClassFile.FieldType.array Jvm.ClassFile.FieldType.byte)), Jvm.Cond.code ({ cls := "java/lang/StringUTF16", name := "compress", desc := "([CI[BII)I" } : Jvm.MethodName) jdk_52_method_21_code (7 : Nat) (Option.some Jvm.ClassFile.FieldType.int), Jvm.Cond.code ({ cls := "java/lang/StringUTF16", name := "coderFromArrayLen", desc := "([BI)B" } : Jvm.MethodName) jdk_52_method_15_code (2 : Nat) (Option.some Jvm.ClassFile.FieldType.byte), Jvm.Cond.code ({ cls := "com/example/ballast/ballast/runtime/ActorId", name := "<init>", desc := "(Ljava/lang/String;Ljava/lang/String;)V" } : Jvm.MethodName) prog_59_method_1_code (3 : Nat) (Option.none : Option Jvm.ClassFile.FieldType), Jvm.Cond.code ({ cls := "java/lang/Record", name := "<init>", desc := "()V" } : Jvm.MethodName) jdk_30_method_1_code (1 : Nat) (Option.none : Option Jvm.ClassFile.FieldType), Jvm.Cond.code ({ cls := "com/example/ballast/ballast/runtime/Outbox", name := "<init>", desc := "()V" } : Jvm.MethodName) prog_120_method_1_code (1 : Nat) (Option.none : Option Jvm.ClassFile.FieldType), Jvm.Cond.code ({ cls := "com/example/ballast/ballast/runtime/Outbox", name := "release", desc := "()Ljava/util/List;" } : Jvm.MethodName) prog_120_method_9_code (2 : Nat) (Option.some (Jvm.ClassFile.FieldType.object "java/util/List")), Jvm.Cond.code ({ cls := "com/example/ballast/ballast/runtime/Outbox", name := "isHolding", desc := "()Z" } : Jvm.MethodName) prog_120_method_7_code (1 : Nat) (Option.some Jvm.ClassFile.FieldType.boolean), Jvm.Cond.code ({ cls := "com/example/ballast/ballast/runtime/Outbox", name := "holdUntilReleased", desc := "()V" } : Jvm.MethodName) prog_120_method_6_code (1 : Nat) (Option.none : Option Jvm.ClassFile.FieldType), Jvm.Cond.code ({ cls := "java/util/ArrayList", name := "<init>", desc := "()V" } : Jvm.MethodName) jdk_38_method_2_code (1 : Nat) (Option.none : Option Jvm.ClassFile.FieldType), Jvm.Cond.code ({ cls := "java/util/AbstractList", name := "<init>", desc := "()V" } : Jvm.MethodName) jdk_39_method_1_code (1 : Nat) (Option.none : Option Jvm.ClassFile.FieldType), Jvm.Cond.code ({ cls := "java/util/AbstractCollection", name := "<init>", desc := "()V" } : Jvm.MethodName) jdk_22_method_1_code (1 : Nat) (Option.none : Option Jvm.ClassFile.FieldType), Jvm.Cond.code ({ cls := "java/util/ArrayList", name := "size", desc := "()I" } : Jvm.MethodName) jdk_38_method_8_code (1 : Nat) (Option.some Jvm.ClassFile.FieldType.int), Jvm.Cond.code ({ cls := "com/example/ballast/ballast/runtime/Outbox", name := "hold", desc := "(Lcom/example/ballast/ballast/runtime/ActorId;Ljava/util/function/IntConsumer;)V" } : Jvm.MethodName) prog_120_method_8_code (3 : Nat) (Option.none : Option Jvm.ClassFile.FieldType), Jvm.Cond.code ({ cls := "com/example/ballast/ballast/runtime/Outbox$Held", name := "<init>", desc := "(Lcom/example/ballast/ballast/runtime/ActorId;Ljava/util/function/IntConsumer;)V" } : Jvm.MethodName) prog_121_method_1_code (3 : Nat) (Option.none : Option Jvm.ClassFile.FieldType), Jvm.Cond.code ({ cls := "java/util/ArrayList", name := "add", desc := "(Ljava/lang/Object;)Z" } : Jvm.MethodName) jdk_38_method_25_code (2 : Nat) (Option.some Jvm.ClassFile.FieldType.boolean), Jvm.Cond.code ({ cls := "java/util/ArrayList", name := "add", desc := "(Ljava/lang/Object;[Ljava/lang/Object;I)V" } : Jvm.MethodName) jdk_38_method_24_code (4 : Nat) (Option.none : Option Jvm.ClassFile.FieldType), Jvm.Cond.code ({ cls := "java/util/ArrayList", name := "grow", desc := "()[Ljava/lang/Object;" } : Jvm.MethodName) jdk_38_method_7_code (1 : Nat) (Option.some (Jvm.ClassFile.FieldType.array (Jvm.ClassFile.FieldType.object "java/lang/Object"))), Jvm.Cond.code ({ cls := "java/util/ArrayList", name := "grow", desc := "(I)[Ljava/lang/Object;" } : Jvm.MethodName) jdk_38_method_6_code (4 : Nat) (Option.some (Jvm.ClassFile.FieldType.array (Jvm.ClassFile.FieldType.object "java/lang/Object"))), Jvm.Cond.code ({ cls := "java/lang/Math", name := "max", desc := "(II)I" } : Jvm.MethodName) jdk_29_method_65_code (2 : Nat) (Option.some Jvm.ClassFile.FieldType.int), Jvm.Cond.code ({ cls := "java/util/ArrayList", name := "get", desc := "(I)Ljava/lang/Object;" } : Jvm.MethodName) jdk_38_method_20_code (2 : Nat) (Option.some (Jvm.ClassFile.FieldType.object "java/lang/Object")), Jvm.Cond.code ({ cls := "java/util/Objects", name := "checkIndex", desc := "(II)I" } : Jvm.MethodName) jdk_31_method_17_code (2 : Nat) (Option.some Jvm.ClassFile.FieldType.int), Jvm.Cond.code ({ cls := "jdk/internal/util/Preconditions", name := "checkIndex", desc := "(IILjava/util/function/BiFunction;)I" } : Jvm.MethodName) jdk_41_method_11_code (3 : Nat) (Option.some Jvm.ClassFile.FieldType.int), Jvm.Cond.code ({ cls := "java/util/ArrayList", name := "elementData", desc := "(I)Ljava/lang/Object;" } : Jvm.MethodName) jdk_38_method_18_code (2 : Nat) (Option.some (Jvm.ClassFile.FieldType.object "java/lang/Object")), Jvm.Cond.code ({ cls := "com/example/ballast/ballast/runtime/Outbox$Held", name := "receiver", desc := "()Lcom/example/ballast/ballast/runtime/ActorId;" } : Jvm.MethodName) prog_121_method_5_code (1 : Nat) (Option.some (Jvm.ClassFile.FieldType.object "com/example/ballast/ballast/runtime/ActorId")), Jvm.Cond.code ({ cls := "com/example/ballast/ballast/runtime/Outbox$Held", name := "send", desc := "()Ljava/util/function/IntConsumer;" } : Jvm.MethodName) prog_121_method_6_code (1 : Nat) (Option.some (Jvm.ClassFile.FieldType.object "java/util/function/IntConsumer"))]
set_option maxRecDepth 65536 in
theorem codes_eq : words1.filter isCode = codes1 := rfl
theorem w_codes : ∀ c ∈ words1.filter isCode, c.before args0 about1 = true := by
  rw [codes_eq]
  intro c hc
  simp only [codes1, List.mem_cons, List.not_mem_nil, or_false] at hc
  rcases hc with rfl | rfl | rfl | rfl | rfl | rfl | rfl | rfl | rfl | rfl | rfl | rfl | rfl | rfl | rfl | rfl | rfl | rfl | rfl | rfl | rfl | rfl | rfl | rfl | rfl | rfl | rfl | rfl | rfl | rfl
  · exact w_c0
  · exact w_c1
  · exact w_c2
  · exact w_c3
  · exact w_c4
  · exact w_c5
  · exact w_c6
  · exact w_c7
  · exact w_c8
  · exact w_c9
  · exact w_c10
  · exact w_c11
  · exact w_c12
  · exact w_c13
  · exact w_c14
  · exact w_c15
  · exact w_c16
  · exact w_c17
  · exact w_c18
  · exact w_c19
  · exact w_c20
  · exact w_c21
  · exact w_c22
  · exact w_c23
  · exact w_c24
  · exact w_c25
  · exact w_c26
  · exact w_c27
  · exact w_c28
  · exact w_c29
set_option maxRecDepth 65536 in
theorem w_t1 : (words1.take 24).all (fun c => isCode c || c.before args0 about1) = true := by decide +kernel
set_option maxRecDepth 65536 in
theorem w_t2 : ((words1.drop 24).take 24).all (fun c => isCode c || c.before args0 about1) = true := by decide +kernel
set_option maxRecDepth 65536 in
theorem w_t3 : (((words1.drop 24).drop 24).take 24).all (fun c => isCode c || c.before args0 about1) = true := by decide +kernel
set_option maxRecDepth 65536 in
theorem w_t4 : ((((words1.drop 24).drop 24).drop 24).take 24).all (fun c => isCode c || c.before args0 about1) = true := by decide +kernel
set_option maxRecDepth 65536 in
theorem w_t5 : (((((words1.drop 24).drop 24).drop 24).drop 24).take 24).all (fun c => isCode c || c.before args0 about1) = true := by decide +kernel
set_option maxRecDepth 65536 in
theorem w_t6 : ((((((words1.drop 24).drop 24).drop 24).drop 24).drop 24).take 24).all (fun c => isCode c || c.before args0 about1) = true := by decide +kernel
set_option maxRecDepth 65536 in
theorem w_t7 : (((((((words1.drop 24).drop 24).drop 24).drop 24).drop 24).drop 24).take 24).all (fun c => isCode c || c.before args0 about1) = true := by decide +kernel
set_option maxRecDepth 65536 in
theorem w_t8 : ((((((((words1.drop 24).drop 24).drop 24).drop 24).drop 24).drop 24).drop 24).take 24).all (fun c => isCode c || c.before args0 about1) = true := by decide +kernel
set_option maxRecDepth 65536 in
theorem w_t9 : ((((((((words1.drop 24).drop 24).drop 24).drop 24).drop 24).drop 24).drop 24).drop 24).all (fun c => isCode c || c.before args0 about1) = true := by decide +kernel
theorem w_tables : (allAtoms (Jvm.Cond.code x code maxLocals ret :: tables_1)).before args0 about1 = true := by
  rw [allAtoms_all]
  show words1.all (fun c => c.before args0 about1) = true
  refine all_split ?_ w_codes
  rw [← List.take_append_drop 24 words1, List.all_append, w_t1, ← List.take_append_drop 24 (words1.drop 24), List.all_append, w_t2, ← List.take_append_drop 24 ((words1.drop 24).drop 24), List.all_append, w_t3, ← List.take_append_drop 24 (((words1.drop 24).drop 24).drop 24), List.all_append, w_t4, ← List.take_append_drop 24 ((((words1.drop 24).drop 24).drop 24).drop 24), List.all_append, w_t5, ← List.take_append_drop 24 (((((words1.drop 24).drop 24).drop 24).drop 24).drop 24), List.all_append, w_t6, ← List.take_append_drop 24 ((((((words1.drop 24).drop 24).drop 24).drop 24).drop 24).drop 24), List.all_append, w_t7, ← List.take_append_drop 24 (((((((words1.drop 24).drop 24).drop 24).drop 24).drop 24).drop 24).drop 24), List.all_append, w_t8, w_t9]
  rfl
set_option maxRecDepth 65536 in
theorem w_rest : rest_1_c.before args0 about1 = true := by decide +kernel
set_option maxRecDepth 65536 in
theorem w_case : (Jvm.Cond.and given_1 narrow_1).before args0 about1 = true := by decide +kernel
theorem w_applies : (headSpec (Jvm.Cond.code x code maxLocals ret :: tables_1) room_1).applies x e0.platform about1 = true :=
  (Spec.applies_iff w_frames).mpr ⟨w_running, w_runnable, w_alone, w_named, w_hears, w_ripe, w_room, w_tables⟩
theorem atStart : AtStart classFile x code maxLocals ret World_1 tables_1 room_1 Calls_1 rest_1 Pre_1 launch0 p0 e0 about1 theMethod args0 below0 :=
  ⟨lists_1, trivial, launch0.admits_env _ _ _, launch0.least_env, fairChoices_fair.cas, fairChoices_fair.clock, w_frames, w_args, w_heap, w_applies, trivial, w_rest, w_case⟩
end start1
theorem witness_1 : WitnessClaimed_1 := ⟨start1.p0, start1.e0, start1.about1, start1.theMethod, start1.args0, start1.below0, start1.atStart⟩
end Jvm.Pilot.@@N@@
