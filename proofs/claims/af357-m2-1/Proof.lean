import JvmDerived
import JvmDerived.Pilot.@@N@@Statement
import JvmDerived.Pilot.@@N@@Code
set_option linter.unusedVariables false
set_option linter.unusedSimpArgs false
namespace Jvm.Pilot.@@N@@
open Jvm Jvm.ClassFile Sem Op Lib Jvm.Free Jvm.Stand Jvm.LawKit Jvm.RoadKit Bundle Jvm.Pilot.@@N@@.Jvm.D
/-! ## the run in continuation form: 'Go G T g': from T with the top frame g the run ends as G says -/
def Go (p : Program) (e : Env) (below : List Frame) (G : State → Outcome → Prop) (T : State) (g : JFrame) : Prop :=
  ∃ s₂ o, Steps p.tables e below (T.setTop g) s₂ ∧ s₂.status = .running ∧ Ended s₂ below o ∧ G s₂ o
/-- what a contract asks of the end -/
def FinQ (s : State) (Q : Option Value → Heap → List Loc → Prop) (kc ks : Nat) (U' : State) (o : Outcome) : Prop :=
  ∃ v L, o = .returned v ∧ Q v U'.heap L ∧ FrameEnd s o U' L kc ks
/-- a body's contract, as backOf takes it -/
def Met1 (l : Launch) (Z : State) (y : MethodName) (bytes : ByteArray) (maxL : Nat) (rt : Option FieldType) (rm : Room) (as : Array Value) (h0 : Heap) (Q : Option Value → Heap → List Loc → Prop) : Prop :=
  ∀ ws : List Jvm.Cond, MetFree l y (head1 (Jvm.Cond.code y bytes maxL rt :: ws) rm) (fun a U => a = as ∧ Z.Warmed39 U.vm ∧ U.heap = h0) (fun _ _ _ _ _ => True)
    (fun _ U o U' => ∃ v L, o = .returned v ∧ Q v U'.heap L ∧ FrameEnd U o U' L rm.cells rm.slots)
section OwnGo
variable {p : Program} {l : Launch} {e : Env} {R : Room} {s : State} {m : MethodId} {args : Array Value} {below : List Frame} {meth : Method} {c : Code} {T T' : State} {locs : List Loc} {cells slots : Nat} {G : State → Outcome → Prop} {Ls : Array Slot} {st : List Value} {pc : Nat} {bs : ByteArray} {Z : State} {a0 : Array Value} {h : Heap} {g g' : JFrame}
theorem Go.by (q : ∀ t, Steps p.tables e below (T'.setTop g') t → Steps p.tables e below (T.setTop g) t) (k : Go p e below G T' g') : Go p e below G T g := by
  obtain ⟨s₂, o, h1, h2⟩ := k
  exact ⟨s₂, o, q _ h1, h2⟩
theorem own_met_of {Z : State} {y : MethodName} {bytes : ByteArray} {maxL : Nat} {rt : Option FieldType} {rm : Room} {as : Array Value} {h0 : Heap} {Q : Option Value → Heap → List Loc → Prop} {Ls0 : Array Slot} (hpl : plainFor y = true) (ef : ∀ m, entryFrame m as maxL = mkF m 0 Ls0 [])
    (body : ∀ (p : Program) (e : Env) (s : State) (m : MethodId) (below : List Frame) (meth : Method) (c : Code) (s₁ : State), Stand p l e rm s m as below meth c s₁ [] 0 0 → p.tables.exec = Jvm.exec → c.code = bytes → c.maxLocals = maxL → Z.Warmed39 s.vm → s.vm.findClass y.cls = some m.cls → meth.name = y.name → meth.sig.returnType = rt → meth.locks = false → s₁.heap = h0 →
      Go p e below (FinQ s Q rm.cells rm.slots) s₁ (mkF m 0 Ls0 [])) : Met1 l Z y bytes maxL rt rm as h0 Q := by
  intro ws
  refine MetFree.of_bodySF hpl hisR ?_
  intro p e s m args below meth c s₁ Bd hml0 hP hK
  obtain ⟨rfl, hZ, hh⟩ := hP
  have k := body p e s m below meth c s₁ (Stand.of_body Bd) Bd.exec Bd.bytes hml0 hZ (findClass_of_methodNamed Bd.named) (name_of_methodNamed Bd.named Bd.method).1 Bd.returns Bd.notSynchronized (by rw [← hh, Bd.state]; rfl)
  rw [← ef m] at k
  exact k
theorem own_leave {Q : Option Value → Heap → List Loc → Prop} {kc ks : Nat} {v : Option Value} (X : Stand p l e R s m args below meth c T locs cells slots) (hv : meth.sig.returnType = none → v = none) (hlk : meth.locks = false) (hc : cells ≤ kc) (hs : slots ≤ ks) (hQ : Q v T.heap locs)
    (k : ∀ fs, (∀ (f : JFrame) (acts : List Action), f.method = m → f.locked = none → f.entered = [] → (doReturn e (T.setTop f) acts v).1 = T.setFrames fs) → Steps p.tables e below (T.setTop g) (T.setFrames fs)) : Go p e below (FinQ s Q kc ks) T g := by
  obtain ⟨fs, hr, hrun, hended, hW, hsame⟩ := X.leave (v := v) hv hlk
  exact ⟨_, _, k fs hr, hrun, hended, _, _, rfl, hQ, ⟨_, rfl⟩, hW, hsame.mono hc hs⟩
theorem own_retI {Q : Option Value → Heap → List Loc → Prop} {kc ks : Nat} {z : Int32} (X : Stand p l e R s m args below meth c T locs cells slots) (hx : p.tables.exec = Jvm.exec) (hby : c.code = bs) (hret : meth.sig.returnType = some .int) (hlk : meth.locks = false) (hd : decode bs pc = .ok (.ireturn, 1)) (hc : cells ≤ kc) (hs : slots ≤ ks) (hQ : Q (some (.int z)) T.heap locs) : Go p e below (FinQ s Q kc ks) T (mkF m pc Ls (.int z :: st)) := by
  refine own_leave X (fun q => by rw [hret] at q; cases q) hlk hc hs hQ fun fs hr => ?_
  exact retOut X hx hret rfl (Or.inl ⟨rfl, Or.inl rfl, z, rfl⟩) (hb hby hd) hr
theorem own_retN {Q : Option Value → Heap → List Loc → Prop} {kc ks : Nat} {z z' : Int32} {t : FieldType} (X : Stand p l e R s m args below meth c T locs cells slots) (hx : p.tables.exec = Jvm.exec) (hby : c.code = bs) (hret : meth.sig.returnType = some t) (hlk : meth.locks = false) (ht : t = .boolean ∨ t = .byte ∨ t = .char ∨ t = .short) (hd : decode bs pc = .ok (.ireturn, 1)) (hc : cells ≤ kc) (hs : slots ≤ ks) (hn : nar t z = z') (hQ : Q (some (.int z')) T.heap locs) : Go p e below (FinQ s Q kc ks) T (mkF m pc Ls (.int z :: st)) := by
  subst hn
  refine own_leave X (fun q => by rw [hret] at q; cases q) hlk hc hs hQ fun fs hr => ?_
  exact retN X hx hret ht (hb hby hd) hr
theorem own_retJ {Q : Option Value → Heap → List Loc → Prop} {kc ks : Nat} {z : Int64} (X : Stand p l e R s m args below meth c T locs cells slots) (hx : p.tables.exec = Jvm.exec) (hby : c.code = bs) (hret : meth.sig.returnType = some .long) (hlk : meth.locks = false) (hd : decode bs pc = .ok (.lreturn, 1)) (hc : cells ≤ kc) (hs : slots ≤ ks) (hQ : Q (some (.long z)) T.heap locs) : Go p e below (FinQ s Q kc ks) T (mkF m pc Ls (.long z :: st)) := by
  refine own_leave X (fun q => by rw [hret] at q; cases q) hlk hc hs hQ fun fs hr => ?_
  exact retOut X hx hret rfl (Or.inr (Or.inl ⟨rfl, rfl, z, rfl⟩)) (hb hby hd) hr
theorem own_retA {Q : Option Value → Heap → List Loc → Prop} {kc ks : Nat} {w : Value} {t : FieldType} (X : Stand p l e R s m args below meth c T locs cells slots) (hx : p.tables.exec = Jvm.exec) (hby : c.code = bs) (hret : meth.sig.returnType = some t) (hlk : meth.locks = false) (ht : t.isReference = true) (hw : w.isRef = true) (hn : narrow t w = w) (hd : decode bs pc = .ok (.areturn, 1)) (hc : cells ≤ kc) (hs : slots ≤ ks) (hQ : Q (some w) T.heap locs) : Go p e below (FinQ s Q kc ks) T (mkF m pc Ls (w :: st)) := by
  refine own_leave X (fun q => by rw [hret] at q; cases q) hlk hc hs hQ fun fs hr => ?_
  exact retOut X hx hret hn (Or.inr (Or.inr (Or.inr (Or.inr ⟨rfl, ht, hw⟩)))) (hb hby hd) hr
theorem own_ret {Q : Option Value → Heap → List Loc → Prop} {kc ks : Nat} (X : Stand p l e R s m args below meth c T locs cells slots) (hx : p.tables.exec = Jvm.exec) (hby : c.code = bs) (hret : meth.sig.returnType = none) (hlk : meth.locks = false) (hd : decode bs pc = .ok (.return_, 1)) (hc : cells ≤ kc) (hs : slots ≤ ks) (hQ : Q none T.heap locs) : Go p e below (FinQ s Q kc ks) T (mkF m pc Ls []) := by
  refine own_leave X (fun _ => rfl) hlk hc hs hQ fun fs hr => ?_
  exact X.returnOut hx hret (hb hby hd) hr
theorem own_iload (X : Stand p l e R s m args below meth c T locs cells slots) (hx : p.tables.exec = Jvm.exec) (hby : c.code = bs) {n : Nat} (v : Int32) (hd : decode bs pc = .ok (.iload n, 2)) (hl : Ls[n]? = some (.val (.int v))) (pc' : Nat) (hp : pc + 2 = pc') (k : Go p e below G T (mkF m pc' Ls (.int v :: st))) : Go p e below G T (mkF m pc Ls st) := by
  subst hp
  exact Go.by (fun t q => XS.iload X.here hx rfl (hb hby hd) hl q) k
theorem own_iloadN (X : Stand p l e R s m args below meth c T locs cells slots) (hx : p.tables.exec = Jvm.exec) (hby : c.code = bs) {n : Fin 4} (v : Int32) (hd : decode bs pc = .ok (.iload_n n, 1)) (hl : Ls[n.val]? = some (.val (.int v))) (pc' : Nat) (hp : pc + 1 = pc') (k : Go p e below G T (mkF m pc' Ls (.int v :: st))) : Go p e below G T (mkF m pc Ls st) := by
  subst hp
  exact Go.by (fun t q => XS.iloadN X.here hx rfl (hb hby hd) hl q) k
theorem own_istore (X : Stand p l e R s m args below meth c T locs cells slots) (hx : p.tables.exec = Jvm.exec) (hby : c.code = bs) {n : Nat} {x x' : Int32} (hd : decode bs pc = .ok (.istore n, 2)) (ex : x = x') {l' : Array Slot} (hl : storeLocals Ls n (.int x') = some l') (pc' : Nat) (hp : pc + 2 = pc') (k : Go p e below G T (mkF m pc' l' st)) : Go p e below G T (mkF m pc Ls (.int x :: st)) := by
  subst hp
  subst ex
  exact Go.by (fun t q => XS.istore X.here hx rfl (hb hby hd) rfl hl q) k
theorem own_istoreN (X : Stand p l e R s m args below meth c T locs cells slots) (hx : p.tables.exec = Jvm.exec) (hby : c.code = bs) {n : Fin 4} {x x' : Int32} (hd : decode bs pc = .ok (.istore_n n, 1)) (ex : x = x') {l' : Array Slot} (hl : storeLocals Ls n.val (.int x') = some l') (pc' : Nat) (hp : pc + 1 = pc') (k : Go p e below G T (mkF m pc' l' st)) : Go p e below G T (mkF m pc Ls (.int x :: st)) := by
  subst hp
  subst ex
  exact Go.by (fun t q => XS.istoreN X.here hx rfl (hb hby hd) rfl hl q) k
theorem own_lload (X : Stand p l e R s m args below meth c T locs cells slots) (hx : p.tables.exec = Jvm.exec) (hby : c.code = bs) {n : Nat} (v : Int64) (hd : decode bs pc = .ok (.lload n, 2)) (hl : Ls[n]? = some (.val (.long v))) (pc' : Nat) (hp : pc + 2 = pc') (k : Go p e below G T (mkF m pc' Ls (.long v :: st))) : Go p e below G T (mkF m pc Ls st) := by
  subst hp
  exact Go.by (fun t q => XS.lload X.here hx rfl (hb hby hd) hl q) k
theorem own_lloadN (X : Stand p l e R s m args below meth c T locs cells slots) (hx : p.tables.exec = Jvm.exec) (hby : c.code = bs) {n : Fin 4} (v : Int64) (hd : decode bs pc = .ok (.lload_n n, 1)) (hl : Ls[n.val]? = some (.val (.long v))) (pc' : Nat) (hp : pc + 1 = pc') (k : Go p e below G T (mkF m pc' Ls (.long v :: st))) : Go p e below G T (mkF m pc Ls st) := by
  subst hp
  exact Go.by (fun t q => XS.lloadN X.here hx rfl (hb hby hd) hl q) k
theorem own_lstore (X : Stand p l e R s m args below meth c T locs cells slots) (hx : p.tables.exec = Jvm.exec) (hby : c.code = bs) {n : Nat} {x x' : Int64} (hd : decode bs pc = .ok (.lstore n, 2)) (ex : x = x') {l' : Array Slot} (hl : storeLocals Ls n (.long x') = some l') (pc' : Nat) (hp : pc + 2 = pc') (k : Go p e below G T (mkF m pc' l' st)) : Go p e below G T (mkF m pc Ls (.long x :: st)) := by
  subst hp
  subst ex
  exact Go.by (fun t q => XS.lstore X.here hx rfl (hb hby hd) rfl hl q) k
theorem own_lstoreN (X : Stand p l e R s m args below meth c T locs cells slots) (hx : p.tables.exec = Jvm.exec) (hby : c.code = bs) {n : Fin 4} {x x' : Int64} (hd : decode bs pc = .ok (.lstore_n n, 1)) (ex : x = x') {l' : Array Slot} (hl : storeLocals Ls n.val (.long x') = some l') (pc' : Nat) (hp : pc + 1 = pc') (k : Go p e below G T (mkF m pc' l' st)) : Go p e below G T (mkF m pc Ls (.long x :: st)) := by
  subst hp
  subst ex
  exact Go.by (fun t q => XS.lstoreN X.here hx rfl (hb hby hd) rfl hl q) k
theorem own_aload (X : Stand p l e R s m args below meth c T locs cells slots) (hx : p.tables.exec = Jvm.exec) (hby : c.code = bs) {n : Nat} (v : Value) (hd : decode bs pc = .ok (.aload n, 2)) (hl : Ls[n]? = some (.val v)) (hv : v.isRef = true) (pc' : Nat) (hp : pc + 2 = pc') (k : Go p e below G T (mkF m pc' Ls (v :: st))) : Go p e below G T (mkF m pc Ls st) := by
  subst hp
  exact Go.by (fun t q => XS.aload X.here hx rfl (hb hby hd) hl hv q) k
theorem own_aloadN (X : Stand p l e R s m args below meth c T locs cells slots) (hx : p.tables.exec = Jvm.exec) (hby : c.code = bs) {n : Fin 4} (v : Value) (hd : decode bs pc = .ok (.aload_n n, 1)) (hl : Ls[n.val]? = some (.val v)) (hv : v.isRef = true) (pc' : Nat) (hp : pc + 1 = pc') (k : Go p e below G T (mkF m pc' Ls (v :: st))) : Go p e below G T (mkF m pc Ls st) := by
  subst hp
  exact Go.by (fun t q => XS.aloadN X.here hx rfl (hb hby hd) hl hv q) k
theorem own_astore (X : Stand p l e R s m args below meth c T locs cells slots) (hx : p.tables.exec = Jvm.exec) (hby : c.code = bs) {n : Nat} {x : Value} (hd : decode bs pc = .ok (.astore n, 2)) (hv : x.isRef = true) {l' : Array Slot} (hl : storeLocals Ls n x = some l') (pc' : Nat) (hp : pc + 2 = pc') (k : Go p e below G T (mkF m pc' l' st)) : Go p e below G T (mkF m pc Ls (x :: st)) := by
  subst hp
  exact Go.by (fun t q => XS.astore X.here hx rfl (hb hby hd) rfl hv hl q) k
theorem own_astoreN (X : Stand p l e R s m args below meth c T locs cells slots) (hx : p.tables.exec = Jvm.exec) (hby : c.code = bs) {n : Fin 4} {x : Value} (hd : decode bs pc = .ok (.astore_n n, 1)) (hv : x.isRef = true) {l' : Array Slot} (hl : storeLocals Ls n.val x = some l') (pc' : Nat) (hp : pc + 1 = pc') (k : Go p e below G T (mkF m pc' l' st)) : Go p e below G T (mkF m pc Ls (x :: st)) := by
  subst hp
  exact Go.by (fun t q => XS.astoreN X.here hx rfl (hb hby hd) rfl hv hl q) k
theorem own_iconst (X : Stand p l e R s m args below meth c T locs cells slots) (hx : p.tables.exec = Jvm.exec) (hby : c.code = bs) {i : Int} (v : Int32) (hd : decode bs pc = .ok (.iconst i, 1)) (hv : Int32.ofInt i = v) (pc' : Nat) (hp : pc + 1 = pc') (k : Go p e below G T (mkF m pc' Ls (.int v :: st))) : Go p e below G T (mkF m pc Ls st) := by
  subst hp
  subst hv
  exact Go.by (fun t q => XS.iconst X.here hx rfl (hb hby hd) q) k
theorem own_bipush (X : Stand p l e R s m args below meth c T locs cells slots) (hx : p.tables.exec = Jvm.exec) (hby : c.code = bs) {i : Int} (v : Int32) (hd : decode bs pc = .ok (.bipush i, 2)) (hv : (Int8.ofInt i).toInt32 = v) (pc' : Nat) (hp : pc + 2 = pc') (k : Go p e below G T (mkF m pc' Ls (.int v :: st))) : Go p e below G T (mkF m pc Ls st) := by
  subst hp
  subst hv
  exact Go.by (fun t q => XS.bipush X.here hx rfl (hb hby hd) q) k
theorem own_sipush (X : Stand p l e R s m args below meth c T locs cells slots) (hx : p.tables.exec = Jvm.exec) (hby : c.code = bs) {i : Int} (v : Int32) (hd : decode bs pc = .ok (.sipush i, 3)) (hv : (Int16.ofInt i).toInt32 = v) (pc' : Nat) (hp : pc + 3 = pc') (k : Go p e below G T (mkF m pc' Ls (.int v :: st))) : Go p e below G T (mkF m pc Ls st) := by
  subst hp
  subst hv
  exact Go.by (fun t q => XS.sipush X.here hx rfl (hb hby hd) q) k
theorem own_lconst (X : Stand p l e R s m args below meth c T locs cells slots) (hx : p.tables.exec = Jvm.exec) (hby : c.code = bs) {i : Fin 2} (v : Int64) (hd : decode bs pc = .ok (.lconst i, 1)) (hv : Int64.ofNat i = v) (pc' : Nat) (hp : pc + 1 = pc') (k : Go p e below G T (mkF m pc' Ls (.long v :: st))) : Go p e below G T (mkF m pc Ls st) := by
  subst hp
  subst hv
  exact Go.by (fun t q => XS.lconst X.here hx rfl (hb hby hd) q) k
theorem own_aconstNull (X : Stand p l e R s m args below meth c T locs cells slots) (hx : p.tables.exec = Jvm.exec) (hby : c.code = bs)  (hd : decode bs pc = .ok (.aconst_null, 1))  (pc' : Nat) (hp : pc + 1 = pc') (k : Go p e below G T (mkF m pc' Ls (.null :: st))) : Go p e below G T (mkF m pc Ls st) := by
  subst hp
  exact Go.by (fun t q => XS.aconstNull X.here hx rfl (hb hby hd) q) k
theorem own_iadd (X : Stand p l e R s m args below meth c T locs cells slots) (hx : p.tables.exec = Jvm.exec) (hby : c.code = bs) {x y : Int32} (hd : decode bs pc = .ok (.iadd, 1))  (pc' : Nat) (hp : pc + 1 = pc') (k : Go p e below G T (mkF m pc' Ls (.int (x + y) :: st))) : Go p e below G T (mkF m pc Ls (.int y :: .int x :: st)) := by
  subst hp
  exact Go.by (fun t q => XS.iadd X.here hx rfl (hb hby hd) rfl q) k
theorem own_isub (X : Stand p l e R s m args below meth c T locs cells slots) (hx : p.tables.exec = Jvm.exec) (hby : c.code = bs) {x y : Int32} (hd : decode bs pc = .ok (.isub, 1))  (pc' : Nat) (hp : pc + 1 = pc') (k : Go p e below G T (mkF m pc' Ls (.int (x - y) :: st))) : Go p e below G T (mkF m pc Ls (.int y :: .int x :: st)) := by
  subst hp
  exact Go.by (fun t q => XS.isub X.here hx rfl (hb hby hd) rfl q) k
theorem own_imul (X : Stand p l e R s m args below meth c T locs cells slots) (hx : p.tables.exec = Jvm.exec) (hby : c.code = bs) {x y : Int32} (hd : decode bs pc = .ok (.imul, 1))  (pc' : Nat) (hp : pc + 1 = pc') (k : Go p e below G T (mkF m pc' Ls (.int (x * y) :: st))) : Go p e below G T (mkF m pc Ls (.int y :: .int x :: st)) := by
  subst hp
  exact Go.by (fun t q => XS.imul X.here hx rfl (hb hby hd) rfl q) k
theorem own_iand (X : Stand p l e R s m args below meth c T locs cells slots) (hx : p.tables.exec = Jvm.exec) (hby : c.code = bs) {x y : Int32} (hd : decode bs pc = .ok (.iand, 1))  (pc' : Nat) (hp : pc + 1 = pc') (k : Go p e below G T (mkF m pc' Ls (.int (x &&& y) :: st))) : Go p e below G T (mkF m pc Ls (.int y :: .int x :: st)) := by
  subst hp
  exact Go.by (fun t q => XS.iand X.here hx rfl (hb hby hd) rfl q) k
theorem own_ior (X : Stand p l e R s m args below meth c T locs cells slots) (hx : p.tables.exec = Jvm.exec) (hby : c.code = bs) {x y : Int32} (hd : decode bs pc = .ok (.ior, 1))  (pc' : Nat) (hp : pc + 1 = pc') (k : Go p e below G T (mkF m pc' Ls (.int (x ||| y) :: st))) : Go p e below G T (mkF m pc Ls (.int y :: .int x :: st)) := by
  subst hp
  exact Go.by (fun t q => XS.ior X.here hx rfl (hb hby hd) rfl q) k
theorem own_ixor (X : Stand p l e R s m args below meth c T locs cells slots) (hx : p.tables.exec = Jvm.exec) (hby : c.code = bs) {x y : Int32} (hd : decode bs pc = .ok (.ixor, 1))  (pc' : Nat) (hp : pc + 1 = pc') (k : Go p e below G T (mkF m pc' Ls (.int (x ^^^ y) :: st))) : Go p e below G T (mkF m pc Ls (.int y :: .int x :: st)) := by
  subst hp
  exact Go.by (fun t q => XS.ixor X.here hx rfl (hb hby hd) rfl q) k
theorem own_ishl (X : Stand p l e R s m args below meth c T locs cells slots) (hx : p.tables.exec = Jvm.exec) (hby : c.code = bs) {x y : Int32} (hd : decode bs pc = .ok (.ishl, 1))  (pc' : Nat) (hp : pc + 1 = pc') (k : Go p e below G T (mkF m pc' Ls (.int (x <<< (y &&& 31)) :: st))) : Go p e below G T (mkF m pc Ls (.int y :: .int x :: st)) := by
  subst hp
  exact Go.by (fun t q => XS.ishl X.here hx rfl (hb hby hd) rfl q) k
theorem own_ishr (X : Stand p l e R s m args below meth c T locs cells slots) (hx : p.tables.exec = Jvm.exec) (hby : c.code = bs) {x y : Int32} (hd : decode bs pc = .ok (.ishr, 1))  (pc' : Nat) (hp : pc + 1 = pc') (k : Go p e below G T (mkF m pc' Ls (.int (x >>> (y &&& 31)) :: st))) : Go p e below G T (mkF m pc Ls (.int y :: .int x :: st)) := by
  subst hp
  exact Go.by (fun t q => XS.ishr X.here hx rfl (hb hby hd) rfl q) k
theorem own_iushr (X : Stand p l e R s m args below meth c T locs cells slots) (hx : p.tables.exec = Jvm.exec) (hby : c.code = bs) {x y : Int32} (hd : decode bs pc = .ok (.iushr, 1))  (pc' : Nat) (hp : pc + 1 = pc') (k : Go p e below G T (mkF m pc' Ls (.int ((x.toUInt32 >>> (y &&& 31).toUInt32).toInt32) :: st))) : Go p e below G T (mkF m pc Ls (.int y :: .int x :: st)) := by
  subst hp
  exact Go.by (fun t q => XS.iushr X.here hx rfl (hb hby hd) rfl q) k
theorem own_ladd (X : Stand p l e R s m args below meth c T locs cells slots) (hx : p.tables.exec = Jvm.exec) (hby : c.code = bs) {x y : Int64} (hd : decode bs pc = .ok (.ladd, 1))  (pc' : Nat) (hp : pc + 1 = pc') (k : Go p e below G T (mkF m pc' Ls (.long (x + y) :: st))) : Go p e below G T (mkF m pc Ls (.long y :: .long x :: st)) := by
  subst hp
  exact Go.by (fun t q => XS.ladd X.here hx rfl (hb hby hd) rfl q) k
theorem own_lsub (X : Stand p l e R s m args below meth c T locs cells slots) (hx : p.tables.exec = Jvm.exec) (hby : c.code = bs) {x y : Int64} (hd : decode bs pc = .ok (.lsub, 1))  (pc' : Nat) (hp : pc + 1 = pc') (k : Go p e below G T (mkF m pc' Ls (.long (x - y) :: st))) : Go p e below G T (mkF m pc Ls (.long y :: .long x :: st)) := by
  subst hp
  exact Go.by (fun t q => XS.lsub X.here hx rfl (hb hby hd) rfl q) k
theorem own_lmul (X : Stand p l e R s m args below meth c T locs cells slots) (hx : p.tables.exec = Jvm.exec) (hby : c.code = bs) {x y : Int64} (hd : decode bs pc = .ok (.lmul, 1))  (pc' : Nat) (hp : pc + 1 = pc') (k : Go p e below G T (mkF m pc' Ls (.long (x * y) :: st))) : Go p e below G T (mkF m pc Ls (.long y :: .long x :: st)) := by
  subst hp
  exact Go.by (fun t q => XS.lmul X.here hx rfl (hb hby hd) rfl q) k
theorem own_land (X : Stand p l e R s m args below meth c T locs cells slots) (hx : p.tables.exec = Jvm.exec) (hby : c.code = bs) {x y : Int64} (hd : decode bs pc = .ok (.land, 1))  (pc' : Nat) (hp : pc + 1 = pc') (k : Go p e below G T (mkF m pc' Ls (.long (x &&& y) :: st))) : Go p e below G T (mkF m pc Ls (.long y :: .long x :: st)) := by
  subst hp
  exact Go.by (fun t q => XS.land X.here hx rfl (hb hby hd) rfl q) k
theorem own_lor (X : Stand p l e R s m args below meth c T locs cells slots) (hx : p.tables.exec = Jvm.exec) (hby : c.code = bs) {x y : Int64} (hd : decode bs pc = .ok (.lor, 1))  (pc' : Nat) (hp : pc + 1 = pc') (k : Go p e below G T (mkF m pc' Ls (.long (x ||| y) :: st))) : Go p e below G T (mkF m pc Ls (.long y :: .long x :: st)) := by
  subst hp
  exact Go.by (fun t q => XS.lor X.here hx rfl (hb hby hd) rfl q) k
theorem own_lxor (X : Stand p l e R s m args below meth c T locs cells slots) (hx : p.tables.exec = Jvm.exec) (hby : c.code = bs) {x y : Int64} (hd : decode bs pc = .ok (.lxor, 1))  (pc' : Nat) (hp : pc + 1 = pc') (k : Go p e below G T (mkF m pc' Ls (.long (x ^^^ y) :: st))) : Go p e below G T (mkF m pc Ls (.long y :: .long x :: st)) := by
  subst hp
  exact Go.by (fun t q => XS.lxor X.here hx rfl (hb hby hd) rfl q) k
theorem own_lshl (X : Stand p l e R s m args below meth c T locs cells slots) (hx : p.tables.exec = Jvm.exec) (hby : c.code = bs) {x : Int64} {y : Int32} (hd : decode bs pc = .ok (.lshl, 1))  (pc' : Nat) (hp : pc + 1 = pc') (k : Go p e below G T (mkF m pc' Ls (.long (x <<< (y &&& 0x3f).toInt64) :: st))) : Go p e below G T (mkF m pc Ls (.int y :: .long x :: st)) := by
  subst hp
  exact Go.by (fun t q => XS.lshl X.here hx rfl (hb hby hd) rfl q) k
theorem own_lshr (X : Stand p l e R s m args below meth c T locs cells slots) (hx : p.tables.exec = Jvm.exec) (hby : c.code = bs) {x : Int64} {y : Int32} (hd : decode bs pc = .ok (.lshr, 1))  (pc' : Nat) (hp : pc + 1 = pc') (k : Go p e below G T (mkF m pc' Ls (.long (x >>> (y &&& 0x3f).toInt64) :: st))) : Go p e below G T (mkF m pc Ls (.int y :: .long x :: st)) := by
  subst hp
  exact Go.by (fun t q => XS.lshr X.here hx rfl (hb hby hd) rfl q) k
theorem own_lushr (X : Stand p l e R s m args below meth c T locs cells slots) (hx : p.tables.exec = Jvm.exec) (hby : c.code = bs) {x : Int64} {y : Int32} (hd : decode bs pc = .ok (.lushr, 1))  (pc' : Nat) (hp : pc + 1 = pc') (k : Go p e below G T (mkF m pc' Ls (.long ((x.toUInt64 >>> (y &&& 0x3f).toInt64.toUInt64).toInt64) :: st))) : Go p e below G T (mkF m pc Ls (.int y :: .long x :: st)) := by
  subst hp
  exact Go.by (fun t q => XS.lushr X.here hx rfl (hb hby hd) rfl q) k
theorem own_ineg (X : Stand p l e R s m args below meth c T locs cells slots) (hx : p.tables.exec = Jvm.exec) (hby : c.code = bs) {x : Int32} (hd : decode bs pc = .ok (.ineg, 1))  (pc' : Nat) (hp : pc + 1 = pc') (k : Go p e below G T (mkF m pc' Ls (.int (-x) :: st))) : Go p e below G T (mkF m pc Ls (.int x :: st)) := by
  subst hp
  exact Go.by (fun t q => XS.ineg X.here hx rfl (hb hby hd) rfl q) k
theorem own_lneg (X : Stand p l e R s m args below meth c T locs cells slots) (hx : p.tables.exec = Jvm.exec) (hby : c.code = bs) {x : Int64} (hd : decode bs pc = .ok (.lneg, 1))  (pc' : Nat) (hp : pc + 1 = pc') (k : Go p e below G T (mkF m pc' Ls (.long (-x) :: st))) : Go p e below G T (mkF m pc Ls (.long x :: st)) := by
  subst hp
  exact Go.by (fun t q => XS.lneg X.here hx rfl (hb hby hd) rfl q) k
theorem own_i2l (X : Stand p l e R s m args below meth c T locs cells slots) (hx : p.tables.exec = Jvm.exec) (hby : c.code = bs) {x : Int32} (hd : decode bs pc = .ok (.i2l, 1))  (pc' : Nat) (hp : pc + 1 = pc') (k : Go p e below G T (mkF m pc' Ls (.long (x.toInt64) :: st))) : Go p e below G T (mkF m pc Ls (.int x :: st)) := by
  subst hp
  exact Go.by (fun t q => XS.i2l X.here hx rfl (hb hby hd) rfl q) k
theorem own_l2i (X : Stand p l e R s m args below meth c T locs cells slots) (hx : p.tables.exec = Jvm.exec) (hby : c.code = bs) {x : Int64} (hd : decode bs pc = .ok (.l2i, 1))  (pc' : Nat) (hp : pc + 1 = pc') (k : Go p e below G T (mkF m pc' Ls (.int (x.toInt32) :: st))) : Go p e below G T (mkF m pc Ls (.long x :: st)) := by
  subst hp
  exact Go.by (fun t q => XS.l2i X.here hx rfl (hb hby hd) rfl q) k
theorem own_i2b (X : Stand p l e R s m args below meth c T locs cells slots) (hx : p.tables.exec = Jvm.exec) (hby : c.code = bs) {x : Int32} (hd : decode bs pc = .ok (.i2b, 1))  (pc' : Nat) (hp : pc + 1 = pc') (k : Go p e below G T (mkF m pc' Ls (.int (x.toInt8.toInt32) :: st))) : Go p e below G T (mkF m pc Ls (.int x :: st)) := by
  subst hp
  exact Go.by (fun t q => XS.i2b X.here hx rfl (hb hby hd) rfl q) k
theorem own_i2s (X : Stand p l e R s m args below meth c T locs cells slots) (hx : p.tables.exec = Jvm.exec) (hby : c.code = bs) {x : Int32} (hd : decode bs pc = .ok (.i2s, 1))  (pc' : Nat) (hp : pc + 1 = pc') (k : Go p e below G T (mkF m pc' Ls (.int (x.toInt16.toInt32) :: st))) : Go p e below G T (mkF m pc Ls (.int x :: st)) := by
  subst hp
  exact Go.by (fun t q => XS.i2s X.here hx rfl (hb hby hd) rfl q) k
theorem own_i2c (X : Stand p l e R s m args below meth c T locs cells slots) (hx : p.tables.exec = Jvm.exec) (hby : c.code = bs) {x : Int32} (hd : decode bs pc = .ok (.i2c, 1))  (pc' : Nat) (hp : pc + 1 = pc') (k : Go p e below G T (mkF m pc' Ls (.int (x.toUInt32.toUInt16.toUInt32.toInt32) :: st))) : Go p e below G T (mkF m pc Ls (.int x :: st)) := by
  subst hp
  exact Go.by (fun t q => XS.i2c X.here hx rfl (hb hby hd) rfl q) k
theorem own_idiv (X : Stand p l e R s m args below meth c T locs cells slots) (hx : p.tables.exec = Jvm.exec) (hby : c.code = bs) {x y : Int32} (hd : decode bs pc = .ok (.idiv, 1)) (hy : y ≠ 0) (pc' : Nat) (hp : pc + 1 = pc') (k : Go p e below G T (mkF m pc' Ls (.int (x / y) :: st))) : Go p e below G T (mkF m pc Ls (.int y :: .int x :: st)) := by
  subst hp
  exact Go.by (fun t q => XS.idiv X.here hx rfl (hb hby hd) rfl hy q) k
theorem own_ldiv (X : Stand p l e R s m args below meth c T locs cells slots) (hx : p.tables.exec = Jvm.exec) (hby : c.code = bs) {x y : Int64} (hd : decode bs pc = .ok (.ldiv, 1)) (hy : y ≠ 0) (pc' : Nat) (hp : pc + 1 = pc') (k : Go p e below G T (mkF m pc' Ls (.long (x / y) :: st))) : Go p e below G T (mkF m pc Ls (.long y :: .long x :: st)) := by
  subst hp
  exact Go.by (fun t q => XS.ldiv X.here hx rfl (hb hby hd) rfl hy q) k
theorem own_irem (X : Stand p l e R s m args below meth c T locs cells slots) (hx : p.tables.exec = Jvm.exec) (hby : c.code = bs) {x y : Int32} (hd : decode bs pc = .ok (.irem, 1)) (hy : y ≠ 0) (pc' : Nat) (hp : pc + 1 = pc') (k : Go p e below G T (mkF m pc' Ls (.int (x % y) :: st))) : Go p e below G T (mkF m pc Ls (.int y :: .int x :: st)) := by
  subst hp
  exact Go.by (fun t q => iremM X hx rfl (hb hby hd) rfl hy q) k
theorem own_lrem (X : Stand p l e R s m args below meth c T locs cells slots) (hx : p.tables.exec = Jvm.exec) (hby : c.code = bs) {x y : Int64} (hd : decode bs pc = .ok (.lrem, 1)) (hy : y ≠ 0) (pc' : Nat) (hp : pc + 1 = pc') (k : Go p e below G T (mkF m pc' Ls (.long (x % y) :: st))) : Go p e below G T (mkF m pc Ls (.long y :: .long x :: st)) := by
  subst hp
  rw [← lrem_mod] at k
  exact Go.by (fun t q => XS.lrem X.here hx rfl (hb hby hd) rfl hy q) k
theorem own_iinc (X : Stand p l e R s m args below meth c T locs cells slots) (hx : p.tables.exec = Jvm.exec) (hby : c.code = bs) {n : Nat} {cst : Int} {x x' : Int32} (hd : decode bs pc = .ok (.iinc n cst, 3)) (hl : Ls[n]? = some (.val (.int x))) (ex : x + Int32.ofInt cst = x') {l' : Array Slot} (hl' : storeLocals Ls n (.int x') = some l') (pc' : Nat) (hp : pc + 3 = pc') (k : Go p e below G T (mkF m pc' l' st)) : Go p e below G T (mkF m pc Ls st) := by
  subst hp
  subst ex
  exact Go.by (fun t q => XS.iinc X.here hx rfl (hb hby hd) hl hl' q) k
theorem own_dup (X : Stand p l e R s m args below meth c T locs cells slots) (hx : p.tables.exec = Jvm.exec) (hby : c.code = bs) {x : Value} (hd : decode bs pc = .ok (.dup, 1)) (hc : x.category = 1) (pc' : Nat) (hp : pc + 1 = pc') (k : Go p e below G T (mkF m pc' Ls (x :: x :: st))) : Go p e below G T (mkF m pc Ls (x :: st)) := by
  subst hp
  exact Go.by (fun t q => XS.dup X.here hx rfl (hb hby hd) rfl hc q) k
theorem own_pop (X : Stand p l e R s m args below meth c T locs cells slots) (hx : p.tables.exec = Jvm.exec) (hby : c.code = bs) {x : Value} (hd : decode bs pc = .ok (.pop, 1)) (hc : x.category = 1) (pc' : Nat) (hp : pc + 1 = pc') (k : Go p e below G T (mkF m pc' Ls st)) : Go p e below G T (mkF m pc Ls (x :: st)) := by
  subst hp
  exact Go.by (fun t q => XS.pop X.here hx rfl (hb hby hd) rfl hc q) k
theorem own_dupX1 (X : Stand p l e R s m args below meth c T locs cells slots) (hx : p.tables.exec = Jvm.exec) (hby : c.code = bs) {x y : Value} (hd : decode bs pc = .ok (.dup_x1, 1)) (hc : x.category = 1) (hc2 : y.category = 1) (pc' : Nat) (hp : pc + 1 = pc') (k : Go p e below G T (mkF m pc' Ls (x :: y :: x :: st))) : Go p e below G T (mkF m pc Ls (x :: y :: st)) := by
  subst hp
  exact Go.by (fun t q => XS.dupX1 X.here hx rfl (hb hby hd) rfl hc hc2 q) k
theorem own_dup2 (X : Stand p l e R s m args below meth c T locs cells slots) (hx : p.tables.exec = Jvm.exec) (hby : c.code = bs) {x y : Value} (hd : decode bs pc = .ok (.dup2, 1)) (hc : x.category = 1) (hc2 : y.category = 1) (pc' : Nat) (hp : pc + 1 = pc') (k : Go p e below G T (mkF m pc' Ls (x :: y :: x :: y :: st))) : Go p e below G T (mkF m pc Ls (x :: y :: st)) := by
  subst hp
  exact Go.by (fun t q => XT.dup2 X.here hx rfl (hb hby hd) rfl hc hc2 q) k
theorem own_dup2L (X : Stand p l e R s m args below meth c T locs cells slots) (hx : p.tables.exec = Jvm.exec) (hby : c.code = bs) {x : Int64} (hd : decode bs pc = .ok (.dup2, 1))  (pc' : Nat) (hp : pc + 1 = pc') (k : Go p e below G T (mkF m pc' Ls (.long x :: .long x :: st))) : Go p e below G T (mkF m pc Ls (.long x :: st)) := by
  subst hp
  exact Go.by (fun t q => XT.dup2L X.here hx rfl (hb hby hd) rfl q) k
theorem own_goto (X : Stand p l e R s m args below meth c T locs cells slots) (hx : p.tables.exec = Jvm.exec) (hby : c.code = bs) {o : Int} (hd : decode bs pc = .ok (.goto o, 3)) (pc' : Nat) (hp : 0 ≤ (pc : Int) + o ∧ ((pc : Int) + o).toNat = pc') (k : Go p e below G T (mkF m pc' Ls st)) : Go p e below G T (mkF m pc Ls st) :=
  Go.by (fun t q => XS.goto X.here hx rfl rfl (hb hby hd) hp.1 hp.2 q) k
theorem own_top {v v' : Value} (q : v = v') (k : Go p e below G T (mkF m pc Ls (v' :: st))) : Go p e below G T (mkF m pc Ls (v :: st)) := q ▸ k
theorem own_icmp_eq (X : Stand p l e R s m args below meth c T locs cells slots) (hx : p.tables.exec = Jvm.exec) (hby : c.code = bs) {o : Int} {x y : Int32} (hd : decode bs pc = .ok (.if_icmp .eq o, 3)) (pT pF : Nat) (hp : 0 ≤ (pc : Int) + o ∧ ((pc : Int) + o).toNat = pT) (hpF : pc + 3 = pF) (kT : x = y → Go p e below G T (mkF m pT Ls st)) (kF : ¬ x = y → Go p e below G T (mkF m pF Ls st)) : Go p e below G T (mkF m pc Ls (.int y :: .int x :: st)) := by
  subst hpF
  by_cases q0 : x = y
  · have q := q0
    exact Go.by (fun t r => XS.icmpYes X.here hx rfl rfl (hb hby hd) rfl (teq q).1 hp.1 hp.2 r) (kT q0)
  · have q : ¬ x = y := by first | exact q0 | exact Classical.not_not.mp q0
    exact Go.by (fun t r => XS.icmpNo X.here hx rfl (hb hby hd) rfl (feq q).1 r) (kF q)
theorem own_if_eq (X : Stand p l e R s m args below meth c T locs cells slots) (hx : p.tables.exec = Jvm.exec) (hby : c.code = bs) {o : Int} {x : Int32} (hd : decode bs pc = .ok (.ifCond .eq o, 3)) (pT pF : Nat) (hp : 0 ≤ (pc : Int) + o ∧ ((pc : Int) + o).toNat = pT) (hpF : pc + 3 = pF) (kT : x = (0 : Int32) → Go p e below G T (mkF m pT Ls st)) (kF : ¬ x = (0 : Int32) → Go p e below G T (mkF m pF Ls st)) : Go p e below G T (mkF m pc Ls (.int x :: st)) := by
  subst hpF
  by_cases q0 : x = (0 : Int32)
  · have q := q0
    exact Go.by (fun t r => XS.ifYes X.here hx rfl rfl (hb hby hd) rfl ((if0 _ _).trans (teq q).1) hp.1 hp.2 r) (kT q0)
  · have q : ¬ x = (0 : Int32) := by first | exact q0 | exact Classical.not_not.mp q0
    exact Go.by (fun t r => XS.ifNo X.here hx rfl (hb hby hd) rfl ((if0 _ _).trans (feq q).1) r) (kF q)
theorem own_lcmp_eq (X : Stand p l e R s m args below meth c T locs cells slots) (hx : p.tables.exec = Jvm.exec) (hby : c.code = bs) {o : Int} {x y : Int64} (hd : decode bs pc = .ok (.lcmp, 1)) (hd2 : decode bs (pc + 1) = .ok (.ifCond .eq o, 3)) (pT pF : Nat) (hp : 0 ≤ ((pc + 1 : Nat) : Int) + o ∧ (((pc + 1 : Nat) : Int) + o).toNat = pT) (hpF : pc + 4 = pF) (kT : x = y → Go p e below G T (mkF m pT Ls st)) (kF : ¬ x = y → Go p e below G T (mkF m pF Ls st)) : Go p e below G T (mkF m pc Ls (.long y :: .long x :: st)) := by
  refine Go.by (fun t r => XS.lcmp X.here hx rfl (hb hby hd) rfl r) (g' := mkF m (pc + 1) Ls (.int (lcmpW x y) :: st)) ?_
  refine own_if_eq X hx hby hd2 pT pF hp (by omega) (fun q => kT ?_) (fun q => kF ?_)
  · exact (lw_eq x y).mp q
  · exact fun r => q ((lw_eq x y).mpr r)
theorem own_icmp_ne (X : Stand p l e R s m args below meth c T locs cells slots) (hx : p.tables.exec = Jvm.exec) (hby : c.code = bs) {o : Int} {x y : Int32} (hd : decode bs pc = .ok (.if_icmp .ne o, 3)) (pT pF : Nat) (hp : 0 ≤ (pc : Int) + o ∧ ((pc : Int) + o).toNat = pT) (hpF : pc + 3 = pF) (kT : ¬ x = y → Go p e below G T (mkF m pT Ls st)) (kF : x = y → Go p e below G T (mkF m pF Ls st)) : Go p e below G T (mkF m pc Ls (.int y :: .int x :: st)) := by
  subst hpF
  by_cases q0 : ¬ x = y
  · have q := q0
    exact Go.by (fun t r => XS.icmpYes X.here hx rfl rfl (hb hby hd) rfl (feq q).2 hp.1 hp.2 r) (kT q0)
  · have q : x = y := by first | exact q0 | exact Classical.not_not.mp q0
    exact Go.by (fun t r => XS.icmpNo X.here hx rfl (hb hby hd) rfl (teq q).2 r) (kF q)
theorem own_if_ne (X : Stand p l e R s m args below meth c T locs cells slots) (hx : p.tables.exec = Jvm.exec) (hby : c.code = bs) {o : Int} {x : Int32} (hd : decode bs pc = .ok (.ifCond .ne o, 3)) (pT pF : Nat) (hp : 0 ≤ (pc : Int) + o ∧ ((pc : Int) + o).toNat = pT) (hpF : pc + 3 = pF) (kT : ¬ x = (0 : Int32) → Go p e below G T (mkF m pT Ls st)) (kF : x = (0 : Int32) → Go p e below G T (mkF m pF Ls st)) : Go p e below G T (mkF m pc Ls (.int x :: st)) := by
  subst hpF
  by_cases q0 : ¬ x = (0 : Int32)
  · have q := q0
    exact Go.by (fun t r => XS.ifYes X.here hx rfl rfl (hb hby hd) rfl ((if0 _ _).trans (feq q).2) hp.1 hp.2 r) (kT q0)
  · have q : x = (0 : Int32) := by first | exact q0 | exact Classical.not_not.mp q0
    exact Go.by (fun t r => XS.ifNo X.here hx rfl (hb hby hd) rfl ((if0 _ _).trans (teq q).2) r) (kF q)
theorem own_lcmp_ne (X : Stand p l e R s m args below meth c T locs cells slots) (hx : p.tables.exec = Jvm.exec) (hby : c.code = bs) {o : Int} {x y : Int64} (hd : decode bs pc = .ok (.lcmp, 1)) (hd2 : decode bs (pc + 1) = .ok (.ifCond .ne o, 3)) (pT pF : Nat) (hp : 0 ≤ ((pc + 1 : Nat) : Int) + o ∧ (((pc + 1 : Nat) : Int) + o).toNat = pT) (hpF : pc + 4 = pF) (kT : ¬ x = y → Go p e below G T (mkF m pT Ls st)) (kF : x = y → Go p e below G T (mkF m pF Ls st)) : Go p e below G T (mkF m pc Ls (.long y :: .long x :: st)) := by
  refine Go.by (fun t r => XS.lcmp X.here hx rfl (hb hby hd) rfl r) (g' := mkF m (pc + 1) Ls (.int (lcmpW x y) :: st)) ?_
  refine own_if_ne X hx hby hd2 pT pF hp (by omega) (fun q => kT ?_) (fun q => kF ?_)
  · exact fun r => q ((lw_eq x y).mpr r)
  · exact (lw_eq x y).mp q
theorem own_icmp_lt (X : Stand p l e R s m args below meth c T locs cells slots) (hx : p.tables.exec = Jvm.exec) (hby : c.code = bs) {o : Int} {x y : Int32} (hd : decode bs pc = .ok (.if_icmp .lt o, 3)) (pT pF : Nat) (hp : 0 ≤ (pc : Int) + o ∧ ((pc : Int) + o).toNat = pT) (hpF : pc + 3 = pF) (kT : x < y → Go p e below G T (mkF m pT Ls st)) (kF : ¬ x < y → Go p e below G T (mkF m pF Ls st)) : Go p e below G T (mkF m pc Ls (.int y :: .int x :: st)) := by
  subst hpF
  by_cases q0 : x < y
  · have q := q0
    exact Go.by (fun t r => XS.icmpYes X.here hx rfl rfl (hb hby hd) rfl (tlt q).1 hp.1 hp.2 r) (kT q0)
  · have q : ¬ x < y := by first | exact q0 | exact Classical.not_not.mp q0
    exact Go.by (fun t r => XS.icmpNo X.here hx rfl (hb hby hd) rfl (flt q).1 r) (kF q)
theorem own_if_lt (X : Stand p l e R s m args below meth c T locs cells slots) (hx : p.tables.exec = Jvm.exec) (hby : c.code = bs) {o : Int} {x : Int32} (hd : decode bs pc = .ok (.ifCond .lt o, 3)) (pT pF : Nat) (hp : 0 ≤ (pc : Int) + o ∧ ((pc : Int) + o).toNat = pT) (hpF : pc + 3 = pF) (kT : x < (0 : Int32) → Go p e below G T (mkF m pT Ls st)) (kF : ¬ x < (0 : Int32) → Go p e below G T (mkF m pF Ls st)) : Go p e below G T (mkF m pc Ls (.int x :: st)) := by
  subst hpF
  by_cases q0 : x < (0 : Int32)
  · have q := q0
    exact Go.by (fun t r => XS.ifYes X.here hx rfl rfl (hb hby hd) rfl ((if0 _ _).trans (tlt q).1) hp.1 hp.2 r) (kT q0)
  · have q : ¬ x < (0 : Int32) := by first | exact q0 | exact Classical.not_not.mp q0
    exact Go.by (fun t r => XS.ifNo X.here hx rfl (hb hby hd) rfl ((if0 _ _).trans (flt q).1) r) (kF q)
theorem own_lcmp_lt (X : Stand p l e R s m args below meth c T locs cells slots) (hx : p.tables.exec = Jvm.exec) (hby : c.code = bs) {o : Int} {x y : Int64} (hd : decode bs pc = .ok (.lcmp, 1)) (hd2 : decode bs (pc + 1) = .ok (.ifCond .lt o, 3)) (pT pF : Nat) (hp : 0 ≤ ((pc + 1 : Nat) : Int) + o ∧ (((pc + 1 : Nat) : Int) + o).toNat = pT) (hpF : pc + 4 = pF) (kT : x < y → Go p e below G T (mkF m pT Ls st)) (kF : ¬ x < y → Go p e below G T (mkF m pF Ls st)) : Go p e below G T (mkF m pc Ls (.long y :: .long x :: st)) := by
  refine Go.by (fun t r => XS.lcmp X.here hx rfl (hb hby hd) rfl r) (g' := mkF m (pc + 1) Ls (.int (lcmpW x y) :: st)) ?_
  refine own_if_lt X hx hby hd2 pT pF hp (by omega) (fun q => kT ?_) (fun q => kF ?_)
  · exact (lw_lt x y).mp q
  · exact fun r => q ((lw_lt x y).mpr r)
theorem own_icmp_ge (X : Stand p l e R s m args below meth c T locs cells slots) (hx : p.tables.exec = Jvm.exec) (hby : c.code = bs) {o : Int} {x y : Int32} (hd : decode bs pc = .ok (.if_icmp .ge o, 3)) (pT pF : Nat) (hp : 0 ≤ (pc : Int) + o ∧ ((pc : Int) + o).toNat = pT) (hpF : pc + 3 = pF) (kT : ¬ x < y → Go p e below G T (mkF m pT Ls st)) (kF : x < y → Go p e below G T (mkF m pF Ls st)) : Go p e below G T (mkF m pc Ls (.int y :: .int x :: st)) := by
  subst hpF
  by_cases q0 : ¬ x < y
  · have q := q0
    exact Go.by (fun t r => XS.icmpYes X.here hx rfl rfl (hb hby hd) rfl (flt q).2.1 hp.1 hp.2 r) (kT q0)
  · have q : x < y := by first | exact q0 | exact Classical.not_not.mp q0
    exact Go.by (fun t r => XS.icmpNo X.here hx rfl (hb hby hd) rfl (tlt q).2.1 r) (kF q)
theorem own_if_ge (X : Stand p l e R s m args below meth c T locs cells slots) (hx : p.tables.exec = Jvm.exec) (hby : c.code = bs) {o : Int} {x : Int32} (hd : decode bs pc = .ok (.ifCond .ge o, 3)) (pT pF : Nat) (hp : 0 ≤ (pc : Int) + o ∧ ((pc : Int) + o).toNat = pT) (hpF : pc + 3 = pF) (kT : ¬ x < (0 : Int32) → Go p e below G T (mkF m pT Ls st)) (kF : x < (0 : Int32) → Go p e below G T (mkF m pF Ls st)) : Go p e below G T (mkF m pc Ls (.int x :: st)) := by
  subst hpF
  by_cases q0 : ¬ x < (0 : Int32)
  · have q := q0
    exact Go.by (fun t r => XS.ifYes X.here hx rfl rfl (hb hby hd) rfl ((if0 _ _).trans (flt q).2.1) hp.1 hp.2 r) (kT q0)
  · have q : x < (0 : Int32) := by first | exact q0 | exact Classical.not_not.mp q0
    exact Go.by (fun t r => XS.ifNo X.here hx rfl (hb hby hd) rfl ((if0 _ _).trans (tlt q).2.1) r) (kF q)
theorem own_lcmp_ge (X : Stand p l e R s m args below meth c T locs cells slots) (hx : p.tables.exec = Jvm.exec) (hby : c.code = bs) {o : Int} {x y : Int64} (hd : decode bs pc = .ok (.lcmp, 1)) (hd2 : decode bs (pc + 1) = .ok (.ifCond .ge o, 3)) (pT pF : Nat) (hp : 0 ≤ ((pc + 1 : Nat) : Int) + o ∧ (((pc + 1 : Nat) : Int) + o).toNat = pT) (hpF : pc + 4 = pF) (kT : ¬ x < y → Go p e below G T (mkF m pT Ls st)) (kF : x < y → Go p e below G T (mkF m pF Ls st)) : Go p e below G T (mkF m pc Ls (.long y :: .long x :: st)) := by
  refine Go.by (fun t r => XS.lcmp X.here hx rfl (hb hby hd) rfl r) (g' := mkF m (pc + 1) Ls (.int (lcmpW x y) :: st)) ?_
  refine own_if_ge X hx hby hd2 pT pF hp (by omega) (fun q => kT ?_) (fun q => kF ?_)
  · exact fun r => q ((lw_lt x y).mpr r)
  · exact (lw_lt x y).mp q
theorem own_icmp_gt (X : Stand p l e R s m args below meth c T locs cells slots) (hx : p.tables.exec = Jvm.exec) (hby : c.code = bs) {o : Int} {x y : Int32} (hd : decode bs pc = .ok (.if_icmp .gt o, 3)) (pT pF : Nat) (hp : 0 ≤ (pc : Int) + o ∧ ((pc : Int) + o).toNat = pT) (hpF : pc + 3 = pF) (kT : y < x → Go p e below G T (mkF m pT Ls st)) (kF : ¬ y < x → Go p e below G T (mkF m pF Ls st)) : Go p e below G T (mkF m pc Ls (.int y :: .int x :: st)) := by
  subst hpF
  by_cases q0 : y < x
  · have q := q0
    exact Go.by (fun t r => XS.icmpYes X.here hx rfl rfl (hb hby hd) rfl (tlt q).2.2.1 hp.1 hp.2 r) (kT q0)
  · have q : ¬ y < x := by first | exact q0 | exact Classical.not_not.mp q0
    exact Go.by (fun t r => XS.icmpNo X.here hx rfl (hb hby hd) rfl (flt q).2.2.1 r) (kF q)
theorem own_if_gt (X : Stand p l e R s m args below meth c T locs cells slots) (hx : p.tables.exec = Jvm.exec) (hby : c.code = bs) {o : Int} {x : Int32} (hd : decode bs pc = .ok (.ifCond .gt o, 3)) (pT pF : Nat) (hp : 0 ≤ (pc : Int) + o ∧ ((pc : Int) + o).toNat = pT) (hpF : pc + 3 = pF) (kT : (0 : Int32) < x → Go p e below G T (mkF m pT Ls st)) (kF : ¬ (0 : Int32) < x → Go p e below G T (mkF m pF Ls st)) : Go p e below G T (mkF m pc Ls (.int x :: st)) := by
  subst hpF
  by_cases q0 : (0 : Int32) < x
  · have q := q0
    exact Go.by (fun t r => XS.ifYes X.here hx rfl rfl (hb hby hd) rfl ((if0 _ _).trans (tlt q).2.2.1) hp.1 hp.2 r) (kT q0)
  · have q : ¬ (0 : Int32) < x := by first | exact q0 | exact Classical.not_not.mp q0
    exact Go.by (fun t r => XS.ifNo X.here hx rfl (hb hby hd) rfl ((if0 _ _).trans (flt q).2.2.1) r) (kF q)
theorem own_lcmp_gt (X : Stand p l e R s m args below meth c T locs cells slots) (hx : p.tables.exec = Jvm.exec) (hby : c.code = bs) {o : Int} {x y : Int64} (hd : decode bs pc = .ok (.lcmp, 1)) (hd2 : decode bs (pc + 1) = .ok (.ifCond .gt o, 3)) (pT pF : Nat) (hp : 0 ≤ ((pc + 1 : Nat) : Int) + o ∧ (((pc + 1 : Nat) : Int) + o).toNat = pT) (hpF : pc + 4 = pF) (kT : y < x → Go p e below G T (mkF m pT Ls st)) (kF : ¬ y < x → Go p e below G T (mkF m pF Ls st)) : Go p e below G T (mkF m pc Ls (.long y :: .long x :: st)) := by
  refine Go.by (fun t r => XS.lcmp X.here hx rfl (hb hby hd) rfl r) (g' := mkF m (pc + 1) Ls (.int (lcmpW x y) :: st)) ?_
  refine own_if_gt X hx hby hd2 pT pF hp (by omega) (fun q => kT ?_) (fun q => kF ?_)
  · exact (lw_gt x y).mp q
  · exact fun r => q ((lw_gt x y).mpr r)
theorem own_icmp_le (X : Stand p l e R s m args below meth c T locs cells slots) (hx : p.tables.exec = Jvm.exec) (hby : c.code = bs) {o : Int} {x y : Int32} (hd : decode bs pc = .ok (.if_icmp .le o, 3)) (pT pF : Nat) (hp : 0 ≤ (pc : Int) + o ∧ ((pc : Int) + o).toNat = pT) (hpF : pc + 3 = pF) (kT : ¬ y < x → Go p e below G T (mkF m pT Ls st)) (kF : y < x → Go p e below G T (mkF m pF Ls st)) : Go p e below G T (mkF m pc Ls (.int y :: .int x :: st)) := by
  subst hpF
  by_cases q0 : ¬ y < x
  · have q := q0
    exact Go.by (fun t r => XS.icmpYes X.here hx rfl rfl (hb hby hd) rfl (flt q).2.2.2 hp.1 hp.2 r) (kT q0)
  · have q : y < x := by first | exact q0 | exact Classical.not_not.mp q0
    exact Go.by (fun t r => XS.icmpNo X.here hx rfl (hb hby hd) rfl (tlt q).2.2.2 r) (kF q)
theorem own_if_le (X : Stand p l e R s m args below meth c T locs cells slots) (hx : p.tables.exec = Jvm.exec) (hby : c.code = bs) {o : Int} {x : Int32} (hd : decode bs pc = .ok (.ifCond .le o, 3)) (pT pF : Nat) (hp : 0 ≤ (pc : Int) + o ∧ ((pc : Int) + o).toNat = pT) (hpF : pc + 3 = pF) (kT : ¬ (0 : Int32) < x → Go p e below G T (mkF m pT Ls st)) (kF : (0 : Int32) < x → Go p e below G T (mkF m pF Ls st)) : Go p e below G T (mkF m pc Ls (.int x :: st)) := by
  subst hpF
  by_cases q0 : ¬ (0 : Int32) < x
  · have q := q0
    exact Go.by (fun t r => XS.ifYes X.here hx rfl rfl (hb hby hd) rfl ((if0 _ _).trans (flt q).2.2.2) hp.1 hp.2 r) (kT q0)
  · have q : (0 : Int32) < x := by first | exact q0 | exact Classical.not_not.mp q0
    exact Go.by (fun t r => XS.ifNo X.here hx rfl (hb hby hd) rfl ((if0 _ _).trans (tlt q).2.2.2) r) (kF q)
theorem own_lcmp_le (X : Stand p l e R s m args below meth c T locs cells slots) (hx : p.tables.exec = Jvm.exec) (hby : c.code = bs) {o : Int} {x y : Int64} (hd : decode bs pc = .ok (.lcmp, 1)) (hd2 : decode bs (pc + 1) = .ok (.ifCond .le o, 3)) (pT pF : Nat) (hp : 0 ≤ ((pc + 1 : Nat) : Int) + o ∧ (((pc + 1 : Nat) : Int) + o).toNat = pT) (hpF : pc + 4 = pF) (kT : ¬ y < x → Go p e below G T (mkF m pT Ls st)) (kF : y < x → Go p e below G T (mkF m pF Ls st)) : Go p e below G T (mkF m pc Ls (.long y :: .long x :: st)) := by
  refine Go.by (fun t r => XS.lcmp X.here hx rfl (hb hby hd) rfl r) (g' := mkF m (pc + 1) Ls (.int (lcmpW x y) :: st)) ?_
  refine own_if_le X hx hby hd2 pT pF hp (by omega) (fun q => kT ?_) (fun q => kF ?_)
  · exact fun r => q ((lw_gt x y).mpr r)
  · exact (lw_gt x y).mp q
theorem own_ifnullY (X : Stand p l e R s m args below meth c T locs cells slots) (hx : p.tables.exec = Jvm.exec) (hby : c.code = bs) {o : Int}  (hd : decode bs pc = .ok (.ifnull o, 3)) (pc' : Nat) (hp : 0 ≤ (pc : Int) + o ∧ ((pc : Int) + o).toNat = pc') (k : Go p e below G T (mkF m pc' Ls st)) : Go p e below G T (mkF m pc Ls (.null :: st)) :=
  Go.by (fun t q => XS.ifnullYes X.here hx rfl rfl (hb hby hd) rfl hp.1 hp.2 q) k
theorem own_ifnullN (X : Stand p l e R s m args below meth c T locs cells slots) (hx : p.tables.exec = Jvm.exec) (hby : c.code = bs) {o : Int} {b : Addr} (hd : decode bs pc = .ok (.ifnull o, 3)) (pc' : Nat) (hp : pc + 3 = pc') (k : Go p e below G T (mkF m pc' Ls st)) : Go p e below G T (mkF m pc Ls (.ref b :: st)) := by
  subst hp
  exact Go.by (fun t q => XS.ifnullNo X.here hx rfl (hb hby hd) rfl q) k
theorem own_ifnonnullY (X : Stand p l e R s m args below meth c T locs cells slots) (hx : p.tables.exec = Jvm.exec) (hby : c.code = bs) {o : Int} {b : Addr} (hd : decode bs pc = .ok (.ifnonnull o, 3)) (pc' : Nat) (hp : 0 ≤ (pc : Int) + o ∧ ((pc : Int) + o).toNat = pc') (k : Go p e below G T (mkF m pc' Ls st)) : Go p e below G T (mkF m pc Ls (.ref b :: st)) :=
  Go.by (fun t q => XS.ifnonnullYes X.here hx rfl rfl (hb hby hd) rfl hp.1 hp.2 q) k
theorem own_ifnonnullN (X : Stand p l e R s m args below meth c T locs cells slots) (hx : p.tables.exec = Jvm.exec) (hby : c.code = bs) {o : Int}  (hd : decode bs pc = .ok (.ifnonnull o, 3)) (pc' : Nat) (hp : pc + 3 = pc') (k : Go p e below G T (mkF m pc' Ls st)) : Go p e below G T (mkF m pc Ls (.null :: st)) := by
  subst hp
  exact Go.by (fun t q => XS.ifnonnullNo X.here hx rfl (hb hby hd) rfl q) k
theorem own_ldc (X : Stand p l e R s m args below meth c T locs cells slots) (hx : p.tables.exec = Jvm.exec) (hby : c.code = bs) (hZ : Z.Warmed39 s.vm) {own : String} {idx : Nat} (v : Int32) (hown : s.vm.findClass own = some m.cls) (w : (Jvm.Cond.constant own idx v).before a0 Z = true) (hd : decode bs pc = .ok (.ldc idx, 2)) (pc' : Nat) (hp : pc + 2 = pc') (k : Go p e below G T (mkF m pc' Ls (.int v :: st))) : Go p e below G T (mkF m pc Ls st) := by
  subst hp
  exact Go.by (fun t q => X.ldcInt hx hown (mvT hZ w) (g := mkF m pc Ls st) rfl (hb hby hd) t q) k
theorem own_ldc2 (X : Stand p l e R s m args below meth c T locs cells slots) (hx : p.tables.exec = Jvm.exec) (hby : c.code = bs) (hZ : Z.Warmed39 s.vm) {own : String} {idx : Nat} (v : Int64) (hown : s.vm.findClass own = some m.cls) (w : (Jvm.Cond.constantLong own idx v).before a0 Z = true) (hd : decode bs pc = .ok (.ldc2_w idx, 3)) (pc' : Nat) (hp : pc + 3 = pc') (k : Go p e below G T (mkF m pc' Ls (.long v :: st))) : Go p e below G T (mkF m pc Ls st) := by
  subst hp
  exact Go.by (fun t q => X.ldc2Long hx hown (mvT hZ w) (g := mkF m pc Ls st) rfl (hb hby hd) t q) k
theorem own_callS (X : Stand p l e R s m args below meth c T locs cells slots) (hx : p.tables.exec = Jvm.exec) (hby : c.code = bs) (hZ : Z.Warmed39 s.vm) {own : String} {idx : Nat} {y : MethodName} {yb : ByteArray} {yml : Nat} {yrt : Option FieldType} {rm : Room} {as : Array Value} {Qc : Option Value → Heap → List Loc → Prop} (argsL : List Value) (has : argsL.toArray = as) (hown : s.vm.findClass own = some m.cls) (w1 : (Jvm.Cond.methodLink own idx y).before a0 Z = true) (w2 : (Jvm.Cond.static y).before a0 Z = true) (w3 : (Jvm.Cond.initialized y.cls).before a0 Z = true) (w4 : (Jvm.Cond.code y yb yml yrt).before a0 Z = true) (hy : y.cls ≠ "java/lang/invoke/MethodHandle" ∧ y.cls ≠ "java/lang/invoke/VarHandle") (hd : decode bs pc = .ok (.invokestatic idx, 3)) (hM : Met1 l Z y yb yml yrt rm as h Qc) (eT : T.heap = h) {ps : List FieldType} {pr : Option FieldType} (hpd : parseMethodDescriptor y.desc = some ⟨ps, pr⟩) (hlen : argsL.length = ps.length) (hml : Ls.size = c.maxLocals) (hf : rm.frames + 1 ≤ R.frames) (W : Nat) (hW : (st.map fun v => v.category).sum = W) (hl : W + (yml + 11) + rm.locals ≤ R.locals) (hcl : cells + rm.cells ≤ R.cells) (hsl : slots + rm.slots ≤ R.slots) (pc' : Nat) (hp : pc + 3 = pc') (k : ∀ (T' : State) (L : List Loc) (v : Option Value), Stand p l e R s m args below meth c T' (locs ++ L) (cells + rm.cells) (slots + rm.slots) → Qc v T'.heap L → Go p e below G T' (mkF m pc' Ls (v.toList ++ st))) : Go p e below G T (mkF m pc Ls (argsL.reverse ++ st)) := by
  subst has
  subst hp
  obtain ⟨v, vm₁, ⟨T1, L1, k1, n1⟩, -, X1, ⟨Lc, hQ, l1, y1, z1⟩, st1⟩ := Jvm.LawKit.callS X hx (y := y) hown (mvT hZ w1) (mvT hZ w2) (mvT hZ w3) (mvT hZ w4) hy (backOf (W := W) (hM []) hZ w4 w3 hf hl) (g := mkF m pc Ls (argsL.reverse ++ st)) rfl hml (argsL := argsL) (rest := st) (lenOf hpd hlen) rfl (by show 2 * 0 + _ ≤ _; omega) (hb hby hd) (fun _ _ => ⟨rfl, eT, hcl, hsl⟩)
  dsimp only [Pt.U, Pt.locs, Pt.cells, Pt.slots] at X1 l1 y1 z1 st1 hQ
  subst l1 y1 z1
  exact Go.by (fun t q => st1 t q) (k T1 Lc v X1 hQ)
theorem own_callC (X : Stand p l e R s m args below meth c T locs cells slots) (hx : p.tables.exec = Jvm.exec) (hby : c.code = bs) (hZ : Z.Warmed39 s.vm) {own : String} {idx : Nat} {y : MethodName} {yb : ByteArray} {yml : Nat} {rm : Room} {as : Array Value} {Qc : Option Value → Heap → List Loc → Prop} {a : Addr} (argsL : List Value) (has : (.ref a :: argsL).toArray = as) (hy1 : y.name = "<init>") (hown : s.vm.findClass own = some m.cls) (w1 : (Jvm.Cond.methodLink own idx y).before a0 Z = true) (w2 : (Jvm.Cond.instanceMethod y).before a0 Z = true) (w3 : (Jvm.Cond.initialized y.cls).before a0 Z = true) (w4 : (Jvm.Cond.code y yb yml none).before a0 Z = true) (hy : y.cls ≠ "java/lang/invoke/MethodHandle" ∧ y.cls ≠ "java/lang/invoke/VarHandle") (hd : decode bs pc = .ok (.invokespecial idx, 3)) (hM : Met1 l Z y yb yml none rm as h Qc) (eT : T.heap = h) {ps : List FieldType} {pr : Option FieldType} (hpd : parseMethodDescriptor y.desc = some ⟨ps, pr⟩) (hlen : argsL.length = ps.length) (hml : Ls.size = c.maxLocals) (hf : rm.frames + 1 ≤ R.frames) (W : Nat) (hW : (st.map fun v => v.category).sum = W) (hl : W + (yml + 11) + rm.locals ≤ R.locals) (hcl : cells + rm.cells ≤ R.cells) (hsl : slots + rm.slots ≤ R.slots) (pc' : Nat) (hp : pc + 3 = pc') (k : ∀ (T' : State) (L : List Loc) (v : Option Value), Stand p l e R s m args below meth c T' (locs ++ L) (cells + rm.cells) (slots + rm.slots) → Qc v T'.heap L → Go p e below G T' (mkF m pc' Ls (v.toList ++ st))) : Go p e below G T (mkF m pc Ls (argsL.reverse ++ .ref a :: st)) := by
  subst has
  subst hp
  obtain ⟨v, vm₁, ⟨T1, L1, k1, n1⟩, -, X1, ⟨Lc, hQ, l1, y1, z1⟩, st1⟩ := X.specialBack hx (y := y) hy1 hown (mvT hZ w1) (mvT hZ w2) (mvT hZ w4) hy (backOf (W := W) (hM []) hZ w4 w3 hf hl) (g := mkF m pc Ls (argsL.reverse ++ .ref a :: st)) rfl hml (Steps.refl _) (a := a) (argsL := argsL) (rest := st) (lenOf hpd hlen) rfl (by show 2 * 0 + _ ≤ _; omega) (hb hby hd) (fun _ _ => ⟨rfl, eT, hcl, hsl⟩)
  dsimp only [Pt.U, Pt.locs, Pt.cells, Pt.slots] at X1 l1 y1 z1 st1 hQ
  subst l1 y1 z1
  exact Go.by (fun t q => st1.trans q) (k T1 Lc v X1 hQ)
theorem own_callV (X : Stand p l e R s m args below meth c T locs cells slots) (hx : p.tables.exec = Jvm.exec) (hby : c.code = bs) (hZ : Z.Warmed39 s.vm) {own : String} {idx : Nat} {y : MethodName} {yb : ByteArray} {yml : Nat} {yrt : Option FieldType} {rm : Room} {as : Array Value} {Qc : Option Value → Heap → List Loc → Prop} {a : Addr} {C : String} (argsL : List Value) (has : (.ref a :: argsL).toArray = as) (hown : s.vm.findClass own = some m.cls) (w1 : (Jvm.Cond.methodLink own idx y).before a0 Z = true) (w5 : (Jvm.Cond.declares y).before a0 Z = true) (w6 : (Jvm.Cond.selects C y y).before a0 Z = true) (w2 : (Jvm.Cond.instanceMethod y).before a0 Z = true) (w3 : (Jvm.Cond.initialized y.cls).before a0 Z = true) (w4 : (Jvm.Cond.code y yb yml yrt).before a0 Z = true) (E : Exa Z h a C) (hy : y.cls ≠ "java/lang/invoke/MethodHandle" ∧ y.cls ≠ "java/lang/invoke/VarHandle") (hd : decode bs pc = .ok (.invokevirtual idx, 3)) (hM : Met1 l Z y yb yml yrt rm as h Qc) (eT : T.heap = h) {ps : List FieldType} {pr : Option FieldType} (hpd : parseMethodDescriptor y.desc = some ⟨ps, pr⟩) (hlen : argsL.length = ps.length) (hml : Ls.size = c.maxLocals) (hf : rm.frames + 1 ≤ R.frames) (W : Nat) (hW : (st.map fun v => v.category).sum = W) (hl : W + (yml + 11) + rm.locals ≤ R.locals) (hcl : cells + rm.cells ≤ R.cells) (hsl : slots + rm.slots ≤ R.slots) (pc' : Nat) (hp : pc + 3 = pc') (k : ∀ (T' : State) (L : List Loc) (v : Option Value), Stand p l e R s m args below meth c T' (locs ++ L) (cells + rm.cells) (slots + rm.slots) → Qc v T'.heap L → Go p e below G T' (mkF m pc' Ls (v.toList ++ st))) : Go p e below G T (mkF m pc Ls (argsL.reverse ++ .ref a :: st)) := by
  subst has
  obtain ⟨cq, kq, qa, qb, qc⟩ := isOf hZ eT E
  subst hp
  obtain ⟨v, vm₁, ⟨T1, L1, k1, n1⟩, -, X1, ⟨Lc, hQ, l1, y1, z1⟩, st1⟩ := X.virtualBack hx (y := y) (z := y) hown (mvT hZ w1) (mvT hZ w5) (notFace_of_selects (args := #[]) (mvT hZ w6)) (mvT hZ w6) (mvT hZ w2) hy (backOf (W := W) (hM []) hZ w4 w3 hf hl) qa qc (g := mkF m pc Ls (argsL.reverse ++ .ref a :: st)) rfl hml (Steps.refl _) (argsL := argsL) (rest := st) (lenOf hpd hlen) rfl (by show 2 * 0 + _ ≤ _; omega) (hb hby hd) (fun _ _ => ⟨rfl, eT, hcl, hsl⟩)
  dsimp only [Pt.U, Pt.locs, Pt.cells, Pt.slots] at X1 l1 y1 z1 st1 hQ
  subst l1 y1 z1
  exact Go.by (fun t q => st1.trans q) (k T1 Lc v X1 hQ)
theorem own_getF (X : Stand p l e R s m args below meth c T locs cells slots) (hx : p.tables.exec = Jvm.exec) (hby : c.code = bs) (hZ : Z.Warmed39 s.vm) {own R0 O n d host : String} {idx : Nat} {a : Addr} {v : Value} (hown : s.vm.findClass own = some m.cls) (w : (Jvm.Cond.fieldLink own idx R0 n d).before a0 Z = true ∨ (Jvm.Cond.fieldLinkNest own idx R0 n d host).before a0 Z = true) (via : Via Z R0 O n d) (eT : T.heap = h) (F : Fld Z h a O n d v) (hd : decode bs pc = .ok (.getfield idx, 3)) (pc' : Nat) (hp : pc + 3 = pc') (k : ∀ T', Stand p l e R s m args below meth c T' locs cells slots → T'.heap = h → Go p e below G T' (mkF m pc' Ls (v :: st))) : Go p e below G T (mkF m pc Ls (.ref a :: st)) := by
  subst hp
  obtain ⟨T1, X1, e1, st1⟩ := getF X hx hZ hown w via eT F (g := mkF m pc Ls (.ref a :: st)) rfl rfl (hb hby hd)
  exact Go.by (fun t q => st1 t q) (k T1 X1 e1)
theorem own_putF (X : Stand p l e R s m args below meth c T locs cells slots) (hx : p.tables.exec = Jvm.exec) (hby : c.code = bs) (hZ : Z.Warmed39 s.vm) {own R0 O n d host C : String} {idx kk : Nat} {a : Addr} {v old : Value} {ty : FieldType} (hown : s.vm.findClass own = some m.cls) (w : (Jvm.Cond.fieldLink own idx R0 n d).before a0 Z = true ∨ (Jvm.Cond.fieldLinkNest own idx R0 n d host).before a0 Z = true) (via : Via Z R0 O n d) (eT : T.heap = h) (F : Fld Z h a O n d old) (E : Exa Z h a C) (lw : (Jvm.Cond.lays C O n d).before a0 Z = true ∨ ((Jvm.Cond.laysFinal C O n d).before a0 Z = true ∧ own = O ∧ meth.name = "<init>")) (wi : (Jvm.Cond.instantiable C kk).before a0 Z = true) (hty : parseFieldDescriptor d = some ty) (hn : narrow ty v = v) (hf : fits ty v = true) (hd : decode bs pc = .ok (.putfield idx, 3)) (pc' : Nat) (hp : pc + 3 = pc') (k : ∀ T' h', Stand p l e R s m args below meth c T' (locs ++ [⟨a, Jvm.RoadKit.slotOf Z O n d⟩]) cells slots → T'.heap = h' → Wr h h' a (Jvm.RoadKit.slotOf Z O n d) v → Go p e below G T' (mkF m pc' Ls st)) : Go p e below G T (mkF m pc Ls (v :: .ref a :: st)) := by
  subst hp
  obtain ⟨T1, h1, X1, e1, W1, st1⟩ := putF X hx hZ hown w via eT F E lw wi hty hn hf (g := mkF m pc Ls (v :: .ref a :: st)) rfl rfl (hb hby hd)
  exact Go.by (fun t q => st1 t q) (k T1 h1 X1 e1 W1)
theorem own_new (X : Stand p l e R s m args below meth c T locs cells slots) (hx : p.tables.exec = Jvm.exec) (hby : c.code = bs) (hZ : Z.Warmed39 s.vm) {own C : String} {idx n : Nat} (hown : s.vm.findClass own = some m.cls) (w : (Jvm.Cond.classLink own idx C).before a0 Z = true) (wi : (Jvm.Cond.instantiable C n).before a0 Z = true) (wz : (Jvm.Cond.initialized C).before a0 Z = true) (eT : T.heap = h) (hd : decode bs pc = .ok (.new idx, 3)) (hcl : cells + 1 ≤ R.cells) (hsl : slots + n ≤ R.slots) (pc' : Nat) (hp : pc + 3 = pc') (k : ∀ T' h' (b : Addr), b = h.size → Stand p l e R s m args below meth c T' locs (cells + 1) (slots + n) → T'.heap = h' → Ext h h' → Exa Z h' b C → (∀ {O nm d : String} {ty : FieldType}, Laid Z a0 C O nm d → parseFieldDescriptor d = some ty → Fld Z h' b O nm d (defaultValue ty)) → Go p e below G T' (mkF m pc' Ls (.ref b :: st))) : Go p e below G T (mkF m pc Ls st) := by
  subst hp
  obtain ⟨T1, h1, X1, e1, E1, A1, D1, -, st1⟩ := newO X hx hZ hown w wi wz eT (g := mkF m pc Ls st) rfl (hb hby hd) hcl hsl
  exact Go.by (fun t q => st1 t q) (k T1 h1 _ rfl X1 e1 E1 A1 D1)
theorem own_initO (X : Stand p l e R s m args below meth c T locs cells slots) (hx : p.tables.exec = Jvm.exec) (hby : c.code = bs) (hZ : Z.Warmed39 s.vm) {own : String} {idx : Nat} {a : Addr} (hown : s.vm.findClass own = some m.cls) (w1 : (Jvm.Cond.methodLink own idx Lib.objectInit).before a0 Z = true) (w2 : (Jvm.Cond.instanceMethod Lib.objectInit).before a0 Z = true) (w3 : (Jvm.Cond.code Lib.objectInit ⟨#[0xb1]⟩ 1 none).before a0 Z = true) (eT : T.heap = h) (hml : Ls.size = c.maxLocals) (hd : decode bs pc = .ok (.invokespecial idx, 3)) (hf : 1 ≤ R.frames) (W : Nat) (hW : (st.map fun v => v.category).sum = W) (hl : W + 12 ≤ R.locals) (pc' : Nat) (hp : pc + 3 = pc') (k : ∀ T', Stand p l e R s m args below meth c T' locs cells slots → T'.heap = h → Go p e below G T' (mkF m pc' Ls st)) : Go p e below G T (mkF m pc Ls (.ref a :: st)) := by
  subst hp
  obtain ⟨T1, X1, e1, st1⟩ := initO X hx hZ hown w1 w2 w3 eT (g := mkF m pc Ls (.ref a :: st)) rfl hml rfl (hb hby hd) hf (W := W) (by show 2 * 0 + _ ≤ _; omega) hl
  exact Go.by (fun t q => st1 t q) (k T1 X1 e1)
theorem own_putFN (X : Stand p l e R s m args below meth c T locs cells slots) (hx : p.tables.exec = Jvm.exec) (hby : c.code = bs) (hZ : Z.Warmed39 s.vm) {own R0 O n d C : String} {idx kk : Nat} {a : Addr} {v v' old : Value} {ty : FieldType} (hown : s.vm.findClass own = some m.cls) (w : (Jvm.Cond.fieldLink own idx R0 n d).before a0 Z = true) (via : Via Z R0 O n d) (eT : T.heap = h) (F : Fld Z h a O n d old) (E : Exa Z h a C) (lw : (Jvm.Cond.lays C O n d).before a0 Z = true ∨ ((Jvm.Cond.laysFinal C O n d).before a0 Z = true ∧ own = O ∧ meth.name = "<init>")) (wi : (Jvm.Cond.instantiable C kk).before a0 Z = true) (hty : parseFieldDescriptor d = some ty) (hn : narrow ty v = v') (hf : fits ty v' = true) (hd : decode bs pc = .ok (.putfield idx, 3)) (pc' : Nat) (hp : pc + 3 = pc') (k : ∀ T' h', Stand p l e R s m args below meth c T' (locs ++ [⟨a, Jvm.RoadKit.slotOf Z O n d⟩]) cells slots → T'.heap = h' → Wr h h' a (Jvm.RoadKit.slotOf Z O n d) v' → Go p e below G T' (mkF m pc' Ls st)) : Go p e below G T (mkF m pc Ls (v :: .ref a :: st)) := by
  subst hp
  obtain ⟨T1, h1, X1, e1, W1, st1⟩ := putFN X hx hZ hown w via eT F E lw wi hty hn hf (g := mkF m pc Ls (v :: .ref a :: st)) rfl rfl (hb hby hd)
  exact Go.by (fun t q => st1 t q) (k T1 h1 X1 e1 W1)
theorem own_callP (X : Stand p l e R s m args below meth c T locs cells slots) (hx : p.tables.exec = Jvm.exec) (hby : c.code = bs) (hZ : Z.Warmed39 s.vm) {own : String} {idx : Nat} {y : MethodName} {yb : ByteArray} {yml : Nat} {yrt : Option FieldType} {rm : Room} {as : Array Value} {Qc : Option Value → Heap → List Loc → Prop} {a : Addr} {C : String} (argsL : List Value) (has : (.ref a :: argsL).toArray = as) (hown : s.vm.findClass own = some m.cls) (w1 : (Jvm.Cond.methodLink own idx y).before a0 Z = true) (w2 : (Jvm.Cond.instanceMethod y).before a0 Z = true) {kk : Nat} (w6 : (Jvm.Cond.instantiable y.cls kk).before a0 Z = true) (w7 : (Jvm.Cond.privateMethod y).before a0 Z = true) (w3 : (Jvm.Cond.initialized y.cls).before a0 Z = true) (w4 : (Jvm.Cond.code y yb yml yrt).before a0 Z = true) (E : Exa Z h a C) (hy : y.cls ≠ "java/lang/invoke/MethodHandle" ∧ y.cls ≠ "java/lang/invoke/VarHandle") (hd : decode bs pc = .ok (.invokevirtual idx, 3)) (hM : Met1 l Z y yb yml yrt rm as h Qc) (eT : T.heap = h) {ps : List FieldType} {pr : Option FieldType} (hpd : parseMethodDescriptor y.desc = some ⟨ps, pr⟩) (hlen : argsL.length = ps.length) (hml : Ls.size = c.maxLocals) (hf : rm.frames + 1 ≤ R.frames) (W : Nat) (hW : (st.map fun v => v.category).sum = W) (hl : W + (yml + 11) + rm.locals ≤ R.locals) (hcl : cells + rm.cells ≤ R.cells) (hsl : slots + rm.slots ≤ R.slots) (pc' : Nat) (hp : pc + 3 = pc') (k : ∀ (T' : State) (L : List Loc) (v : Option Value), Stand p l e R s m args below meth c T' (locs ++ L) (cells + rm.cells) (slots + rm.slots) → Qc v T'.heap L → Go p e below G T' (mkF m pc' Ls (v.toList ++ st))) : Go p e below G T (mkF m pc Ls (argsL.reverse ++ .ref a :: st)) := by
  subst has
  obtain ⟨cq, q1, q2⟩ := E.cell
  have pv := Cond.privateMethod_at (mvP hZ w7 (args := #[]))
  have sel : (Jvm.Cond.selects y.cls y y).before args s = true := by
    obtain ⟨c1, k1, r1, r2, -, r3, -, -⟩ := Cond.instantiable_spec (mvT (args := args) hZ w6)
    exact selects_self_of_private r1 r2 (Bool.or_eq_false_iff.mp r3).1 pv (mvT hZ w2) hy
  subst hp
  obtain ⟨v, vm₁, ⟨T1, L1, k1, n1⟩, -, X1, ⟨Lc, hQ, l1, y1, z1⟩, st1⟩ := X.privateBack hx (y := y) hown (mvT hZ w1) (mvT hZ w2) sel pv (mvT hZ w4) hy (backOf (W := W) (hM []) hZ w4 w3 hf hl) (g := mkF m pc Ls (argsL.reverse ++ .ref a :: st)) rfl hml (Steps.refl _) (a := a) (by rw [eT]; exact q1) q2 (argsL := argsL) (rest := st) (lenOf hpd hlen) rfl (by show 2 * 0 + _ ≤ _; omega) (hb hby hd) (fun _ _ => ⟨rfl, eT, hcl, hsl⟩)
  dsimp only [Pt.U, Pt.locs, Pt.cells, Pt.slots] at X1 l1 y1 z1 st1 hQ
  subst l1 y1 z1
  exact Go.by (fun t q => st1.trans q) (k T1 Lc v X1 hQ)
theorem own_instY (X : Stand p l e R s m args below meth c T locs cells slots) (hx : p.tables.exec = Jvm.exec) (hby : c.code = bs) (hZ : Z.Warmed39 s.vm) {own K : String} {idx : Nat} {a : Addr} (hown : s.vm.findClass own = some m.cls) (w : (Jvm.Cond.classLink own idx K).before a0 Z = true) (eT : T.heap = h) (F : Ins Z h a K true) (hd : decode bs pc = .ok (.instanceof idx, 3)) (pc' : Nat) (hp : pc + 3 = pc') (k : ∀ T', Stand p l e R s m args below meth c T' locs cells slots → T'.heap = h → Go p e below G T' (mkF m pc' Ls (.int 1 :: st))) : Go p e below G T (mkF m pc Ls (.ref a :: st)) := by
  subst hp
  obtain ⟨T1, X1, e1, st1⟩ := instY X hx hZ hown w eT F (g := mkF m pc Ls (.ref a :: st)) rfl rfl (hb hby hd)
  exact Go.by (fun t q => st1 t q) (k T1 X1 e1)
theorem own_instNo (X : Stand p l e R s m args below meth c T locs cells slots) (hx : p.tables.exec = Jvm.exec) (hby : c.code = bs) (hZ : Z.Warmed39 s.vm) {own K : String} {idx : Nat} {a : Addr} (hown : s.vm.findClass own = some m.cls) (w : (Jvm.Cond.classLink own idx K).before a0 Z = true) (eT : T.heap = h) {C : String} (E : Exa Z h a C) (F : ∃ c t, Z.vm.findClass C = some c ∧ Z.vm.findClass K = some t ∧ Z.vm.assignable c t = false) (hd : decode bs pc = .ok (.instanceof idx, 3)) (pc' : Nat) (hp : pc + 3 = pc') (k : ∀ T', Stand p l e R s m args below meth c T' locs cells slots → T'.heap = h → Go p e below G T' (mkF m pc' Ls (.int 0 :: st))) : Go p e below G T (mkF m pc Ls (.ref a :: st)) := by
  subst hp
  obtain ⟨T1, X1, e1, st1⟩ := instNo X hx hZ hown w eT E F (g := mkF m pc Ls (.ref a :: st)) rfl rfl (hb hby hd)
  exact Go.by (fun t q => st1 t q) (k T1 X1 e1)
theorem own_castY (X : Stand p l e R s m args below meth c T locs cells slots) (hx : p.tables.exec = Jvm.exec) (hby : c.code = bs) (hZ : Z.Warmed39 s.vm) {own K : String} {idx : Nat} {a : Addr} (hown : s.vm.findClass own = some m.cls) (w : (Jvm.Cond.classLink own idx K).before a0 Z = true) (eT : T.heap = h) (F : Ins Z h a K true) (hd : decode bs pc = .ok (.checkcast idx, 3)) (pc' : Nat) (hp : pc + 3 = pc') (k : ∀ T', Stand p l e R s m args below meth c T' locs cells slots → T'.heap = h → Go p e below G T' (mkF m pc' Ls (.ref a :: st))) : Go p e below G T (mkF m pc Ls (.ref a :: st)) := by
  subst hp
  obtain ⟨T1, X1, e1, st1⟩ := castY X hx hZ hown w eT F (g := mkF m pc Ls (.ref a :: st)) rfl rfl (hb hby hd)
  exact Go.by (fun t q => st1 t q) (k T1 X1 e1)
theorem own_instNull (X : Stand p l e R s m args below meth c T locs cells slots) (hx : p.tables.exec = Jvm.exec) (hby : c.code = bs) {idx : Nat} (hd : decode bs pc = .ok (.instanceof idx, 3)) (pc' : Nat) (hp : pc + 3 = pc') (k : Go p e below G T (mkF m pc' Ls (.int 0 :: st))) : Go p e below G T (mkF m pc Ls (.null :: st)) := by
  subst hp
  exact Go.by (fun t q => X.instanceofNull hx (g := mkF m pc Ls (.null :: st)) rfl rfl (hb hby hd) t q) k
theorem own_castNull (X : Stand p l e R s m args below meth c T locs cells slots) (hx : p.tables.exec = Jvm.exec) (hby : c.code = bs) {idx : Nat} (hd : decode bs pc = .ok (.checkcast idx, 3)) (pc' : Nat) (hp : pc + 3 = pc') (k : Go p e below G T (mkF m pc' Ls (.null :: st))) : Go p e below G T (mkF m pc Ls (.null :: st)) := by
  subst hp
  exact Go.by (fun t q => X.checkcastNull hx (g := mkF m pc Ls (.null :: st)) rfl rfl (hb hby hd) t q) k
theorem own_acmp (X : Stand p l e R s m args below meth c T locs cells slots) (hx : p.tables.exec = Jvm.exec) (hby : c.code = bs) {cd : ACond} {o : Int} {x y : Value} (same : Bool) (hd : decode bs pc = .ok (.if_acmp cd o, 3)) (h1 : x.isRef = true) (h2 : y.isRef = true) (hq : decide (x = y) = same) (ho : 0 ≤ (pc : Int) + o) (pc' : Nat) (hp : pc' = if acV cd same = true then ((pc : Int) + o).toNat else pc + 3) (k : Go p e below G T (mkF m pc' Ls st)) : Go p e below G T (mkF m pc Ls (y :: x :: st)) :=
  Go.by (fun t q => Jvm.RoadKit.acmp (g := mkF m pc Ls (y :: x :: st)) X hx rfl h1 h2 (pc0 := pc) (pc' := pc') (same := same) rfl (hb hby hd) rfl hq ho hp q) k
theorem own_getS (X : Stand p l e R s m args below meth c T locs cells slots) (hx : p.tables.exec = Jvm.exec) (hby : c.code = bs) (hZ : Z.Warmed39 s.vm) {own R0 O n d host : String} {idx : Nat} {v : Value} (hown : s.vm.findClass own = some m.cls) (w : (Jvm.Cond.fieldLink own idx R0 n d).before a0 Z = true ∨ (Jvm.Cond.fieldLinkNest own idx R0 n d host).before a0 Z = true) (via : Via Z R0 O n d) (eT : T.heap = h) (F : Sta Z h O n d v) (hd : decode bs pc = .ok (.getstatic idx, 3)) (pc' : Nat) (hp : pc + 3 = pc') (k : ∀ T', Stand p l e R s m args below meth c T' locs cells slots → T'.heap = h → Go p e below G T' (mkF m pc' Ls (v :: st))) : Go p e below G T (mkF m pc Ls st) := by
  subst hp
  obtain ⟨T1, X1, e1, st1⟩ := getS2 X hx hZ hown w via eT F (g := mkF m pc Ls st) rfl (hb hby hd)
  exact Go.by (fun t q => st1 t q) (k T1 X1 e1)
/-- an array of n places that hold what f says -/
def Afn (Z : State) (h : Heap) (a : Addr) (ty : FieldType) (n : Nat) (f : Nat → Value) : Prop := ∃ cl : Cell, Arr Z h a cl ty ∧ cl.slots.size = n ∧ ∀ i, i < n → cl.slots[i]? = some (f i) ∧ fits ty (f i) = true
def upd (f : Nat → Value) (i : Nat) (v : Value) : Nat → Value := fun j => if j = i then v else f j
theorem Afn.lt {a : Addr} {ty : FieldType} {n : Nat} {f : Nat → Value} (F : Afn Z h a ty n f) : a < h.size := by obtain ⟨cl, A, -⟩ := F; exact A.lt
theorem Afn.ext {h' : Heap} {a : Addr} {ty : FieldType} {n : Nat} {f : Nat → Value} (F : Afn Z h a ty n f) (E : Ext h h') : Afn Z h' a ty n f := by obtain ⟨cl, A, r⟩ := F; exact ⟨cl, A.ext E, r⟩
theorem Afn.other {h' : Heap} {a b : Addr} {sl : Nat} {v : Value} {ty : FieldType} {n : Nat} {f : Nat → Value} (F : Afn Z h b ty n f) (W : Wr h h' a sl v) (q : b ≠ a) : Afn Z h' b ty n f := by obtain ⟨cl, A, r⟩ := F; exact ⟨cl, A.other W q, r⟩
theorem Afn.keep {h' : Heap} {a : Addr} {ws : List Addr} {ty : FieldType} {n : Nat} {f : Nat → Value} (F : Afn Z h a ty n f) (K : Keep h h' ws) (q : a ∉ ws) : Afn Z h' a ty n f := by obtain ⟨cl, A, r⟩ := F; exact ⟨cl, ⟨K.2.1 a cl A.1 q, A.2⟩, r⟩
theorem Afn.to {a : Addr} {ty : FieldType} {n : Nat} {f f' : Nat → Value} (F : Afn Z h a ty n f) (q : ∀ i, i < n → f i = f' i) : Afn Z h a ty n f' := by obtain ⟨cl, A, S, H⟩ := F; exact ⟨cl, A, S, fun i hi => q i hi ▸ H i hi⟩
theorem Afn.new {a : Addr} {k : ClassId} {ty : FieldType} {z : Int32} {n : Nat} (A : Arr Z h a (newA k ty z) ty) (q : z.toNatClampNeg = n) : Afn Z h a ty n (fun _ => defaultValue ty) := by
  refine ⟨_, A, by rw [sz_new]; exact q, fun i hi => ⟨?_, by cases ty <;> rfl⟩⟩
  subst q
  show (Array.replicate z.toNatClampNeg (defaultValue ty))[i]? = _
  rw [Array.getElem?_replicate, if_pos hi]
theorem Afn.set {h' : Heap} {a : Addr} {ty : FieldType} {n i : Nat} {v : Value} {f : Nat → Value} (F : Afn Z h a ty n f) (W : Wr h h' a i v) (hi : i < n) (hv : fits ty v = true) : Afn Z h' a ty n (upd f i v) := by
  obtain ⟨cl, A, S, H⟩ := F
  refine ⟨cl.setSlot i v, A.same W, by rw [sz_set]; exact S, fun j hj => ?_⟩
  unfold upd
  by_cases q : j = i
  · subst q
    rw [if_pos rfl]
    refine ⟨?_, hv⟩
    show (cl.slots.setIfInBounds j v)[j]? = some v
    rw [Array.getElem?_setIfInBounds_self_of_lt (by rw [S]; exact hj)]
  · rw [if_neg q]
    refine ⟨?_, (H j hj).2⟩
    rw [← (H j hj).1]
    exact Array.getElem?_setIfInBounds_ne (Ne.symm q)
theorem own_in {j : Int32} {n : Nat} (h0 : 0 ≤ j.toInt) (h1 : j.toInt < n) : ¬ (j < 0 ∨ n ≤ j.toNatClampNeg) := by
  simp only [Int32.lt_iff_toInt_lt, Int32.toNatClampNeg, Int32.reduceToInt]; omega
/-- an array of ints (bytes, chars, shorts): n places that hold what g says -/
def Afi (Z : State) (h : Heap) (a : Addr) (ty : FieldType) (n : Nat) (g : Nat → Int32) : Prop := Afn Z h a ty n (fun i => .int (g i))
def updI (g : Nat → Int32) (i : Nat) (v : Int32) : Nat → Int32 := fun j => if j = i then v else g j
theorem Afi.lt {a : Addr} {ty : FieldType} {n : Nat} {g : Nat → Int32} (F : Afi Z h a ty n g) : a < h.size := Afn.lt F
theorem Afi.ext {h' : Heap} {a : Addr} {ty : FieldType} {n : Nat} {g : Nat → Int32} (F : Afi Z h a ty n g) (E : Ext h h') : Afi Z h' a ty n g := Afn.ext F E
theorem Afi.other {h' : Heap} {a b : Addr} {sl : Nat} {v : Value} {ty : FieldType} {n : Nat} {g : Nat → Int32} (F : Afi Z h b ty n g) (W : Wr h h' a sl v) (q : b ≠ a) : Afi Z h' b ty n g := Afn.other F W q
theorem Afi.keep {h' : Heap} {a : Addr} {ws : List Addr} {ty : FieldType} {n : Nat} {g : Nat → Int32} (F : Afi Z h a ty n g) (K : Keep h h' ws) (q : a ∉ ws) : Afi Z h' a ty n g := Afn.keep F K q
theorem Afi.to {a : Addr} {ty : FieldType} {n : Nat} {g g' : Nat → Int32} (F : Afi Z h a ty n g) (q : ∀ i, i < n → g i = g' i) : Afi Z h a ty n g' := Afn.to F fun i hi => congrArg Value.int (q i hi)
theorem Afi.set {h' : Heap} {a : Addr} {ty : FieldType} {n i : Nat} {v : Int32} {g : Nat → Int32} (F : Afi Z h a ty n g) (W : Wr h h' a i (.int v)) (hi : i < n) (hv : fits ty (.int v) = true) : Afi Z h' a ty n (updI g i v) :=
  (Afn.set F W hi hv).to fun j _ => by
    unfold upd updI
    by_cases q : j = i
    · rw [if_pos q, if_pos q]
    · rw [if_neg q, if_neg q]
theorem own_iaload (X : Stand p l e R s m args below meth c T locs cells slots) (hx : p.tables.exec = Jvm.exec) (hby : c.code = bs) (hZ : Z.Warmed39 s.vm) {a : Addr} {j : Int32} {n : Nat} {g : Nat → Int32} (v : Int32) (eT : T.heap = h) (F : Afi Z h a .int n g) (hj : ¬ (j < 0 ∨ n ≤ j.toNatClampNeg)) (hv : g j.toNatClampNeg = v) (hd : decode bs pc = .ok (.iaload, 1)) (pc' : Nat) (hp : pc + 1 = pc') (k : Go p e below G T (mkF m pc' Ls (.int v :: st))) : Go p e below G T (mkF m pc Ls (.int j :: .ref a :: st)) := by
  subst hp
  subst hv
  obtain ⟨cl, A, S, H⟩ := F
  subst S
  exact Go.by (fun t q => X.iaload hx (j := j) (v := .int (g j.toNatClampNeg)) (by rw [eT]; exact A.1) (State.isArrayOf_alike hZ.alike A.2.1) A.2.2 hj (H _ (Nat.lt_of_not_le fun q => hj (Or.inr q))).1 (g := mkF m pc Ls (.int j :: .ref a :: st)) rfl rfl (hb hby hd) t q) k
theorem own_baload (X : Stand p l e R s m args below meth c T locs cells slots) (hx : p.tables.exec = Jvm.exec) (hby : c.code = bs) (hZ : Z.Warmed39 s.vm) {a : Addr} {j : Int32} {n : Nat} {g : Nat → Int32} (v : Int32) (eT : T.heap = h) (F : Afi Z h a .byte n g) (hj : ¬ (j < 0 ∨ n ≤ j.toNatClampNeg)) (hv : g j.toNatClampNeg = v) (hd : decode bs pc = .ok (.baload, 1)) (pc' : Nat) (hp : pc + 1 = pc') (k : Go p e below G T (mkF m pc' Ls (.int v :: st))) : Go p e below G T (mkF m pc Ls (.int j :: .ref a :: st)) := by
  subst hp
  subst hv
  obtain ⟨cl, A, S, H⟩ := F
  subst S
  exact Go.by (fun t q => X.baloadBytes hx (j := j) (v := .int (g j.toNatClampNeg)) (by rw [eT]; exact A.1) (State.isArrayOf_alike hZ.alike A.2.1) A.2.2 hj (H _ (Nat.lt_of_not_le fun q => hj (Or.inr q))).1 (g := mkF m pc Ls (.int j :: .ref a :: st)) rfl rfl (hb hby hd) t q) k
theorem own_caload (X : Stand p l e R s m args below meth c T locs cells slots) (hx : p.tables.exec = Jvm.exec) (hby : c.code = bs) (hZ : Z.Warmed39 s.vm) {a : Addr} {j : Int32} {n : Nat} {g : Nat → Int32} (v : Int32) (eT : T.heap = h) (F : Afi Z h a .char n g) (hj : ¬ (j < 0 ∨ n ≤ j.toNatClampNeg)) (hv : g j.toNatClampNeg = v) (hd : decode bs pc = .ok (.caload, 1)) (pc' : Nat) (hp : pc + 1 = pc') (k : Go p e below G T (mkF m pc' Ls (.int v :: st))) : Go p e below G T (mkF m pc Ls (.int j :: .ref a :: st)) := by
  subst hp
  subst hv
  obtain ⟨cl, A, S, H⟩ := F
  subst S
  exact Go.by (fun t q => X.caload hx (j := j) (v := .int (g j.toNatClampNeg)) (by rw [eT]; exact A.1) (State.isArrayOf_alike hZ.alike A.2.1) A.2.2 hj (H _ (Nat.lt_of_not_le fun q => hj (Or.inr q))).1 (g := mkF m pc Ls (.int j :: .ref a :: st)) rfl rfl (hb hby hd) t q) k
theorem own_saload (X : Stand p l e R s m args below meth c T locs cells slots) (hx : p.tables.exec = Jvm.exec) (hby : c.code = bs) (hZ : Z.Warmed39 s.vm) {a : Addr} {j : Int32} {n : Nat} {g : Nat → Int32} (v : Int32) (eT : T.heap = h) (F : Afi Z h a .short n g) (hj : ¬ (j < 0 ∨ n ≤ j.toNatClampNeg)) (hv : g j.toNatClampNeg = v) (hd : decode bs pc = .ok (.saload, 1)) (pc' : Nat) (hp : pc + 1 = pc') (k : Go p e below G T (mkF m pc' Ls (.int v :: st))) : Go p e below G T (mkF m pc Ls (.int j :: .ref a :: st)) := by
  subst hp
  subst hv
  obtain ⟨cl, A, S, H⟩ := F
  subst S
  exact Go.by (fun t q => X.saload hx (j := j) (v := .int (g j.toNatClampNeg)) (by rw [eT]; exact A.1) (State.isArrayOf_alike hZ.alike A.2.1) A.2.2 hj (H _ (Nat.lt_of_not_le fun q => hj (Or.inr q))).1 (g := mkF m pc Ls (.int j :: .ref a :: st)) rfl rfl (hb hby hd) t q) k
theorem own_aaload (X : Stand p l e R s m args below meth c T locs cells slots) (hx : p.tables.exec = Jvm.exec) (hby : c.code = bs) (hZ : Z.Warmed39 s.vm) {a : Addr} {j : Int32} {n : Nat} {ty : FieldType} {f : Nat → Value} (v : Value) (eT : T.heap = h) (F : Afn Z h a ty n f) (hty : ty.isReference = true) (hj : ¬ (j < 0 ∨ n ≤ j.toNatClampNeg)) (hv : f j.toNatClampNeg = v) (hd : decode bs pc = .ok (.aaload, 1)) (pc' : Nat) (hp : pc + 1 = pc') (k : Go p e below G T (mkF m pc' Ls (v :: st))) : Go p e below G T (mkF m pc Ls (.int j :: .ref a :: st)) := by
  subst hp
  subst hv
  obtain ⟨cl, A, S, H⟩ := F
  subst S
  exact Go.by (fun t q => X.aaload hx (j := j) (v := f j.toNatClampNeg) (by rw [eT]; exact A.1) (State.isArrayOf_alike hZ.alike A.2.1) hty A.2.2 hj (H _ (Nat.lt_of_not_le fun q => hj (Or.inr q))).1 (g := mkF m pc Ls (.int j :: .ref a :: st)) rfl rfl (hb hby hd) t q) k
theorem own_arraylength (X : Stand p l e R s m args below meth c T locs cells slots) (hx : p.tables.exec = Jvm.exec) (hby : c.code = bs) (hZ : Z.Warmed39 s.vm) {a : Addr} {ty : FieldType} {n : Nat} {f : Nat → Value} (z : Int32) (eT : T.heap = h) (F : Afn Z h a ty n f) (hz : n.toInt32 = z) (hd : decode bs pc = .ok (.arraylength, 1)) (pc' : Nat) (hp : pc + 1 = pc') (k : Go p e below G T (mkF m pc' Ls (.int z :: st))) : Go p e below G T (mkF m pc Ls (.ref a :: st)) := by
  subst hp
  subst hz
  obtain ⟨cl, A, S, H⟩ := F
  subst S
  exact Go.by (fun t q => X.arraylength hx (by rw [eT]; exact A.1) (State.isArrayOf_alike hZ.alike A.2.1) (g := mkF m pc Ls (.ref a :: st)) rfl rfl (hb hby hd) t q) k
theorem own_iastore (X : Stand p l e R s m args below meth c T locs cells slots) (hx : p.tables.exec = Jvm.exec) (hby : c.code = bs) (hZ : Z.Warmed39 s.vm) {a : Addr} {j x : Int32} {n : Nat} {g : Nat → Int32} (eT : T.heap = h) (F : Afi Z h a .int n g) (hj : ¬ (j < 0 ∨ n ≤ j.toNatClampNeg)) (hd : decode bs pc = .ok (.iastore, 1)) (pc' : Nat) (hp : pc + 1 = pc') (k : ∀ T' h', Stand p l e R s m args below meth c T' (locs ++ [⟨a, j.toNatClampNeg⟩]) cells slots → T'.heap = h' → Wr h h' a j.toNatClampNeg (.int x) → Afi Z h' a .int n (updI g j.toNatClampNeg x) → Go p e below G T' (mkF m pc' Ls st)) : Go p e below G T (mkF m pc Ls (.int x :: .int j :: .ref a :: st)) := by
  subst hp
  have F0 := F
  obtain ⟨cl, A, S, H⟩ := F
  obtain ⟨T1, h1, X1, e1, W1, st1⟩ := stI X hx hZ eT A (j := j) (x := x) (by rw [S]; exact hj) (g := mkF m pc Ls (.int x :: .int j :: .ref a :: st)) rfl rfl (hb hby hd)
  exact Go.by (fun t q => st1 t q) (k T1 h1 X1 e1 W1 (F0.set W1 (Nat.lt_of_not_le fun q => hj (Or.inr q)) rfl))
theorem own_bastore (X : Stand p l e R s m args below meth c T locs cells slots) (hx : p.tables.exec = Jvm.exec) (hby : c.code = bs) (hZ : Z.Warmed39 s.vm) {a : Addr} {j x : Int32} {n : Nat} {g : Nat → Int32} (eT : T.heap = h) (F : Afi Z h a .byte n g) (hj : ¬ (j < 0 ∨ n ≤ j.toNatClampNeg)) (hd : decode bs pc = .ok (.bastore, 1)) (pc' : Nat) (hp : pc + 1 = pc') (k : ∀ T' h', Stand p l e R s m args below meth c T' (locs ++ [⟨a, j.toNatClampNeg⟩]) cells slots → T'.heap = h' → Wr h h' a j.toNatClampNeg (.int (nar .byte x)) → Afi Z h' a .byte n (updI g j.toNatClampNeg (nar .byte x)) → Go p e below G T' (mkF m pc' Ls st)) : Go p e below G T (mkF m pc Ls (.int x :: .int j :: .ref a :: st)) := by
  subst hp
  have F0 := F
  obtain ⟨cl, A, S, H⟩ := F
  obtain ⟨T1, h1, X1, e1, W1, st1⟩ := stB X hx hZ eT A (j := j) (x := x) (by rw [S]; exact hj) (g := mkF m pc Ls (.int x :: .int j :: .ref a :: st)) rfl rfl (hb hby hd)
  exact Go.by (fun t q => st1 t q) (k T1 h1 X1 e1 W1 (F0.set W1 (Nat.lt_of_not_le fun q => hj (Or.inr q)) (fits_nar_byte x)))
theorem own_castore (X : Stand p l e R s m args below meth c T locs cells slots) (hx : p.tables.exec = Jvm.exec) (hby : c.code = bs) (hZ : Z.Warmed39 s.vm) {a : Addr} {j x : Int32} {n : Nat} {g : Nat → Int32} (eT : T.heap = h) (F : Afi Z h a .char n g) (hj : ¬ (j < 0 ∨ n ≤ j.toNatClampNeg)) (hd : decode bs pc = .ok (.castore, 1)) (pc' : Nat) (hp : pc + 1 = pc') (k : ∀ T' h', Stand p l e R s m args below meth c T' (locs ++ [⟨a, j.toNatClampNeg⟩]) cells slots → T'.heap = h' → Wr h h' a j.toNatClampNeg (.int (nar .char x)) → Afi Z h' a .char n (updI g j.toNatClampNeg (nar .char x)) → Go p e below G T' (mkF m pc' Ls st)) : Go p e below G T (mkF m pc Ls (.int x :: .int j :: .ref a :: st)) := by
  subst hp
  have F0 := F
  obtain ⟨cl, A, S, H⟩ := F
  obtain ⟨T1, h1, X1, e1, W1, st1⟩ := stC X hx hZ eT A (j := j) (x := x) (by rw [S]; exact hj) (g := mkF m pc Ls (.int x :: .int j :: .ref a :: st)) rfl rfl (hb hby hd)
  exact Go.by (fun t q => st1 t q) (k T1 h1 X1 e1 W1 (F0.set W1 (Nat.lt_of_not_le fun q => hj (Or.inr q)) (fits_nar_char x)))
theorem own_sastore (X : Stand p l e R s m args below meth c T locs cells slots) (hx : p.tables.exec = Jvm.exec) (hby : c.code = bs) (hZ : Z.Warmed39 s.vm) {a : Addr} {j x : Int32} {n : Nat} {g : Nat → Int32} (eT : T.heap = h) (F : Afi Z h a .short n g) (hj : ¬ (j < 0 ∨ n ≤ j.toNatClampNeg)) (hd : decode bs pc = .ok (.sastore, 1)) (pc' : Nat) (hp : pc + 1 = pc') (k : ∀ T' h', Stand p l e R s m args below meth c T' (locs ++ [⟨a, j.toNatClampNeg⟩]) cells slots → T'.heap = h' → Wr h h' a j.toNatClampNeg (.int (nar .short x)) → Afi Z h' a .short n (updI g j.toNatClampNeg (nar .short x)) → Go p e below G T' (mkF m pc' Ls st)) : Go p e below G T (mkF m pc Ls (.int x :: .int j :: .ref a :: st)) := by
  subst hp
  have F0 := F
  obtain ⟨cl, A, S, H⟩ := F
  obtain ⟨T1, h1, X1, e1, W1, st1⟩ := stS X hx hZ eT A (j := j) (x := x) (by rw [S]; exact hj) (g := mkF m pc Ls (.int x :: .int j :: .ref a :: st)) rfl rfl (hb hby hd)
  exact Go.by (fun t q => st1 t q) (k T1 h1 X1 e1 W1 (F0.set W1 (Nat.lt_of_not_le fun q => hj (Or.inr q)) (fits_nar_short x)))
theorem own_aastore (X : Stand p l e R s m args below meth c T locs cells slots) (hx : p.tables.exec = Jvm.exec) (hby : c.code = bs) (hZ : Z.Warmed39 s.vm) {a : Addr} {j : Int32} {v : Value} {n : Nat} {ty : FieldType} {f : Nat → Value} (eT : T.heap = h) (F : Afn Z h a ty n f) (hj : ¬ (j < 0 ∨ n ≤ j.toNatClampNeg)) (hty : ty.isReference = true) (hfv : fits ty v = true) (So : Sto Z h a v) (hd : decode bs pc = .ok (.aastore, 1)) (pc' : Nat) (hp : pc + 1 = pc') (k : ∀ T' h', Stand p l e R s m args below meth c T' (locs ++ [⟨a, j.toNatClampNeg⟩]) cells slots → T'.heap = h' → Wr h h' a j.toNatClampNeg v → Afn Z h' a ty n (upd f j.toNatClampNeg v) → Go p e below G T' (mkF m pc' Ls st)) : Go p e below G T (mkF m pc Ls (v :: .int j :: .ref a :: st)) := by
  subst hp
  have F0 := F
  obtain ⟨cl, A, S, H⟩ := F
  obtain ⟨T1, h1, X1, e1, W1, st1⟩ := stR X hx hZ eT A (j := j) (by rw [S]; exact hj) hty So (g := mkF m pc Ls (v :: .int j :: .ref a :: st)) rfl rfl (hb hby hd)
  exact Go.by (fun t q => st1 t q) (k T1 h1 X1 e1 W1 (F0.set W1 (Nat.lt_of_not_le fun q => hj (Or.inr q)) hfv))
theorem own_newarray (X : Stand p l e R s m args below meth c T locs cells slots) (hx : p.tables.exec = Jvm.exec) (hby : c.code = bs) (hZ : Z.Warmed39 s.vm) {aty : ArrayType} {z : Int32} {n cap : Nat} {ad : String} (w : (Jvm.Cond.arrayClass (newarray.typeOf aty)).before a0 Z = true) (eT : T.heap = h) (hd : decode bs pc = .ok (.newarray aty, 2)) (hz : ¬ z < 0) (hn : z.toNatClampNeg = n) (hcap : n ≤ cap) (hb8 : cap * 8 ≤ 536870912) (hcl : cells + 1 ≤ R.cells) (hsl : slots + cap ≤ R.slots) (had : "[" ++ (newarray.typeOf aty).toString = ad) (pc' : Nat) (hp : pc + 2 = pc') (k : ∀ T' h' (b : Addr), b = h.size → Stand p l e R s m args below meth c T' locs (cells + 1) (slots + cap) → T'.heap = h' → Ext h h' → Afn Z h' b (newarray.typeOf aty) n (fun _ => defaultValue (newarray.typeOf aty)) → Exa Z h' b ad → Go p e below G T' (mkF m pc' Ls (.ref b :: st))) : Go p e below G T (mkF m pc Ls (.int z :: st)) := by
  subst hp
  obtain ⟨T1, h1, cA, X1, e1, E1, A1, Ex1, st1⟩ := newPE X hx hZ w eT (g := mkF m pc Ls (.int z :: st)) rfl (hb hby hd) rfl hz (cap := cap) (by rw [hn]; exact hcap) hb8 hcl hsl had
  exact Go.by (fun t q => st1 t q) (k T1 h1 _ rfl X1 e1 E1 (Afn.new A1 hn) Ex1)
theorem own_anewarray (X : Stand p l e R s m args below meth c T locs cells slots) (hx : p.tables.exec = Jvm.exec) (hby : c.code = bs) (hZ : Z.Warmed39 s.vm) {own C : String} {idx : Nat} {z : Int32} {n cap : Nat} {ad : String} (hown : s.vm.findClass own = some m.cls) (w1 : (Jvm.Cond.classLink own idx C).before a0 Z = true) (w2 : (Jvm.Cond.arrayOver (.object C)).before a0 Z = true) (eT : T.heap = h) (hd : decode bs pc = .ok (.anewarray idx, 3)) (hz : ¬ z < 0) (hn : z.toNatClampNeg = n) (hcap : n ≤ cap) (hb8 : cap * 8 ≤ 536870912) (hcl : cells + 1 ≤ R.cells) (hsl : slots + cap ≤ R.slots) (had : "[" ++ (FieldType.object C).toString = ad) (pc' : Nat) (hp : pc + 3 = pc') (k : ∀ T' h' (b : Addr) cA, b = h.size → Stand p l e R s m args below meth c T' locs (cells + 1) (slots + cap) → T'.heap = h' → Ext h h' → Afn Z h' b (.object C) n (fun _ => .null) → Exa Z h' b ad → Arr Z h' b (newA cA (.object C) z) (.object C) → Ovr Z cA C → Go p e below G T' (mkF m pc' Ls (.ref b :: st))) : Go p e below G T (mkF m pc Ls (.int z :: st)) := by
  subst hp
  obtain ⟨T1, h1, cA, X1, e1, E1, A1, Ex1, O1, st1⟩ := newRE X hx hZ hown w1 w2 eT (g := mkF m pc Ls (.int z :: st)) rfl (hb hby hd) rfl hz (cap := cap) (by rw [hn]; exact hcap) hb8 hcl hsl had
  exact Go.by (fun t q => st1 t q) (k T1 h1 _ cA rfl X1 e1 E1 (Afn.new A1 hn) Ex1 A1 O1)
theorem own_lremV (x y : Int64) : 0 ≤ x.toInt → 0 < y.toInt → 0 ≤ (x % y).toInt ∧ (x % y).toInt < y.toInt := by
  intro h1 h2
  rw [Int64.toInt_mod, (tr x.toInt y.toInt).1 h1]
  exact ⟨Int.emod_nonneg _ (by omega), Int.emod_lt_of_pos _ h2⟩
theorem own_NSroot {O K : String} {n : Nat} (w : (Jvm.Cond.noSuperclass O).before a0 Z = true) (wk : (Jvm.Cond.instantiable K n).before a0 Z = true) (hn : O ≠ K) : NS Z O K := by
  obtain ⟨c, k, h1, h2, h3, -, -⟩ := Cond.noSuperclass_spec w
  obtain ⟨t, k2, g1, -⟩ := Cond.instantiable_spec wk
  have ne := ids_ne h1 g1 hn
  refine ⟨c, t, h1, g1, fun fuel => ?_⟩
  cases fuel with
  | zero => rfl
  | succ f => simp [Vm.isSubclassAux, ne, h2, h3]
theorem own_NSno {C S K : String} {n : Nat} (w : (Jvm.Cond.superclass C S).before a0 Z = true) (wk : (Jvm.Cond.instantiable K n).before a0 Z = true) (nn : NS Z C K) (hn : C ≠ K) : ∃ c t, Z.vm.findClass C = some c ∧ Z.vm.findClass K = some t ∧ Z.vm.assignable c t = false := by
  obtain ⟨c, t, h0, g0, n3⟩ := nn
  obtain ⟨p, k, kp, h1, h2, h3, h4, h5, -, h7⟩ := Cond.superclass_spec h0 w
  obtain ⟨t', k', g1, g2, g5, g6, -, -⟩ := Cond.instantiable_spec wk
  cases g0.symm.trans g1
  have ne := ids_ne h0 g0 hn
  have g7 : k'.isInterface = false := (Bool.or_eq_false_iff.mp g6).1
  refine ⟨c, t, h0, g0, ?_⟩
  show Z.vm.assignableAux (255 + 1) c t = false
  simp [Vm.assignableAux, ne, h2, g2, h5, g5, g7, Vm.isSubclass, n3]
theorem own_ext0 {h0 : Heap} (K : Keep h0 h []) : Ext h0 h := ⟨K.1, fun a c q => K.2.1 a c q nin0⟩
/-- an array of references over the class C takes objects of C -/
def Orr (Z : State) (h : Heap) (b : Addr) (C : String) : Prop := ∃ (c : Cell) (cA : ClassId), Arr Z h b c (.object C) ∧ c.cls = cA ∧ Ovr Z cA C
theorem Orr.lt {b : Addr} {C : String} (F : Orr Z h b C) : b < h.size := by obtain ⟨c, cA, A, -⟩ := F; exact A.lt
theorem Orr.ext {h' : Heap} {b : Addr} {C : String} (F : Orr Z h b C) (E : Ext h h') : Orr Z h' b C := by obtain ⟨c, cA, A, r⟩ := F; exact ⟨c, cA, A.ext E, r⟩
theorem Orr.wr {h' : Heap} {a b : Addr} {C : String} {sl : Nat} {v : Value} (F : Orr Z h b C) (W : Wr h h' a sl v) : Orr Z h' b C := by
  obtain ⟨c, cA, A, q, O⟩ := F
  by_cases e : b = a
  · subst e; exact ⟨_, cA, A.same W, q, O⟩
  · exact ⟨c, cA, A.other W e, q, O⟩
theorem Orr.sto {b y : Addr} {C : String} (F : Orr Z h b C) (I : Ins Z h y C true) : Sto Z h b (.ref y) := by
  obtain ⟨c, cA, A, q, O⟩ := F
  exact Sto.ofV A q O I
theorem own_clone (X : Stand p l e R s m args below meth c T locs cells slots) (hx : p.tables.exec = Jvm.exec) (hby : c.code = bs) (hZ : Z.Warmed39 s.vm) {own ad : String} {idx : Nat} {a : Addr} {ty : FieldType} {n cap : Nat} {g : Nat → Int32} (hown : s.vm.findClass own = some m.cls) (w1 : (Jvm.Cond.methodLink own idx ⟨ad, "clone", "()Ljava/lang/Object;"⟩).before a0 Z = true) (w2 : (Jvm.Cond.sameMethod ad "java/lang/Object" "clone" "()Ljava/lang/Object;").before a0 Z = true) (w3 : (Jvm.Cond.native ⟨"java/lang/Object", "clone", "()Ljava/lang/Object;"⟩).before a0 Z = true)
    (w4 : (Jvm.Cond.instanceMethod ⟨"java/lang/Object", "clone", "()Ljava/lang/Object;"⟩).before a0 Z = true) (w5 : (Jvm.Cond.selects ad ⟨ad, "clone", "()Ljava/lang/Object;"⟩ ⟨"java/lang/Object", "clone", "()Ljava/lang/Object;"⟩).before a0 Z = true) (w6 : (Jvm.Cond.castable ad "java/lang/Cloneable").before a0 Z = true)
    (eT : T.heap = h) (F : Afi Z h a ty n g) (E : Exa Z h a ad) (hml : Ls.size = c.maxLocals) (hd : decode bs pc = .ok (.invokevirtual idx, 3)) (hf : 1 ≤ R.frames) (W : Nat) (hW : (st.map fun v => v.category).sum = W) (hl : W + 14 ≤ R.locals) (hcap : n ≤ cap) (hcl : cells + 1 ≤ R.cells) (hsl : slots + cap ≤ R.slots) (pc' : Nat) (hp : pc + 3 = pc')
    (k : ∀ T' h' (b : Addr), b = h.size → Stand p l e R s m args below meth c T' locs (cells + 1) (slots + cap) → T'.heap = h' → Ext h h' → Afi Z h' b ty n g → Exa Z h' b ad → Go p e below G T' (mkF m pc' Ls (.ref b :: st))) : Go p e below G T (mkF m pc Ls (.ref a :: st)) := by
  subst hp
  obtain ⟨cl, A, S, H⟩ := F
  have FC : FitC Z cl := fitC_of A fun i hi v hv => by rw [(H i (S ▸ hi)).1] at hv; cases hv; exact (H i (S ▸ hi)).2
  obtain ⟨T1, h1, X1, e1, E1, A1, Ex1, st1⟩ := cloneA X hx hZ hown w1 w2 w3 w4 w5 w6 eT A E FC (g := mkF m pc Ls (.ref a :: st)) rfl hml rfl (hb hby hd) hf (W := W) (by show 2 * 0 + _ ≤ _; omega) hl (cap := cap) (by rw [S]; exact hcap) hcl hsl
  exact Go.by (fun t q => st1 t q) (k T1 h1 _ rfl X1 e1 E1 ⟨_, A1, S, H⟩ Ex1)
theorem own_fld_start {t : Term} {C n d : String} {k : Int32} {a : Addr} (ev : t.eval args Z none [] Z = some (.ref a)) (hh : (Jvm.Cond.eq (.field t C n d) (.int k)).value args Z none Z [] = some true) : Fld Z Z.heap a C n d (.int k) := by
  obtain ⟨x, y, h1, h2, h3, h4⟩ := cmp_v (Or.inl hh)
  have h2' : y = .int k := (Option.some.inj h2).symm
  subst h2'
  obtain ⟨z, rfl⟩ := h4
  have q : z = k := by
    simp only [Cond.value, h1, h2] at hh
    exact of_decide_eq_true (Option.some.inj hh)
  subst q
  rw [fld_at ev] at h1
  exact Fld.start h1
end OwnGo

theorem d1_0 : decode prog_10_method_1_code 0 = .ok (.aload_n 0, 1) := by decide +kernel
theorem d1_1 : decode prog_10_method_1_code 1 = .ok (.invokespecial 1, 3) := by decide +kernel
theorem d1_4 : decode prog_10_method_1_code 4 = .ok (.aload_n 0, 1) := by decide +kernel
theorem d1_5 : decode prog_10_method_1_code 5 = .ok (.iload_n 1, 1) := by decide +kernel
theorem d1_6 : decode prog_10_method_1_code 6 = .ok (.newarray .byte, 2) := by decide +kernel
theorem d1_8 : decode prog_10_method_1_code 8 = .ok (.putfield 7, 3) := by decide +kernel
theorem d1_11 : decode prog_10_method_1_code 11 = .ok (.return_, 1) := by decide +kernel
theorem pn_1 : plainName "com/example/daylily/daylily/engine/ByteWriter" = true := by first | (simp [plainName, overriddenIn]; done) | decide +kernel
theorem d4_0 : decode prog_10_method_15_code 0 = .ok (.aload_n 0, 1) := by decide +kernel
theorem d4_1 : decode prog_10_method_15_code 1 = .ok (.getfield 13, 3) := by decide +kernel
theorem d4_4 : decode prog_10_method_15_code 4 = .ok (.iload_n 1, 1) := by decide +kernel
theorem d4_5 : decode prog_10_method_15_code 5 = .ok (.iadd, 1) := by decide +kernel
theorem d4_6 : decode prog_10_method_15_code 6 = .ok (.aload_n 0, 1) := by decide +kernel
theorem d4_7 : decode prog_10_method_15_code 7 = .ok (.getfield 7, 3) := by decide +kernel
theorem d4_10 : decode prog_10_method_15_code 10 = .ok (.arraylength, 1) := by decide +kernel
theorem d4_11 : decode prog_10_method_15_code 11 = .ok (.if_icmp .le 30, 3) := by decide +kernel
theorem d4_41 : decode prog_10_method_15_code 41 = .ok (.return_, 1) := by decide +kernel
theorem d3_0 : decode prog_10_method_8_code 0 = .ok (.aload_n 0, 1) := by decide +kernel
theorem d3_1 : decode prog_10_method_8_code 1 = .ok (.bipush 8, 2) := by decide +kernel
theorem d3_3 : decode prog_10_method_8_code 3 = .ok (.invokevirtual 23, 3) := by decide +kernel
theorem d3_6 : decode prog_10_method_8_code 6 = .ok (.bipush 56, 2) := by decide +kernel
theorem d3_8 : decode prog_10_method_8_code 8 = .ok (.istore_n 3, 1) := by decide +kernel
theorem d3_9 : decode prog_10_method_8_code 9 = .ok (.iload_n 3, 1) := by decide +kernel
theorem d3_10 : decode prog_10_method_8_code 10 = .ok (.ifCond .lt 30, 3) := by decide +kernel
theorem d3_13 : decode prog_10_method_8_code 13 = .ok (.aload_n 0, 1) := by decide +kernel
theorem d3_14 : decode prog_10_method_8_code 14 = .ok (.getfield 7, 3) := by decide +kernel
theorem d3_17 : decode prog_10_method_8_code 17 = .ok (.aload_n 0, 1) := by decide +kernel
theorem d3_18 : decode prog_10_method_8_code 18 = .ok (.dup, 1) := by decide +kernel
theorem d3_19 : decode prog_10_method_8_code 19 = .ok (.getfield 13, 3) := by decide +kernel
theorem d3_22 : decode prog_10_method_8_code 22 = .ok (.dup_x1, 1) := by decide +kernel
theorem d3_23 : decode prog_10_method_8_code 23 = .ok (.iconst 1, 1) := by decide +kernel
theorem d3_24 : decode prog_10_method_8_code 24 = .ok (.iadd, 1) := by decide +kernel
theorem d3_25 : decode prog_10_method_8_code 25 = .ok (.putfield 13, 3) := by decide +kernel
theorem d3_28 : decode prog_10_method_8_code 28 = .ok (.lload_n 1, 1) := by decide +kernel
theorem d3_29 : decode prog_10_method_8_code 29 = .ok (.iload_n 3, 1) := by decide +kernel
theorem d3_30 : decode prog_10_method_8_code 30 = .ok (.lushr, 1) := by decide +kernel
theorem d3_31 : decode prog_10_method_8_code 31 = .ok (.l2i, 1) := by decide +kernel
theorem d3_32 : decode prog_10_method_8_code 32 = .ok (.i2b, 1) := by decide +kernel
theorem d3_33 : decode prog_10_method_8_code 33 = .ok (.bastore, 1) := by decide +kernel
theorem d3_34 : decode prog_10_method_8_code 34 = .ok (.iinc 3 (-8), 3) := by decide +kernel
theorem d3_37 : decode prog_10_method_8_code 37 = .ok (.goto (-28), 3) := by decide +kernel
theorem d3_40 : decode prog_10_method_8_code 40 = .ok (.return_, 1) := by decide +kernel
theorem pd_3 : parseMethodDescriptor "(I)V" = some ⟨[.int], none⟩ := by decide +kernel
theorem d5_0 : decode prog_10_method_14_code 0 = .ok (.iconst 0, 1) := by decide +kernel
theorem d5_1 : decode prog_10_method_14_code 1 = .ok (.istore_n 3, 1) := by decide +kernel
theorem d5_2 : decode prog_10_method_14_code 2 = .ok (.iload_n 1, 1) := by decide +kernel
theorem d5_3 : decode prog_10_method_14_code 3 = .ok (.istore 4, 2) := by decide +kernel
theorem d5_5 : decode prog_10_method_14_code 5 = .ok (.iload_n 3, 1) := by decide +kernel
theorem d5_6 : decode prog_10_method_14_code 6 = .ok (.bipush 32, 2) := by decide +kernel
theorem d5_8 : decode prog_10_method_14_code 8 = .ok (.if_icmp .ge 23, 3) := by decide +kernel
theorem d5_11 : decode prog_10_method_14_code 11 = .ok (.aload_n 0, 1) := by decide +kernel
theorem d5_12 : decode prog_10_method_14_code 12 = .ok (.getfield 7, 3) := by decide +kernel
theorem d5_15 : decode prog_10_method_14_code 15 = .ok (.iload 4, 2) := by decide +kernel
theorem d5_17 : decode prog_10_method_14_code 17 = .ok (.iinc 4 1, 3) := by decide +kernel
theorem d5_20 : decode prog_10_method_14_code 20 = .ok (.iload_n 2, 1) := by decide +kernel
theorem d5_21 : decode prog_10_method_14_code 21 = .ok (.iload_n 3, 1) := by decide +kernel
theorem d5_22 : decode prog_10_method_14_code 22 = .ok (.iushr, 1) := by decide +kernel
theorem d5_23 : decode prog_10_method_14_code 23 = .ok (.i2b, 1) := by decide +kernel
theorem d5_24 : decode prog_10_method_14_code 24 = .ok (.bastore, 1) := by decide +kernel
theorem d5_25 : decode prog_10_method_14_code 25 = .ok (.iinc 3 8, 3) := by decide +kernel
theorem d5_28 : decode prog_10_method_14_code 28 = .ok (.goto (-23), 3) := by decide +kernel
theorem d5_31 : decode prog_10_method_14_code 31 = .ok (.return_, 1) := by decide +kernel
theorem d7_0 : decode jdk_65_method_121_code 0 = .ok (.iload_n 1, 1) := by decide +kernel
theorem d7_1 : decode jdk_65_method_121_code 1 = .ok (.aload_n 0, 1) := by decide +kernel
theorem d7_2 : decode jdk_65_method_121_code 2 = .ok (.arraylength, 1) := by decide +kernel
theorem d7_3 : decode jdk_65_method_121_code 3 = .ok (.if_icmp .ne 11, 3) := by decide +kernel
theorem d7_6 : decode jdk_65_method_121_code 6 = .ok (.aload_n 0, 1) := by decide +kernel
theorem d7_7 : decode jdk_65_method_121_code 7 = .ok (.invokevirtual 310, 3) := by decide +kernel
theorem d7_10 : decode jdk_65_method_121_code 10 = .ok (.checkcast 311, 3) := by decide +kernel
theorem d7_13 : decode jdk_65_method_121_code 13 = .ok (.areturn, 1) := by decide +kernel
theorem pn_7 : plainName "java/util/Arrays" = true := by first | (simp [plainName, overriddenIn]; done) | decide +kernel
theorem d6_0 : decode prog_10_method_4_code 0 = .ok (.aload_n 0, 1) := by decide +kernel
theorem d6_1 : decode prog_10_method_4_code 1 = .ok (.getfield 7, 3) := by decide +kernel
theorem d6_4 : decode prog_10_method_4_code 4 = .ok (.aload_n 0, 1) := by decide +kernel
theorem d6_5 : decode prog_10_method_4_code 5 = .ok (.getfield 13, 3) := by decide +kernel
theorem d6_8 : decode prog_10_method_4_code 8 = .ok (.invokestatic 17, 3) := by decide +kernel
theorem d6_11 : decode prog_10_method_4_code 11 = .ok (.areturn, 1) := by decide +kernel
theorem pd_6 : parseMethodDescriptor "([BI)[B" = some ⟨[(.array .byte), .int], some (.array .byte)⟩ := by decide +kernel
theorem d8_0 : decode method_2_code 0 = .ok (.iload_n 1, 1) := by decide +kernel
theorem d8_1 : decode method_2_code 1 = .ok (.iload_n 2, 1) := by decide +kernel
theorem d8_2 : decode method_2_code 2 = .ok (.if_icmp .lt 12, 3) := by decide +kernel
theorem d8_5 : decode method_2_code 5 = .ok (.iload_n 1, 1) := by decide +kernel
theorem d8_6 : decode method_2_code 6 = .ok (.iload_n 2, 1) := by decide +kernel
theorem d8_7 : decode method_2_code 7 = .ok (.iconst 4, 1) := by decide +kernel
theorem d8_8 : decode method_2_code 8 = .ok (.iadd, 1) := by decide +kernel
theorem d8_9 : decode method_2_code 9 = .ok (.if_icmp .ge 5, 3) := by decide +kernel
theorem d8_12 : decode method_2_code 12 = .ok (.iconst 1, 1) := by decide +kernel
theorem d8_13 : decode method_2_code 13 = .ok (.ireturn, 1) := by decide +kernel
theorem d8_14 : decode method_2_code 14 = .ok (.aload_n 0, 1) := by decide +kernel
theorem d8_15 : decode method_2_code 15 = .ok (.iload_n 1, 1) := by decide +kernel
theorem d8_16 : decode method_2_code 16 = .ok (.baload, 1) := by decide +kernel
theorem d8_17 : decode method_2_code 17 = .ok (.lload_n 3, 1) := by decide +kernel
theorem d8_18 : decode method_2_code 18 = .ok (.bipush 56, 2) := by decide +kernel
theorem d8_20 : decode method_2_code 20 = .ok (.bipush 8, 2) := by decide +kernel
theorem d8_22 : decode method_2_code 22 = .ok (.iload_n 1, 1) := by decide +kernel
theorem d8_23 : decode method_2_code 23 = .ok (.imul, 1) := by decide +kernel
theorem d8_24 : decode method_2_code 24 = .ok (.isub, 1) := by decide +kernel
theorem d8_25 : decode method_2_code 25 = .ok (.lushr, 1) := by decide +kernel
theorem d8_26 : decode method_2_code 26 = .ok (.l2i, 1) := by decide +kernel
theorem d8_27 : decode method_2_code 27 = .ok (.i2b, 1) := by decide +kernel
theorem d8_28 : decode method_2_code 28 = .ok (.if_icmp .ne 7, 3) := by decide +kernel
theorem d8_31 : decode method_2_code 31 = .ok (.iconst 1, 1) := by decide +kernel
theorem d8_32 : decode method_2_code 32 = .ok (.goto 4, 3) := by decide +kernel
theorem d8_35 : decode method_2_code 35 = .ok (.iconst 0, 1) := by decide +kernel
theorem d8_36 : decode method_2_code 36 = .ok (.ireturn, 1) := by decide +kernel
theorem pn_8 : plainName "com/example/daylily/daylily/engine/ByteWriterSetIntLittleEndianPinLaw" = true := by first | (simp [plainName, overriddenIn]; done) | decide +kernel
theorem pd_5 : parseMethodDescriptor "(J)V" = some ⟨[.long], none⟩ := by decide +kernel
theorem pd_4 : parseMethodDescriptor "(II)V" = some ⟨[.int, .int], none⟩ := by decide +kernel
theorem pd_2 : parseMethodDescriptor "()[B" = some ⟨[], some (.array .byte)⟩ := by decide +kernel
theorem pd_7 : parseMethodDescriptor "([BIIJ)Z" = some ⟨[(.array .byte), .int, .int, .long], some .boolean⟩ := by decide +kernel
theorem ef_1 (a1 : Addr) (m : MethodId) : entryFrame m #[(.ref a1), (.int (8 : Int32))] 2 = mkF m 0 #[.val (.ref a1), .val (.int (8 : Int32))] [] := by first | (simp [entryFrame, mkF, argsToLocals, Value.category]; done) | rfl
def Q1 (Z : State) (a1 : Addr) (h0 : Heap) (n0 : Nat) (v : Option Value) (h : Heap) (L : List Loc) : Prop := ∃ (b6 : Addr), v = none ∧ Fr n0 L ∧ Keep h0 h [a1] ∧ h0.size ≤ b6 ∧ Exa Z h a1 "com/example/daylily/daylily/engine/ByteWriter" ∧ Fld Z h a1 "com/example/daylily/daylily/engine/ByteWriter" "bytes" "[B" (.ref b6) ∧ Fld Z h a1 "com/example/daylily/daylily/engine/ByteWriter" "length" "I" (.int (0 : Int32)) ∧ Afi Z h b6 .byte 8 (fun _ => (0 : Int32)) ∧ Exa Z h b6 "[B"
set_option maxRecDepth 65536 in
set_option maxHeartbeats 40000000 in
theorem rm1 (l : Launch) (Z : State) (a0 : Array Value) (hw : ∀ d ∈ tables_1, d.before a0 Z = true) (a1 : Addr) (h0 : Heap) (n0 : Nat) (Zs : n0 ≤ h0.size) (E_a1 : Exa Z h0 a1 "com/example/daylily/daylily/engine/ByteWriter") (F_bytes_a1 : Fld Z h0 a1 "com/example/daylily/daylily/engine/ByteWriter" "bytes" "[B" .null) (F_length_a1 : Fld Z h0 a1 "com/example/daylily/daylily/engine/ByteWriter" "length" "I" (.int (0 : Int32))) (g_a1 : n0 ≤ a1) :
    Met1 l Z (⟨"com/example/daylily/daylily/engine/ByteWriter", "<init>", "(I)V"⟩ : MethodName) prog_10_method_1_code 2 none ({ frames := 1, cells := 1, slots := 8, locals := 12 } : Room) #[(.ref a1), (.int (8 : Int32))] h0 (Q1 Z a1 h0 n0) := by
  refine own_met_of (plainFor_of_name pn_1) (ef_1 a1) ?_
  intro p e s m below meth c s₁ X hx hby hml hZ hown hnm hret hlk eT
  have hown : s.vm.findClass "com/example/daylily/daylily/engine/ByteWriter" = some m.cls := hown
  have N := Fr.nil n0
  have K := Keep.refl h0 [a1]
  refine own_aloadN X hx hby (.ref a1) d1_0 rfl rfl 1 rfl ?_
  refine own_initO X hx hby hZ hown (hw _ (List.mem_of_getElem? (i := 7) rfl)) (hw _ (List.mem_of_getElem? (i := 8) rfl)) (hw _ (List.mem_of_getElem? (i := 9) rfl)) eT (by rw [hml]; rfl) d1_1 (by decide) 0 rfl (by decide) 4 rfl ?_
  intro T1 X eT
  refine own_aloadN X hx hby (.ref a1) d1_4 rfl rfl 5 rfl ?_
  refine own_iloadN X hx hby (8 : Int32) d1_5 rfl 6 rfl ?_
  refine own_newarray X hx hby hZ (hw _ (List.mem_of_getElem? (i := 10) rfl)) eT d1_6 (z := (8 : Int32)) (by decide) (n := 8) rfl (cap := 8) (by decide) (by decide) (by decide) (by decide) (ad := "[B") rfl 8 rfl ?_
  intro T6 h6 b6 gb6 X eT Ex A A2
  have g_b6 : n0 ≤ b6 := by rw [gb6]; exact Zs
  have sz_b6 : h0.size ≤ b6 := by rw [gb6]; exact K.1
  have ne_a1_b6 : a1 ≠ b6 := Nat.ne_of_lt (by rw [gb6]; exact E_a1.lt)
  have E_a1 := E_a1.ext Ex
  have F_bytes_a1 := F_bytes_a1.ext Ex
  have F_length_a1 := F_length_a1.ext Ex
  have A_b6 : Afi Z h6 b6 .byte 8 (fun _ => (0 : Int32)) := A
  have E_b6 := A2
  have K := K.ext Ex
  have Zs := Nat.le_trans Zs Ex.1
  refine own_putF X hx hby hZ hown (host := "") (Or.inl (hw _ (List.mem_of_getElem? (i := 11) rfl))) Via.refl eT F_bytes_a1 E_a1 (Or.inl (hw _ (List.mem_of_getElem? (i := 12) rfl))) (hw _ (List.mem_of_getElem? (i := 2) rfl)) (ty := (.array .byte)) (by decide) rfl rfl d1_8 11 rfl ?_
  intro T8 h8 X eT W
  have E_a1 := E_a1.wr W
  have F_bytes_a1 := F_bytes_a1.same W
  have F_length_a1 := F_length_a1.other W (Or.inr (slot_ne (Or.inl (hw _ (List.mem_of_getElem? (i := 23) rfl))) (Or.inl (hw _ (List.mem_of_getElem? (i := 12) rfl))) (by decide) (t := .int) (t' := (.array .byte)) (by decide) (by decide)))
  have A_b6 := A_b6.other W (Ne.symm ne_a1_b6)
  have E_b6 := E_b6.wr W
  have N := Fr.snoc X N g_a1
  have K := K.wr W (Or.inl (List.mem_of_getElem? (i := 0) rfl))
  have Zs := Nat.le_trans Zs (Keep.of_wr W).1
  refine own_ret X hx hby hret hlk d1_11 (by decide) (by decide) ?_
  rw [eT]
  exact ⟨b6, rfl, N, K, sz_b6, E_a1, F_bytes_a1, F_length_a1, A_b6, E_b6⟩
theorem ef_4 (a1 : Addr) (m : MethodId) : entryFrame m #[(.ref a1), (.int (8 : Int32))] 2 = mkF m 0 #[.val (.ref a1), .val (.int (8 : Int32))] [] := by first | (simp [entryFrame, mkF, argsToLocals, Value.category]; done) | rfl
def Q4 (Z : State) (a1 : Addr) (r1 : Addr) (ar_r1 : Nat → Int32) (h0 : Heap) (n0 : Nat) (v : Option Value) (h : Heap) (L : List Loc) : Prop := v = none ∧ Fr n0 L ∧ h = h0
set_option maxRecDepth 65536 in
set_option maxHeartbeats 40000000 in
theorem rm4 (l : Launch) (Z : State) (a0 : Array Value) (hw : ∀ d ∈ tables_1, d.before a0 Z = true) (a1 : Addr) (r1 : Addr) (ar_r1 : Nat → Int32) (h0 : Heap) (n0 : Nat) (Zs : n0 ≤ h0.size) (A_r1 : Afi Z h0 r1 .byte 8 ar_r1) (E_r1 : Exa Z h0 r1 "[B") (F_length_a1 : Fld Z h0 a1 "com/example/daylily/daylily/engine/ByteWriter" "length" "I" (.int (0 : Int32))) (F_bytes_a1 : Fld Z h0 a1 "com/example/daylily/daylily/engine/ByteWriter" "bytes" "[B" (.ref r1)) :
    Met1 l Z (⟨"com/example/daylily/daylily/engine/ByteWriter", "room", "(I)V"⟩ : MethodName) prog_10_method_15_code 2 none ({ frames := 0, cells := 0, slots := 0, locals := 0 } : Room) #[(.ref a1), (.int (8 : Int32))] h0 (Q4 Z a1 r1 ar_r1 h0 n0) := by
  refine own_met_of (plainFor_of_name pn_1) (ef_4 a1) ?_
  intro p e s m below meth c s₁ X hx hby hml hZ hown hnm hret hlk eT
  have hown : s.vm.findClass "com/example/daylily/daylily/engine/ByteWriter" = some m.cls := hown
  have N := Fr.nil n0
  refine own_aloadN X hx hby (.ref a1) d4_0 rfl rfl 1 rfl ?_
  refine own_getF X hx hby hZ hown (host := "") (Or.inl (hw _ (List.mem_of_getElem? (i := 22) rfl))) Via.refl eT F_length_a1 d4_1 4 rfl ?_
  intro T1 X eT
  refine own_iloadN X hx hby (8 : Int32) d4_4 rfl 5 rfl ?_
  refine own_iadd X hx hby d4_5 6 rfl ?_
  refine own_top (v' := (.int (8 : Int32))) (congrArg Value.int (by decide)) ?_
  refine own_aloadN X hx hby (.ref a1) d4_6 rfl rfl 7 rfl ?_
  refine own_getF X hx hby hZ hown (host := "") (Or.inl (hw _ (List.mem_of_getElem? (i := 11) rfl))) Via.refl eT F_bytes_a1 d4_7 10 rfl ?_
  intro T7 X eT
  refine own_arraylength X hx hby hZ (8 : Int32) eT A_r1 rfl d4_10 11 rfl ?_
  have c11 : ¬ (8 : Int32) < (8 : Int32) := by decide
  refine own_icmp_le X hx hby d4_11 41 14 (by decide) rfl (fun _ => ?_) (fun q => absurd q c11)
  refine own_ret X hx hby hret hlk d4_41 (by decide) (by decide) ?_
  rw [eT]
  exact ⟨rfl, N, rfl⟩
theorem ef_3 (a1 : Addr) (q2 : Int64) (m : MethodId) : entryFrame m #[(.ref a1), (.long q2)] 4 = mkF m 0 #[.val (.ref a1), .val (.long q2), .second, .unset] [] := by first | (simp [entryFrame, mkF, argsToLocals, Value.category]; done) | rfl
def Q3 (Z : State) (a1 : Addr) (q2 : Int64) (r1 : Addr) (ar_r1 : Nat → Int32) (h0 : Heap) (n0 : Nat) (v : Option Value) (h : Heap) (L : List Loc) : Prop := v = none ∧ Fr n0 L ∧ Keep h0 h [a1, r1] ∧ Exa Z h a1 "com/example/daylily/daylily/engine/ByteWriter" ∧ Fld Z h a1 "com/example/daylily/daylily/engine/ByteWriter" "bytes" "[B" (.ref r1) ∧ Fld Z h a1 "com/example/daylily/daylily/engine/ByteWriter" "length" "I" (.int (8 : Int32)) ∧ Afi Z h r1 .byte 8 (updI (updI (updI (updI (updI (updI (updI (updI ar_r1 0 (nar .byte ((((q2.toUInt64 >>> ((56 : Int32) &&& 0x3f).toInt64.toUInt64).toInt64).toInt32).toInt8.toInt32))) 1 (nar .byte ((((q2.toUInt64 >>> ((48 : Int32) &&& 0x3f).toInt64.toUInt64).toInt64).toInt32).toInt8.toInt32))) 2 (nar .byte ((((q2.toUInt64 >>> ((40 : Int32) &&& 0x3f).toInt64.toUInt64).toInt64).toInt32).toInt8.toInt32))) 3 (nar .byte ((((q2.toUInt64 >>> ((32 : Int32) &&& 0x3f).toInt64.toUInt64).toInt64).toInt32).toInt8.toInt32))) 4 (nar .byte ((((q2.toUInt64 >>> ((24 : Int32) &&& 0x3f).toInt64.toUInt64).toInt64).toInt32).toInt8.toInt32))) 5 (nar .byte ((((q2.toUInt64 >>> ((16 : Int32) &&& 0x3f).toInt64.toUInt64).toInt64).toInt32).toInt8.toInt32))) 6 (nar .byte ((((q2.toUInt64 >>> ((8 : Int32) &&& 0x3f).toInt64.toUInt64).toInt64).toInt32).toInt8.toInt32))) 7 (nar .byte ((((q2.toUInt64 >>> ((0 : Int32) &&& 0x3f).toInt64.toUInt64).toInt64).toInt32).toInt8.toInt32))) ∧ Exa Z h r1 "[B"
set_option maxRecDepth 65536 in
set_option maxHeartbeats 40000000 in
theorem rm3 (l : Launch) (Z : State) (a0 : Array Value) (hw : ∀ d ∈ tables_1, d.before a0 Z = true) (a1 : Addr) (q2 : Int64) (r1 : Addr) (ar_r1 : Nat → Int32) (h0 : Heap) (n0 : Nat) (Zs : n0 ≤ h0.size) (A_r1 : Afi Z h0 r1 .byte 8 ar_r1) (E_r1 : Exa Z h0 r1 "[B") (g_r1 : n0 ≤ r1) (E_a1 : Exa Z h0 a1 "com/example/daylily/daylily/engine/ByteWriter") (F_bytes_a1 : Fld Z h0 a1 "com/example/daylily/daylily/engine/ByteWriter" "bytes" "[B" (.ref r1)) (F_length_a1 : Fld Z h0 a1 "com/example/daylily/daylily/engine/ByteWriter" "length" "I" (.int (0 : Int32))) (g_a1 : n0 ≤ a1) :
    Met1 l Z (⟨"com/example/daylily/daylily/engine/ByteWriter", "writeLong", "(J)V"⟩ : MethodName) prog_10_method_8_code 4 none ({ frames := 1, cells := 0, slots := 0, locals := 13 } : Room) #[(.ref a1), (.long q2)] h0 (Q3 Z a1 q2 r1 ar_r1 h0 n0) := by
  refine own_met_of (plainFor_of_name pn_1) (ef_3 a1 q2) ?_
  intro p e s m below meth c s₁ X hx hby hml hZ hown hnm hret hlk eT
  have hown : s.vm.findClass "com/example/daylily/daylily/engine/ByteWriter" = some m.cls := hown
  have N := Fr.nil n0
  have K := Keep.refl h0 [a1, r1]
  have ne_r1_a1 : r1 ≠ a1 := ne_exa E_r1 E_a1 (by decide)
  refine own_aloadN X hx hby (.ref a1) d3_0 rfl rfl 1 rfl ?_
  refine own_bipush X hx hby (8 : Int32) d3_1 rfl 3 rfl ?_
  refine own_callP X hx hby hZ (st := []) [(.int (8 : Int32))] rfl hown (hw _ (List.mem_of_getElem? (i := 18) rfl)) (hw _ (List.mem_of_getElem? (i := 19) rfl)) (hw _ (List.mem_of_getElem? (i := 2) rfl)) (hw _ (List.mem_of_getElem? (i := 20) rfl)) (hw _ (List.mem_of_getElem? (i := 3) rfl)) (hw _ (List.mem_of_getElem? (i := 21) rfl)) E_a1 (by decide) d3_3 (rm4 l Z a0 hw a1 r1 ar_r1 h0 n0 Zs A_r1 E_r1 F_length_a1 F_bytes_a1) eT pd_3 rfl (by rw [hml]; rfl) (by decide) 0 rfl (by decide) (by decide) (by decide) 6 rfl ?_
  intro T3 L9 v9 X hQ
  obtain ⟨rfl, N9, eT⟩ := hQ
  have N := Fr.app N N9
  show Go p e below _ T3 (mkF m 6 #[.val (.ref a1), .val (.long q2), .second, .unset] [])
  refine own_bipush X hx hby (56 : Int32) d3_6 rfl 8 rfl ?_
  refine own_istoreN X hx hby d3_8 rfl (l' := #[.val (.ref a1), .val (.long q2), .second, .val (.int (56 : Int32))]) rfl 9 rfl ?_
  refine own_iloadN X hx hby (56 : Int32) d3_9 rfl 10 rfl ?_
  have c10 : ¬ (56 : Int32) < (0 : Int32) := by decide
  refine own_if_lt X hx hby d3_10 40 13 (by decide) rfl (fun q => absurd q c10) (fun _ => ?_)
  refine own_aloadN X hx hby (.ref a1) d3_13 rfl rfl 14 rfl ?_
  refine own_getF X hx hby hZ hown (host := "") (Or.inl (hw _ (List.mem_of_getElem? (i := 11) rfl))) Via.refl eT F_bytes_a1 d3_14 17 rfl ?_
  intro T14 X eT
  refine own_aloadN X hx hby (.ref a1) d3_17 rfl rfl 18 rfl ?_
  refine own_dup X hx hby d3_18 rfl 19 rfl ?_
  refine own_getF X hx hby hZ hown (host := "") (Or.inl (hw _ (List.mem_of_getElem? (i := 22) rfl))) Via.refl eT F_length_a1 d3_19 22 rfl ?_
  intro T19 X eT
  refine own_dupX1 X hx hby d3_22 rfl rfl 23 rfl ?_
  refine own_iconst X hx hby (1 : Int32) d3_23 rfl 24 rfl ?_
  refine own_iadd X hx hby d3_24 25 rfl ?_
  refine own_top (v' := (.int (1 : Int32))) (congrArg Value.int (by decide)) ?_
  refine own_putF X hx hby hZ hown (host := "") (Or.inl (hw _ (List.mem_of_getElem? (i := 22) rfl))) Via.refl eT F_length_a1 E_a1 (Or.inl (hw _ (List.mem_of_getElem? (i := 23) rfl))) (hw _ (List.mem_of_getElem? (i := 2) rfl)) (ty := .int) (by decide) rfl rfl d3_25 28 rfl ?_
  intro T25 h25 X eT W
  have A_r1 := A_r1.other W ne_r1_a1
  have E_r1 := E_r1.wr W
  have E_a1 := E_a1.wr W
  have F_bytes_a1 := F_bytes_a1.other W (Or.inr (slot_ne (Or.inl (hw _ (List.mem_of_getElem? (i := 12) rfl))) (Or.inl (hw _ (List.mem_of_getElem? (i := 23) rfl))) (by decide) (t := (.array .byte)) (t' := .int) (by decide) (by decide)))
  have F_length_a1 := F_length_a1.same W
  have N := Fr.snoc X N g_a1
  have K := K.wr W (Or.inl (List.mem_of_getElem? (i := 0) rfl))
  have Zs := Nat.le_trans Zs (Keep.of_wr W).1
  refine own_lloadN X hx hby q2 d3_28 rfl 29 rfl ?_
  refine own_iloadN X hx hby (56 : Int32) d3_29 rfl 30 rfl ?_
  refine own_lushr X hx hby d3_30 31 rfl ?_
  refine own_l2i X hx hby d3_31 32 rfl ?_
  refine own_i2b X hx hby d3_32 33 rfl ?_
  refine own_bastore X hx hby hZ eT A_r1 (by decide) d3_33 34 rfl ?_
  intro T33 h33 X eT W A
  have E_r1 := E_r1.wr W
  have E_a1 := E_a1.wr W
  have F_bytes_a1 := F_bytes_a1.other W (Or.inl (Ne.symm ne_r1_a1))
  have F_length_a1 := F_length_a1.other W (Or.inl (Ne.symm ne_r1_a1))
  have A_r1 : Afi Z h33 r1 .byte 8 (updI ar_r1 0 (nar .byte ((((q2.toUInt64 >>> ((56 : Int32) &&& 0x3f).toInt64.toUInt64).toInt64).toInt32).toInt8.toInt32))) := A
  have N := Fr.snoc X N g_r1
  have K := K.wr W (Or.inl (List.mem_of_getElem? (i := 1) rfl))
  have Zs := Nat.le_trans Zs (Keep.of_wr W).1
  refine own_iinc X hx hby d3_34 (x := (56 : Int32)) rfl (by decide) (l' := #[.val (.ref a1), .val (.long q2), .second, .val (.int (48 : Int32))]) rfl 37 rfl ?_
  refine own_goto X hx hby d3_37 9 (by decide) ?_
  refine own_iloadN X hx hby (48 : Int32) d3_9 rfl 10 rfl ?_
  have c10_2 : ¬ (48 : Int32) < (0 : Int32) := by decide
  refine own_if_lt X hx hby d3_10 40 13 (by decide) rfl (fun q => absurd q c10_2) (fun _ => ?_)
  refine own_aloadN X hx hby (.ref a1) d3_13 rfl rfl 14 rfl ?_
  refine own_getF X hx hby hZ hown (host := "") (Or.inl (hw _ (List.mem_of_getElem? (i := 11) rfl))) Via.refl eT F_bytes_a1 d3_14 17 rfl ?_
  intro T14 X eT
  refine own_aloadN X hx hby (.ref a1) d3_17 rfl rfl 18 rfl ?_
  refine own_dup X hx hby d3_18 rfl 19 rfl ?_
  refine own_getF X hx hby hZ hown (host := "") (Or.inl (hw _ (List.mem_of_getElem? (i := 22) rfl))) Via.refl eT F_length_a1 d3_19 22 rfl ?_
  intro T19 X eT
  refine own_dupX1 X hx hby d3_22 rfl rfl 23 rfl ?_
  refine own_iconst X hx hby (1 : Int32) d3_23 rfl 24 rfl ?_
  refine own_iadd X hx hby d3_24 25 rfl ?_
  refine own_top (v' := (.int (2 : Int32))) (congrArg Value.int (by decide)) ?_
  refine own_putF X hx hby hZ hown (host := "") (Or.inl (hw _ (List.mem_of_getElem? (i := 22) rfl))) Via.refl eT F_length_a1 E_a1 (Or.inl (hw _ (List.mem_of_getElem? (i := 23) rfl))) (hw _ (List.mem_of_getElem? (i := 2) rfl)) (ty := .int) (by decide) rfl rfl d3_25 28 rfl ?_
  intro T25 h25 X eT W
  have A_r1 := A_r1.other W ne_r1_a1
  have E_r1 := E_r1.wr W
  have E_a1 := E_a1.wr W
  have F_bytes_a1 := F_bytes_a1.other W (Or.inr (slot_ne (Or.inl (hw _ (List.mem_of_getElem? (i := 12) rfl))) (Or.inl (hw _ (List.mem_of_getElem? (i := 23) rfl))) (by decide) (t := (.array .byte)) (t' := .int) (by decide) (by decide)))
  have F_length_a1 := F_length_a1.same W
  have N := Fr.snoc X N g_a1
  have K := K.wr W (Or.inl (List.mem_of_getElem? (i := 0) rfl))
  have Zs := Nat.le_trans Zs (Keep.of_wr W).1
  refine own_lloadN X hx hby q2 d3_28 rfl 29 rfl ?_
  refine own_iloadN X hx hby (48 : Int32) d3_29 rfl 30 rfl ?_
  refine own_lushr X hx hby d3_30 31 rfl ?_
  refine own_l2i X hx hby d3_31 32 rfl ?_
  refine own_i2b X hx hby d3_32 33 rfl ?_
  refine own_bastore X hx hby hZ eT A_r1 (by decide) d3_33 34 rfl ?_
  intro T33 h33 X eT W A
  have E_r1 := E_r1.wr W
  have E_a1 := E_a1.wr W
  have F_bytes_a1 := F_bytes_a1.other W (Or.inl (Ne.symm ne_r1_a1))
  have F_length_a1 := F_length_a1.other W (Or.inl (Ne.symm ne_r1_a1))
  have A_r1 : Afi Z h33 r1 .byte 8 (updI (updI ar_r1 0 (nar .byte ((((q2.toUInt64 >>> ((56 : Int32) &&& 0x3f).toInt64.toUInt64).toInt64).toInt32).toInt8.toInt32))) 1 (nar .byte ((((q2.toUInt64 >>> ((48 : Int32) &&& 0x3f).toInt64.toUInt64).toInt64).toInt32).toInt8.toInt32))) := A
  have N := Fr.snoc X N g_r1
  have K := K.wr W (Or.inl (List.mem_of_getElem? (i := 1) rfl))
  have Zs := Nat.le_trans Zs (Keep.of_wr W).1
  refine own_iinc X hx hby d3_34 (x := (48 : Int32)) rfl (by decide) (l' := #[.val (.ref a1), .val (.long q2), .second, .val (.int (40 : Int32))]) rfl 37 rfl ?_
  refine own_goto X hx hby d3_37 9 (by decide) ?_
  refine own_iloadN X hx hby (40 : Int32) d3_9 rfl 10 rfl ?_
  have c10_3 : ¬ (40 : Int32) < (0 : Int32) := by decide
  refine own_if_lt X hx hby d3_10 40 13 (by decide) rfl (fun q => absurd q c10_3) (fun _ => ?_)
  refine own_aloadN X hx hby (.ref a1) d3_13 rfl rfl 14 rfl ?_
  refine own_getF X hx hby hZ hown (host := "") (Or.inl (hw _ (List.mem_of_getElem? (i := 11) rfl))) Via.refl eT F_bytes_a1 d3_14 17 rfl ?_
  intro T14 X eT
  refine own_aloadN X hx hby (.ref a1) d3_17 rfl rfl 18 rfl ?_
  refine own_dup X hx hby d3_18 rfl 19 rfl ?_
  refine own_getF X hx hby hZ hown (host := "") (Or.inl (hw _ (List.mem_of_getElem? (i := 22) rfl))) Via.refl eT F_length_a1 d3_19 22 rfl ?_
  intro T19 X eT
  refine own_dupX1 X hx hby d3_22 rfl rfl 23 rfl ?_
  refine own_iconst X hx hby (1 : Int32) d3_23 rfl 24 rfl ?_
  refine own_iadd X hx hby d3_24 25 rfl ?_
  refine own_top (v' := (.int (3 : Int32))) (congrArg Value.int (by decide)) ?_
  refine own_putF X hx hby hZ hown (host := "") (Or.inl (hw _ (List.mem_of_getElem? (i := 22) rfl))) Via.refl eT F_length_a1 E_a1 (Or.inl (hw _ (List.mem_of_getElem? (i := 23) rfl))) (hw _ (List.mem_of_getElem? (i := 2) rfl)) (ty := .int) (by decide) rfl rfl d3_25 28 rfl ?_
  intro T25 h25 X eT W
  have A_r1 := A_r1.other W ne_r1_a1
  have E_r1 := E_r1.wr W
  have E_a1 := E_a1.wr W
  have F_bytes_a1 := F_bytes_a1.other W (Or.inr (slot_ne (Or.inl (hw _ (List.mem_of_getElem? (i := 12) rfl))) (Or.inl (hw _ (List.mem_of_getElem? (i := 23) rfl))) (by decide) (t := (.array .byte)) (t' := .int) (by decide) (by decide)))
  have F_length_a1 := F_length_a1.same W
  have N := Fr.snoc X N g_a1
  have K := K.wr W (Or.inl (List.mem_of_getElem? (i := 0) rfl))
  have Zs := Nat.le_trans Zs (Keep.of_wr W).1
  refine own_lloadN X hx hby q2 d3_28 rfl 29 rfl ?_
  refine own_iloadN X hx hby (40 : Int32) d3_29 rfl 30 rfl ?_
  refine own_lushr X hx hby d3_30 31 rfl ?_
  refine own_l2i X hx hby d3_31 32 rfl ?_
  refine own_i2b X hx hby d3_32 33 rfl ?_
  refine own_bastore X hx hby hZ eT A_r1 (by decide) d3_33 34 rfl ?_
  intro T33 h33 X eT W A
  have E_r1 := E_r1.wr W
  have E_a1 := E_a1.wr W
  have F_bytes_a1 := F_bytes_a1.other W (Or.inl (Ne.symm ne_r1_a1))
  have F_length_a1 := F_length_a1.other W (Or.inl (Ne.symm ne_r1_a1))
  have A_r1 : Afi Z h33 r1 .byte 8 (updI (updI (updI ar_r1 0 (nar .byte ((((q2.toUInt64 >>> ((56 : Int32) &&& 0x3f).toInt64.toUInt64).toInt64).toInt32).toInt8.toInt32))) 1 (nar .byte ((((q2.toUInt64 >>> ((48 : Int32) &&& 0x3f).toInt64.toUInt64).toInt64).toInt32).toInt8.toInt32))) 2 (nar .byte ((((q2.toUInt64 >>> ((40 : Int32) &&& 0x3f).toInt64.toUInt64).toInt64).toInt32).toInt8.toInt32))) := A
  have N := Fr.snoc X N g_r1
  have K := K.wr W (Or.inl (List.mem_of_getElem? (i := 1) rfl))
  have Zs := Nat.le_trans Zs (Keep.of_wr W).1
  refine own_iinc X hx hby d3_34 (x := (40 : Int32)) rfl (by decide) (l' := #[.val (.ref a1), .val (.long q2), .second, .val (.int (32 : Int32))]) rfl 37 rfl ?_
  refine own_goto X hx hby d3_37 9 (by decide) ?_
  refine own_iloadN X hx hby (32 : Int32) d3_9 rfl 10 rfl ?_
  have c10_4 : ¬ (32 : Int32) < (0 : Int32) := by decide
  refine own_if_lt X hx hby d3_10 40 13 (by decide) rfl (fun q => absurd q c10_4) (fun _ => ?_)
  refine own_aloadN X hx hby (.ref a1) d3_13 rfl rfl 14 rfl ?_
  refine own_getF X hx hby hZ hown (host := "") (Or.inl (hw _ (List.mem_of_getElem? (i := 11) rfl))) Via.refl eT F_bytes_a1 d3_14 17 rfl ?_
  intro T14 X eT
  refine own_aloadN X hx hby (.ref a1) d3_17 rfl rfl 18 rfl ?_
  refine own_dup X hx hby d3_18 rfl 19 rfl ?_
  refine own_getF X hx hby hZ hown (host := "") (Or.inl (hw _ (List.mem_of_getElem? (i := 22) rfl))) Via.refl eT F_length_a1 d3_19 22 rfl ?_
  intro T19 X eT
  refine own_dupX1 X hx hby d3_22 rfl rfl 23 rfl ?_
  refine own_iconst X hx hby (1 : Int32) d3_23 rfl 24 rfl ?_
  refine own_iadd X hx hby d3_24 25 rfl ?_
  refine own_top (v' := (.int (4 : Int32))) (congrArg Value.int (by decide)) ?_
  refine own_putF X hx hby hZ hown (host := "") (Or.inl (hw _ (List.mem_of_getElem? (i := 22) rfl))) Via.refl eT F_length_a1 E_a1 (Or.inl (hw _ (List.mem_of_getElem? (i := 23) rfl))) (hw _ (List.mem_of_getElem? (i := 2) rfl)) (ty := .int) (by decide) rfl rfl d3_25 28 rfl ?_
  intro T25 h25 X eT W
  have A_r1 := A_r1.other W ne_r1_a1
  have E_r1 := E_r1.wr W
  have E_a1 := E_a1.wr W
  have F_bytes_a1 := F_bytes_a1.other W (Or.inr (slot_ne (Or.inl (hw _ (List.mem_of_getElem? (i := 12) rfl))) (Or.inl (hw _ (List.mem_of_getElem? (i := 23) rfl))) (by decide) (t := (.array .byte)) (t' := .int) (by decide) (by decide)))
  have F_length_a1 := F_length_a1.same W
  have N := Fr.snoc X N g_a1
  have K := K.wr W (Or.inl (List.mem_of_getElem? (i := 0) rfl))
  have Zs := Nat.le_trans Zs (Keep.of_wr W).1
  refine own_lloadN X hx hby q2 d3_28 rfl 29 rfl ?_
  refine own_iloadN X hx hby (32 : Int32) d3_29 rfl 30 rfl ?_
  refine own_lushr X hx hby d3_30 31 rfl ?_
  refine own_l2i X hx hby d3_31 32 rfl ?_
  refine own_i2b X hx hby d3_32 33 rfl ?_
  refine own_bastore X hx hby hZ eT A_r1 (by decide) d3_33 34 rfl ?_
  intro T33 h33 X eT W A
  have E_r1 := E_r1.wr W
  have E_a1 := E_a1.wr W
  have F_bytes_a1 := F_bytes_a1.other W (Or.inl (Ne.symm ne_r1_a1))
  have F_length_a1 := F_length_a1.other W (Or.inl (Ne.symm ne_r1_a1))
  have A_r1 : Afi Z h33 r1 .byte 8 (updI (updI (updI (updI ar_r1 0 (nar .byte ((((q2.toUInt64 >>> ((56 : Int32) &&& 0x3f).toInt64.toUInt64).toInt64).toInt32).toInt8.toInt32))) 1 (nar .byte ((((q2.toUInt64 >>> ((48 : Int32) &&& 0x3f).toInt64.toUInt64).toInt64).toInt32).toInt8.toInt32))) 2 (nar .byte ((((q2.toUInt64 >>> ((40 : Int32) &&& 0x3f).toInt64.toUInt64).toInt64).toInt32).toInt8.toInt32))) 3 (nar .byte ((((q2.toUInt64 >>> ((32 : Int32) &&& 0x3f).toInt64.toUInt64).toInt64).toInt32).toInt8.toInt32))) := A
  have N := Fr.snoc X N g_r1
  have K := K.wr W (Or.inl (List.mem_of_getElem? (i := 1) rfl))
  have Zs := Nat.le_trans Zs (Keep.of_wr W).1
  refine own_iinc X hx hby d3_34 (x := (32 : Int32)) rfl (by decide) (l' := #[.val (.ref a1), .val (.long q2), .second, .val (.int (24 : Int32))]) rfl 37 rfl ?_
  refine own_goto X hx hby d3_37 9 (by decide) ?_
  refine own_iloadN X hx hby (24 : Int32) d3_9 rfl 10 rfl ?_
  have c10_5 : ¬ (24 : Int32) < (0 : Int32) := by decide
  refine own_if_lt X hx hby d3_10 40 13 (by decide) rfl (fun q => absurd q c10_5) (fun _ => ?_)
  refine own_aloadN X hx hby (.ref a1) d3_13 rfl rfl 14 rfl ?_
  refine own_getF X hx hby hZ hown (host := "") (Or.inl (hw _ (List.mem_of_getElem? (i := 11) rfl))) Via.refl eT F_bytes_a1 d3_14 17 rfl ?_
  intro T14 X eT
  refine own_aloadN X hx hby (.ref a1) d3_17 rfl rfl 18 rfl ?_
  refine own_dup X hx hby d3_18 rfl 19 rfl ?_
  refine own_getF X hx hby hZ hown (host := "") (Or.inl (hw _ (List.mem_of_getElem? (i := 22) rfl))) Via.refl eT F_length_a1 d3_19 22 rfl ?_
  intro T19 X eT
  refine own_dupX1 X hx hby d3_22 rfl rfl 23 rfl ?_
  refine own_iconst X hx hby (1 : Int32) d3_23 rfl 24 rfl ?_
  refine own_iadd X hx hby d3_24 25 rfl ?_
  refine own_top (v' := (.int (5 : Int32))) (congrArg Value.int (by decide)) ?_
  refine own_putF X hx hby hZ hown (host := "") (Or.inl (hw _ (List.mem_of_getElem? (i := 22) rfl))) Via.refl eT F_length_a1 E_a1 (Or.inl (hw _ (List.mem_of_getElem? (i := 23) rfl))) (hw _ (List.mem_of_getElem? (i := 2) rfl)) (ty := .int) (by decide) rfl rfl d3_25 28 rfl ?_
  intro T25 h25 X eT W
  have A_r1 := A_r1.other W ne_r1_a1
  have E_r1 := E_r1.wr W
  have E_a1 := E_a1.wr W
  have F_bytes_a1 := F_bytes_a1.other W (Or.inr (slot_ne (Or.inl (hw _ (List.mem_of_getElem? (i := 12) rfl))) (Or.inl (hw _ (List.mem_of_getElem? (i := 23) rfl))) (by decide) (t := (.array .byte)) (t' := .int) (by decide) (by decide)))
  have F_length_a1 := F_length_a1.same W
  have N := Fr.snoc X N g_a1
  have K := K.wr W (Or.inl (List.mem_of_getElem? (i := 0) rfl))
  have Zs := Nat.le_trans Zs (Keep.of_wr W).1
  refine own_lloadN X hx hby q2 d3_28 rfl 29 rfl ?_
  refine own_iloadN X hx hby (24 : Int32) d3_29 rfl 30 rfl ?_
  refine own_lushr X hx hby d3_30 31 rfl ?_
  refine own_l2i X hx hby d3_31 32 rfl ?_
  refine own_i2b X hx hby d3_32 33 rfl ?_
  refine own_bastore X hx hby hZ eT A_r1 (by decide) d3_33 34 rfl ?_
  intro T33 h33 X eT W A
  have E_r1 := E_r1.wr W
  have E_a1 := E_a1.wr W
  have F_bytes_a1 := F_bytes_a1.other W (Or.inl (Ne.symm ne_r1_a1))
  have F_length_a1 := F_length_a1.other W (Or.inl (Ne.symm ne_r1_a1))
  have A_r1 : Afi Z h33 r1 .byte 8 (updI (updI (updI (updI (updI ar_r1 0 (nar .byte ((((q2.toUInt64 >>> ((56 : Int32) &&& 0x3f).toInt64.toUInt64).toInt64).toInt32).toInt8.toInt32))) 1 (nar .byte ((((q2.toUInt64 >>> ((48 : Int32) &&& 0x3f).toInt64.toUInt64).toInt64).toInt32).toInt8.toInt32))) 2 (nar .byte ((((q2.toUInt64 >>> ((40 : Int32) &&& 0x3f).toInt64.toUInt64).toInt64).toInt32).toInt8.toInt32))) 3 (nar .byte ((((q2.toUInt64 >>> ((32 : Int32) &&& 0x3f).toInt64.toUInt64).toInt64).toInt32).toInt8.toInt32))) 4 (nar .byte ((((q2.toUInt64 >>> ((24 : Int32) &&& 0x3f).toInt64.toUInt64).toInt64).toInt32).toInt8.toInt32))) := A
  have N := Fr.snoc X N g_r1
  have K := K.wr W (Or.inl (List.mem_of_getElem? (i := 1) rfl))
  have Zs := Nat.le_trans Zs (Keep.of_wr W).1
  refine own_iinc X hx hby d3_34 (x := (24 : Int32)) rfl (by decide) (l' := #[.val (.ref a1), .val (.long q2), .second, .val (.int (16 : Int32))]) rfl 37 rfl ?_
  refine own_goto X hx hby d3_37 9 (by decide) ?_
  refine own_iloadN X hx hby (16 : Int32) d3_9 rfl 10 rfl ?_
  have c10_6 : ¬ (16 : Int32) < (0 : Int32) := by decide
  refine own_if_lt X hx hby d3_10 40 13 (by decide) rfl (fun q => absurd q c10_6) (fun _ => ?_)
  refine own_aloadN X hx hby (.ref a1) d3_13 rfl rfl 14 rfl ?_
  refine own_getF X hx hby hZ hown (host := "") (Or.inl (hw _ (List.mem_of_getElem? (i := 11) rfl))) Via.refl eT F_bytes_a1 d3_14 17 rfl ?_
  intro T14 X eT
  refine own_aloadN X hx hby (.ref a1) d3_17 rfl rfl 18 rfl ?_
  refine own_dup X hx hby d3_18 rfl 19 rfl ?_
  refine own_getF X hx hby hZ hown (host := "") (Or.inl (hw _ (List.mem_of_getElem? (i := 22) rfl))) Via.refl eT F_length_a1 d3_19 22 rfl ?_
  intro T19 X eT
  refine own_dupX1 X hx hby d3_22 rfl rfl 23 rfl ?_
  refine own_iconst X hx hby (1 : Int32) d3_23 rfl 24 rfl ?_
  refine own_iadd X hx hby d3_24 25 rfl ?_
  refine own_top (v' := (.int (6 : Int32))) (congrArg Value.int (by decide)) ?_
  refine own_putF X hx hby hZ hown (host := "") (Or.inl (hw _ (List.mem_of_getElem? (i := 22) rfl))) Via.refl eT F_length_a1 E_a1 (Or.inl (hw _ (List.mem_of_getElem? (i := 23) rfl))) (hw _ (List.mem_of_getElem? (i := 2) rfl)) (ty := .int) (by decide) rfl rfl d3_25 28 rfl ?_
  intro T25 h25 X eT W
  have A_r1 := A_r1.other W ne_r1_a1
  have E_r1 := E_r1.wr W
  have E_a1 := E_a1.wr W
  have F_bytes_a1 := F_bytes_a1.other W (Or.inr (slot_ne (Or.inl (hw _ (List.mem_of_getElem? (i := 12) rfl))) (Or.inl (hw _ (List.mem_of_getElem? (i := 23) rfl))) (by decide) (t := (.array .byte)) (t' := .int) (by decide) (by decide)))
  have F_length_a1 := F_length_a1.same W
  have N := Fr.snoc X N g_a1
  have K := K.wr W (Or.inl (List.mem_of_getElem? (i := 0) rfl))
  have Zs := Nat.le_trans Zs (Keep.of_wr W).1
  refine own_lloadN X hx hby q2 d3_28 rfl 29 rfl ?_
  refine own_iloadN X hx hby (16 : Int32) d3_29 rfl 30 rfl ?_
  refine own_lushr X hx hby d3_30 31 rfl ?_
  refine own_l2i X hx hby d3_31 32 rfl ?_
  refine own_i2b X hx hby d3_32 33 rfl ?_
  refine own_bastore X hx hby hZ eT A_r1 (by decide) d3_33 34 rfl ?_
  intro T33 h33 X eT W A
  have E_r1 := E_r1.wr W
  have E_a1 := E_a1.wr W
  have F_bytes_a1 := F_bytes_a1.other W (Or.inl (Ne.symm ne_r1_a1))
  have F_length_a1 := F_length_a1.other W (Or.inl (Ne.symm ne_r1_a1))
  have A_r1 : Afi Z h33 r1 .byte 8 (updI (updI (updI (updI (updI (updI ar_r1 0 (nar .byte ((((q2.toUInt64 >>> ((56 : Int32) &&& 0x3f).toInt64.toUInt64).toInt64).toInt32).toInt8.toInt32))) 1 (nar .byte ((((q2.toUInt64 >>> ((48 : Int32) &&& 0x3f).toInt64.toUInt64).toInt64).toInt32).toInt8.toInt32))) 2 (nar .byte ((((q2.toUInt64 >>> ((40 : Int32) &&& 0x3f).toInt64.toUInt64).toInt64).toInt32).toInt8.toInt32))) 3 (nar .byte ((((q2.toUInt64 >>> ((32 : Int32) &&& 0x3f).toInt64.toUInt64).toInt64).toInt32).toInt8.toInt32))) 4 (nar .byte ((((q2.toUInt64 >>> ((24 : Int32) &&& 0x3f).toInt64.toUInt64).toInt64).toInt32).toInt8.toInt32))) 5 (nar .byte ((((q2.toUInt64 >>> ((16 : Int32) &&& 0x3f).toInt64.toUInt64).toInt64).toInt32).toInt8.toInt32))) := A
  have N := Fr.snoc X N g_r1
  have K := K.wr W (Or.inl (List.mem_of_getElem? (i := 1) rfl))
  have Zs := Nat.le_trans Zs (Keep.of_wr W).1
  refine own_iinc X hx hby d3_34 (x := (16 : Int32)) rfl (by decide) (l' := #[.val (.ref a1), .val (.long q2), .second, .val (.int (8 : Int32))]) rfl 37 rfl ?_
  refine own_goto X hx hby d3_37 9 (by decide) ?_
  refine own_iloadN X hx hby (8 : Int32) d3_9 rfl 10 rfl ?_
  have c10_7 : ¬ (8 : Int32) < (0 : Int32) := by decide
  refine own_if_lt X hx hby d3_10 40 13 (by decide) rfl (fun q => absurd q c10_7) (fun _ => ?_)
  refine own_aloadN X hx hby (.ref a1) d3_13 rfl rfl 14 rfl ?_
  refine own_getF X hx hby hZ hown (host := "") (Or.inl (hw _ (List.mem_of_getElem? (i := 11) rfl))) Via.refl eT F_bytes_a1 d3_14 17 rfl ?_
  intro T14 X eT
  refine own_aloadN X hx hby (.ref a1) d3_17 rfl rfl 18 rfl ?_
  refine own_dup X hx hby d3_18 rfl 19 rfl ?_
  refine own_getF X hx hby hZ hown (host := "") (Or.inl (hw _ (List.mem_of_getElem? (i := 22) rfl))) Via.refl eT F_length_a1 d3_19 22 rfl ?_
  intro T19 X eT
  refine own_dupX1 X hx hby d3_22 rfl rfl 23 rfl ?_
  refine own_iconst X hx hby (1 : Int32) d3_23 rfl 24 rfl ?_
  refine own_iadd X hx hby d3_24 25 rfl ?_
  refine own_top (v' := (.int (7 : Int32))) (congrArg Value.int (by decide)) ?_
  refine own_putF X hx hby hZ hown (host := "") (Or.inl (hw _ (List.mem_of_getElem? (i := 22) rfl))) Via.refl eT F_length_a1 E_a1 (Or.inl (hw _ (List.mem_of_getElem? (i := 23) rfl))) (hw _ (List.mem_of_getElem? (i := 2) rfl)) (ty := .int) (by decide) rfl rfl d3_25 28 rfl ?_
  intro T25 h25 X eT W
  have A_r1 := A_r1.other W ne_r1_a1
  have E_r1 := E_r1.wr W
  have E_a1 := E_a1.wr W
  have F_bytes_a1 := F_bytes_a1.other W (Or.inr (slot_ne (Or.inl (hw _ (List.mem_of_getElem? (i := 12) rfl))) (Or.inl (hw _ (List.mem_of_getElem? (i := 23) rfl))) (by decide) (t := (.array .byte)) (t' := .int) (by decide) (by decide)))
  have F_length_a1 := F_length_a1.same W
  have N := Fr.snoc X N g_a1
  have K := K.wr W (Or.inl (List.mem_of_getElem? (i := 0) rfl))
  have Zs := Nat.le_trans Zs (Keep.of_wr W).1
  refine own_lloadN X hx hby q2 d3_28 rfl 29 rfl ?_
  refine own_iloadN X hx hby (8 : Int32) d3_29 rfl 30 rfl ?_
  refine own_lushr X hx hby d3_30 31 rfl ?_
  refine own_l2i X hx hby d3_31 32 rfl ?_
  refine own_i2b X hx hby d3_32 33 rfl ?_
  refine own_bastore X hx hby hZ eT A_r1 (by decide) d3_33 34 rfl ?_
  intro T33 h33 X eT W A
  have E_r1 := E_r1.wr W
  have E_a1 := E_a1.wr W
  have F_bytes_a1 := F_bytes_a1.other W (Or.inl (Ne.symm ne_r1_a1))
  have F_length_a1 := F_length_a1.other W (Or.inl (Ne.symm ne_r1_a1))
  have A_r1 : Afi Z h33 r1 .byte 8 (updI (updI (updI (updI (updI (updI (updI ar_r1 0 (nar .byte ((((q2.toUInt64 >>> ((56 : Int32) &&& 0x3f).toInt64.toUInt64).toInt64).toInt32).toInt8.toInt32))) 1 (nar .byte ((((q2.toUInt64 >>> ((48 : Int32) &&& 0x3f).toInt64.toUInt64).toInt64).toInt32).toInt8.toInt32))) 2 (nar .byte ((((q2.toUInt64 >>> ((40 : Int32) &&& 0x3f).toInt64.toUInt64).toInt64).toInt32).toInt8.toInt32))) 3 (nar .byte ((((q2.toUInt64 >>> ((32 : Int32) &&& 0x3f).toInt64.toUInt64).toInt64).toInt32).toInt8.toInt32))) 4 (nar .byte ((((q2.toUInt64 >>> ((24 : Int32) &&& 0x3f).toInt64.toUInt64).toInt64).toInt32).toInt8.toInt32))) 5 (nar .byte ((((q2.toUInt64 >>> ((16 : Int32) &&& 0x3f).toInt64.toUInt64).toInt64).toInt32).toInt8.toInt32))) 6 (nar .byte ((((q2.toUInt64 >>> ((8 : Int32) &&& 0x3f).toInt64.toUInt64).toInt64).toInt32).toInt8.toInt32))) := A
  have N := Fr.snoc X N g_r1
  have K := K.wr W (Or.inl (List.mem_of_getElem? (i := 1) rfl))
  have Zs := Nat.le_trans Zs (Keep.of_wr W).1
  refine own_iinc X hx hby d3_34 (x := (8 : Int32)) rfl (by decide) (l' := #[.val (.ref a1), .val (.long q2), .second, .val (.int (0 : Int32))]) rfl 37 rfl ?_
  refine own_goto X hx hby d3_37 9 (by decide) ?_
  refine own_iloadN X hx hby (0 : Int32) d3_9 rfl 10 rfl ?_
  have c10_8 : ¬ (0 : Int32) < (0 : Int32) := by decide
  refine own_if_lt X hx hby d3_10 40 13 (by decide) rfl (fun q => absurd q c10_8) (fun _ => ?_)
  refine own_aloadN X hx hby (.ref a1) d3_13 rfl rfl 14 rfl ?_
  refine own_getF X hx hby hZ hown (host := "") (Or.inl (hw _ (List.mem_of_getElem? (i := 11) rfl))) Via.refl eT F_bytes_a1 d3_14 17 rfl ?_
  intro T14 X eT
  refine own_aloadN X hx hby (.ref a1) d3_17 rfl rfl 18 rfl ?_
  refine own_dup X hx hby d3_18 rfl 19 rfl ?_
  refine own_getF X hx hby hZ hown (host := "") (Or.inl (hw _ (List.mem_of_getElem? (i := 22) rfl))) Via.refl eT F_length_a1 d3_19 22 rfl ?_
  intro T19 X eT
  refine own_dupX1 X hx hby d3_22 rfl rfl 23 rfl ?_
  refine own_iconst X hx hby (1 : Int32) d3_23 rfl 24 rfl ?_
  refine own_iadd X hx hby d3_24 25 rfl ?_
  refine own_top (v' := (.int (8 : Int32))) (congrArg Value.int (by decide)) ?_
  refine own_putF X hx hby hZ hown (host := "") (Or.inl (hw _ (List.mem_of_getElem? (i := 22) rfl))) Via.refl eT F_length_a1 E_a1 (Or.inl (hw _ (List.mem_of_getElem? (i := 23) rfl))) (hw _ (List.mem_of_getElem? (i := 2) rfl)) (ty := .int) (by decide) rfl rfl d3_25 28 rfl ?_
  intro T25 h25 X eT W
  have A_r1 := A_r1.other W ne_r1_a1
  have E_r1 := E_r1.wr W
  have E_a1 := E_a1.wr W
  have F_bytes_a1 := F_bytes_a1.other W (Or.inr (slot_ne (Or.inl (hw _ (List.mem_of_getElem? (i := 12) rfl))) (Or.inl (hw _ (List.mem_of_getElem? (i := 23) rfl))) (by decide) (t := (.array .byte)) (t' := .int) (by decide) (by decide)))
  have F_length_a1 := F_length_a1.same W
  have N := Fr.snoc X N g_a1
  have K := K.wr W (Or.inl (List.mem_of_getElem? (i := 0) rfl))
  have Zs := Nat.le_trans Zs (Keep.of_wr W).1
  refine own_lloadN X hx hby q2 d3_28 rfl 29 rfl ?_
  refine own_iloadN X hx hby (0 : Int32) d3_29 rfl 30 rfl ?_
  refine own_lushr X hx hby d3_30 31 rfl ?_
  refine own_l2i X hx hby d3_31 32 rfl ?_
  refine own_i2b X hx hby d3_32 33 rfl ?_
  refine own_bastore X hx hby hZ eT A_r1 (by decide) d3_33 34 rfl ?_
  intro T33 h33 X eT W A
  have E_r1 := E_r1.wr W
  have E_a1 := E_a1.wr W
  have F_bytes_a1 := F_bytes_a1.other W (Or.inl (Ne.symm ne_r1_a1))
  have F_length_a1 := F_length_a1.other W (Or.inl (Ne.symm ne_r1_a1))
  have A_r1 : Afi Z h33 r1 .byte 8 (updI (updI (updI (updI (updI (updI (updI (updI ar_r1 0 (nar .byte ((((q2.toUInt64 >>> ((56 : Int32) &&& 0x3f).toInt64.toUInt64).toInt64).toInt32).toInt8.toInt32))) 1 (nar .byte ((((q2.toUInt64 >>> ((48 : Int32) &&& 0x3f).toInt64.toUInt64).toInt64).toInt32).toInt8.toInt32))) 2 (nar .byte ((((q2.toUInt64 >>> ((40 : Int32) &&& 0x3f).toInt64.toUInt64).toInt64).toInt32).toInt8.toInt32))) 3 (nar .byte ((((q2.toUInt64 >>> ((32 : Int32) &&& 0x3f).toInt64.toUInt64).toInt64).toInt32).toInt8.toInt32))) 4 (nar .byte ((((q2.toUInt64 >>> ((24 : Int32) &&& 0x3f).toInt64.toUInt64).toInt64).toInt32).toInt8.toInt32))) 5 (nar .byte ((((q2.toUInt64 >>> ((16 : Int32) &&& 0x3f).toInt64.toUInt64).toInt64).toInt32).toInt8.toInt32))) 6 (nar .byte ((((q2.toUInt64 >>> ((8 : Int32) &&& 0x3f).toInt64.toUInt64).toInt64).toInt32).toInt8.toInt32))) 7 (nar .byte ((((q2.toUInt64 >>> ((0 : Int32) &&& 0x3f).toInt64.toUInt64).toInt64).toInt32).toInt8.toInt32))) := A
  have N := Fr.snoc X N g_r1
  have K := K.wr W (Or.inl (List.mem_of_getElem? (i := 1) rfl))
  have Zs := Nat.le_trans Zs (Keep.of_wr W).1
  refine own_iinc X hx hby d3_34 (x := (0 : Int32)) rfl (by decide) (l' := #[.val (.ref a1), .val (.long q2), .second, .val (.int (-8 : Int32))]) rfl 37 rfl ?_
  refine own_goto X hx hby d3_37 9 (by decide) ?_
  refine own_iloadN X hx hby (-8 : Int32) d3_9 rfl 10 rfl ?_
  have c10_9 : (-8 : Int32) < (0 : Int32) := by decide
  refine own_if_lt X hx hby d3_10 40 13 (by decide) rfl (fun _ => ?_) (fun q => absurd c10_9 q)
  refine own_ret X hx hby hret hlk d3_40 (by decide) (by decide) ?_
  rw [eT]
  exact ⟨rfl, N, K, E_a1, F_bytes_a1, F_length_a1, A_r1, E_r1⟩
theorem ef_5_0 (a1 : Addr) (p3 : Int32) (m : MethodId) : entryFrame m #[(.ref a1), (.int (0 : Int32)), (.int p3)] 5 = mkF m 0 #[.val (.ref a1), .val (.int (0 : Int32)), .val (.int p3), .unset, .unset] [] := by first | (simp [entryFrame, mkF, argsToLocals, Value.category]; done) | rfl
def Q5_0 (Z : State) (a1 : Addr) (p3 : Int32) (r1 : Addr) (ar_r1 : Nat → Int32) (w_length_a1 : Int32) (h0 : Heap) (n0 : Nat) (v : Option Value) (h : Heap) (L : List Loc) : Prop := v = none ∧ Fr n0 L ∧ Keep h0 h [r1] ∧ Afi Z h r1 .byte 8 (updI (updI (updI (updI ar_r1 0 (nar .byte (((p3.toUInt32 >>> ((0 : Int32) &&& 31).toUInt32).toInt32).toInt8.toInt32))) 1 (nar .byte (((p3.toUInt32 >>> ((8 : Int32) &&& 31).toUInt32).toInt32).toInt8.toInt32))) 2 (nar .byte (((p3.toUInt32 >>> ((16 : Int32) &&& 31).toUInt32).toInt32).toInt8.toInt32))) 3 (nar .byte (((p3.toUInt32 >>> ((24 : Int32) &&& 31).toUInt32).toInt32).toInt8.toInt32))) ∧ Exa Z h r1 "[B"
set_option maxRecDepth 65536 in
set_option maxHeartbeats 40000000 in
theorem rm5_0 (l : Launch) (Z : State) (a0 : Array Value) (hw : ∀ d ∈ tables_1, d.before a0 Z = true) (a1 : Addr) (p3 : Int32) (r1 : Addr) (ar_r1 : Nat → Int32) (w_length_a1 : Int32) (h0 : Heap) (n0 : Nat) (Zs : n0 ≤ h0.size) (A_r1 : Afi Z h0 r1 .byte 8 ar_r1) (E_r1 : Exa Z h0 r1 "[B") (g_r1 : n0 ≤ r1) (E_a1 : Exa Z h0 a1 "com/example/daylily/daylily/engine/ByteWriter") (F_bytes_a1 : Fld Z h0 a1 "com/example/daylily/daylily/engine/ByteWriter" "bytes" "[B" (.ref r1)) (F_length_a1 : Fld Z h0 a1 "com/example/daylily/daylily/engine/ByteWriter" "length" "I" (.int w_length_a1)) (g_a1 : n0 ≤ a1) :
    Met1 l Z (⟨"com/example/daylily/daylily/engine/ByteWriter", "setIntLittleEndian", "(II)V"⟩ : MethodName) prog_10_method_14_code 5 none ({ frames := 0, cells := 0, slots := 0, locals := 0 } : Room) #[(.ref a1), (.int (0 : Int32)), (.int p3)] h0 (Q5_0 Z a1 p3 r1 ar_r1 w_length_a1 h0 n0) := by
  refine own_met_of (plainFor_of_name pn_1) (ef_5_0 a1 p3) ?_
  intro p e s m below meth c s₁ X hx hby hml hZ hown hnm hret hlk eT
  have hown : s.vm.findClass "com/example/daylily/daylily/engine/ByteWriter" = some m.cls := hown
  have N := Fr.nil n0
  have K := Keep.refl h0 [r1]
  have ne_r1_a1 : r1 ≠ a1 := ne_exa E_r1 E_a1 (by decide)
  refine own_iconst X hx hby (0 : Int32) d5_0 rfl 1 rfl ?_
  refine own_istoreN X hx hby d5_1 rfl (l' := #[.val (.ref a1), .val (.int (0 : Int32)), .val (.int p3), .val (.int (0 : Int32)), .unset]) rfl 2 rfl ?_
  refine own_iloadN X hx hby (0 : Int32) d5_2 rfl 3 rfl ?_
  refine own_istore X hx hby d5_3 rfl (l' := #[.val (.ref a1), .val (.int (0 : Int32)), .val (.int p3), .val (.int (0 : Int32)), .val (.int (0 : Int32))]) rfl 5 rfl ?_
  refine own_iloadN X hx hby (0 : Int32) d5_5 rfl 6 rfl ?_
  refine own_bipush X hx hby (32 : Int32) d5_6 rfl 8 rfl ?_
  have c8 : (0 : Int32) < (32 : Int32) := by decide
  refine own_icmp_ge X hx hby d5_8 31 11 (by decide) rfl (fun q => absurd c8 q) (fun _ => ?_)
  refine own_aloadN X hx hby (.ref a1) d5_11 rfl rfl 12 rfl ?_
  refine own_getF X hx hby hZ hown (host := "") (Or.inl (hw _ (List.mem_of_getElem? (i := 11) rfl))) Via.refl eT F_bytes_a1 d5_12 15 rfl ?_
  intro T12 X eT
  refine own_iload X hx hby (0 : Int32) d5_15 rfl 17 rfl ?_
  refine own_iinc X hx hby d5_17 (x := (0 : Int32)) rfl (by decide) (l' := #[.val (.ref a1), .val (.int (0 : Int32)), .val (.int p3), .val (.int (0 : Int32)), .val (.int (1 : Int32))]) rfl 20 rfl ?_
  refine own_iloadN X hx hby p3 d5_20 rfl 21 rfl ?_
  refine own_iloadN X hx hby (0 : Int32) d5_21 rfl 22 rfl ?_
  refine own_iushr X hx hby d5_22 23 rfl ?_
  refine own_i2b X hx hby d5_23 24 rfl ?_
  refine own_bastore X hx hby hZ eT A_r1 (by decide) d5_24 25 rfl ?_
  intro T24 h24 X eT W A
  have E_r1 := E_r1.wr W
  have E_a1 := E_a1.wr W
  have F_bytes_a1 := F_bytes_a1.other W (Or.inl (Ne.symm ne_r1_a1))
  have F_length_a1 := F_length_a1.other W (Or.inl (Ne.symm ne_r1_a1))
  have A_r1 : Afi Z h24 r1 .byte 8 (updI ar_r1 0 (nar .byte (((p3.toUInt32 >>> ((0 : Int32) &&& 31).toUInt32).toInt32).toInt8.toInt32))) := A
  have N := Fr.snoc X N g_r1
  have K := K.wr W (Or.inl (List.mem_of_getElem? (i := 0) rfl))
  have Zs := Nat.le_trans Zs (Keep.of_wr W).1
  refine own_iinc X hx hby d5_25 (x := (0 : Int32)) rfl (by decide) (l' := #[.val (.ref a1), .val (.int (0 : Int32)), .val (.int p3), .val (.int (8 : Int32)), .val (.int (1 : Int32))]) rfl 28 rfl ?_
  refine own_goto X hx hby d5_28 5 (by decide) ?_
  refine own_iloadN X hx hby (8 : Int32) d5_5 rfl 6 rfl ?_
  refine own_bipush X hx hby (32 : Int32) d5_6 rfl 8 rfl ?_
  have c8_2 : (8 : Int32) < (32 : Int32) := by decide
  refine own_icmp_ge X hx hby d5_8 31 11 (by decide) rfl (fun q => absurd c8_2 q) (fun _ => ?_)
  refine own_aloadN X hx hby (.ref a1) d5_11 rfl rfl 12 rfl ?_
  refine own_getF X hx hby hZ hown (host := "") (Or.inl (hw _ (List.mem_of_getElem? (i := 11) rfl))) Via.refl eT F_bytes_a1 d5_12 15 rfl ?_
  intro T12 X eT
  refine own_iload X hx hby (1 : Int32) d5_15 rfl 17 rfl ?_
  refine own_iinc X hx hby d5_17 (x := (1 : Int32)) rfl (by decide) (l' := #[.val (.ref a1), .val (.int (0 : Int32)), .val (.int p3), .val (.int (8 : Int32)), .val (.int (2 : Int32))]) rfl 20 rfl ?_
  refine own_iloadN X hx hby p3 d5_20 rfl 21 rfl ?_
  refine own_iloadN X hx hby (8 : Int32) d5_21 rfl 22 rfl ?_
  refine own_iushr X hx hby d5_22 23 rfl ?_
  refine own_i2b X hx hby d5_23 24 rfl ?_
  refine own_bastore X hx hby hZ eT A_r1 (by decide) d5_24 25 rfl ?_
  intro T24 h24 X eT W A
  have E_r1 := E_r1.wr W
  have E_a1 := E_a1.wr W
  have F_bytes_a1 := F_bytes_a1.other W (Or.inl (Ne.symm ne_r1_a1))
  have F_length_a1 := F_length_a1.other W (Or.inl (Ne.symm ne_r1_a1))
  have A_r1 : Afi Z h24 r1 .byte 8 (updI (updI ar_r1 0 (nar .byte (((p3.toUInt32 >>> ((0 : Int32) &&& 31).toUInt32).toInt32).toInt8.toInt32))) 1 (nar .byte (((p3.toUInt32 >>> ((8 : Int32) &&& 31).toUInt32).toInt32).toInt8.toInt32))) := A
  have N := Fr.snoc X N g_r1
  have K := K.wr W (Or.inl (List.mem_of_getElem? (i := 0) rfl))
  have Zs := Nat.le_trans Zs (Keep.of_wr W).1
  refine own_iinc X hx hby d5_25 (x := (8 : Int32)) rfl (by decide) (l' := #[.val (.ref a1), .val (.int (0 : Int32)), .val (.int p3), .val (.int (16 : Int32)), .val (.int (2 : Int32))]) rfl 28 rfl ?_
  refine own_goto X hx hby d5_28 5 (by decide) ?_
  refine own_iloadN X hx hby (16 : Int32) d5_5 rfl 6 rfl ?_
  refine own_bipush X hx hby (32 : Int32) d5_6 rfl 8 rfl ?_
  have c8_3 : (16 : Int32) < (32 : Int32) := by decide
  refine own_icmp_ge X hx hby d5_8 31 11 (by decide) rfl (fun q => absurd c8_3 q) (fun _ => ?_)
  refine own_aloadN X hx hby (.ref a1) d5_11 rfl rfl 12 rfl ?_
  refine own_getF X hx hby hZ hown (host := "") (Or.inl (hw _ (List.mem_of_getElem? (i := 11) rfl))) Via.refl eT F_bytes_a1 d5_12 15 rfl ?_
  intro T12 X eT
  refine own_iload X hx hby (2 : Int32) d5_15 rfl 17 rfl ?_
  refine own_iinc X hx hby d5_17 (x := (2 : Int32)) rfl (by decide) (l' := #[.val (.ref a1), .val (.int (0 : Int32)), .val (.int p3), .val (.int (16 : Int32)), .val (.int (3 : Int32))]) rfl 20 rfl ?_
  refine own_iloadN X hx hby p3 d5_20 rfl 21 rfl ?_
  refine own_iloadN X hx hby (16 : Int32) d5_21 rfl 22 rfl ?_
  refine own_iushr X hx hby d5_22 23 rfl ?_
  refine own_i2b X hx hby d5_23 24 rfl ?_
  refine own_bastore X hx hby hZ eT A_r1 (by decide) d5_24 25 rfl ?_
  intro T24 h24 X eT W A
  have E_r1 := E_r1.wr W
  have E_a1 := E_a1.wr W
  have F_bytes_a1 := F_bytes_a1.other W (Or.inl (Ne.symm ne_r1_a1))
  have F_length_a1 := F_length_a1.other W (Or.inl (Ne.symm ne_r1_a1))
  have A_r1 : Afi Z h24 r1 .byte 8 (updI (updI (updI ar_r1 0 (nar .byte (((p3.toUInt32 >>> ((0 : Int32) &&& 31).toUInt32).toInt32).toInt8.toInt32))) 1 (nar .byte (((p3.toUInt32 >>> ((8 : Int32) &&& 31).toUInt32).toInt32).toInt8.toInt32))) 2 (nar .byte (((p3.toUInt32 >>> ((16 : Int32) &&& 31).toUInt32).toInt32).toInt8.toInt32))) := A
  have N := Fr.snoc X N g_r1
  have K := K.wr W (Or.inl (List.mem_of_getElem? (i := 0) rfl))
  have Zs := Nat.le_trans Zs (Keep.of_wr W).1
  refine own_iinc X hx hby d5_25 (x := (16 : Int32)) rfl (by decide) (l' := #[.val (.ref a1), .val (.int (0 : Int32)), .val (.int p3), .val (.int (24 : Int32)), .val (.int (3 : Int32))]) rfl 28 rfl ?_
  refine own_goto X hx hby d5_28 5 (by decide) ?_
  refine own_iloadN X hx hby (24 : Int32) d5_5 rfl 6 rfl ?_
  refine own_bipush X hx hby (32 : Int32) d5_6 rfl 8 rfl ?_
  have c8_4 : (24 : Int32) < (32 : Int32) := by decide
  refine own_icmp_ge X hx hby d5_8 31 11 (by decide) rfl (fun q => absurd c8_4 q) (fun _ => ?_)
  refine own_aloadN X hx hby (.ref a1) d5_11 rfl rfl 12 rfl ?_
  refine own_getF X hx hby hZ hown (host := "") (Or.inl (hw _ (List.mem_of_getElem? (i := 11) rfl))) Via.refl eT F_bytes_a1 d5_12 15 rfl ?_
  intro T12 X eT
  refine own_iload X hx hby (3 : Int32) d5_15 rfl 17 rfl ?_
  refine own_iinc X hx hby d5_17 (x := (3 : Int32)) rfl (by decide) (l' := #[.val (.ref a1), .val (.int (0 : Int32)), .val (.int p3), .val (.int (24 : Int32)), .val (.int (4 : Int32))]) rfl 20 rfl ?_
  refine own_iloadN X hx hby p3 d5_20 rfl 21 rfl ?_
  refine own_iloadN X hx hby (24 : Int32) d5_21 rfl 22 rfl ?_
  refine own_iushr X hx hby d5_22 23 rfl ?_
  refine own_i2b X hx hby d5_23 24 rfl ?_
  refine own_bastore X hx hby hZ eT A_r1 (by decide) d5_24 25 rfl ?_
  intro T24 h24 X eT W A
  have E_r1 := E_r1.wr W
  have E_a1 := E_a1.wr W
  have F_bytes_a1 := F_bytes_a1.other W (Or.inl (Ne.symm ne_r1_a1))
  have F_length_a1 := F_length_a1.other W (Or.inl (Ne.symm ne_r1_a1))
  have A_r1 : Afi Z h24 r1 .byte 8 (updI (updI (updI (updI ar_r1 0 (nar .byte (((p3.toUInt32 >>> ((0 : Int32) &&& 31).toUInt32).toInt32).toInt8.toInt32))) 1 (nar .byte (((p3.toUInt32 >>> ((8 : Int32) &&& 31).toUInt32).toInt32).toInt8.toInt32))) 2 (nar .byte (((p3.toUInt32 >>> ((16 : Int32) &&& 31).toUInt32).toInt32).toInt8.toInt32))) 3 (nar .byte (((p3.toUInt32 >>> ((24 : Int32) &&& 31).toUInt32).toInt32).toInt8.toInt32))) := A
  have N := Fr.snoc X N g_r1
  have K := K.wr W (Or.inl (List.mem_of_getElem? (i := 0) rfl))
  have Zs := Nat.le_trans Zs (Keep.of_wr W).1
  refine own_iinc X hx hby d5_25 (x := (24 : Int32)) rfl (by decide) (l' := #[.val (.ref a1), .val (.int (0 : Int32)), .val (.int p3), .val (.int (32 : Int32)), .val (.int (4 : Int32))]) rfl 28 rfl ?_
  refine own_goto X hx hby d5_28 5 (by decide) ?_
  refine own_iloadN X hx hby (32 : Int32) d5_5 rfl 6 rfl ?_
  refine own_bipush X hx hby (32 : Int32) d5_6 rfl 8 rfl ?_
  have c8_5 : ¬ (32 : Int32) < (32 : Int32) := by decide
  refine own_icmp_ge X hx hby d5_8 31 11 (by decide) rfl (fun _ => ?_) (fun q => absurd q c8_5)
  refine own_ret X hx hby hret hlk d5_31 (by decide) (by decide) ?_
  rw [eT]
  exact ⟨rfl, N, K, A_r1, E_r1⟩
theorem ef_5_1 (a1 : Addr) (p3 : Int32) (m : MethodId) : entryFrame m #[(.ref a1), (.int (1 : Int32)), (.int p3)] 5 = mkF m 0 #[.val (.ref a1), .val (.int (1 : Int32)), .val (.int p3), .unset, .unset] [] := by first | (simp [entryFrame, mkF, argsToLocals, Value.category]; done) | rfl
def Q5_1 (Z : State) (a1 : Addr) (p3 : Int32) (r1 : Addr) (ar_r1 : Nat → Int32) (w_length_a1 : Int32) (h0 : Heap) (n0 : Nat) (v : Option Value) (h : Heap) (L : List Loc) : Prop := v = none ∧ Fr n0 L ∧ Keep h0 h [r1] ∧ Afi Z h r1 .byte 8 (updI (updI (updI (updI ar_r1 1 (nar .byte (((p3.toUInt32 >>> ((0 : Int32) &&& 31).toUInt32).toInt32).toInt8.toInt32))) 2 (nar .byte (((p3.toUInt32 >>> ((8 : Int32) &&& 31).toUInt32).toInt32).toInt8.toInt32))) 3 (nar .byte (((p3.toUInt32 >>> ((16 : Int32) &&& 31).toUInt32).toInt32).toInt8.toInt32))) 4 (nar .byte (((p3.toUInt32 >>> ((24 : Int32) &&& 31).toUInt32).toInt32).toInt8.toInt32))) ∧ Exa Z h r1 "[B"
set_option maxRecDepth 65536 in
set_option maxHeartbeats 40000000 in
theorem rm5_1 (l : Launch) (Z : State) (a0 : Array Value) (hw : ∀ d ∈ tables_1, d.before a0 Z = true) (a1 : Addr) (p3 : Int32) (r1 : Addr) (ar_r1 : Nat → Int32) (w_length_a1 : Int32) (h0 : Heap) (n0 : Nat) (Zs : n0 ≤ h0.size) (A_r1 : Afi Z h0 r1 .byte 8 ar_r1) (E_r1 : Exa Z h0 r1 "[B") (g_r1 : n0 ≤ r1) (E_a1 : Exa Z h0 a1 "com/example/daylily/daylily/engine/ByteWriter") (F_bytes_a1 : Fld Z h0 a1 "com/example/daylily/daylily/engine/ByteWriter" "bytes" "[B" (.ref r1)) (F_length_a1 : Fld Z h0 a1 "com/example/daylily/daylily/engine/ByteWriter" "length" "I" (.int w_length_a1)) (g_a1 : n0 ≤ a1) :
    Met1 l Z (⟨"com/example/daylily/daylily/engine/ByteWriter", "setIntLittleEndian", "(II)V"⟩ : MethodName) prog_10_method_14_code 5 none ({ frames := 0, cells := 0, slots := 0, locals := 0 } : Room) #[(.ref a1), (.int (1 : Int32)), (.int p3)] h0 (Q5_1 Z a1 p3 r1 ar_r1 w_length_a1 h0 n0) := by
  refine own_met_of (plainFor_of_name pn_1) (ef_5_1 a1 p3) ?_
  intro p e s m below meth c s₁ X hx hby hml hZ hown hnm hret hlk eT
  have hown : s.vm.findClass "com/example/daylily/daylily/engine/ByteWriter" = some m.cls := hown
  have N := Fr.nil n0
  have K := Keep.refl h0 [r1]
  have ne_r1_a1 : r1 ≠ a1 := ne_exa E_r1 E_a1 (by decide)
  refine own_iconst X hx hby (0 : Int32) d5_0 rfl 1 rfl ?_
  refine own_istoreN X hx hby d5_1 rfl (l' := #[.val (.ref a1), .val (.int (1 : Int32)), .val (.int p3), .val (.int (0 : Int32)), .unset]) rfl 2 rfl ?_
  refine own_iloadN X hx hby (1 : Int32) d5_2 rfl 3 rfl ?_
  refine own_istore X hx hby d5_3 rfl (l' := #[.val (.ref a1), .val (.int (1 : Int32)), .val (.int p3), .val (.int (0 : Int32)), .val (.int (1 : Int32))]) rfl 5 rfl ?_
  refine own_iloadN X hx hby (0 : Int32) d5_5 rfl 6 rfl ?_
  refine own_bipush X hx hby (32 : Int32) d5_6 rfl 8 rfl ?_
  have c8 : (0 : Int32) < (32 : Int32) := by decide
  refine own_icmp_ge X hx hby d5_8 31 11 (by decide) rfl (fun q => absurd c8 q) (fun _ => ?_)
  refine own_aloadN X hx hby (.ref a1) d5_11 rfl rfl 12 rfl ?_
  refine own_getF X hx hby hZ hown (host := "") (Or.inl (hw _ (List.mem_of_getElem? (i := 11) rfl))) Via.refl eT F_bytes_a1 d5_12 15 rfl ?_
  intro T12 X eT
  refine own_iload X hx hby (1 : Int32) d5_15 rfl 17 rfl ?_
  refine own_iinc X hx hby d5_17 (x := (1 : Int32)) rfl (by decide) (l' := #[.val (.ref a1), .val (.int (1 : Int32)), .val (.int p3), .val (.int (0 : Int32)), .val (.int (2 : Int32))]) rfl 20 rfl ?_
  refine own_iloadN X hx hby p3 d5_20 rfl 21 rfl ?_
  refine own_iloadN X hx hby (0 : Int32) d5_21 rfl 22 rfl ?_
  refine own_iushr X hx hby d5_22 23 rfl ?_
  refine own_i2b X hx hby d5_23 24 rfl ?_
  refine own_bastore X hx hby hZ eT A_r1 (by decide) d5_24 25 rfl ?_
  intro T24 h24 X eT W A
  have E_r1 := E_r1.wr W
  have E_a1 := E_a1.wr W
  have F_bytes_a1 := F_bytes_a1.other W (Or.inl (Ne.symm ne_r1_a1))
  have F_length_a1 := F_length_a1.other W (Or.inl (Ne.symm ne_r1_a1))
  have A_r1 : Afi Z h24 r1 .byte 8 (updI ar_r1 1 (nar .byte (((p3.toUInt32 >>> ((0 : Int32) &&& 31).toUInt32).toInt32).toInt8.toInt32))) := A
  have N := Fr.snoc X N g_r1
  have K := K.wr W (Or.inl (List.mem_of_getElem? (i := 0) rfl))
  have Zs := Nat.le_trans Zs (Keep.of_wr W).1
  refine own_iinc X hx hby d5_25 (x := (0 : Int32)) rfl (by decide) (l' := #[.val (.ref a1), .val (.int (1 : Int32)), .val (.int p3), .val (.int (8 : Int32)), .val (.int (2 : Int32))]) rfl 28 rfl ?_
  refine own_goto X hx hby d5_28 5 (by decide) ?_
  refine own_iloadN X hx hby (8 : Int32) d5_5 rfl 6 rfl ?_
  refine own_bipush X hx hby (32 : Int32) d5_6 rfl 8 rfl ?_
  have c8_2 : (8 : Int32) < (32 : Int32) := by decide
  refine own_icmp_ge X hx hby d5_8 31 11 (by decide) rfl (fun q => absurd c8_2 q) (fun _ => ?_)
  refine own_aloadN X hx hby (.ref a1) d5_11 rfl rfl 12 rfl ?_
  refine own_getF X hx hby hZ hown (host := "") (Or.inl (hw _ (List.mem_of_getElem? (i := 11) rfl))) Via.refl eT F_bytes_a1 d5_12 15 rfl ?_
  intro T12 X eT
  refine own_iload X hx hby (2 : Int32) d5_15 rfl 17 rfl ?_
  refine own_iinc X hx hby d5_17 (x := (2 : Int32)) rfl (by decide) (l' := #[.val (.ref a1), .val (.int (1 : Int32)), .val (.int p3), .val (.int (8 : Int32)), .val (.int (3 : Int32))]) rfl 20 rfl ?_
  refine own_iloadN X hx hby p3 d5_20 rfl 21 rfl ?_
  refine own_iloadN X hx hby (8 : Int32) d5_21 rfl 22 rfl ?_
  refine own_iushr X hx hby d5_22 23 rfl ?_
  refine own_i2b X hx hby d5_23 24 rfl ?_
  refine own_bastore X hx hby hZ eT A_r1 (by decide) d5_24 25 rfl ?_
  intro T24 h24 X eT W A
  have E_r1 := E_r1.wr W
  have E_a1 := E_a1.wr W
  have F_bytes_a1 := F_bytes_a1.other W (Or.inl (Ne.symm ne_r1_a1))
  have F_length_a1 := F_length_a1.other W (Or.inl (Ne.symm ne_r1_a1))
  have A_r1 : Afi Z h24 r1 .byte 8 (updI (updI ar_r1 1 (nar .byte (((p3.toUInt32 >>> ((0 : Int32) &&& 31).toUInt32).toInt32).toInt8.toInt32))) 2 (nar .byte (((p3.toUInt32 >>> ((8 : Int32) &&& 31).toUInt32).toInt32).toInt8.toInt32))) := A
  have N := Fr.snoc X N g_r1
  have K := K.wr W (Or.inl (List.mem_of_getElem? (i := 0) rfl))
  have Zs := Nat.le_trans Zs (Keep.of_wr W).1
  refine own_iinc X hx hby d5_25 (x := (8 : Int32)) rfl (by decide) (l' := #[.val (.ref a1), .val (.int (1 : Int32)), .val (.int p3), .val (.int (16 : Int32)), .val (.int (3 : Int32))]) rfl 28 rfl ?_
  refine own_goto X hx hby d5_28 5 (by decide) ?_
  refine own_iloadN X hx hby (16 : Int32) d5_5 rfl 6 rfl ?_
  refine own_bipush X hx hby (32 : Int32) d5_6 rfl 8 rfl ?_
  have c8_3 : (16 : Int32) < (32 : Int32) := by decide
  refine own_icmp_ge X hx hby d5_8 31 11 (by decide) rfl (fun q => absurd c8_3 q) (fun _ => ?_)
  refine own_aloadN X hx hby (.ref a1) d5_11 rfl rfl 12 rfl ?_
  refine own_getF X hx hby hZ hown (host := "") (Or.inl (hw _ (List.mem_of_getElem? (i := 11) rfl))) Via.refl eT F_bytes_a1 d5_12 15 rfl ?_
  intro T12 X eT
  refine own_iload X hx hby (3 : Int32) d5_15 rfl 17 rfl ?_
  refine own_iinc X hx hby d5_17 (x := (3 : Int32)) rfl (by decide) (l' := #[.val (.ref a1), .val (.int (1 : Int32)), .val (.int p3), .val (.int (16 : Int32)), .val (.int (4 : Int32))]) rfl 20 rfl ?_
  refine own_iloadN X hx hby p3 d5_20 rfl 21 rfl ?_
  refine own_iloadN X hx hby (16 : Int32) d5_21 rfl 22 rfl ?_
  refine own_iushr X hx hby d5_22 23 rfl ?_
  refine own_i2b X hx hby d5_23 24 rfl ?_
  refine own_bastore X hx hby hZ eT A_r1 (by decide) d5_24 25 rfl ?_
  intro T24 h24 X eT W A
  have E_r1 := E_r1.wr W
  have E_a1 := E_a1.wr W
  have F_bytes_a1 := F_bytes_a1.other W (Or.inl (Ne.symm ne_r1_a1))
  have F_length_a1 := F_length_a1.other W (Or.inl (Ne.symm ne_r1_a1))
  have A_r1 : Afi Z h24 r1 .byte 8 (updI (updI (updI ar_r1 1 (nar .byte (((p3.toUInt32 >>> ((0 : Int32) &&& 31).toUInt32).toInt32).toInt8.toInt32))) 2 (nar .byte (((p3.toUInt32 >>> ((8 : Int32) &&& 31).toUInt32).toInt32).toInt8.toInt32))) 3 (nar .byte (((p3.toUInt32 >>> ((16 : Int32) &&& 31).toUInt32).toInt32).toInt8.toInt32))) := A
  have N := Fr.snoc X N g_r1
  have K := K.wr W (Or.inl (List.mem_of_getElem? (i := 0) rfl))
  have Zs := Nat.le_trans Zs (Keep.of_wr W).1
  refine own_iinc X hx hby d5_25 (x := (16 : Int32)) rfl (by decide) (l' := #[.val (.ref a1), .val (.int (1 : Int32)), .val (.int p3), .val (.int (24 : Int32)), .val (.int (4 : Int32))]) rfl 28 rfl ?_
  refine own_goto X hx hby d5_28 5 (by decide) ?_
  refine own_iloadN X hx hby (24 : Int32) d5_5 rfl 6 rfl ?_
  refine own_bipush X hx hby (32 : Int32) d5_6 rfl 8 rfl ?_
  have c8_4 : (24 : Int32) < (32 : Int32) := by decide
  refine own_icmp_ge X hx hby d5_8 31 11 (by decide) rfl (fun q => absurd c8_4 q) (fun _ => ?_)
  refine own_aloadN X hx hby (.ref a1) d5_11 rfl rfl 12 rfl ?_
  refine own_getF X hx hby hZ hown (host := "") (Or.inl (hw _ (List.mem_of_getElem? (i := 11) rfl))) Via.refl eT F_bytes_a1 d5_12 15 rfl ?_
  intro T12 X eT
  refine own_iload X hx hby (4 : Int32) d5_15 rfl 17 rfl ?_
  refine own_iinc X hx hby d5_17 (x := (4 : Int32)) rfl (by decide) (l' := #[.val (.ref a1), .val (.int (1 : Int32)), .val (.int p3), .val (.int (24 : Int32)), .val (.int (5 : Int32))]) rfl 20 rfl ?_
  refine own_iloadN X hx hby p3 d5_20 rfl 21 rfl ?_
  refine own_iloadN X hx hby (24 : Int32) d5_21 rfl 22 rfl ?_
  refine own_iushr X hx hby d5_22 23 rfl ?_
  refine own_i2b X hx hby d5_23 24 rfl ?_
  refine own_bastore X hx hby hZ eT A_r1 (by decide) d5_24 25 rfl ?_
  intro T24 h24 X eT W A
  have E_r1 := E_r1.wr W
  have E_a1 := E_a1.wr W
  have F_bytes_a1 := F_bytes_a1.other W (Or.inl (Ne.symm ne_r1_a1))
  have F_length_a1 := F_length_a1.other W (Or.inl (Ne.symm ne_r1_a1))
  have A_r1 : Afi Z h24 r1 .byte 8 (updI (updI (updI (updI ar_r1 1 (nar .byte (((p3.toUInt32 >>> ((0 : Int32) &&& 31).toUInt32).toInt32).toInt8.toInt32))) 2 (nar .byte (((p3.toUInt32 >>> ((8 : Int32) &&& 31).toUInt32).toInt32).toInt8.toInt32))) 3 (nar .byte (((p3.toUInt32 >>> ((16 : Int32) &&& 31).toUInt32).toInt32).toInt8.toInt32))) 4 (nar .byte (((p3.toUInt32 >>> ((24 : Int32) &&& 31).toUInt32).toInt32).toInt8.toInt32))) := A
  have N := Fr.snoc X N g_r1
  have K := K.wr W (Or.inl (List.mem_of_getElem? (i := 0) rfl))
  have Zs := Nat.le_trans Zs (Keep.of_wr W).1
  refine own_iinc X hx hby d5_25 (x := (24 : Int32)) rfl (by decide) (l' := #[.val (.ref a1), .val (.int (1 : Int32)), .val (.int p3), .val (.int (32 : Int32)), .val (.int (5 : Int32))]) rfl 28 rfl ?_
  refine own_goto X hx hby d5_28 5 (by decide) ?_
  refine own_iloadN X hx hby (32 : Int32) d5_5 rfl 6 rfl ?_
  refine own_bipush X hx hby (32 : Int32) d5_6 rfl 8 rfl ?_
  have c8_5 : ¬ (32 : Int32) < (32 : Int32) := by decide
  refine own_icmp_ge X hx hby d5_8 31 11 (by decide) rfl (fun _ => ?_) (fun q => absurd q c8_5)
  refine own_ret X hx hby hret hlk d5_31 (by decide) (by decide) ?_
  rw [eT]
  exact ⟨rfl, N, K, A_r1, E_r1⟩
theorem ef_5_2 (a1 : Addr) (p3 : Int32) (m : MethodId) : entryFrame m #[(.ref a1), (.int (2 : Int32)), (.int p3)] 5 = mkF m 0 #[.val (.ref a1), .val (.int (2 : Int32)), .val (.int p3), .unset, .unset] [] := by first | (simp [entryFrame, mkF, argsToLocals, Value.category]; done) | rfl
def Q5_2 (Z : State) (a1 : Addr) (p3 : Int32) (r1 : Addr) (ar_r1 : Nat → Int32) (w_length_a1 : Int32) (h0 : Heap) (n0 : Nat) (v : Option Value) (h : Heap) (L : List Loc) : Prop := v = none ∧ Fr n0 L ∧ Keep h0 h [r1] ∧ Afi Z h r1 .byte 8 (updI (updI (updI (updI ar_r1 2 (nar .byte (((p3.toUInt32 >>> ((0 : Int32) &&& 31).toUInt32).toInt32).toInt8.toInt32))) 3 (nar .byte (((p3.toUInt32 >>> ((8 : Int32) &&& 31).toUInt32).toInt32).toInt8.toInt32))) 4 (nar .byte (((p3.toUInt32 >>> ((16 : Int32) &&& 31).toUInt32).toInt32).toInt8.toInt32))) 5 (nar .byte (((p3.toUInt32 >>> ((24 : Int32) &&& 31).toUInt32).toInt32).toInt8.toInt32))) ∧ Exa Z h r1 "[B"
set_option maxRecDepth 65536 in
set_option maxHeartbeats 40000000 in
theorem rm5_2 (l : Launch) (Z : State) (a0 : Array Value) (hw : ∀ d ∈ tables_1, d.before a0 Z = true) (a1 : Addr) (p3 : Int32) (r1 : Addr) (ar_r1 : Nat → Int32) (w_length_a1 : Int32) (h0 : Heap) (n0 : Nat) (Zs : n0 ≤ h0.size) (A_r1 : Afi Z h0 r1 .byte 8 ar_r1) (E_r1 : Exa Z h0 r1 "[B") (g_r1 : n0 ≤ r1) (E_a1 : Exa Z h0 a1 "com/example/daylily/daylily/engine/ByteWriter") (F_bytes_a1 : Fld Z h0 a1 "com/example/daylily/daylily/engine/ByteWriter" "bytes" "[B" (.ref r1)) (F_length_a1 : Fld Z h0 a1 "com/example/daylily/daylily/engine/ByteWriter" "length" "I" (.int w_length_a1)) (g_a1 : n0 ≤ a1) :
    Met1 l Z (⟨"com/example/daylily/daylily/engine/ByteWriter", "setIntLittleEndian", "(II)V"⟩ : MethodName) prog_10_method_14_code 5 none ({ frames := 0, cells := 0, slots := 0, locals := 0 } : Room) #[(.ref a1), (.int (2 : Int32)), (.int p3)] h0 (Q5_2 Z a1 p3 r1 ar_r1 w_length_a1 h0 n0) := by
  refine own_met_of (plainFor_of_name pn_1) (ef_5_2 a1 p3) ?_
  intro p e s m below meth c s₁ X hx hby hml hZ hown hnm hret hlk eT
  have hown : s.vm.findClass "com/example/daylily/daylily/engine/ByteWriter" = some m.cls := hown
  have N := Fr.nil n0
  have K := Keep.refl h0 [r1]
  have ne_r1_a1 : r1 ≠ a1 := ne_exa E_r1 E_a1 (by decide)
  refine own_iconst X hx hby (0 : Int32) d5_0 rfl 1 rfl ?_
  refine own_istoreN X hx hby d5_1 rfl (l' := #[.val (.ref a1), .val (.int (2 : Int32)), .val (.int p3), .val (.int (0 : Int32)), .unset]) rfl 2 rfl ?_
  refine own_iloadN X hx hby (2 : Int32) d5_2 rfl 3 rfl ?_
  refine own_istore X hx hby d5_3 rfl (l' := #[.val (.ref a1), .val (.int (2 : Int32)), .val (.int p3), .val (.int (0 : Int32)), .val (.int (2 : Int32))]) rfl 5 rfl ?_
  refine own_iloadN X hx hby (0 : Int32) d5_5 rfl 6 rfl ?_
  refine own_bipush X hx hby (32 : Int32) d5_6 rfl 8 rfl ?_
  have c8 : (0 : Int32) < (32 : Int32) := by decide
  refine own_icmp_ge X hx hby d5_8 31 11 (by decide) rfl (fun q => absurd c8 q) (fun _ => ?_)
  refine own_aloadN X hx hby (.ref a1) d5_11 rfl rfl 12 rfl ?_
  refine own_getF X hx hby hZ hown (host := "") (Or.inl (hw _ (List.mem_of_getElem? (i := 11) rfl))) Via.refl eT F_bytes_a1 d5_12 15 rfl ?_
  intro T12 X eT
  refine own_iload X hx hby (2 : Int32) d5_15 rfl 17 rfl ?_
  refine own_iinc X hx hby d5_17 (x := (2 : Int32)) rfl (by decide) (l' := #[.val (.ref a1), .val (.int (2 : Int32)), .val (.int p3), .val (.int (0 : Int32)), .val (.int (3 : Int32))]) rfl 20 rfl ?_
  refine own_iloadN X hx hby p3 d5_20 rfl 21 rfl ?_
  refine own_iloadN X hx hby (0 : Int32) d5_21 rfl 22 rfl ?_
  refine own_iushr X hx hby d5_22 23 rfl ?_
  refine own_i2b X hx hby d5_23 24 rfl ?_
  refine own_bastore X hx hby hZ eT A_r1 (by decide) d5_24 25 rfl ?_
  intro T24 h24 X eT W A
  have E_r1 := E_r1.wr W
  have E_a1 := E_a1.wr W
  have F_bytes_a1 := F_bytes_a1.other W (Or.inl (Ne.symm ne_r1_a1))
  have F_length_a1 := F_length_a1.other W (Or.inl (Ne.symm ne_r1_a1))
  have A_r1 : Afi Z h24 r1 .byte 8 (updI ar_r1 2 (nar .byte (((p3.toUInt32 >>> ((0 : Int32) &&& 31).toUInt32).toInt32).toInt8.toInt32))) := A
  have N := Fr.snoc X N g_r1
  have K := K.wr W (Or.inl (List.mem_of_getElem? (i := 0) rfl))
  have Zs := Nat.le_trans Zs (Keep.of_wr W).1
  refine own_iinc X hx hby d5_25 (x := (0 : Int32)) rfl (by decide) (l' := #[.val (.ref a1), .val (.int (2 : Int32)), .val (.int p3), .val (.int (8 : Int32)), .val (.int (3 : Int32))]) rfl 28 rfl ?_
  refine own_goto X hx hby d5_28 5 (by decide) ?_
  refine own_iloadN X hx hby (8 : Int32) d5_5 rfl 6 rfl ?_
  refine own_bipush X hx hby (32 : Int32) d5_6 rfl 8 rfl ?_
  have c8_2 : (8 : Int32) < (32 : Int32) := by decide
  refine own_icmp_ge X hx hby d5_8 31 11 (by decide) rfl (fun q => absurd c8_2 q) (fun _ => ?_)
  refine own_aloadN X hx hby (.ref a1) d5_11 rfl rfl 12 rfl ?_
  refine own_getF X hx hby hZ hown (host := "") (Or.inl (hw _ (List.mem_of_getElem? (i := 11) rfl))) Via.refl eT F_bytes_a1 d5_12 15 rfl ?_
  intro T12 X eT
  refine own_iload X hx hby (3 : Int32) d5_15 rfl 17 rfl ?_
  refine own_iinc X hx hby d5_17 (x := (3 : Int32)) rfl (by decide) (l' := #[.val (.ref a1), .val (.int (2 : Int32)), .val (.int p3), .val (.int (8 : Int32)), .val (.int (4 : Int32))]) rfl 20 rfl ?_
  refine own_iloadN X hx hby p3 d5_20 rfl 21 rfl ?_
  refine own_iloadN X hx hby (8 : Int32) d5_21 rfl 22 rfl ?_
  refine own_iushr X hx hby d5_22 23 rfl ?_
  refine own_i2b X hx hby d5_23 24 rfl ?_
  refine own_bastore X hx hby hZ eT A_r1 (by decide) d5_24 25 rfl ?_
  intro T24 h24 X eT W A
  have E_r1 := E_r1.wr W
  have E_a1 := E_a1.wr W
  have F_bytes_a1 := F_bytes_a1.other W (Or.inl (Ne.symm ne_r1_a1))
  have F_length_a1 := F_length_a1.other W (Or.inl (Ne.symm ne_r1_a1))
  have A_r1 : Afi Z h24 r1 .byte 8 (updI (updI ar_r1 2 (nar .byte (((p3.toUInt32 >>> ((0 : Int32) &&& 31).toUInt32).toInt32).toInt8.toInt32))) 3 (nar .byte (((p3.toUInt32 >>> ((8 : Int32) &&& 31).toUInt32).toInt32).toInt8.toInt32))) := A
  have N := Fr.snoc X N g_r1
  have K := K.wr W (Or.inl (List.mem_of_getElem? (i := 0) rfl))
  have Zs := Nat.le_trans Zs (Keep.of_wr W).1
  refine own_iinc X hx hby d5_25 (x := (8 : Int32)) rfl (by decide) (l' := #[.val (.ref a1), .val (.int (2 : Int32)), .val (.int p3), .val (.int (16 : Int32)), .val (.int (4 : Int32))]) rfl 28 rfl ?_
  refine own_goto X hx hby d5_28 5 (by decide) ?_
  refine own_iloadN X hx hby (16 : Int32) d5_5 rfl 6 rfl ?_
  refine own_bipush X hx hby (32 : Int32) d5_6 rfl 8 rfl ?_
  have c8_3 : (16 : Int32) < (32 : Int32) := by decide
  refine own_icmp_ge X hx hby d5_8 31 11 (by decide) rfl (fun q => absurd c8_3 q) (fun _ => ?_)
  refine own_aloadN X hx hby (.ref a1) d5_11 rfl rfl 12 rfl ?_
  refine own_getF X hx hby hZ hown (host := "") (Or.inl (hw _ (List.mem_of_getElem? (i := 11) rfl))) Via.refl eT F_bytes_a1 d5_12 15 rfl ?_
  intro T12 X eT
  refine own_iload X hx hby (4 : Int32) d5_15 rfl 17 rfl ?_
  refine own_iinc X hx hby d5_17 (x := (4 : Int32)) rfl (by decide) (l' := #[.val (.ref a1), .val (.int (2 : Int32)), .val (.int p3), .val (.int (16 : Int32)), .val (.int (5 : Int32))]) rfl 20 rfl ?_
  refine own_iloadN X hx hby p3 d5_20 rfl 21 rfl ?_
  refine own_iloadN X hx hby (16 : Int32) d5_21 rfl 22 rfl ?_
  refine own_iushr X hx hby d5_22 23 rfl ?_
  refine own_i2b X hx hby d5_23 24 rfl ?_
  refine own_bastore X hx hby hZ eT A_r1 (by decide) d5_24 25 rfl ?_
  intro T24 h24 X eT W A
  have E_r1 := E_r1.wr W
  have E_a1 := E_a1.wr W
  have F_bytes_a1 := F_bytes_a1.other W (Or.inl (Ne.symm ne_r1_a1))
  have F_length_a1 := F_length_a1.other W (Or.inl (Ne.symm ne_r1_a1))
  have A_r1 : Afi Z h24 r1 .byte 8 (updI (updI (updI ar_r1 2 (nar .byte (((p3.toUInt32 >>> ((0 : Int32) &&& 31).toUInt32).toInt32).toInt8.toInt32))) 3 (nar .byte (((p3.toUInt32 >>> ((8 : Int32) &&& 31).toUInt32).toInt32).toInt8.toInt32))) 4 (nar .byte (((p3.toUInt32 >>> ((16 : Int32) &&& 31).toUInt32).toInt32).toInt8.toInt32))) := A
  have N := Fr.snoc X N g_r1
  have K := K.wr W (Or.inl (List.mem_of_getElem? (i := 0) rfl))
  have Zs := Nat.le_trans Zs (Keep.of_wr W).1
  refine own_iinc X hx hby d5_25 (x := (16 : Int32)) rfl (by decide) (l' := #[.val (.ref a1), .val (.int (2 : Int32)), .val (.int p3), .val (.int (24 : Int32)), .val (.int (5 : Int32))]) rfl 28 rfl ?_
  refine own_goto X hx hby d5_28 5 (by decide) ?_
  refine own_iloadN X hx hby (24 : Int32) d5_5 rfl 6 rfl ?_
  refine own_bipush X hx hby (32 : Int32) d5_6 rfl 8 rfl ?_
  have c8_4 : (24 : Int32) < (32 : Int32) := by decide
  refine own_icmp_ge X hx hby d5_8 31 11 (by decide) rfl (fun q => absurd c8_4 q) (fun _ => ?_)
  refine own_aloadN X hx hby (.ref a1) d5_11 rfl rfl 12 rfl ?_
  refine own_getF X hx hby hZ hown (host := "") (Or.inl (hw _ (List.mem_of_getElem? (i := 11) rfl))) Via.refl eT F_bytes_a1 d5_12 15 rfl ?_
  intro T12 X eT
  refine own_iload X hx hby (5 : Int32) d5_15 rfl 17 rfl ?_
  refine own_iinc X hx hby d5_17 (x := (5 : Int32)) rfl (by decide) (l' := #[.val (.ref a1), .val (.int (2 : Int32)), .val (.int p3), .val (.int (24 : Int32)), .val (.int (6 : Int32))]) rfl 20 rfl ?_
  refine own_iloadN X hx hby p3 d5_20 rfl 21 rfl ?_
  refine own_iloadN X hx hby (24 : Int32) d5_21 rfl 22 rfl ?_
  refine own_iushr X hx hby d5_22 23 rfl ?_
  refine own_i2b X hx hby d5_23 24 rfl ?_
  refine own_bastore X hx hby hZ eT A_r1 (by decide) d5_24 25 rfl ?_
  intro T24 h24 X eT W A
  have E_r1 := E_r1.wr W
  have E_a1 := E_a1.wr W
  have F_bytes_a1 := F_bytes_a1.other W (Or.inl (Ne.symm ne_r1_a1))
  have F_length_a1 := F_length_a1.other W (Or.inl (Ne.symm ne_r1_a1))
  have A_r1 : Afi Z h24 r1 .byte 8 (updI (updI (updI (updI ar_r1 2 (nar .byte (((p3.toUInt32 >>> ((0 : Int32) &&& 31).toUInt32).toInt32).toInt8.toInt32))) 3 (nar .byte (((p3.toUInt32 >>> ((8 : Int32) &&& 31).toUInt32).toInt32).toInt8.toInt32))) 4 (nar .byte (((p3.toUInt32 >>> ((16 : Int32) &&& 31).toUInt32).toInt32).toInt8.toInt32))) 5 (nar .byte (((p3.toUInt32 >>> ((24 : Int32) &&& 31).toUInt32).toInt32).toInt8.toInt32))) := A
  have N := Fr.snoc X N g_r1
  have K := K.wr W (Or.inl (List.mem_of_getElem? (i := 0) rfl))
  have Zs := Nat.le_trans Zs (Keep.of_wr W).1
  refine own_iinc X hx hby d5_25 (x := (24 : Int32)) rfl (by decide) (l' := #[.val (.ref a1), .val (.int (2 : Int32)), .val (.int p3), .val (.int (32 : Int32)), .val (.int (6 : Int32))]) rfl 28 rfl ?_
  refine own_goto X hx hby d5_28 5 (by decide) ?_
  refine own_iloadN X hx hby (32 : Int32) d5_5 rfl 6 rfl ?_
  refine own_bipush X hx hby (32 : Int32) d5_6 rfl 8 rfl ?_
  have c8_5 : ¬ (32 : Int32) < (32 : Int32) := by decide
  refine own_icmp_ge X hx hby d5_8 31 11 (by decide) rfl (fun _ => ?_) (fun q => absurd q c8_5)
  refine own_ret X hx hby hret hlk d5_31 (by decide) (by decide) ?_
  rw [eT]
  exact ⟨rfl, N, K, A_r1, E_r1⟩
theorem ef_5_3 (a1 : Addr) (p3 : Int32) (m : MethodId) : entryFrame m #[(.ref a1), (.int (3 : Int32)), (.int p3)] 5 = mkF m 0 #[.val (.ref a1), .val (.int (3 : Int32)), .val (.int p3), .unset, .unset] [] := by first | (simp [entryFrame, mkF, argsToLocals, Value.category]; done) | rfl
def Q5_3 (Z : State) (a1 : Addr) (p3 : Int32) (r1 : Addr) (ar_r1 : Nat → Int32) (w_length_a1 : Int32) (h0 : Heap) (n0 : Nat) (v : Option Value) (h : Heap) (L : List Loc) : Prop := v = none ∧ Fr n0 L ∧ Keep h0 h [r1] ∧ Afi Z h r1 .byte 8 (updI (updI (updI (updI ar_r1 3 (nar .byte (((p3.toUInt32 >>> ((0 : Int32) &&& 31).toUInt32).toInt32).toInt8.toInt32))) 4 (nar .byte (((p3.toUInt32 >>> ((8 : Int32) &&& 31).toUInt32).toInt32).toInt8.toInt32))) 5 (nar .byte (((p3.toUInt32 >>> ((16 : Int32) &&& 31).toUInt32).toInt32).toInt8.toInt32))) 6 (nar .byte (((p3.toUInt32 >>> ((24 : Int32) &&& 31).toUInt32).toInt32).toInt8.toInt32))) ∧ Exa Z h r1 "[B"
set_option maxRecDepth 65536 in
set_option maxHeartbeats 40000000 in
theorem rm5_3 (l : Launch) (Z : State) (a0 : Array Value) (hw : ∀ d ∈ tables_1, d.before a0 Z = true) (a1 : Addr) (p3 : Int32) (r1 : Addr) (ar_r1 : Nat → Int32) (w_length_a1 : Int32) (h0 : Heap) (n0 : Nat) (Zs : n0 ≤ h0.size) (A_r1 : Afi Z h0 r1 .byte 8 ar_r1) (E_r1 : Exa Z h0 r1 "[B") (g_r1 : n0 ≤ r1) (E_a1 : Exa Z h0 a1 "com/example/daylily/daylily/engine/ByteWriter") (F_bytes_a1 : Fld Z h0 a1 "com/example/daylily/daylily/engine/ByteWriter" "bytes" "[B" (.ref r1)) (F_length_a1 : Fld Z h0 a1 "com/example/daylily/daylily/engine/ByteWriter" "length" "I" (.int w_length_a1)) (g_a1 : n0 ≤ a1) :
    Met1 l Z (⟨"com/example/daylily/daylily/engine/ByteWriter", "setIntLittleEndian", "(II)V"⟩ : MethodName) prog_10_method_14_code 5 none ({ frames := 0, cells := 0, slots := 0, locals := 0 } : Room) #[(.ref a1), (.int (3 : Int32)), (.int p3)] h0 (Q5_3 Z a1 p3 r1 ar_r1 w_length_a1 h0 n0) := by
  refine own_met_of (plainFor_of_name pn_1) (ef_5_3 a1 p3) ?_
  intro p e s m below meth c s₁ X hx hby hml hZ hown hnm hret hlk eT
  have hown : s.vm.findClass "com/example/daylily/daylily/engine/ByteWriter" = some m.cls := hown
  have N := Fr.nil n0
  have K := Keep.refl h0 [r1]
  have ne_r1_a1 : r1 ≠ a1 := ne_exa E_r1 E_a1 (by decide)
  refine own_iconst X hx hby (0 : Int32) d5_0 rfl 1 rfl ?_
  refine own_istoreN X hx hby d5_1 rfl (l' := #[.val (.ref a1), .val (.int (3 : Int32)), .val (.int p3), .val (.int (0 : Int32)), .unset]) rfl 2 rfl ?_
  refine own_iloadN X hx hby (3 : Int32) d5_2 rfl 3 rfl ?_
  refine own_istore X hx hby d5_3 rfl (l' := #[.val (.ref a1), .val (.int (3 : Int32)), .val (.int p3), .val (.int (0 : Int32)), .val (.int (3 : Int32))]) rfl 5 rfl ?_
  refine own_iloadN X hx hby (0 : Int32) d5_5 rfl 6 rfl ?_
  refine own_bipush X hx hby (32 : Int32) d5_6 rfl 8 rfl ?_
  have c8 : (0 : Int32) < (32 : Int32) := by decide
  refine own_icmp_ge X hx hby d5_8 31 11 (by decide) rfl (fun q => absurd c8 q) (fun _ => ?_)
  refine own_aloadN X hx hby (.ref a1) d5_11 rfl rfl 12 rfl ?_
  refine own_getF X hx hby hZ hown (host := "") (Or.inl (hw _ (List.mem_of_getElem? (i := 11) rfl))) Via.refl eT F_bytes_a1 d5_12 15 rfl ?_
  intro T12 X eT
  refine own_iload X hx hby (3 : Int32) d5_15 rfl 17 rfl ?_
  refine own_iinc X hx hby d5_17 (x := (3 : Int32)) rfl (by decide) (l' := #[.val (.ref a1), .val (.int (3 : Int32)), .val (.int p3), .val (.int (0 : Int32)), .val (.int (4 : Int32))]) rfl 20 rfl ?_
  refine own_iloadN X hx hby p3 d5_20 rfl 21 rfl ?_
  refine own_iloadN X hx hby (0 : Int32) d5_21 rfl 22 rfl ?_
  refine own_iushr X hx hby d5_22 23 rfl ?_
  refine own_i2b X hx hby d5_23 24 rfl ?_
  refine own_bastore X hx hby hZ eT A_r1 (by decide) d5_24 25 rfl ?_
  intro T24 h24 X eT W A
  have E_r1 := E_r1.wr W
  have E_a1 := E_a1.wr W
  have F_bytes_a1 := F_bytes_a1.other W (Or.inl (Ne.symm ne_r1_a1))
  have F_length_a1 := F_length_a1.other W (Or.inl (Ne.symm ne_r1_a1))
  have A_r1 : Afi Z h24 r1 .byte 8 (updI ar_r1 3 (nar .byte (((p3.toUInt32 >>> ((0 : Int32) &&& 31).toUInt32).toInt32).toInt8.toInt32))) := A
  have N := Fr.snoc X N g_r1
  have K := K.wr W (Or.inl (List.mem_of_getElem? (i := 0) rfl))
  have Zs := Nat.le_trans Zs (Keep.of_wr W).1
  refine own_iinc X hx hby d5_25 (x := (0 : Int32)) rfl (by decide) (l' := #[.val (.ref a1), .val (.int (3 : Int32)), .val (.int p3), .val (.int (8 : Int32)), .val (.int (4 : Int32))]) rfl 28 rfl ?_
  refine own_goto X hx hby d5_28 5 (by decide) ?_
  refine own_iloadN X hx hby (8 : Int32) d5_5 rfl 6 rfl ?_
  refine own_bipush X hx hby (32 : Int32) d5_6 rfl 8 rfl ?_
  have c8_2 : (8 : Int32) < (32 : Int32) := by decide
  refine own_icmp_ge X hx hby d5_8 31 11 (by decide) rfl (fun q => absurd c8_2 q) (fun _ => ?_)
  refine own_aloadN X hx hby (.ref a1) d5_11 rfl rfl 12 rfl ?_
  refine own_getF X hx hby hZ hown (host := "") (Or.inl (hw _ (List.mem_of_getElem? (i := 11) rfl))) Via.refl eT F_bytes_a1 d5_12 15 rfl ?_
  intro T12 X eT
  refine own_iload X hx hby (4 : Int32) d5_15 rfl 17 rfl ?_
  refine own_iinc X hx hby d5_17 (x := (4 : Int32)) rfl (by decide) (l' := #[.val (.ref a1), .val (.int (3 : Int32)), .val (.int p3), .val (.int (8 : Int32)), .val (.int (5 : Int32))]) rfl 20 rfl ?_
  refine own_iloadN X hx hby p3 d5_20 rfl 21 rfl ?_
  refine own_iloadN X hx hby (8 : Int32) d5_21 rfl 22 rfl ?_
  refine own_iushr X hx hby d5_22 23 rfl ?_
  refine own_i2b X hx hby d5_23 24 rfl ?_
  refine own_bastore X hx hby hZ eT A_r1 (by decide) d5_24 25 rfl ?_
  intro T24 h24 X eT W A
  have E_r1 := E_r1.wr W
  have E_a1 := E_a1.wr W
  have F_bytes_a1 := F_bytes_a1.other W (Or.inl (Ne.symm ne_r1_a1))
  have F_length_a1 := F_length_a1.other W (Or.inl (Ne.symm ne_r1_a1))
  have A_r1 : Afi Z h24 r1 .byte 8 (updI (updI ar_r1 3 (nar .byte (((p3.toUInt32 >>> ((0 : Int32) &&& 31).toUInt32).toInt32).toInt8.toInt32))) 4 (nar .byte (((p3.toUInt32 >>> ((8 : Int32) &&& 31).toUInt32).toInt32).toInt8.toInt32))) := A
  have N := Fr.snoc X N g_r1
  have K := K.wr W (Or.inl (List.mem_of_getElem? (i := 0) rfl))
  have Zs := Nat.le_trans Zs (Keep.of_wr W).1
  refine own_iinc X hx hby d5_25 (x := (8 : Int32)) rfl (by decide) (l' := #[.val (.ref a1), .val (.int (3 : Int32)), .val (.int p3), .val (.int (16 : Int32)), .val (.int (5 : Int32))]) rfl 28 rfl ?_
  refine own_goto X hx hby d5_28 5 (by decide) ?_
  refine own_iloadN X hx hby (16 : Int32) d5_5 rfl 6 rfl ?_
  refine own_bipush X hx hby (32 : Int32) d5_6 rfl 8 rfl ?_
  have c8_3 : (16 : Int32) < (32 : Int32) := by decide
  refine own_icmp_ge X hx hby d5_8 31 11 (by decide) rfl (fun q => absurd c8_3 q) (fun _ => ?_)
  refine own_aloadN X hx hby (.ref a1) d5_11 rfl rfl 12 rfl ?_
  refine own_getF X hx hby hZ hown (host := "") (Or.inl (hw _ (List.mem_of_getElem? (i := 11) rfl))) Via.refl eT F_bytes_a1 d5_12 15 rfl ?_
  intro T12 X eT
  refine own_iload X hx hby (5 : Int32) d5_15 rfl 17 rfl ?_
  refine own_iinc X hx hby d5_17 (x := (5 : Int32)) rfl (by decide) (l' := #[.val (.ref a1), .val (.int (3 : Int32)), .val (.int p3), .val (.int (16 : Int32)), .val (.int (6 : Int32))]) rfl 20 rfl ?_
  refine own_iloadN X hx hby p3 d5_20 rfl 21 rfl ?_
  refine own_iloadN X hx hby (16 : Int32) d5_21 rfl 22 rfl ?_
  refine own_iushr X hx hby d5_22 23 rfl ?_
  refine own_i2b X hx hby d5_23 24 rfl ?_
  refine own_bastore X hx hby hZ eT A_r1 (by decide) d5_24 25 rfl ?_
  intro T24 h24 X eT W A
  have E_r1 := E_r1.wr W
  have E_a1 := E_a1.wr W
  have F_bytes_a1 := F_bytes_a1.other W (Or.inl (Ne.symm ne_r1_a1))
  have F_length_a1 := F_length_a1.other W (Or.inl (Ne.symm ne_r1_a1))
  have A_r1 : Afi Z h24 r1 .byte 8 (updI (updI (updI ar_r1 3 (nar .byte (((p3.toUInt32 >>> ((0 : Int32) &&& 31).toUInt32).toInt32).toInt8.toInt32))) 4 (nar .byte (((p3.toUInt32 >>> ((8 : Int32) &&& 31).toUInt32).toInt32).toInt8.toInt32))) 5 (nar .byte (((p3.toUInt32 >>> ((16 : Int32) &&& 31).toUInt32).toInt32).toInt8.toInt32))) := A
  have N := Fr.snoc X N g_r1
  have K := K.wr W (Or.inl (List.mem_of_getElem? (i := 0) rfl))
  have Zs := Nat.le_trans Zs (Keep.of_wr W).1
  refine own_iinc X hx hby d5_25 (x := (16 : Int32)) rfl (by decide) (l' := #[.val (.ref a1), .val (.int (3 : Int32)), .val (.int p3), .val (.int (24 : Int32)), .val (.int (6 : Int32))]) rfl 28 rfl ?_
  refine own_goto X hx hby d5_28 5 (by decide) ?_
  refine own_iloadN X hx hby (24 : Int32) d5_5 rfl 6 rfl ?_
  refine own_bipush X hx hby (32 : Int32) d5_6 rfl 8 rfl ?_
  have c8_4 : (24 : Int32) < (32 : Int32) := by decide
  refine own_icmp_ge X hx hby d5_8 31 11 (by decide) rfl (fun q => absurd c8_4 q) (fun _ => ?_)
  refine own_aloadN X hx hby (.ref a1) d5_11 rfl rfl 12 rfl ?_
  refine own_getF X hx hby hZ hown (host := "") (Or.inl (hw _ (List.mem_of_getElem? (i := 11) rfl))) Via.refl eT F_bytes_a1 d5_12 15 rfl ?_
  intro T12 X eT
  refine own_iload X hx hby (6 : Int32) d5_15 rfl 17 rfl ?_
  refine own_iinc X hx hby d5_17 (x := (6 : Int32)) rfl (by decide) (l' := #[.val (.ref a1), .val (.int (3 : Int32)), .val (.int p3), .val (.int (24 : Int32)), .val (.int (7 : Int32))]) rfl 20 rfl ?_
  refine own_iloadN X hx hby p3 d5_20 rfl 21 rfl ?_
  refine own_iloadN X hx hby (24 : Int32) d5_21 rfl 22 rfl ?_
  refine own_iushr X hx hby d5_22 23 rfl ?_
  refine own_i2b X hx hby d5_23 24 rfl ?_
  refine own_bastore X hx hby hZ eT A_r1 (by decide) d5_24 25 rfl ?_
  intro T24 h24 X eT W A
  have E_r1 := E_r1.wr W
  have E_a1 := E_a1.wr W
  have F_bytes_a1 := F_bytes_a1.other W (Or.inl (Ne.symm ne_r1_a1))
  have F_length_a1 := F_length_a1.other W (Or.inl (Ne.symm ne_r1_a1))
  have A_r1 : Afi Z h24 r1 .byte 8 (updI (updI (updI (updI ar_r1 3 (nar .byte (((p3.toUInt32 >>> ((0 : Int32) &&& 31).toUInt32).toInt32).toInt8.toInt32))) 4 (nar .byte (((p3.toUInt32 >>> ((8 : Int32) &&& 31).toUInt32).toInt32).toInt8.toInt32))) 5 (nar .byte (((p3.toUInt32 >>> ((16 : Int32) &&& 31).toUInt32).toInt32).toInt8.toInt32))) 6 (nar .byte (((p3.toUInt32 >>> ((24 : Int32) &&& 31).toUInt32).toInt32).toInt8.toInt32))) := A
  have N := Fr.snoc X N g_r1
  have K := K.wr W (Or.inl (List.mem_of_getElem? (i := 0) rfl))
  have Zs := Nat.le_trans Zs (Keep.of_wr W).1
  refine own_iinc X hx hby d5_25 (x := (24 : Int32)) rfl (by decide) (l' := #[.val (.ref a1), .val (.int (3 : Int32)), .val (.int p3), .val (.int (32 : Int32)), .val (.int (7 : Int32))]) rfl 28 rfl ?_
  refine own_goto X hx hby d5_28 5 (by decide) ?_
  refine own_iloadN X hx hby (32 : Int32) d5_5 rfl 6 rfl ?_
  refine own_bipush X hx hby (32 : Int32) d5_6 rfl 8 rfl ?_
  have c8_5 : ¬ (32 : Int32) < (32 : Int32) := by decide
  refine own_icmp_ge X hx hby d5_8 31 11 (by decide) rfl (fun _ => ?_) (fun q => absurd q c8_5)
  refine own_ret X hx hby hret hlk d5_31 (by decide) (by decide) ?_
  rw [eT]
  exact ⟨rfl, N, K, A_r1, E_r1⟩
theorem ef_5_4 (a1 : Addr) (p3 : Int32) (m : MethodId) : entryFrame m #[(.ref a1), (.int (4 : Int32)), (.int p3)] 5 = mkF m 0 #[.val (.ref a1), .val (.int (4 : Int32)), .val (.int p3), .unset, .unset] [] := by first | (simp [entryFrame, mkF, argsToLocals, Value.category]; done) | rfl
def Q5_4 (Z : State) (a1 : Addr) (p3 : Int32) (r1 : Addr) (ar_r1 : Nat → Int32) (w_length_a1 : Int32) (h0 : Heap) (n0 : Nat) (v : Option Value) (h : Heap) (L : List Loc) : Prop := v = none ∧ Fr n0 L ∧ Keep h0 h [r1] ∧ Afi Z h r1 .byte 8 (updI (updI (updI (updI ar_r1 4 (nar .byte (((p3.toUInt32 >>> ((0 : Int32) &&& 31).toUInt32).toInt32).toInt8.toInt32))) 5 (nar .byte (((p3.toUInt32 >>> ((8 : Int32) &&& 31).toUInt32).toInt32).toInt8.toInt32))) 6 (nar .byte (((p3.toUInt32 >>> ((16 : Int32) &&& 31).toUInt32).toInt32).toInt8.toInt32))) 7 (nar .byte (((p3.toUInt32 >>> ((24 : Int32) &&& 31).toUInt32).toInt32).toInt8.toInt32))) ∧ Exa Z h r1 "[B"
set_option maxRecDepth 65536 in
set_option maxHeartbeats 40000000 in
theorem rm5_4 (l : Launch) (Z : State) (a0 : Array Value) (hw : ∀ d ∈ tables_1, d.before a0 Z = true) (a1 : Addr) (p3 : Int32) (r1 : Addr) (ar_r1 : Nat → Int32) (w_length_a1 : Int32) (h0 : Heap) (n0 : Nat) (Zs : n0 ≤ h0.size) (A_r1 : Afi Z h0 r1 .byte 8 ar_r1) (E_r1 : Exa Z h0 r1 "[B") (g_r1 : n0 ≤ r1) (E_a1 : Exa Z h0 a1 "com/example/daylily/daylily/engine/ByteWriter") (F_bytes_a1 : Fld Z h0 a1 "com/example/daylily/daylily/engine/ByteWriter" "bytes" "[B" (.ref r1)) (F_length_a1 : Fld Z h0 a1 "com/example/daylily/daylily/engine/ByteWriter" "length" "I" (.int w_length_a1)) (g_a1 : n0 ≤ a1) :
    Met1 l Z (⟨"com/example/daylily/daylily/engine/ByteWriter", "setIntLittleEndian", "(II)V"⟩ : MethodName) prog_10_method_14_code 5 none ({ frames := 0, cells := 0, slots := 0, locals := 0 } : Room) #[(.ref a1), (.int (4 : Int32)), (.int p3)] h0 (Q5_4 Z a1 p3 r1 ar_r1 w_length_a1 h0 n0) := by
  refine own_met_of (plainFor_of_name pn_1) (ef_5_4 a1 p3) ?_
  intro p e s m below meth c s₁ X hx hby hml hZ hown hnm hret hlk eT
  have hown : s.vm.findClass "com/example/daylily/daylily/engine/ByteWriter" = some m.cls := hown
  have N := Fr.nil n0
  have K := Keep.refl h0 [r1]
  have ne_r1_a1 : r1 ≠ a1 := ne_exa E_r1 E_a1 (by decide)
  refine own_iconst X hx hby (0 : Int32) d5_0 rfl 1 rfl ?_
  refine own_istoreN X hx hby d5_1 rfl (l' := #[.val (.ref a1), .val (.int (4 : Int32)), .val (.int p3), .val (.int (0 : Int32)), .unset]) rfl 2 rfl ?_
  refine own_iloadN X hx hby (4 : Int32) d5_2 rfl 3 rfl ?_
  refine own_istore X hx hby d5_3 rfl (l' := #[.val (.ref a1), .val (.int (4 : Int32)), .val (.int p3), .val (.int (0 : Int32)), .val (.int (4 : Int32))]) rfl 5 rfl ?_
  refine own_iloadN X hx hby (0 : Int32) d5_5 rfl 6 rfl ?_
  refine own_bipush X hx hby (32 : Int32) d5_6 rfl 8 rfl ?_
  have c8 : (0 : Int32) < (32 : Int32) := by decide
  refine own_icmp_ge X hx hby d5_8 31 11 (by decide) rfl (fun q => absurd c8 q) (fun _ => ?_)
  refine own_aloadN X hx hby (.ref a1) d5_11 rfl rfl 12 rfl ?_
  refine own_getF X hx hby hZ hown (host := "") (Or.inl (hw _ (List.mem_of_getElem? (i := 11) rfl))) Via.refl eT F_bytes_a1 d5_12 15 rfl ?_
  intro T12 X eT
  refine own_iload X hx hby (4 : Int32) d5_15 rfl 17 rfl ?_
  refine own_iinc X hx hby d5_17 (x := (4 : Int32)) rfl (by decide) (l' := #[.val (.ref a1), .val (.int (4 : Int32)), .val (.int p3), .val (.int (0 : Int32)), .val (.int (5 : Int32))]) rfl 20 rfl ?_
  refine own_iloadN X hx hby p3 d5_20 rfl 21 rfl ?_
  refine own_iloadN X hx hby (0 : Int32) d5_21 rfl 22 rfl ?_
  refine own_iushr X hx hby d5_22 23 rfl ?_
  refine own_i2b X hx hby d5_23 24 rfl ?_
  refine own_bastore X hx hby hZ eT A_r1 (by decide) d5_24 25 rfl ?_
  intro T24 h24 X eT W A
  have E_r1 := E_r1.wr W
  have E_a1 := E_a1.wr W
  have F_bytes_a1 := F_bytes_a1.other W (Or.inl (Ne.symm ne_r1_a1))
  have F_length_a1 := F_length_a1.other W (Or.inl (Ne.symm ne_r1_a1))
  have A_r1 : Afi Z h24 r1 .byte 8 (updI ar_r1 4 (nar .byte (((p3.toUInt32 >>> ((0 : Int32) &&& 31).toUInt32).toInt32).toInt8.toInt32))) := A
  have N := Fr.snoc X N g_r1
  have K := K.wr W (Or.inl (List.mem_of_getElem? (i := 0) rfl))
  have Zs := Nat.le_trans Zs (Keep.of_wr W).1
  refine own_iinc X hx hby d5_25 (x := (0 : Int32)) rfl (by decide) (l' := #[.val (.ref a1), .val (.int (4 : Int32)), .val (.int p3), .val (.int (8 : Int32)), .val (.int (5 : Int32))]) rfl 28 rfl ?_
  refine own_goto X hx hby d5_28 5 (by decide) ?_
  refine own_iloadN X hx hby (8 : Int32) d5_5 rfl 6 rfl ?_
  refine own_bipush X hx hby (32 : Int32) d5_6 rfl 8 rfl ?_
  have c8_2 : (8 : Int32) < (32 : Int32) := by decide
  refine own_icmp_ge X hx hby d5_8 31 11 (by decide) rfl (fun q => absurd c8_2 q) (fun _ => ?_)
  refine own_aloadN X hx hby (.ref a1) d5_11 rfl rfl 12 rfl ?_
  refine own_getF X hx hby hZ hown (host := "") (Or.inl (hw _ (List.mem_of_getElem? (i := 11) rfl))) Via.refl eT F_bytes_a1 d5_12 15 rfl ?_
  intro T12 X eT
  refine own_iload X hx hby (5 : Int32) d5_15 rfl 17 rfl ?_
  refine own_iinc X hx hby d5_17 (x := (5 : Int32)) rfl (by decide) (l' := #[.val (.ref a1), .val (.int (4 : Int32)), .val (.int p3), .val (.int (8 : Int32)), .val (.int (6 : Int32))]) rfl 20 rfl ?_
  refine own_iloadN X hx hby p3 d5_20 rfl 21 rfl ?_
  refine own_iloadN X hx hby (8 : Int32) d5_21 rfl 22 rfl ?_
  refine own_iushr X hx hby d5_22 23 rfl ?_
  refine own_i2b X hx hby d5_23 24 rfl ?_
  refine own_bastore X hx hby hZ eT A_r1 (by decide) d5_24 25 rfl ?_
  intro T24 h24 X eT W A
  have E_r1 := E_r1.wr W
  have E_a1 := E_a1.wr W
  have F_bytes_a1 := F_bytes_a1.other W (Or.inl (Ne.symm ne_r1_a1))
  have F_length_a1 := F_length_a1.other W (Or.inl (Ne.symm ne_r1_a1))
  have A_r1 : Afi Z h24 r1 .byte 8 (updI (updI ar_r1 4 (nar .byte (((p3.toUInt32 >>> ((0 : Int32) &&& 31).toUInt32).toInt32).toInt8.toInt32))) 5 (nar .byte (((p3.toUInt32 >>> ((8 : Int32) &&& 31).toUInt32).toInt32).toInt8.toInt32))) := A
  have N := Fr.snoc X N g_r1
  have K := K.wr W (Or.inl (List.mem_of_getElem? (i := 0) rfl))
  have Zs := Nat.le_trans Zs (Keep.of_wr W).1
  refine own_iinc X hx hby d5_25 (x := (8 : Int32)) rfl (by decide) (l' := #[.val (.ref a1), .val (.int (4 : Int32)), .val (.int p3), .val (.int (16 : Int32)), .val (.int (6 : Int32))]) rfl 28 rfl ?_
  refine own_goto X hx hby d5_28 5 (by decide) ?_
  refine own_iloadN X hx hby (16 : Int32) d5_5 rfl 6 rfl ?_
  refine own_bipush X hx hby (32 : Int32) d5_6 rfl 8 rfl ?_
  have c8_3 : (16 : Int32) < (32 : Int32) := by decide
  refine own_icmp_ge X hx hby d5_8 31 11 (by decide) rfl (fun q => absurd c8_3 q) (fun _ => ?_)
  refine own_aloadN X hx hby (.ref a1) d5_11 rfl rfl 12 rfl ?_
  refine own_getF X hx hby hZ hown (host := "") (Or.inl (hw _ (List.mem_of_getElem? (i := 11) rfl))) Via.refl eT F_bytes_a1 d5_12 15 rfl ?_
  intro T12 X eT
  refine own_iload X hx hby (6 : Int32) d5_15 rfl 17 rfl ?_
  refine own_iinc X hx hby d5_17 (x := (6 : Int32)) rfl (by decide) (l' := #[.val (.ref a1), .val (.int (4 : Int32)), .val (.int p3), .val (.int (16 : Int32)), .val (.int (7 : Int32))]) rfl 20 rfl ?_
  refine own_iloadN X hx hby p3 d5_20 rfl 21 rfl ?_
  refine own_iloadN X hx hby (16 : Int32) d5_21 rfl 22 rfl ?_
  refine own_iushr X hx hby d5_22 23 rfl ?_
  refine own_i2b X hx hby d5_23 24 rfl ?_
  refine own_bastore X hx hby hZ eT A_r1 (by decide) d5_24 25 rfl ?_
  intro T24 h24 X eT W A
  have E_r1 := E_r1.wr W
  have E_a1 := E_a1.wr W
  have F_bytes_a1 := F_bytes_a1.other W (Or.inl (Ne.symm ne_r1_a1))
  have F_length_a1 := F_length_a1.other W (Or.inl (Ne.symm ne_r1_a1))
  have A_r1 : Afi Z h24 r1 .byte 8 (updI (updI (updI ar_r1 4 (nar .byte (((p3.toUInt32 >>> ((0 : Int32) &&& 31).toUInt32).toInt32).toInt8.toInt32))) 5 (nar .byte (((p3.toUInt32 >>> ((8 : Int32) &&& 31).toUInt32).toInt32).toInt8.toInt32))) 6 (nar .byte (((p3.toUInt32 >>> ((16 : Int32) &&& 31).toUInt32).toInt32).toInt8.toInt32))) := A
  have N := Fr.snoc X N g_r1
  have K := K.wr W (Or.inl (List.mem_of_getElem? (i := 0) rfl))
  have Zs := Nat.le_trans Zs (Keep.of_wr W).1
  refine own_iinc X hx hby d5_25 (x := (16 : Int32)) rfl (by decide) (l' := #[.val (.ref a1), .val (.int (4 : Int32)), .val (.int p3), .val (.int (24 : Int32)), .val (.int (7 : Int32))]) rfl 28 rfl ?_
  refine own_goto X hx hby d5_28 5 (by decide) ?_
  refine own_iloadN X hx hby (24 : Int32) d5_5 rfl 6 rfl ?_
  refine own_bipush X hx hby (32 : Int32) d5_6 rfl 8 rfl ?_
  have c8_4 : (24 : Int32) < (32 : Int32) := by decide
  refine own_icmp_ge X hx hby d5_8 31 11 (by decide) rfl (fun q => absurd c8_4 q) (fun _ => ?_)
  refine own_aloadN X hx hby (.ref a1) d5_11 rfl rfl 12 rfl ?_
  refine own_getF X hx hby hZ hown (host := "") (Or.inl (hw _ (List.mem_of_getElem? (i := 11) rfl))) Via.refl eT F_bytes_a1 d5_12 15 rfl ?_
  intro T12 X eT
  refine own_iload X hx hby (7 : Int32) d5_15 rfl 17 rfl ?_
  refine own_iinc X hx hby d5_17 (x := (7 : Int32)) rfl (by decide) (l' := #[.val (.ref a1), .val (.int (4 : Int32)), .val (.int p3), .val (.int (24 : Int32)), .val (.int (8 : Int32))]) rfl 20 rfl ?_
  refine own_iloadN X hx hby p3 d5_20 rfl 21 rfl ?_
  refine own_iloadN X hx hby (24 : Int32) d5_21 rfl 22 rfl ?_
  refine own_iushr X hx hby d5_22 23 rfl ?_
  refine own_i2b X hx hby d5_23 24 rfl ?_
  refine own_bastore X hx hby hZ eT A_r1 (by decide) d5_24 25 rfl ?_
  intro T24 h24 X eT W A
  have E_r1 := E_r1.wr W
  have E_a1 := E_a1.wr W
  have F_bytes_a1 := F_bytes_a1.other W (Or.inl (Ne.symm ne_r1_a1))
  have F_length_a1 := F_length_a1.other W (Or.inl (Ne.symm ne_r1_a1))
  have A_r1 : Afi Z h24 r1 .byte 8 (updI (updI (updI (updI ar_r1 4 (nar .byte (((p3.toUInt32 >>> ((0 : Int32) &&& 31).toUInt32).toInt32).toInt8.toInt32))) 5 (nar .byte (((p3.toUInt32 >>> ((8 : Int32) &&& 31).toUInt32).toInt32).toInt8.toInt32))) 6 (nar .byte (((p3.toUInt32 >>> ((16 : Int32) &&& 31).toUInt32).toInt32).toInt8.toInt32))) 7 (nar .byte (((p3.toUInt32 >>> ((24 : Int32) &&& 31).toUInt32).toInt32).toInt8.toInt32))) := A
  have N := Fr.snoc X N g_r1
  have K := K.wr W (Or.inl (List.mem_of_getElem? (i := 0) rfl))
  have Zs := Nat.le_trans Zs (Keep.of_wr W).1
  refine own_iinc X hx hby d5_25 (x := (24 : Int32)) rfl (by decide) (l' := #[.val (.ref a1), .val (.int (4 : Int32)), .val (.int p3), .val (.int (32 : Int32)), .val (.int (8 : Int32))]) rfl 28 rfl ?_
  refine own_goto X hx hby d5_28 5 (by decide) ?_
  refine own_iloadN X hx hby (32 : Int32) d5_5 rfl 6 rfl ?_
  refine own_bipush X hx hby (32 : Int32) d5_6 rfl 8 rfl ?_
  have c8_5 : ¬ (32 : Int32) < (32 : Int32) := by decide
  refine own_icmp_ge X hx hby d5_8 31 11 (by decide) rfl (fun _ => ?_) (fun q => absurd q c8_5)
  refine own_ret X hx hby hret hlk d5_31 (by decide) (by decide) ?_
  rw [eT]
  exact ⟨rfl, N, K, A_r1, E_r1⟩
theorem ef_7 (a1 : Addr) (m : MethodId) : entryFrame m #[(.ref a1), (.int (8 : Int32))] 3 = mkF m 0 #[.val (.ref a1), .val (.int (8 : Int32)), .unset] [] := by first | (simp [entryFrame, mkF, argsToLocals, Value.category]; done) | rfl
def Q7 (Z : State) (a1 : Addr) (ar_a1 : Nat → Int32) (h0 : Heap) (n0 : Nat) (v : Option Value) (h : Heap) (L : List Loc) : Prop := ∃ (b7 : Addr), v = some (.ref b7) ∧ Fr n0 L ∧ Keep h0 h [] ∧ h0.size ≤ b7 ∧ Afi Z h b7 .byte 8 ar_a1 ∧ Exa Z h b7 "[B"
set_option maxRecDepth 65536 in
set_option maxHeartbeats 40000000 in
theorem rm7 (l : Launch) (Z : State) (a0 : Array Value) (hw : ∀ d ∈ tables_1, d.before a0 Z = true) (a1 : Addr) (ar_a1 : Nat → Int32) (h0 : Heap) (n0 : Nat) (Zs : n0 ≤ h0.size) (A_a1 : Afi Z h0 a1 .byte 8 ar_a1) (E_a1 : Exa Z h0 a1 "[B") :
    Met1 l Z (⟨"java/util/Arrays", "copyOf", "([BI)[B"⟩ : MethodName) jdk_65_method_121_code 3 (some (.array .byte)) ({ frames := 1, cells := 1, slots := 8, locals := 14 } : Room) #[(.ref a1), (.int (8 : Int32))] h0 (Q7 Z a1 ar_a1 h0 n0) := by
  refine own_met_of (plainFor_of_name pn_7) (ef_7 a1) ?_
  intro p e s m below meth c s₁ X hx hby hml hZ hown hnm hret hlk eT
  have hown : s.vm.findClass "java/util/Arrays" = some m.cls := hown
  have N := Fr.nil n0
  have K := Keep.refl h0 []
  refine own_iloadN X hx hby (8 : Int32) d7_0 rfl 1 rfl ?_
  refine own_aloadN X hx hby (.ref a1) d7_1 rfl rfl 2 rfl ?_
  refine own_arraylength X hx hby hZ (8 : Int32) eT A_a1 rfl d7_2 3 rfl ?_
  have c3 : (8 : Int32) = (8 : Int32) := by decide
  refine own_icmp_ne X hx hby d7_3 14 6 (by decide) rfl (fun q => absurd c3 q) (fun _ => ?_)
  refine own_aloadN X hx hby (.ref a1) d7_6 rfl rfl 7 rfl ?_
  refine own_clone X hx hby hZ hown (hw _ (List.mem_of_getElem? (i := 38) rfl)) (hw _ (List.mem_of_getElem? (i := 39) rfl)) (hw _ (List.mem_of_getElem? (i := 43) rfl)) (hw _ (List.mem_of_getElem? (i := 41) rfl)) (hw _ (List.mem_of_getElem? (i := 42) rfl)) (hw _ (List.mem_of_getElem? (i := 44) rfl)) eT A_a1 E_a1 (by rw [hml]; rfl) d7_7 (by decide) 0 rfl (by decide) (cap := 8) (by decide) (by decide) (by decide) 10 rfl ?_
  intro T7 h7 b7 gb7 X eT Ex A A2
  have g_b7 : n0 ≤ b7 := by rw [gb7]; exact Zs
  have sz_b7 : h0.size ≤ b7 := by rw [gb7]; exact K.1
  have ne_a1_b7 : a1 ≠ b7 := Nat.ne_of_lt (by rw [gb7]; exact A_a1.lt)
  have A_a1 := A_a1.ext Ex
  have E_a1 := E_a1.ext Ex
  have A_b7 : Afi Z h7 b7 .byte 8 ar_a1 := A
  have E_b7 := A2
  have K := K.ext Ex
  have Zs := Nat.le_trans Zs Ex.1
  refine own_castY X hx hby hZ hown (hw _ (List.mem_of_getElem? (i := 45) rfl)) eT (Ins.self E_b7) d7_10 13 rfl ?_
  intro T10 X eT
  refine own_retA X hx hby hret hlk rfl rfl rfl d7_13 (by decide) (by decide) ?_
  rw [eT]
  exact ⟨b7, rfl, N, K, sz_b7, A_b7, E_b7⟩
theorem ef_6 (a1 : Addr) (m : MethodId) : entryFrame m #[(.ref a1)] 1 = mkF m 0 #[.val (.ref a1)] [] := by first | (simp [entryFrame, mkF, argsToLocals, Value.category]; done) | rfl
def Q6 (Z : State) (a1 : Addr) (r1 : Addr) (ar_r1 : Nat → Int32) (h0 : Heap) (n0 : Nat) (v : Option Value) (h : Heap) (L : List Loc) : Prop := ∃ (b8b7 : Addr), v = some (.ref b8b7) ∧ Fr n0 L ∧ Keep h0 h [] ∧ h0.size ≤ b8b7 ∧ Afi Z h b8b7 .byte 8 ar_r1 ∧ Exa Z h b8b7 "[B"
set_option maxRecDepth 65536 in
set_option maxHeartbeats 40000000 in
theorem rm6 (l : Launch) (Z : State) (a0 : Array Value) (hw : ∀ d ∈ tables_1, d.before a0 Z = true) (a1 : Addr) (r1 : Addr) (ar_r1 : Nat → Int32) (h0 : Heap) (n0 : Nat) (Zs : n0 ≤ h0.size) (A_r1 : Afi Z h0 r1 .byte 8 ar_r1) (E_r1 : Exa Z h0 r1 "[B") (F_bytes_a1 : Fld Z h0 a1 "com/example/daylily/daylily/engine/ByteWriter" "bytes" "[B" (.ref r1)) (F_length_a1 : Fld Z h0 a1 "com/example/daylily/daylily/engine/ByteWriter" "length" "I" (.int (8 : Int32))) :
    Met1 l Z (⟨"com/example/daylily/daylily/engine/ByteWriter", "toByteArray", "()[B"⟩ : MethodName) prog_10_method_4_code 1 (some (.array .byte)) ({ frames := 2, cells := 1, slots := 8, locals := 28 } : Room) #[(.ref a1)] h0 (Q6 Z a1 r1 ar_r1 h0 n0) := by
  refine own_met_of (plainFor_of_name pn_1) (ef_6 a1) ?_
  intro p e s m below meth c s₁ X hx hby hml hZ hown hnm hret hlk eT
  have hown : s.vm.findClass "com/example/daylily/daylily/engine/ByteWriter" = some m.cls := hown
  have N := Fr.nil n0
  have K := Keep.refl h0 []
  refine own_aloadN X hx hby (.ref a1) d6_0 rfl rfl 1 rfl ?_
  refine own_getF X hx hby hZ hown (host := "") (Or.inl (hw _ (List.mem_of_getElem? (i := 11) rfl))) Via.refl eT F_bytes_a1 d6_1 4 rfl ?_
  intro T1 X eT
  refine own_aloadN X hx hby (.ref a1) d6_4 rfl rfl 5 rfl ?_
  refine own_getF X hx hby hZ hown (host := "") (Or.inl (hw _ (List.mem_of_getElem? (i := 22) rfl))) Via.refl eT F_length_a1 d6_5 8 rfl ?_
  intro T5 X eT
  refine own_callS X hx hby hZ (st := []) [(.ref r1), (.int (8 : Int32))] rfl hown (hw _ (List.mem_of_getElem? (i := 34) rfl)) (hw _ (List.mem_of_getElem? (i := 35) rfl)) (hw _ (List.mem_of_getElem? (i := 36) rfl)) (hw _ (List.mem_of_getElem? (i := 37) rfl)) (by decide) d6_8 (rm7 l Z a0 hw r1 ar_r1 h0 n0 Zs A_r1 E_r1) eT pd_6 rfl (by rw [hml]; rfl) (by decide) 0 rfl (by decide) (by decide) (by decide) 11 rfl ?_
  intro T8 L9 v9 X hQ
  obtain ⟨h8, eT⟩ : ∃ z, T8.heap = z := ⟨_, rfl⟩
  rw [eT] at hQ
  have lt_a1 := F_bytes_a1.lt
  have lt_r1 := A_r1.lt
  obtain ⟨b8b7, rfl, N9, Kc, hs_b8b7, A_b8b7, E_b8b7⟩ := hQ
  have g_b8b7 : n0 ≤ b8b7 := Nat.le_trans Zs hs_b8b7
  have sz_b8b7 : h0.size ≤ b8b7 := Nat.le_trans K.1 hs_b8b7
  have ne_a1_b8b7 : a1 ≠ b8b7 := Nat.ne_of_lt (Nat.lt_of_lt_of_le lt_a1 hs_b8b7)
  have ne_r1_b8b7 : r1 ≠ b8b7 := Nat.ne_of_lt (Nat.lt_of_lt_of_le lt_r1 hs_b8b7)
  have A_r1 := A_r1.keep Kc nin0
  have E_r1 := E_r1.keep Kc
  have F_bytes_a1 := F_bytes_a1.keep Kc nin0
  have F_length_a1 := F_length_a1.keep Kc nin0
  have K := K.trans Kc all0
  have Zs := Nat.le_trans Zs Kc.1
  have N := Fr.app N N9
  show Go p e below _ T8 (mkF m 11 #[.val (.ref a1)] [(.ref b8b7)])
  refine own_retA X hx hby hret hlk rfl rfl rfl d6_11 (by decide) (by decide) ?_
  rw [eT]
  exact ⟨b8b7, rfl, N, K, sz_b8b7, A_b8b7, E_b8b7⟩
theorem ef_8 (a1 : Addr) (p2 : Int32) (p3 : Int32) (q4 : Int64) (m : MethodId) : entryFrame m #[(.ref a1), (.int p2), (.int p3), (.long q4)] 5 = mkF m 0 #[.val (.ref a1), .val (.int p2), .val (.int p3), .val (.long q4), .second] [] := by first | (simp [entryFrame, mkF, argsToLocals, Value.category]; done) | rfl
def f8 (p2 : Int32) (p3 : Int32) (q4 : Int64) (ar_a1 : Nat → Int32) : Int32 := (if p2 < p3 then (if (ar_a1 (Int32.toNatClampNeg p2)) = ((((q4.toUInt64 >>> (((56 : Int32) - ((8 : Int32) * p2)) &&& 0x3f).toInt64.toUInt64).toInt64).toInt32).toInt8.toInt32) then (1 : Int32) else (0 : Int32)) else (if p2 < (p3 + (4 : Int32)) then (1 : Int32) else (if (ar_a1 (Int32.toNatClampNeg p2)) = ((((q4.toUInt64 >>> (((56 : Int32) - ((8 : Int32) * p2)) &&& 0x3f).toInt64.toUInt64).toInt64).toInt32).toInt8.toInt32) then (1 : Int32) else (0 : Int32))))
def Q8 (Z : State) (a1 : Addr) (p2 : Int32) (p3 : Int32) (q4 : Int64) (ar_a1 : Nat → Int32) (h0 : Heap) (n0 : Nat) (v : Option Value) (h : Heap) (L : List Loc) : Prop := v = some (.int (f8 p2 p3 q4 ar_a1)) ∧ Fr n0 L ∧ h = h0
set_option maxRecDepth 65536 in
set_option maxHeartbeats 40000000 in
theorem rm8 (l : Launch) (Z : State) (a0 : Array Value) (hw : ∀ d ∈ tables_1, d.before a0 Z = true) (a1 : Addr) (p2 : Int32) (p3 : Int32) (q4 : Int64) (ar_a1 : Nat → Int32) (h0 : Heap) (n0 : Nat) (Zs : n0 ≤ h0.size) (hin16 : ¬ (p2 < 0 ∨ 8 ≤ Int32.toNatClampNeg p2)) (A_a1 : Afi Z h0 a1 .byte 8 ar_a1) (E_a1 : Exa Z h0 a1 "[B") :
    Met1 l Z (⟨"com/example/daylily/daylily/engine/ByteWriterSetIntLittleEndianPinLaw", "untouched", "([BIIJ)Z"⟩ : MethodName) method_2_code 5 (some .boolean) ({ frames := 0, cells := 0, slots := 0, locals := 0 } : Room) #[(.ref a1), (.int p2), (.int p3), (.long q4)] h0 (Q8 Z a1 p2 p3 q4 ar_a1 h0 n0) := by
  refine own_met_of (plainFor_of_name pn_8) (ef_8 a1 p2 p3 q4) ?_
  intro p e s m below meth c s₁ X hx hby hml hZ hown hnm hret hlk eT
  have hown : s.vm.findClass "com/example/daylily/daylily/engine/ByteWriterSetIntLittleEndianPinLaw" = some m.cls := hown
  have N := Fr.nil n0
  refine own_iloadN X hx hby p2 d8_0 rfl 1 rfl ?_
  refine own_iloadN X hx hby p3 d8_1 rfl 2 rfl ?_
  refine own_icmp_lt X hx hby d8_2 14 5 (by decide) rfl (fun c2 => ?_) (fun c2 => ?_)
  · skip
    refine own_aloadN X hx hby (.ref a1) d8_14 rfl rfl 15 rfl ?_
    refine own_iloadN X hx hby p2 d8_15 rfl 16 rfl ?_
    refine own_baload X hx hby hZ (ar_a1 (Int32.toNatClampNeg p2)) eT A_a1 hin16 rfl d8_16 17 rfl ?_
    refine own_lloadN X hx hby q4 d8_17 rfl 18 rfl ?_
    refine own_bipush X hx hby (56 : Int32) d8_18 rfl 20 rfl ?_
    refine own_bipush X hx hby (8 : Int32) d8_20 rfl 22 rfl ?_
    refine own_iloadN X hx hby p2 d8_22 rfl 23 rfl ?_
    refine own_imul X hx hby d8_23 24 rfl ?_
    refine own_isub X hx hby d8_24 25 rfl ?_
    refine own_lushr X hx hby d8_25 26 rfl ?_
    refine own_l2i X hx hby d8_26 27 rfl ?_
    refine own_i2b X hx hby d8_27 28 rfl ?_
    refine own_icmp_ne X hx hby d8_28 35 31 (by decide) rfl (fun c28 => ?_) (fun c28 => ?_)
    · skip
      refine own_iconst X hx hby (0 : Int32) d8_35 rfl 36 rfl ?_
      refine own_retN X hx hby hret hlk (t := .boolean) (z' := (0 : Int32)) (by simp) d8_36 (by decide) (by decide) rfl ?_
      rw [eT]
      exact ⟨congrArg (fun z => some (Value.int z)) (by unfold f8; rw [if_pos c2, if_neg c28]), N, rfl⟩
    · skip
      refine own_iconst X hx hby (1 : Int32) d8_31 rfl 32 rfl ?_
      refine own_goto X hx hby d8_32 36 (by decide) ?_
      refine own_retN X hx hby hret hlk (t := .boolean) (z' := (1 : Int32)) (by simp) d8_36 (by decide) (by decide) rfl ?_
      rw [eT]
      exact ⟨congrArg (fun z => some (Value.int z)) (by unfold f8; rw [if_pos c2, if_pos c28]), N, rfl⟩
  · skip
    refine own_iloadN X hx hby p2 d8_5 rfl 6 rfl ?_
    refine own_iloadN X hx hby p3 d8_6 rfl 7 rfl ?_
    refine own_iconst X hx hby (4 : Int32) d8_7 rfl 8 rfl ?_
    refine own_iadd X hx hby d8_8 9 rfl ?_
    refine own_icmp_ge X hx hby d8_9 14 12 (by decide) rfl (fun c9 => ?_) (fun c9 => ?_)
    · skip
      refine own_aloadN X hx hby (.ref a1) d8_14 rfl rfl 15 rfl ?_
      refine own_iloadN X hx hby p2 d8_15 rfl 16 rfl ?_
      refine own_baload X hx hby hZ (ar_a1 (Int32.toNatClampNeg p2)) eT A_a1 hin16 rfl d8_16 17 rfl ?_
      refine own_lloadN X hx hby q4 d8_17 rfl 18 rfl ?_
      refine own_bipush X hx hby (56 : Int32) d8_18 rfl 20 rfl ?_
      refine own_bipush X hx hby (8 : Int32) d8_20 rfl 22 rfl ?_
      refine own_iloadN X hx hby p2 d8_22 rfl 23 rfl ?_
      refine own_imul X hx hby d8_23 24 rfl ?_
      refine own_isub X hx hby d8_24 25 rfl ?_
      refine own_lushr X hx hby d8_25 26 rfl ?_
      refine own_l2i X hx hby d8_26 27 rfl ?_
      refine own_i2b X hx hby d8_27 28 rfl ?_
      refine own_icmp_ne X hx hby d8_28 35 31 (by decide) rfl (fun c28 => ?_) (fun c28 => ?_)
      · skip
        refine own_iconst X hx hby (0 : Int32) d8_35 rfl 36 rfl ?_
        refine own_retN X hx hby hret hlk (t := .boolean) (z' := (0 : Int32)) (by simp) d8_36 (by decide) (by decide) rfl ?_
        rw [eT]
        exact ⟨congrArg (fun z => some (Value.int z)) (by unfold f8; rw [if_neg c2, if_neg c9, if_neg c28]), N, rfl⟩
      · skip
        refine own_iconst X hx hby (1 : Int32) d8_31 rfl 32 rfl ?_
        refine own_goto X hx hby d8_32 36 (by decide) ?_
        refine own_retN X hx hby hret hlk (t := .boolean) (z' := (1 : Int32)) (by simp) d8_36 (by decide) (by decide) rfl ?_
        rw [eT]
        exact ⟨congrArg (fun z => some (Value.int z)) (by unfold f8; rw [if_neg c2, if_neg c9, if_pos c28]), N, rfl⟩
    · skip
      refine own_iconst X hx hby (1 : Int32) d8_12 rfl 13 rfl ?_
      refine own_retN X hx hby hret hlk (t := .boolean) (z' := (1 : Int32)) (by simp) d8_13 (by decide) (by decide) rfl ?_
      rw [eT]
      exact ⟨congrArg (fun z => some (Value.int z)) (by unfold f8; rw [if_neg c2, if_pos c9]), N, rfl⟩
theorem ef_0 (p1 : Int32) (q2 : Int64) (p3 : Int32) (m : MethodId) : entryFrame m #[(.int p1), (.long q2), (.int p3)] maxLocals = mkF m 0 #[.val (.int p1), .val (.long q2), .second, .val (.int p3), .unset, .unset, .unset, .unset] [] := by first | (simp [entryFrame, mkF, argsToLocals, Value.category, maxLocals]; done) | rfl
def Q0 (Z : State) (p1 : Int32) (q2 : Int64) (p3 : Int32) (h0 : Heap) (n0 : Nat) (v : Option Value) (h : Heap) (L : List Loc) : Prop := v = some (.int (1 : Int32)) ∧ Fr n0 L
theorem own_five (z v : Int32) (e : ((z &&& (2147483647 : Int32)) % (5 : Int32)) = v) : v = (0 : Int32) ∨ v = (1 : Int32) ∨ v = (2 : Int32) ∨ v = (3 : Int32) ∨ v = (4 : Int32) := by
  have h := c_mask z (2147483647 : Int32) 31 (by decide) (by decide)
  have h1 := c_irem (z &&& (2147483647 : Int32)) (5 : Int32) 5 (by decide)
  rw [e] at h1
  have h2 := h1.1 (by omega)
  simp only [← Int32.toInt_inj, Int32.reduceToInt]
  omega
theorem own_nb (z : Int32) : nar .byte (z.toInt8.toInt32) = z.toInt8.toInt32 := by
  show z.toInt8.toInt32.toInt8.toInt32 = z.toInt8.toInt32
  rw [Int8.toInt8_toInt32]
theorem own_by (y : Int32) : ((nar .byte (y.toInt8.toInt32)) &&& (255 : Int32)).toInt = y.toInt % 256 := by
  rw [own_nb]
  have h1 := c_mask (y.toInt8.toInt32) (255 : Int32) 8 (by decide) (by decide)
  have h2 := c_i2b y
  omega
theorem own_s0 (x : Int32) : (x.toUInt32 >>> ((0 : Int32) &&& 31).toUInt32).toInt32 = x := by
  have h : ((0 : Int32) &&& 31).toUInt32 = 0 := by decide
  rw [h]
  simp
theorem own_le (x b0 b1 b2 b3 r : Int32) (h0 : b0 = nar .byte (((x.toUInt32 >>> ((0 : Int32) &&& 31).toUInt32).toInt32).toInt8.toInt32)) (h1 : b1 = nar .byte (((x.toUInt32 >>> ((8 : Int32) &&& 31).toUInt32).toInt32).toInt8.toInt32))
    (h2 : b2 = nar .byte (((x.toUInt32 >>> ((16 : Int32) &&& 31).toUInt32).toInt32).toInt8.toInt32)) (h3 : b3 = nar .byte (((x.toUInt32 >>> ((24 : Int32) &&& 31).toUInt32).toInt32).toInt8.toInt32))
    (e : ((((b0 &&& (255 : Int32)) ||| ((b1 &&& (255 : Int32)) <<< ((8 : Int32) &&& 31))) ||| ((b2 &&& (255 : Int32)) <<< ((16 : Int32) &&& 31))) ||| ((b3 &&& (255 : Int32)) <<< ((24 : Int32) &&& 31))) = r) : r = x := by
  have a0 := own_by ((x.toUInt32 >>> ((0 : Int32) &&& 31).toUInt32).toInt32)
  have a1 := own_by ((x.toUInt32 >>> ((8 : Int32) &&& 31).toUInt32).toInt32)
  have a2 := own_by ((x.toUInt32 >>> ((16 : Int32) &&& 31).toUInt32).toInt32)
  have a3 := own_by ((x.toUInt32 >>> ((24 : Int32) &&& 31).toUInt32).toInt32)
  rw [← h0, own_s0] at a0
  rw [← h1, c_iushr x (8 : Int32) 8 (by decide) (by decide)] at a1
  rw [← h2, c_iushr x (16 : Int32) 16 (by decide) (by decide)] at a2
  rw [← h3, c_iushr x (24 : Int32) 24 (by decide) (by decide)] at a3
  have rx := rng32 x
  generalize b0 &&& (255 : Int32) = c0 at *
  generalize b1 &&& (255 : Int32) = c1 at *
  generalize b2 &&& (255 : Int32) = c2 at *
  generalize b3 &&& (255 : Int32) = c3 at *
  have s1 := c_ishl c1 (8 : Int32) 8 (by decide)
  have s2 := c_ishl c2 (16 : Int32) 16 (by decide)
  have s3 := c_ishl c3 (24 : Int32) 24 (by decide)
  have r1 := rng32 (c1 <<< ((8 : Int32) &&& 31))
  have r2 := rng32 (c2 <<< ((16 : Int32) &&& 31))
  have r3 := rng32 (c3 <<< ((24 : Int32) &&& 31))
  generalize c1 <<< ((8 : Int32) &&& 31) = d1 at *
  generalize c2 <<< ((16 : Int32) &&& 31) = d2 at *
  generalize c3 <<< ((24 : Int32) &&& 31) = d3 at *
  have k1 := c_or' c0 d1 8 (by decide) 256 rfl (by omega) (by omega) (by omega)
  have q1 := rng32 (c0 ||| d1)
  generalize c0 ||| d1 = g1 at *
  have k2 := c_or' g1 d2 16 (by decide) 65536 rfl (by omega) (by omega) (by omega)
  have q2 := rng32 (g1 ||| d2)
  generalize g1 ||| d2 = g2 at *
  have k3 := c_or' g2 d3 24 (by decide) 16777216 rfl (by omega) (by omega) (by omega)
  rw [e] at k3
  have q3 := rng32 r
  rw [← Int32.toInt_inj]
  omega
theorem own_t (i t : Int32) (q : Int64) (ar : Nat → Int32) (h1 : ¬ i < t) (h2 : i < (t + (4 : Int32))) : ¬ f8 i t q ar = (0 : Int32) := by
  unfold f8
  rw [if_neg h1, if_pos h2]
  decide
theorem own_un (i t sh : Int32) (q : Int64) (ar : Nat → Int32) (h : ((56 : Int32) - ((8 : Int32) * i)) = sh) (ha : ar (Int32.toNatClampNeg i) = nar .byte ((((q.toUInt64 >>> (sh &&& 0x3f).toInt64.toUInt64).toInt64).toInt32).toInt8.toInt32)) : ¬ f8 i t q ar = (0 : Int32) := by
  rw [own_nb] at ha
  unfold f8
  rw [h, ha]
  simp
  repeat' split
  all_goals decide
set_option maxRecDepth 65536 in
set_option maxHeartbeats 40000000 in
theorem rm0 (l : Launch) (Z : State) (a0 : Array Value) (hw : ∀ d ∈ tables_1, d.before a0 Z = true) (p1 : Int32) (q2 : Int64) (p3 : Int32) (h0 : Heap) (n0 : Nat) (Zs : n0 ≤ h0.size) :
    Met1 l Z x code maxLocals ret room_1 #[(.int p1), (.long q2), (.int p3)] h0 (Q0 Z p1 q2 p3 h0 n0) := by
  refine own_met_of (plainFor_of_name pn_8) (ef_0 p1 q2 p3) ?_
  intro p e s m below meth c s₁ X hx hby hml hZ hown hnm hret hlk eT
  have hown : s.vm.findClass "com/example/daylily/daylily/engine/ByteWriterSetIntLittleEndianPinLaw" = some m.cls := hown
  have N := Fr.nil n0
  have K := Keep.refl h0 []
  refine own_iloadN X hx hby p1 at_0 rfl 1 rfl ?_
  refine own_ldc X hx hby hZ (2147483647 : Int32) hown (hw _ (List.mem_of_getElem? (i := 0) rfl)) at_1 3 rfl ?_
  refine own_iand X hx hby at_3 4 rfl ?_
  refine own_iconst X hx hby (5 : Int32) at_4 rfl 5 rfl ?_
  refine own_irem X hx hby at_5 (by decide) 6 rfl ?_
  obtain ⟨v6, e6⟩ : ∃ z : Int32, ((p1 &&& (2147483647 : Int32)) % (5 : Int32)) = z := ⟨_, rfl⟩
  refine own_istore X hx hby at_6 e6 (l' := #[.val (.int p1), .val (.long q2), .second, .val (.int p3), .val (.int v6), .unset, .unset, .unset]) rfl 8 rfl ?_
  rcases (own_five _ _ e6 : v6 = (0 : Int32) ∨ v6 = (1 : Int32) ∨ v6 = (2 : Int32) ∨ v6 = (3 : Int32) ∨ v6 = (4 : Int32)) with rfl | rfl | rfl | rfl | rfl
  · skip
    refine own_new X hx hby hZ hown (hw _ (List.mem_of_getElem? (i := 1) rfl)) (hw _ (List.mem_of_getElem? (i := 2) rfl)) (hw _ (List.mem_of_getElem? (i := 3) rfl)) eT at_8 (by decide) (by decide) 11 rfl ?_
    intro T8 h8 b8 gb8 X eT Ex A D
    have g_b8 : n0 ≤ b8 := by rw [gb8]; exact Zs
    have sz_b8 : h0.size ≤ b8 := by rw [gb8]; exact K.1
    have E_b8 := A
    have F_bytes_b8 : Fld Z h8 b8 "com/example/daylily/daylily/engine/ByteWriter" "bytes" "[B" .null := D (Or.inl (hw _ (List.mem_of_getElem? (i := 12) rfl))) (ty := (.array .byte)) (by decide)
    have F_length_b8 : Fld Z h8 b8 "com/example/daylily/daylily/engine/ByteWriter" "length" "I" (.int (0 : Int32)) := D (Or.inl (hw _ (List.mem_of_getElem? (i := 23) rfl))) (ty := .int) (by decide)
    have K := K.ext Ex
    have Zs := Nat.le_trans Zs Ex.1
    refine own_dup X hx hby at_11 rfl 12 rfl ?_
    refine own_bipush X hx hby (8 : Int32) at_12 rfl 14 rfl ?_
    refine own_callC X hx hby hZ (st := [(.ref b8)]) [(.int (8 : Int32))] rfl rfl hown (hw _ (List.mem_of_getElem? (i := 4) rfl)) (hw _ (List.mem_of_getElem? (i := 5) rfl)) (hw _ (List.mem_of_getElem? (i := 3) rfl)) (hw _ (List.mem_of_getElem? (i := 6) rfl)) (by decide) at_14 (rm1 l Z a0 hw b8 h8 n0 Zs E_b8 F_bytes_b8 F_length_b8 g_b8) eT pd_3 rfl (by rw [hml]; rfl) (by decide) 1 rfl (by decide) (by decide) (by decide) 17 rfl ?_
    intro T14 L9 v9 X hQ
    obtain ⟨h14, eT⟩ : ∃ z, T14.heap = z := ⟨_, rfl⟩
    rw [eT] at hQ
    have lt_b8 := E_b8.lt
    obtain ⟨b14b6, rfl, N9, Kc, hs_b14b6, E_b8, F_bytes_b8, F_length_b8, A_b14b6, E_b14b6⟩ := hQ
    have g_b14b6 : n0 ≤ b14b6 := Nat.le_trans Zs hs_b14b6
    have sz_b14b6 : h0.size ≤ b14b6 := Nat.le_trans K.1 hs_b14b6
    have ne_b8_b14b6 : b8 ≠ b14b6 := Nat.ne_of_lt (Nat.lt_of_lt_of_le lt_b8 hs_b14b6)
    obtain ⟨ar14, ear14⟩ : ∃ z : Nat → Int32, (fun _ => (0 : Int32)) = z := ⟨_, rfl⟩
    rw [ear14] at A_b14b6
    have K := K.trans Kc (allS (Or.inr sz_b8) all0)
    have Zs := Nat.le_trans Zs Kc.1
    have N := Fr.app N N9
    show Go p e below _ T14 (mkF m 17 #[.val (.int p1), .val (.long q2), .second, .val (.int p3), .val (.int (0 : Int32)), .unset, .unset, .unset] [(.ref b8)])
    refine own_astore X hx hby at_17 rfl (l' := #[.val (.int p1), .val (.long q2), .second, .val (.int p3), .val (.int (0 : Int32)), .val (.ref b8), .unset, .unset]) rfl 19 rfl ?_
    refine own_aload X hx hby (.ref b8) at_19 rfl rfl 21 rfl ?_
    refine own_lloadN X hx hby q2 at_21 rfl 22 rfl ?_
    refine own_callV X hx hby hZ (st := []) [(.long q2)] rfl hown (hw _ (List.mem_of_getElem? (i := 13) rfl)) (hw _ (List.mem_of_getElem? (i := 14) rfl)) (hw _ (List.mem_of_getElem? (i := 16) rfl)) (hw _ (List.mem_of_getElem? (i := 15) rfl)) (hw _ (List.mem_of_getElem? (i := 3) rfl)) (hw _ (List.mem_of_getElem? (i := 17) rfl)) E_b8 (by decide) at_22 (rm3 l Z a0 hw b8 q2 b14b6 ar14 h14 n0 Zs A_b14b6 E_b14b6 g_b14b6 E_b8 F_bytes_b8 F_length_b8 g_b8) eT pd_5 rfl (by rw [hml]; rfl) (by decide) 0 rfl (by decide) (by decide) (by decide) 25 rfl ?_
    intro T22 L9 v9 X hQ
    obtain ⟨h22, eT⟩ : ∃ z, T22.heap = z := ⟨_, rfl⟩
    rw [eT] at hQ
    obtain ⟨rfl, N9, Kc, E_b8, F_bytes_b8, F_length_b8, A_b14b6, E_b14b6⟩ := hQ
    obtain ⟨ar22, ear22⟩ : ∃ z : Nat → Int32, (updI (updI (updI (updI (updI (updI (updI (updI ar14 0 (nar .byte ((((q2.toUInt64 >>> ((56 : Int32) &&& 0x3f).toInt64.toUInt64).toInt64).toInt32).toInt8.toInt32))) 1 (nar .byte ((((q2.toUInt64 >>> ((48 : Int32) &&& 0x3f).toInt64.toUInt64).toInt64).toInt32).toInt8.toInt32))) 2 (nar .byte ((((q2.toUInt64 >>> ((40 : Int32) &&& 0x3f).toInt64.toUInt64).toInt64).toInt32).toInt8.toInt32))) 3 (nar .byte ((((q2.toUInt64 >>> ((32 : Int32) &&& 0x3f).toInt64.toUInt64).toInt64).toInt32).toInt8.toInt32))) 4 (nar .byte ((((q2.toUInt64 >>> ((24 : Int32) &&& 0x3f).toInt64.toUInt64).toInt64).toInt32).toInt8.toInt32))) 5 (nar .byte ((((q2.toUInt64 >>> ((16 : Int32) &&& 0x3f).toInt64.toUInt64).toInt64).toInt32).toInt8.toInt32))) 6 (nar .byte ((((q2.toUInt64 >>> ((8 : Int32) &&& 0x3f).toInt64.toUInt64).toInt64).toInt32).toInt8.toInt32))) 7 (nar .byte ((((q2.toUInt64 >>> ((0 : Int32) &&& 0x3f).toInt64.toUInt64).toInt64).toInt32).toInt8.toInt32))) = z := ⟨_, rfl⟩
    rw [ear22] at A_b14b6
    have K := K.trans Kc (allS (Or.inr sz_b8) (allS (Or.inr sz_b14b6) all0))
    have Zs := Nat.le_trans Zs Kc.1
    have N := Fr.app N N9
    show Go p e below _ T22 (mkF m 25 #[.val (.int p1), .val (.long q2), .second, .val (.int p3), .val (.int (0 : Int32)), .val (.ref b8), .unset, .unset] [])
    refine own_aload X hx hby (.ref b8) at_25 rfl rfl 27 rfl ?_
    refine own_iload X hx hby (0 : Int32) at_27 rfl 29 rfl ?_
    refine own_iloadN X hx hby p3 at_29 rfl 30 rfl ?_
    refine own_callV X hx hby hZ (st := []) [(.int (0 : Int32)), (.int p3)] rfl hown (hw _ (List.mem_of_getElem? (i := 24) rfl)) (hw _ (List.mem_of_getElem? (i := 25) rfl)) (hw _ (List.mem_of_getElem? (i := 27) rfl)) (hw _ (List.mem_of_getElem? (i := 26) rfl)) (hw _ (List.mem_of_getElem? (i := 3) rfl)) (hw _ (List.mem_of_getElem? (i := 28) rfl)) E_b8 (by decide) at_30 (rm5_0 l Z a0 hw b8 p3 b14b6 ar22 (8 : Int32) h22 n0 Zs A_b14b6 E_b14b6 g_b14b6 E_b8 F_bytes_b8 F_length_b8 g_b8) eT pd_4 rfl (by rw [hml]; rfl) (by decide) 0 rfl (by decide) (by decide) (by decide) 33 rfl ?_
    intro T30 L9 v9 X hQ
    obtain ⟨h30, eT⟩ : ∃ z, T30.heap = z := ⟨_, rfl⟩
    rw [eT] at hQ
    obtain ⟨rfl, N9, Kc, A_b14b6, E_b14b6⟩ := hQ
    have E_b8 := E_b8.keep Kc
    have F_bytes_b8 := F_bytes_b8.keep Kc (ninS ne_b8_b14b6 nin0)
    have F_length_b8 := F_length_b8.keep Kc (ninS ne_b8_b14b6 nin0)
    obtain ⟨ar30, ear30⟩ : ∃ z : Nat → Int32, (updI (updI (updI (updI ar22 0 (nar .byte (((p3.toUInt32 >>> ((0 : Int32) &&& 31).toUInt32).toInt32).toInt8.toInt32))) 1 (nar .byte (((p3.toUInt32 >>> ((8 : Int32) &&& 31).toUInt32).toInt32).toInt8.toInt32))) 2 (nar .byte (((p3.toUInt32 >>> ((16 : Int32) &&& 31).toUInt32).toInt32).toInt8.toInt32))) 3 (nar .byte (((p3.toUInt32 >>> ((24 : Int32) &&& 31).toUInt32).toInt32).toInt8.toInt32))) = z := ⟨_, rfl⟩
    rw [ear30] at A_b14b6
    have K := K.trans Kc (allS (Or.inr sz_b14b6) all0)
    have Zs := Nat.le_trans Zs Kc.1
    have N := Fr.app N N9
    show Go p e below _ T30 (mkF m 33 #[.val (.int p1), .val (.long q2), .second, .val (.int p3), .val (.int (0 : Int32)), .val (.ref b8), .unset, .unset] [])
    refine own_aload X hx hby (.ref b8) at_33 rfl rfl 35 rfl ?_
    refine own_callV X hx hby hZ (st := []) [] rfl hown (hw _ (List.mem_of_getElem? (i := 29) rfl)) (hw _ (List.mem_of_getElem? (i := 30) rfl)) (hw _ (List.mem_of_getElem? (i := 32) rfl)) (hw _ (List.mem_of_getElem? (i := 31) rfl)) (hw _ (List.mem_of_getElem? (i := 3) rfl)) (hw _ (List.mem_of_getElem? (i := 33) rfl)) E_b8 (by decide) at_35 (rm6 l Z a0 hw b8 b14b6 ar30 h30 n0 Zs A_b14b6 E_b14b6 F_bytes_b8 F_length_b8) eT pd_2 rfl (by rw [hml]; rfl) (by decide) 0 rfl (by decide) (by decide) (by decide) 38 rfl ?_
    intro T35 L9 v9 X hQ
    obtain ⟨h35, eT⟩ : ∃ z, T35.heap = z := ⟨_, rfl⟩
    rw [eT] at hQ
    have lt_b14b6 := A_b14b6.lt
    have lt_b8 := E_b8.lt
    obtain ⟨b35b8b7, rfl, N9, Kc, hs_b35b8b7, A_b35b8b7, E_b35b8b7⟩ := hQ
    have g_b35b8b7 : n0 ≤ b35b8b7 := Nat.le_trans Zs hs_b35b8b7
    have sz_b35b8b7 : h0.size ≤ b35b8b7 := Nat.le_trans K.1 hs_b35b8b7
    have ne_b14b6_b35b8b7 : b14b6 ≠ b35b8b7 := Nat.ne_of_lt (Nat.lt_of_lt_of_le lt_b14b6 hs_b35b8b7)
    have ne_b8_b35b8b7 : b8 ≠ b35b8b7 := Nat.ne_of_lt (Nat.lt_of_lt_of_le lt_b8 hs_b35b8b7)
    have E_b8 := E_b8.keep Kc
    have F_bytes_b8 := F_bytes_b8.keep Kc nin0
    have F_length_b8 := F_length_b8.keep Kc nin0
    have A_b14b6 := A_b14b6.keep Kc nin0
    have E_b14b6 := E_b14b6.keep Kc
    have K := K.trans Kc all0
    have Zs := Nat.le_trans Zs Kc.1
    have N := Fr.app N N9
    show Go p e below _ T35 (mkF m 38 #[.val (.int p1), .val (.long q2), .second, .val (.int p3), .val (.int (0 : Int32)), .val (.ref b8), .unset, .unset] [(.ref b35b8b7)])
    refine own_astore X hx hby at_38 rfl (l' := #[.val (.int p1), .val (.long q2), .second, .val (.int p3), .val (.int (0 : Int32)), .val (.ref b8), .val (.ref b35b8b7), .unset]) rfl 40 rfl ?_
    refine own_aload X hx hby (.ref b35b8b7) at_40 rfl rfl 42 rfl ?_
    refine own_arraylength X hx hby hZ (8 : Int32) eT A_b35b8b7 rfl at_42 43 rfl ?_
    refine own_bipush X hx hby (8 : Int32) at_43 rfl 45 rfl ?_
    have c45 : (8 : Int32) = (8 : Int32) := by decide
    refine own_icmp_eq X hx hby at_45 50 48 (by decide) rfl (fun _ => ?_) (fun q => absurd c45 q)
    refine own_aload X hx hby (.ref b35b8b7) at_50 rfl rfl 52 rfl ?_
    refine own_iload X hx hby (0 : Int32) at_52 rfl 54 rfl ?_
    refine own_baload X hx hby hZ (ar30 0) eT A_b35b8b7 (by decide) rfl at_54 55 rfl ?_
    refine own_sipush X hx hby (255 : Int32) at_55 rfl 58 rfl ?_
    refine own_iand X hx hby at_58 59 rfl ?_
    refine own_aload X hx hby (.ref b35b8b7) at_59 rfl rfl 61 rfl ?_
    refine own_iload X hx hby (0 : Int32) at_61 rfl 63 rfl ?_
    refine own_iconst X hx hby (1 : Int32) at_63 rfl 64 rfl ?_
    refine own_iadd X hx hby at_64 65 rfl ?_
    refine own_top (v' := (.int (1 : Int32))) (congrArg Value.int (by decide)) ?_
    refine own_baload X hx hby hZ (ar30 1) eT A_b35b8b7 (by decide) rfl at_65 66 rfl ?_
    refine own_sipush X hx hby (255 : Int32) at_66 rfl 69 rfl ?_
    refine own_iand X hx hby at_69 70 rfl ?_
    refine own_bipush X hx hby (8 : Int32) at_70 rfl 72 rfl ?_
    refine own_ishl X hx hby at_72 73 rfl ?_
    refine own_ior X hx hby at_73 74 rfl ?_
    refine own_aload X hx hby (.ref b35b8b7) at_74 rfl rfl 76 rfl ?_
    refine own_iload X hx hby (0 : Int32) at_76 rfl 78 rfl ?_
    refine own_iconst X hx hby (2 : Int32) at_78 rfl 79 rfl ?_
    refine own_iadd X hx hby at_79 80 rfl ?_
    refine own_top (v' := (.int (2 : Int32))) (congrArg Value.int (by decide)) ?_
    refine own_baload X hx hby hZ (ar30 2) eT A_b35b8b7 (by decide) rfl at_80 81 rfl ?_
    refine own_sipush X hx hby (255 : Int32) at_81 rfl 84 rfl ?_
    refine own_iand X hx hby at_84 85 rfl ?_
    refine own_bipush X hx hby (16 : Int32) at_85 rfl 87 rfl ?_
    refine own_ishl X hx hby at_87 88 rfl ?_
    refine own_ior X hx hby at_88 89 rfl ?_
    refine own_aload X hx hby (.ref b35b8b7) at_89 rfl rfl 91 rfl ?_
    refine own_iload X hx hby (0 : Int32) at_91 rfl 93 rfl ?_
    refine own_iconst X hx hby (3 : Int32) at_93 rfl 94 rfl ?_
    refine own_iadd X hx hby at_94 95 rfl ?_
    refine own_top (v' := (.int (3 : Int32))) (congrArg Value.int (by decide)) ?_
    refine own_baload X hx hby hZ (ar30 3) eT A_b35b8b7 (by decide) rfl at_95 96 rfl ?_
    refine own_sipush X hx hby (255 : Int32) at_96 rfl 99 rfl ?_
    refine own_iand X hx hby at_99 100 rfl ?_
    refine own_bipush X hx hby (24 : Int32) at_100 rfl 102 rfl ?_
    refine own_ishl X hx hby at_102 103 rfl ?_
    refine own_ior X hx hby at_103 104 rfl ?_
    obtain ⟨v104, e104⟩ : ∃ z : Int32, (((((ar30 0) &&& (255 : Int32)) ||| (((ar30 1) &&& (255 : Int32)) <<< ((8 : Int32) &&& 31))) ||| (((ar30 2) &&& (255 : Int32)) <<< ((16 : Int32) &&& 31))) ||| (((ar30 3) &&& (255 : Int32)) <<< ((24 : Int32) &&& 31))) = z := ⟨_, rfl⟩
    refine own_istore X hx hby at_104 e104 (l' := #[.val (.int p1), .val (.long q2), .second, .val (.int p3), .val (.int (0 : Int32)), .val (.ref b8), .val (.ref b35b8b7), .val (.int v104)]) rfl 106 rfl ?_
    refine own_iload X hx hby v104 at_106 rfl 108 rfl ?_
    refine own_iloadN X hx hby p3 at_108 rfl 109 rfl ?_
    have c109 : v104 = p3 := own_le _ _ _ _ _ _ (by rw [← ear30]; rfl) (by rw [← ear30]; rfl) (by rw [← ear30]; rfl) (by rw [← ear30]; rfl) e104
    refine own_icmp_eq X hx hby at_109 114 112 (by decide) rfl (fun _ => ?_) (fun q => absurd c109 q)
    refine own_aload X hx hby (.ref b35b8b7) at_114 rfl rfl 116 rfl ?_
    refine own_iconst X hx hby (0 : Int32) at_116 rfl 117 rfl ?_
    refine own_iload X hx hby (0 : Int32) at_117 rfl 119 rfl ?_
    refine own_lloadN X hx hby q2 at_119 rfl 120 rfl ?_
    refine own_callS X hx hby hZ (st := []) [(.ref b35b8b7), (.int (0 : Int32)), (.int (0 : Int32)), (.long q2)] rfl hown (hw _ (List.mem_of_getElem? (i := 47) rfl)) (hw _ (List.mem_of_getElem? (i := 48) rfl)) (hw _ (List.mem_of_getElem? (i := 49) rfl)) (hw _ (List.mem_of_getElem? (i := 50) rfl)) (by decide) at_120 (rm8 l Z a0 hw b35b8b7 (0 : Int32) (0 : Int32) q2 ar30 h35 n0 Zs (by decide) A_b35b8b7 E_b35b8b7) eT pd_7 rfl (by rw [hml]; rfl) (by decide) 0 rfl (by decide) (by decide) (by decide) 123 rfl ?_
    intro T120 L9 v9 X hQ
    obtain ⟨rfl, N9, eT⟩ := hQ
    have N := Fr.app N N9
    show Go p e below _ T120 (mkF m 123 #[.val (.int p1), .val (.long q2), .second, .val (.int p3), .val (.int (0 : Int32)), .val (.ref b8), .val (.ref b35b8b7), .val (.int v104)] [(.int (f8 (0 : Int32) (0 : Int32) q2 ar30))])
    have c123 : ¬ (f8 (0 : Int32) (0 : Int32) q2 ar30) = (0 : Int32) := own_t _ _ _ _ (by decide) (by decide)
    refine own_if_eq X hx hby at_123 216 126 (by decide) rfl (fun q => absurd q c123) (fun _ => ?_)
    refine own_aload X hx hby (.ref b35b8b7) at_126 rfl rfl 128 rfl ?_
    refine own_iconst X hx hby (1 : Int32) at_128 rfl 129 rfl ?_
    refine own_iload X hx hby (0 : Int32) at_129 rfl 131 rfl ?_
    refine own_lloadN X hx hby q2 at_131 rfl 132 rfl ?_
    refine own_callS X hx hby hZ (st := []) [(.ref b35b8b7), (.int (1 : Int32)), (.int (0 : Int32)), (.long q2)] rfl hown (hw _ (List.mem_of_getElem? (i := 47) rfl)) (hw _ (List.mem_of_getElem? (i := 48) rfl)) (hw _ (List.mem_of_getElem? (i := 49) rfl)) (hw _ (List.mem_of_getElem? (i := 50) rfl)) (by decide) at_132 (rm8 l Z a0 hw b35b8b7 (1 : Int32) (0 : Int32) q2 ar30 h35 n0 Zs (by decide) A_b35b8b7 E_b35b8b7) eT pd_7 rfl (by rw [hml]; rfl) (by decide) 0 rfl (by decide) (by decide) (by decide) 135 rfl ?_
    intro T132 L9 v9 X hQ
    obtain ⟨rfl, N9, eT⟩ := hQ
    have N := Fr.app N N9
    show Go p e below _ T132 (mkF m 135 #[.val (.int p1), .val (.long q2), .second, .val (.int p3), .val (.int (0 : Int32)), .val (.ref b8), .val (.ref b35b8b7), .val (.int v104)] [(.int (f8 (1 : Int32) (0 : Int32) q2 ar30))])
    have c135 : ¬ (f8 (1 : Int32) (0 : Int32) q2 ar30) = (0 : Int32) := own_t _ _ _ _ (by decide) (by decide)
    refine own_if_eq X hx hby at_135 216 138 (by decide) rfl (fun q => absurd q c135) (fun _ => ?_)
    refine own_aload X hx hby (.ref b35b8b7) at_138 rfl rfl 140 rfl ?_
    refine own_iconst X hx hby (2 : Int32) at_140 rfl 141 rfl ?_
    refine own_iload X hx hby (0 : Int32) at_141 rfl 143 rfl ?_
    refine own_lloadN X hx hby q2 at_143 rfl 144 rfl ?_
    refine own_callS X hx hby hZ (st := []) [(.ref b35b8b7), (.int (2 : Int32)), (.int (0 : Int32)), (.long q2)] rfl hown (hw _ (List.mem_of_getElem? (i := 47) rfl)) (hw _ (List.mem_of_getElem? (i := 48) rfl)) (hw _ (List.mem_of_getElem? (i := 49) rfl)) (hw _ (List.mem_of_getElem? (i := 50) rfl)) (by decide) at_144 (rm8 l Z a0 hw b35b8b7 (2 : Int32) (0 : Int32) q2 ar30 h35 n0 Zs (by decide) A_b35b8b7 E_b35b8b7) eT pd_7 rfl (by rw [hml]; rfl) (by decide) 0 rfl (by decide) (by decide) (by decide) 147 rfl ?_
    intro T144 L9 v9 X hQ
    obtain ⟨rfl, N9, eT⟩ := hQ
    have N := Fr.app N N9
    show Go p e below _ T144 (mkF m 147 #[.val (.int p1), .val (.long q2), .second, .val (.int p3), .val (.int (0 : Int32)), .val (.ref b8), .val (.ref b35b8b7), .val (.int v104)] [(.int (f8 (2 : Int32) (0 : Int32) q2 ar30))])
    have c147 : ¬ (f8 (2 : Int32) (0 : Int32) q2 ar30) = (0 : Int32) := own_t _ _ _ _ (by decide) (by decide)
    refine own_if_eq X hx hby at_147 216 150 (by decide) rfl (fun q => absurd q c147) (fun _ => ?_)
    refine own_aload X hx hby (.ref b35b8b7) at_150 rfl rfl 152 rfl ?_
    refine own_iconst X hx hby (3 : Int32) at_152 rfl 153 rfl ?_
    refine own_iload X hx hby (0 : Int32) at_153 rfl 155 rfl ?_
    refine own_lloadN X hx hby q2 at_155 rfl 156 rfl ?_
    refine own_callS X hx hby hZ (st := []) [(.ref b35b8b7), (.int (3 : Int32)), (.int (0 : Int32)), (.long q2)] rfl hown (hw _ (List.mem_of_getElem? (i := 47) rfl)) (hw _ (List.mem_of_getElem? (i := 48) rfl)) (hw _ (List.mem_of_getElem? (i := 49) rfl)) (hw _ (List.mem_of_getElem? (i := 50) rfl)) (by decide) at_156 (rm8 l Z a0 hw b35b8b7 (3 : Int32) (0 : Int32) q2 ar30 h35 n0 Zs (by decide) A_b35b8b7 E_b35b8b7) eT pd_7 rfl (by rw [hml]; rfl) (by decide) 0 rfl (by decide) (by decide) (by decide) 159 rfl ?_
    intro T156 L9 v9 X hQ
    obtain ⟨rfl, N9, eT⟩ := hQ
    have N := Fr.app N N9
    show Go p e below _ T156 (mkF m 159 #[.val (.int p1), .val (.long q2), .second, .val (.int p3), .val (.int (0 : Int32)), .val (.ref b8), .val (.ref b35b8b7), .val (.int v104)] [(.int (f8 (3 : Int32) (0 : Int32) q2 ar30))])
    have c159 : ¬ (f8 (3 : Int32) (0 : Int32) q2 ar30) = (0 : Int32) := own_t _ _ _ _ (by decide) (by decide)
    refine own_if_eq X hx hby at_159 216 162 (by decide) rfl (fun q => absurd q c159) (fun _ => ?_)
    refine own_aload X hx hby (.ref b35b8b7) at_162 rfl rfl 164 rfl ?_
    refine own_iconst X hx hby (4 : Int32) at_164 rfl 165 rfl ?_
    refine own_iload X hx hby (0 : Int32) at_165 rfl 167 rfl ?_
    refine own_lloadN X hx hby q2 at_167 rfl 168 rfl ?_
    refine own_callS X hx hby hZ (st := []) [(.ref b35b8b7), (.int (4 : Int32)), (.int (0 : Int32)), (.long q2)] rfl hown (hw _ (List.mem_of_getElem? (i := 47) rfl)) (hw _ (List.mem_of_getElem? (i := 48) rfl)) (hw _ (List.mem_of_getElem? (i := 49) rfl)) (hw _ (List.mem_of_getElem? (i := 50) rfl)) (by decide) at_168 (rm8 l Z a0 hw b35b8b7 (4 : Int32) (0 : Int32) q2 ar30 h35 n0 Zs (by decide) A_b35b8b7 E_b35b8b7) eT pd_7 rfl (by rw [hml]; rfl) (by decide) 0 rfl (by decide) (by decide) (by decide) 171 rfl ?_
    intro T168 L9 v9 X hQ
    obtain ⟨rfl, N9, eT⟩ := hQ
    have N := Fr.app N N9
    show Go p e below _ T168 (mkF m 171 #[.val (.int p1), .val (.long q2), .second, .val (.int p3), .val (.int (0 : Int32)), .val (.ref b8), .val (.ref b35b8b7), .val (.int v104)] [(.int (f8 (4 : Int32) (0 : Int32) q2 ar30))])
    have c171 : ¬ (f8 (4 : Int32) (0 : Int32) q2 ar30) = (0 : Int32) := own_un _ _ (24 : Int32) _ _ (by decide) (by rw [← ear30, ← ear22]; rfl)
    refine own_if_eq X hx hby at_171 216 174 (by decide) rfl (fun q => absurd q c171) (fun _ => ?_)
    refine own_aload X hx hby (.ref b35b8b7) at_174 rfl rfl 176 rfl ?_
    refine own_iconst X hx hby (5 : Int32) at_176 rfl 177 rfl ?_
    refine own_iload X hx hby (0 : Int32) at_177 rfl 179 rfl ?_
    refine own_lloadN X hx hby q2 at_179 rfl 180 rfl ?_
    refine own_callS X hx hby hZ (st := []) [(.ref b35b8b7), (.int (5 : Int32)), (.int (0 : Int32)), (.long q2)] rfl hown (hw _ (List.mem_of_getElem? (i := 47) rfl)) (hw _ (List.mem_of_getElem? (i := 48) rfl)) (hw _ (List.mem_of_getElem? (i := 49) rfl)) (hw _ (List.mem_of_getElem? (i := 50) rfl)) (by decide) at_180 (rm8 l Z a0 hw b35b8b7 (5 : Int32) (0 : Int32) q2 ar30 h35 n0 Zs (by decide) A_b35b8b7 E_b35b8b7) eT pd_7 rfl (by rw [hml]; rfl) (by decide) 0 rfl (by decide) (by decide) (by decide) 183 rfl ?_
    intro T180 L9 v9 X hQ
    obtain ⟨rfl, N9, eT⟩ := hQ
    have N := Fr.app N N9
    show Go p e below _ T180 (mkF m 183 #[.val (.int p1), .val (.long q2), .second, .val (.int p3), .val (.int (0 : Int32)), .val (.ref b8), .val (.ref b35b8b7), .val (.int v104)] [(.int (f8 (5 : Int32) (0 : Int32) q2 ar30))])
    have c183 : ¬ (f8 (5 : Int32) (0 : Int32) q2 ar30) = (0 : Int32) := own_un _ _ (16 : Int32) _ _ (by decide) (by rw [← ear30, ← ear22]; rfl)
    refine own_if_eq X hx hby at_183 216 186 (by decide) rfl (fun q => absurd q c183) (fun _ => ?_)
    refine own_aload X hx hby (.ref b35b8b7) at_186 rfl rfl 188 rfl ?_
    refine own_bipush X hx hby (6 : Int32) at_188 rfl 190 rfl ?_
    refine own_iload X hx hby (0 : Int32) at_190 rfl 192 rfl ?_
    refine own_lloadN X hx hby q2 at_192 rfl 193 rfl ?_
    refine own_callS X hx hby hZ (st := []) [(.ref b35b8b7), (.int (6 : Int32)), (.int (0 : Int32)), (.long q2)] rfl hown (hw _ (List.mem_of_getElem? (i := 47) rfl)) (hw _ (List.mem_of_getElem? (i := 48) rfl)) (hw _ (List.mem_of_getElem? (i := 49) rfl)) (hw _ (List.mem_of_getElem? (i := 50) rfl)) (by decide) at_193 (rm8 l Z a0 hw b35b8b7 (6 : Int32) (0 : Int32) q2 ar30 h35 n0 Zs (by decide) A_b35b8b7 E_b35b8b7) eT pd_7 rfl (by rw [hml]; rfl) (by decide) 0 rfl (by decide) (by decide) (by decide) 196 rfl ?_
    intro T193 L9 v9 X hQ
    obtain ⟨rfl, N9, eT⟩ := hQ
    have N := Fr.app N N9
    show Go p e below _ T193 (mkF m 196 #[.val (.int p1), .val (.long q2), .second, .val (.int p3), .val (.int (0 : Int32)), .val (.ref b8), .val (.ref b35b8b7), .val (.int v104)] [(.int (f8 (6 : Int32) (0 : Int32) q2 ar30))])
    have c196 : ¬ (f8 (6 : Int32) (0 : Int32) q2 ar30) = (0 : Int32) := own_un _ _ (8 : Int32) _ _ (by decide) (by rw [← ear30, ← ear22]; rfl)
    refine own_if_eq X hx hby at_196 216 199 (by decide) rfl (fun q => absurd q c196) (fun _ => ?_)
    refine own_aload X hx hby (.ref b35b8b7) at_199 rfl rfl 201 rfl ?_
    refine own_bipush X hx hby (7 : Int32) at_201 rfl 203 rfl ?_
    refine own_iload X hx hby (0 : Int32) at_203 rfl 205 rfl ?_
    refine own_lloadN X hx hby q2 at_205 rfl 206 rfl ?_
    refine own_callS X hx hby hZ (st := []) [(.ref b35b8b7), (.int (7 : Int32)), (.int (0 : Int32)), (.long q2)] rfl hown (hw _ (List.mem_of_getElem? (i := 47) rfl)) (hw _ (List.mem_of_getElem? (i := 48) rfl)) (hw _ (List.mem_of_getElem? (i := 49) rfl)) (hw _ (List.mem_of_getElem? (i := 50) rfl)) (by decide) at_206 (rm8 l Z a0 hw b35b8b7 (7 : Int32) (0 : Int32) q2 ar30 h35 n0 Zs (by decide) A_b35b8b7 E_b35b8b7) eT pd_7 rfl (by rw [hml]; rfl) (by decide) 0 rfl (by decide) (by decide) (by decide) 209 rfl ?_
    intro T206 L9 v9 X hQ
    obtain ⟨rfl, N9, eT⟩ := hQ
    have N := Fr.app N N9
    show Go p e below _ T206 (mkF m 209 #[.val (.int p1), .val (.long q2), .second, .val (.int p3), .val (.int (0 : Int32)), .val (.ref b8), .val (.ref b35b8b7), .val (.int v104)] [(.int (f8 (7 : Int32) (0 : Int32) q2 ar30))])
    have c209 : ¬ (f8 (7 : Int32) (0 : Int32) q2 ar30) = (0 : Int32) := own_un _ _ (0 : Int32) _ _ (by decide) (by rw [← ear30, ← ear22]; rfl)
    refine own_if_eq X hx hby at_209 216 212 (by decide) rfl (fun q => absurd q c209) (fun _ => ?_)
    refine own_iconst X hx hby (1 : Int32) at_212 rfl 213 rfl ?_
    refine own_goto X hx hby at_213 217 (by decide) ?_
    refine own_retN X hx hby hret hlk (t := .boolean) (z' := (1 : Int32)) (by simp) at_217 (by decide) (by decide) rfl ?_
    rw [eT]
    exact ⟨rfl, N⟩
  · skip
    refine own_new X hx hby hZ hown (hw _ (List.mem_of_getElem? (i := 1) rfl)) (hw _ (List.mem_of_getElem? (i := 2) rfl)) (hw _ (List.mem_of_getElem? (i := 3) rfl)) eT at_8 (by decide) (by decide) 11 rfl ?_
    intro T8 h8 b8 gb8 X eT Ex A D
    have g_b8 : n0 ≤ b8 := by rw [gb8]; exact Zs
    have sz_b8 : h0.size ≤ b8 := by rw [gb8]; exact K.1
    have E_b8 := A
    have F_bytes_b8 : Fld Z h8 b8 "com/example/daylily/daylily/engine/ByteWriter" "bytes" "[B" .null := D (Or.inl (hw _ (List.mem_of_getElem? (i := 12) rfl))) (ty := (.array .byte)) (by decide)
    have F_length_b8 : Fld Z h8 b8 "com/example/daylily/daylily/engine/ByteWriter" "length" "I" (.int (0 : Int32)) := D (Or.inl (hw _ (List.mem_of_getElem? (i := 23) rfl))) (ty := .int) (by decide)
    have K := K.ext Ex
    have Zs := Nat.le_trans Zs Ex.1
    refine own_dup X hx hby at_11 rfl 12 rfl ?_
    refine own_bipush X hx hby (8 : Int32) at_12 rfl 14 rfl ?_
    refine own_callC X hx hby hZ (st := [(.ref b8)]) [(.int (8 : Int32))] rfl rfl hown (hw _ (List.mem_of_getElem? (i := 4) rfl)) (hw _ (List.mem_of_getElem? (i := 5) rfl)) (hw _ (List.mem_of_getElem? (i := 3) rfl)) (hw _ (List.mem_of_getElem? (i := 6) rfl)) (by decide) at_14 (rm1 l Z a0 hw b8 h8 n0 Zs E_b8 F_bytes_b8 F_length_b8 g_b8) eT pd_3 rfl (by rw [hml]; rfl) (by decide) 1 rfl (by decide) (by decide) (by decide) 17 rfl ?_
    intro T14 L9 v9 X hQ
    obtain ⟨h14, eT⟩ : ∃ z, T14.heap = z := ⟨_, rfl⟩
    rw [eT] at hQ
    have lt_b8 := E_b8.lt
    obtain ⟨b14b6, rfl, N9, Kc, hs_b14b6, E_b8, F_bytes_b8, F_length_b8, A_b14b6, E_b14b6⟩ := hQ
    have g_b14b6 : n0 ≤ b14b6 := Nat.le_trans Zs hs_b14b6
    have sz_b14b6 : h0.size ≤ b14b6 := Nat.le_trans K.1 hs_b14b6
    have ne_b8_b14b6 : b8 ≠ b14b6 := Nat.ne_of_lt (Nat.lt_of_lt_of_le lt_b8 hs_b14b6)
    obtain ⟨ar14, ear14⟩ : ∃ z : Nat → Int32, (fun _ => (0 : Int32)) = z := ⟨_, rfl⟩
    rw [ear14] at A_b14b6
    have K := K.trans Kc (allS (Or.inr sz_b8) all0)
    have Zs := Nat.le_trans Zs Kc.1
    have N := Fr.app N N9
    show Go p e below _ T14 (mkF m 17 #[.val (.int p1), .val (.long q2), .second, .val (.int p3), .val (.int (1 : Int32)), .unset, .unset, .unset] [(.ref b8)])
    refine own_astore X hx hby at_17 rfl (l' := #[.val (.int p1), .val (.long q2), .second, .val (.int p3), .val (.int (1 : Int32)), .val (.ref b8), .unset, .unset]) rfl 19 rfl ?_
    refine own_aload X hx hby (.ref b8) at_19 rfl rfl 21 rfl ?_
    refine own_lloadN X hx hby q2 at_21 rfl 22 rfl ?_
    refine own_callV X hx hby hZ (st := []) [(.long q2)] rfl hown (hw _ (List.mem_of_getElem? (i := 13) rfl)) (hw _ (List.mem_of_getElem? (i := 14) rfl)) (hw _ (List.mem_of_getElem? (i := 16) rfl)) (hw _ (List.mem_of_getElem? (i := 15) rfl)) (hw _ (List.mem_of_getElem? (i := 3) rfl)) (hw _ (List.mem_of_getElem? (i := 17) rfl)) E_b8 (by decide) at_22 (rm3 l Z a0 hw b8 q2 b14b6 ar14 h14 n0 Zs A_b14b6 E_b14b6 g_b14b6 E_b8 F_bytes_b8 F_length_b8 g_b8) eT pd_5 rfl (by rw [hml]; rfl) (by decide) 0 rfl (by decide) (by decide) (by decide) 25 rfl ?_
    intro T22 L9 v9 X hQ
    obtain ⟨h22, eT⟩ : ∃ z, T22.heap = z := ⟨_, rfl⟩
    rw [eT] at hQ
    obtain ⟨rfl, N9, Kc, E_b8, F_bytes_b8, F_length_b8, A_b14b6, E_b14b6⟩ := hQ
    obtain ⟨ar22, ear22⟩ : ∃ z : Nat → Int32, (updI (updI (updI (updI (updI (updI (updI (updI ar14 0 (nar .byte ((((q2.toUInt64 >>> ((56 : Int32) &&& 0x3f).toInt64.toUInt64).toInt64).toInt32).toInt8.toInt32))) 1 (nar .byte ((((q2.toUInt64 >>> ((48 : Int32) &&& 0x3f).toInt64.toUInt64).toInt64).toInt32).toInt8.toInt32))) 2 (nar .byte ((((q2.toUInt64 >>> ((40 : Int32) &&& 0x3f).toInt64.toUInt64).toInt64).toInt32).toInt8.toInt32))) 3 (nar .byte ((((q2.toUInt64 >>> ((32 : Int32) &&& 0x3f).toInt64.toUInt64).toInt64).toInt32).toInt8.toInt32))) 4 (nar .byte ((((q2.toUInt64 >>> ((24 : Int32) &&& 0x3f).toInt64.toUInt64).toInt64).toInt32).toInt8.toInt32))) 5 (nar .byte ((((q2.toUInt64 >>> ((16 : Int32) &&& 0x3f).toInt64.toUInt64).toInt64).toInt32).toInt8.toInt32))) 6 (nar .byte ((((q2.toUInt64 >>> ((8 : Int32) &&& 0x3f).toInt64.toUInt64).toInt64).toInt32).toInt8.toInt32))) 7 (nar .byte ((((q2.toUInt64 >>> ((0 : Int32) &&& 0x3f).toInt64.toUInt64).toInt64).toInt32).toInt8.toInt32))) = z := ⟨_, rfl⟩
    rw [ear22] at A_b14b6
    have K := K.trans Kc (allS (Or.inr sz_b8) (allS (Or.inr sz_b14b6) all0))
    have Zs := Nat.le_trans Zs Kc.1
    have N := Fr.app N N9
    show Go p e below _ T22 (mkF m 25 #[.val (.int p1), .val (.long q2), .second, .val (.int p3), .val (.int (1 : Int32)), .val (.ref b8), .unset, .unset] [])
    refine own_aload X hx hby (.ref b8) at_25 rfl rfl 27 rfl ?_
    refine own_iload X hx hby (1 : Int32) at_27 rfl 29 rfl ?_
    refine own_iloadN X hx hby p3 at_29 rfl 30 rfl ?_
    refine own_callV X hx hby hZ (st := []) [(.int (1 : Int32)), (.int p3)] rfl hown (hw _ (List.mem_of_getElem? (i := 24) rfl)) (hw _ (List.mem_of_getElem? (i := 25) rfl)) (hw _ (List.mem_of_getElem? (i := 27) rfl)) (hw _ (List.mem_of_getElem? (i := 26) rfl)) (hw _ (List.mem_of_getElem? (i := 3) rfl)) (hw _ (List.mem_of_getElem? (i := 28) rfl)) E_b8 (by decide) at_30 (rm5_1 l Z a0 hw b8 p3 b14b6 ar22 (8 : Int32) h22 n0 Zs A_b14b6 E_b14b6 g_b14b6 E_b8 F_bytes_b8 F_length_b8 g_b8) eT pd_4 rfl (by rw [hml]; rfl) (by decide) 0 rfl (by decide) (by decide) (by decide) 33 rfl ?_
    intro T30 L9 v9 X hQ
    obtain ⟨h30, eT⟩ : ∃ z, T30.heap = z := ⟨_, rfl⟩
    rw [eT] at hQ
    obtain ⟨rfl, N9, Kc, A_b14b6, E_b14b6⟩ := hQ
    have E_b8 := E_b8.keep Kc
    have F_bytes_b8 := F_bytes_b8.keep Kc (ninS ne_b8_b14b6 nin0)
    have F_length_b8 := F_length_b8.keep Kc (ninS ne_b8_b14b6 nin0)
    obtain ⟨ar30, ear30⟩ : ∃ z : Nat → Int32, (updI (updI (updI (updI ar22 1 (nar .byte (((p3.toUInt32 >>> ((0 : Int32) &&& 31).toUInt32).toInt32).toInt8.toInt32))) 2 (nar .byte (((p3.toUInt32 >>> ((8 : Int32) &&& 31).toUInt32).toInt32).toInt8.toInt32))) 3 (nar .byte (((p3.toUInt32 >>> ((16 : Int32) &&& 31).toUInt32).toInt32).toInt8.toInt32))) 4 (nar .byte (((p3.toUInt32 >>> ((24 : Int32) &&& 31).toUInt32).toInt32).toInt8.toInt32))) = z := ⟨_, rfl⟩
    rw [ear30] at A_b14b6
    have K := K.trans Kc (allS (Or.inr sz_b14b6) all0)
    have Zs := Nat.le_trans Zs Kc.1
    have N := Fr.app N N9
    show Go p e below _ T30 (mkF m 33 #[.val (.int p1), .val (.long q2), .second, .val (.int p3), .val (.int (1 : Int32)), .val (.ref b8), .unset, .unset] [])
    refine own_aload X hx hby (.ref b8) at_33 rfl rfl 35 rfl ?_
    refine own_callV X hx hby hZ (st := []) [] rfl hown (hw _ (List.mem_of_getElem? (i := 29) rfl)) (hw _ (List.mem_of_getElem? (i := 30) rfl)) (hw _ (List.mem_of_getElem? (i := 32) rfl)) (hw _ (List.mem_of_getElem? (i := 31) rfl)) (hw _ (List.mem_of_getElem? (i := 3) rfl)) (hw _ (List.mem_of_getElem? (i := 33) rfl)) E_b8 (by decide) at_35 (rm6 l Z a0 hw b8 b14b6 ar30 h30 n0 Zs A_b14b6 E_b14b6 F_bytes_b8 F_length_b8) eT pd_2 rfl (by rw [hml]; rfl) (by decide) 0 rfl (by decide) (by decide) (by decide) 38 rfl ?_
    intro T35 L9 v9 X hQ
    obtain ⟨h35, eT⟩ : ∃ z, T35.heap = z := ⟨_, rfl⟩
    rw [eT] at hQ
    have lt_b14b6 := A_b14b6.lt
    have lt_b8 := E_b8.lt
    obtain ⟨b35b8b7, rfl, N9, Kc, hs_b35b8b7, A_b35b8b7, E_b35b8b7⟩ := hQ
    have g_b35b8b7 : n0 ≤ b35b8b7 := Nat.le_trans Zs hs_b35b8b7
    have sz_b35b8b7 : h0.size ≤ b35b8b7 := Nat.le_trans K.1 hs_b35b8b7
    have ne_b14b6_b35b8b7 : b14b6 ≠ b35b8b7 := Nat.ne_of_lt (Nat.lt_of_lt_of_le lt_b14b6 hs_b35b8b7)
    have ne_b8_b35b8b7 : b8 ≠ b35b8b7 := Nat.ne_of_lt (Nat.lt_of_lt_of_le lt_b8 hs_b35b8b7)
    have E_b8 := E_b8.keep Kc
    have F_bytes_b8 := F_bytes_b8.keep Kc nin0
    have F_length_b8 := F_length_b8.keep Kc nin0
    have A_b14b6 := A_b14b6.keep Kc nin0
    have E_b14b6 := E_b14b6.keep Kc
    have K := K.trans Kc all0
    have Zs := Nat.le_trans Zs Kc.1
    have N := Fr.app N N9
    show Go p e below _ T35 (mkF m 38 #[.val (.int p1), .val (.long q2), .second, .val (.int p3), .val (.int (1 : Int32)), .val (.ref b8), .unset, .unset] [(.ref b35b8b7)])
    refine own_astore X hx hby at_38 rfl (l' := #[.val (.int p1), .val (.long q2), .second, .val (.int p3), .val (.int (1 : Int32)), .val (.ref b8), .val (.ref b35b8b7), .unset]) rfl 40 rfl ?_
    refine own_aload X hx hby (.ref b35b8b7) at_40 rfl rfl 42 rfl ?_
    refine own_arraylength X hx hby hZ (8 : Int32) eT A_b35b8b7 rfl at_42 43 rfl ?_
    refine own_bipush X hx hby (8 : Int32) at_43 rfl 45 rfl ?_
    have c45 : (8 : Int32) = (8 : Int32) := by decide
    refine own_icmp_eq X hx hby at_45 50 48 (by decide) rfl (fun _ => ?_) (fun q => absurd c45 q)
    refine own_aload X hx hby (.ref b35b8b7) at_50 rfl rfl 52 rfl ?_
    refine own_iload X hx hby (1 : Int32) at_52 rfl 54 rfl ?_
    refine own_baload X hx hby hZ (ar30 1) eT A_b35b8b7 (by decide) rfl at_54 55 rfl ?_
    refine own_sipush X hx hby (255 : Int32) at_55 rfl 58 rfl ?_
    refine own_iand X hx hby at_58 59 rfl ?_
    refine own_aload X hx hby (.ref b35b8b7) at_59 rfl rfl 61 rfl ?_
    refine own_iload X hx hby (1 : Int32) at_61 rfl 63 rfl ?_
    refine own_iconst X hx hby (1 : Int32) at_63 rfl 64 rfl ?_
    refine own_iadd X hx hby at_64 65 rfl ?_
    refine own_top (v' := (.int (2 : Int32))) (congrArg Value.int (by decide)) ?_
    refine own_baload X hx hby hZ (ar30 2) eT A_b35b8b7 (by decide) rfl at_65 66 rfl ?_
    refine own_sipush X hx hby (255 : Int32) at_66 rfl 69 rfl ?_
    refine own_iand X hx hby at_69 70 rfl ?_
    refine own_bipush X hx hby (8 : Int32) at_70 rfl 72 rfl ?_
    refine own_ishl X hx hby at_72 73 rfl ?_
    refine own_ior X hx hby at_73 74 rfl ?_
    refine own_aload X hx hby (.ref b35b8b7) at_74 rfl rfl 76 rfl ?_
    refine own_iload X hx hby (1 : Int32) at_76 rfl 78 rfl ?_
    refine own_iconst X hx hby (2 : Int32) at_78 rfl 79 rfl ?_
    refine own_iadd X hx hby at_79 80 rfl ?_
    refine own_top (v' := (.int (3 : Int32))) (congrArg Value.int (by decide)) ?_
    refine own_baload X hx hby hZ (ar30 3) eT A_b35b8b7 (by decide) rfl at_80 81 rfl ?_
    refine own_sipush X hx hby (255 : Int32) at_81 rfl 84 rfl ?_
    refine own_iand X hx hby at_84 85 rfl ?_
    refine own_bipush X hx hby (16 : Int32) at_85 rfl 87 rfl ?_
    refine own_ishl X hx hby at_87 88 rfl ?_
    refine own_ior X hx hby at_88 89 rfl ?_
    refine own_aload X hx hby (.ref b35b8b7) at_89 rfl rfl 91 rfl ?_
    refine own_iload X hx hby (1 : Int32) at_91 rfl 93 rfl ?_
    refine own_iconst X hx hby (3 : Int32) at_93 rfl 94 rfl ?_
    refine own_iadd X hx hby at_94 95 rfl ?_
    refine own_top (v' := (.int (4 : Int32))) (congrArg Value.int (by decide)) ?_
    refine own_baload X hx hby hZ (ar30 4) eT A_b35b8b7 (by decide) rfl at_95 96 rfl ?_
    refine own_sipush X hx hby (255 : Int32) at_96 rfl 99 rfl ?_
    refine own_iand X hx hby at_99 100 rfl ?_
    refine own_bipush X hx hby (24 : Int32) at_100 rfl 102 rfl ?_
    refine own_ishl X hx hby at_102 103 rfl ?_
    refine own_ior X hx hby at_103 104 rfl ?_
    obtain ⟨v104, e104⟩ : ∃ z : Int32, (((((ar30 1) &&& (255 : Int32)) ||| (((ar30 2) &&& (255 : Int32)) <<< ((8 : Int32) &&& 31))) ||| (((ar30 3) &&& (255 : Int32)) <<< ((16 : Int32) &&& 31))) ||| (((ar30 4) &&& (255 : Int32)) <<< ((24 : Int32) &&& 31))) = z := ⟨_, rfl⟩
    refine own_istore X hx hby at_104 e104 (l' := #[.val (.int p1), .val (.long q2), .second, .val (.int p3), .val (.int (1 : Int32)), .val (.ref b8), .val (.ref b35b8b7), .val (.int v104)]) rfl 106 rfl ?_
    refine own_iload X hx hby v104 at_106 rfl 108 rfl ?_
    refine own_iloadN X hx hby p3 at_108 rfl 109 rfl ?_
    have c109 : v104 = p3 := own_le _ _ _ _ _ _ (by rw [← ear30]; rfl) (by rw [← ear30]; rfl) (by rw [← ear30]; rfl) (by rw [← ear30]; rfl) e104
    refine own_icmp_eq X hx hby at_109 114 112 (by decide) rfl (fun _ => ?_) (fun q => absurd c109 q)
    refine own_aload X hx hby (.ref b35b8b7) at_114 rfl rfl 116 rfl ?_
    refine own_iconst X hx hby (0 : Int32) at_116 rfl 117 rfl ?_
    refine own_iload X hx hby (1 : Int32) at_117 rfl 119 rfl ?_
    refine own_lloadN X hx hby q2 at_119 rfl 120 rfl ?_
    refine own_callS X hx hby hZ (st := []) [(.ref b35b8b7), (.int (0 : Int32)), (.int (1 : Int32)), (.long q2)] rfl hown (hw _ (List.mem_of_getElem? (i := 47) rfl)) (hw _ (List.mem_of_getElem? (i := 48) rfl)) (hw _ (List.mem_of_getElem? (i := 49) rfl)) (hw _ (List.mem_of_getElem? (i := 50) rfl)) (by decide) at_120 (rm8 l Z a0 hw b35b8b7 (0 : Int32) (1 : Int32) q2 ar30 h35 n0 Zs (by decide) A_b35b8b7 E_b35b8b7) eT pd_7 rfl (by rw [hml]; rfl) (by decide) 0 rfl (by decide) (by decide) (by decide) 123 rfl ?_
    intro T120 L9 v9 X hQ
    obtain ⟨rfl, N9, eT⟩ := hQ
    have N := Fr.app N N9
    show Go p e below _ T120 (mkF m 123 #[.val (.int p1), .val (.long q2), .second, .val (.int p3), .val (.int (1 : Int32)), .val (.ref b8), .val (.ref b35b8b7), .val (.int v104)] [(.int (f8 (0 : Int32) (1 : Int32) q2 ar30))])
    have c123 : ¬ (f8 (0 : Int32) (1 : Int32) q2 ar30) = (0 : Int32) := own_un _ _ (56 : Int32) _ _ (by decide) (by rw [← ear30, ← ear22]; rfl)
    refine own_if_eq X hx hby at_123 216 126 (by decide) rfl (fun q => absurd q c123) (fun _ => ?_)
    refine own_aload X hx hby (.ref b35b8b7) at_126 rfl rfl 128 rfl ?_
    refine own_iconst X hx hby (1 : Int32) at_128 rfl 129 rfl ?_
    refine own_iload X hx hby (1 : Int32) at_129 rfl 131 rfl ?_
    refine own_lloadN X hx hby q2 at_131 rfl 132 rfl ?_
    refine own_callS X hx hby hZ (st := []) [(.ref b35b8b7), (.int (1 : Int32)), (.int (1 : Int32)), (.long q2)] rfl hown (hw _ (List.mem_of_getElem? (i := 47) rfl)) (hw _ (List.mem_of_getElem? (i := 48) rfl)) (hw _ (List.mem_of_getElem? (i := 49) rfl)) (hw _ (List.mem_of_getElem? (i := 50) rfl)) (by decide) at_132 (rm8 l Z a0 hw b35b8b7 (1 : Int32) (1 : Int32) q2 ar30 h35 n0 Zs (by decide) A_b35b8b7 E_b35b8b7) eT pd_7 rfl (by rw [hml]; rfl) (by decide) 0 rfl (by decide) (by decide) (by decide) 135 rfl ?_
    intro T132 L9 v9 X hQ
    obtain ⟨rfl, N9, eT⟩ := hQ
    have N := Fr.app N N9
    show Go p e below _ T132 (mkF m 135 #[.val (.int p1), .val (.long q2), .second, .val (.int p3), .val (.int (1 : Int32)), .val (.ref b8), .val (.ref b35b8b7), .val (.int v104)] [(.int (f8 (1 : Int32) (1 : Int32) q2 ar30))])
    have c135 : ¬ (f8 (1 : Int32) (1 : Int32) q2 ar30) = (0 : Int32) := own_t _ _ _ _ (by decide) (by decide)
    refine own_if_eq X hx hby at_135 216 138 (by decide) rfl (fun q => absurd q c135) (fun _ => ?_)
    refine own_aload X hx hby (.ref b35b8b7) at_138 rfl rfl 140 rfl ?_
    refine own_iconst X hx hby (2 : Int32) at_140 rfl 141 rfl ?_
    refine own_iload X hx hby (1 : Int32) at_141 rfl 143 rfl ?_
    refine own_lloadN X hx hby q2 at_143 rfl 144 rfl ?_
    refine own_callS X hx hby hZ (st := []) [(.ref b35b8b7), (.int (2 : Int32)), (.int (1 : Int32)), (.long q2)] rfl hown (hw _ (List.mem_of_getElem? (i := 47) rfl)) (hw _ (List.mem_of_getElem? (i := 48) rfl)) (hw _ (List.mem_of_getElem? (i := 49) rfl)) (hw _ (List.mem_of_getElem? (i := 50) rfl)) (by decide) at_144 (rm8 l Z a0 hw b35b8b7 (2 : Int32) (1 : Int32) q2 ar30 h35 n0 Zs (by decide) A_b35b8b7 E_b35b8b7) eT pd_7 rfl (by rw [hml]; rfl) (by decide) 0 rfl (by decide) (by decide) (by decide) 147 rfl ?_
    intro T144 L9 v9 X hQ
    obtain ⟨rfl, N9, eT⟩ := hQ
    have N := Fr.app N N9
    show Go p e below _ T144 (mkF m 147 #[.val (.int p1), .val (.long q2), .second, .val (.int p3), .val (.int (1 : Int32)), .val (.ref b8), .val (.ref b35b8b7), .val (.int v104)] [(.int (f8 (2 : Int32) (1 : Int32) q2 ar30))])
    have c147 : ¬ (f8 (2 : Int32) (1 : Int32) q2 ar30) = (0 : Int32) := own_t _ _ _ _ (by decide) (by decide)
    refine own_if_eq X hx hby at_147 216 150 (by decide) rfl (fun q => absurd q c147) (fun _ => ?_)
    refine own_aload X hx hby (.ref b35b8b7) at_150 rfl rfl 152 rfl ?_
    refine own_iconst X hx hby (3 : Int32) at_152 rfl 153 rfl ?_
    refine own_iload X hx hby (1 : Int32) at_153 rfl 155 rfl ?_
    refine own_lloadN X hx hby q2 at_155 rfl 156 rfl ?_
    refine own_callS X hx hby hZ (st := []) [(.ref b35b8b7), (.int (3 : Int32)), (.int (1 : Int32)), (.long q2)] rfl hown (hw _ (List.mem_of_getElem? (i := 47) rfl)) (hw _ (List.mem_of_getElem? (i := 48) rfl)) (hw _ (List.mem_of_getElem? (i := 49) rfl)) (hw _ (List.mem_of_getElem? (i := 50) rfl)) (by decide) at_156 (rm8 l Z a0 hw b35b8b7 (3 : Int32) (1 : Int32) q2 ar30 h35 n0 Zs (by decide) A_b35b8b7 E_b35b8b7) eT pd_7 rfl (by rw [hml]; rfl) (by decide) 0 rfl (by decide) (by decide) (by decide) 159 rfl ?_
    intro T156 L9 v9 X hQ
    obtain ⟨rfl, N9, eT⟩ := hQ
    have N := Fr.app N N9
    show Go p e below _ T156 (mkF m 159 #[.val (.int p1), .val (.long q2), .second, .val (.int p3), .val (.int (1 : Int32)), .val (.ref b8), .val (.ref b35b8b7), .val (.int v104)] [(.int (f8 (3 : Int32) (1 : Int32) q2 ar30))])
    have c159 : ¬ (f8 (3 : Int32) (1 : Int32) q2 ar30) = (0 : Int32) := own_t _ _ _ _ (by decide) (by decide)
    refine own_if_eq X hx hby at_159 216 162 (by decide) rfl (fun q => absurd q c159) (fun _ => ?_)
    refine own_aload X hx hby (.ref b35b8b7) at_162 rfl rfl 164 rfl ?_
    refine own_iconst X hx hby (4 : Int32) at_164 rfl 165 rfl ?_
    refine own_iload X hx hby (1 : Int32) at_165 rfl 167 rfl ?_
    refine own_lloadN X hx hby q2 at_167 rfl 168 rfl ?_
    refine own_callS X hx hby hZ (st := []) [(.ref b35b8b7), (.int (4 : Int32)), (.int (1 : Int32)), (.long q2)] rfl hown (hw _ (List.mem_of_getElem? (i := 47) rfl)) (hw _ (List.mem_of_getElem? (i := 48) rfl)) (hw _ (List.mem_of_getElem? (i := 49) rfl)) (hw _ (List.mem_of_getElem? (i := 50) rfl)) (by decide) at_168 (rm8 l Z a0 hw b35b8b7 (4 : Int32) (1 : Int32) q2 ar30 h35 n0 Zs (by decide) A_b35b8b7 E_b35b8b7) eT pd_7 rfl (by rw [hml]; rfl) (by decide) 0 rfl (by decide) (by decide) (by decide) 171 rfl ?_
    intro T168 L9 v9 X hQ
    obtain ⟨rfl, N9, eT⟩ := hQ
    have N := Fr.app N N9
    show Go p e below _ T168 (mkF m 171 #[.val (.int p1), .val (.long q2), .second, .val (.int p3), .val (.int (1 : Int32)), .val (.ref b8), .val (.ref b35b8b7), .val (.int v104)] [(.int (f8 (4 : Int32) (1 : Int32) q2 ar30))])
    have c171 : ¬ (f8 (4 : Int32) (1 : Int32) q2 ar30) = (0 : Int32) := own_t _ _ _ _ (by decide) (by decide)
    refine own_if_eq X hx hby at_171 216 174 (by decide) rfl (fun q => absurd q c171) (fun _ => ?_)
    refine own_aload X hx hby (.ref b35b8b7) at_174 rfl rfl 176 rfl ?_
    refine own_iconst X hx hby (5 : Int32) at_176 rfl 177 rfl ?_
    refine own_iload X hx hby (1 : Int32) at_177 rfl 179 rfl ?_
    refine own_lloadN X hx hby q2 at_179 rfl 180 rfl ?_
    refine own_callS X hx hby hZ (st := []) [(.ref b35b8b7), (.int (5 : Int32)), (.int (1 : Int32)), (.long q2)] rfl hown (hw _ (List.mem_of_getElem? (i := 47) rfl)) (hw _ (List.mem_of_getElem? (i := 48) rfl)) (hw _ (List.mem_of_getElem? (i := 49) rfl)) (hw _ (List.mem_of_getElem? (i := 50) rfl)) (by decide) at_180 (rm8 l Z a0 hw b35b8b7 (5 : Int32) (1 : Int32) q2 ar30 h35 n0 Zs (by decide) A_b35b8b7 E_b35b8b7) eT pd_7 rfl (by rw [hml]; rfl) (by decide) 0 rfl (by decide) (by decide) (by decide) 183 rfl ?_
    intro T180 L9 v9 X hQ
    obtain ⟨rfl, N9, eT⟩ := hQ
    have N := Fr.app N N9
    show Go p e below _ T180 (mkF m 183 #[.val (.int p1), .val (.long q2), .second, .val (.int p3), .val (.int (1 : Int32)), .val (.ref b8), .val (.ref b35b8b7), .val (.int v104)] [(.int (f8 (5 : Int32) (1 : Int32) q2 ar30))])
    have c183 : ¬ (f8 (5 : Int32) (1 : Int32) q2 ar30) = (0 : Int32) := own_un _ _ (16 : Int32) _ _ (by decide) (by rw [← ear30, ← ear22]; rfl)
    refine own_if_eq X hx hby at_183 216 186 (by decide) rfl (fun q => absurd q c183) (fun _ => ?_)
    refine own_aload X hx hby (.ref b35b8b7) at_186 rfl rfl 188 rfl ?_
    refine own_bipush X hx hby (6 : Int32) at_188 rfl 190 rfl ?_
    refine own_iload X hx hby (1 : Int32) at_190 rfl 192 rfl ?_
    refine own_lloadN X hx hby q2 at_192 rfl 193 rfl ?_
    refine own_callS X hx hby hZ (st := []) [(.ref b35b8b7), (.int (6 : Int32)), (.int (1 : Int32)), (.long q2)] rfl hown (hw _ (List.mem_of_getElem? (i := 47) rfl)) (hw _ (List.mem_of_getElem? (i := 48) rfl)) (hw _ (List.mem_of_getElem? (i := 49) rfl)) (hw _ (List.mem_of_getElem? (i := 50) rfl)) (by decide) at_193 (rm8 l Z a0 hw b35b8b7 (6 : Int32) (1 : Int32) q2 ar30 h35 n0 Zs (by decide) A_b35b8b7 E_b35b8b7) eT pd_7 rfl (by rw [hml]; rfl) (by decide) 0 rfl (by decide) (by decide) (by decide) 196 rfl ?_
    intro T193 L9 v9 X hQ
    obtain ⟨rfl, N9, eT⟩ := hQ
    have N := Fr.app N N9
    show Go p e below _ T193 (mkF m 196 #[.val (.int p1), .val (.long q2), .second, .val (.int p3), .val (.int (1 : Int32)), .val (.ref b8), .val (.ref b35b8b7), .val (.int v104)] [(.int (f8 (6 : Int32) (1 : Int32) q2 ar30))])
    have c196 : ¬ (f8 (6 : Int32) (1 : Int32) q2 ar30) = (0 : Int32) := own_un _ _ (8 : Int32) _ _ (by decide) (by rw [← ear30, ← ear22]; rfl)
    refine own_if_eq X hx hby at_196 216 199 (by decide) rfl (fun q => absurd q c196) (fun _ => ?_)
    refine own_aload X hx hby (.ref b35b8b7) at_199 rfl rfl 201 rfl ?_
    refine own_bipush X hx hby (7 : Int32) at_201 rfl 203 rfl ?_
    refine own_iload X hx hby (1 : Int32) at_203 rfl 205 rfl ?_
    refine own_lloadN X hx hby q2 at_205 rfl 206 rfl ?_
    refine own_callS X hx hby hZ (st := []) [(.ref b35b8b7), (.int (7 : Int32)), (.int (1 : Int32)), (.long q2)] rfl hown (hw _ (List.mem_of_getElem? (i := 47) rfl)) (hw _ (List.mem_of_getElem? (i := 48) rfl)) (hw _ (List.mem_of_getElem? (i := 49) rfl)) (hw _ (List.mem_of_getElem? (i := 50) rfl)) (by decide) at_206 (rm8 l Z a0 hw b35b8b7 (7 : Int32) (1 : Int32) q2 ar30 h35 n0 Zs (by decide) A_b35b8b7 E_b35b8b7) eT pd_7 rfl (by rw [hml]; rfl) (by decide) 0 rfl (by decide) (by decide) (by decide) 209 rfl ?_
    intro T206 L9 v9 X hQ
    obtain ⟨rfl, N9, eT⟩ := hQ
    have N := Fr.app N N9
    show Go p e below _ T206 (mkF m 209 #[.val (.int p1), .val (.long q2), .second, .val (.int p3), .val (.int (1 : Int32)), .val (.ref b8), .val (.ref b35b8b7), .val (.int v104)] [(.int (f8 (7 : Int32) (1 : Int32) q2 ar30))])
    have c209 : ¬ (f8 (7 : Int32) (1 : Int32) q2 ar30) = (0 : Int32) := own_un _ _ (0 : Int32) _ _ (by decide) (by rw [← ear30, ← ear22]; rfl)
    refine own_if_eq X hx hby at_209 216 212 (by decide) rfl (fun q => absurd q c209) (fun _ => ?_)
    refine own_iconst X hx hby (1 : Int32) at_212 rfl 213 rfl ?_
    refine own_goto X hx hby at_213 217 (by decide) ?_
    refine own_retN X hx hby hret hlk (t := .boolean) (z' := (1 : Int32)) (by simp) at_217 (by decide) (by decide) rfl ?_
    rw [eT]
    exact ⟨rfl, N⟩
  · skip
    refine own_new X hx hby hZ hown (hw _ (List.mem_of_getElem? (i := 1) rfl)) (hw _ (List.mem_of_getElem? (i := 2) rfl)) (hw _ (List.mem_of_getElem? (i := 3) rfl)) eT at_8 (by decide) (by decide) 11 rfl ?_
    intro T8 h8 b8 gb8 X eT Ex A D
    have g_b8 : n0 ≤ b8 := by rw [gb8]; exact Zs
    have sz_b8 : h0.size ≤ b8 := by rw [gb8]; exact K.1
    have E_b8 := A
    have F_bytes_b8 : Fld Z h8 b8 "com/example/daylily/daylily/engine/ByteWriter" "bytes" "[B" .null := D (Or.inl (hw _ (List.mem_of_getElem? (i := 12) rfl))) (ty := (.array .byte)) (by decide)
    have F_length_b8 : Fld Z h8 b8 "com/example/daylily/daylily/engine/ByteWriter" "length" "I" (.int (0 : Int32)) := D (Or.inl (hw _ (List.mem_of_getElem? (i := 23) rfl))) (ty := .int) (by decide)
    have K := K.ext Ex
    have Zs := Nat.le_trans Zs Ex.1
    refine own_dup X hx hby at_11 rfl 12 rfl ?_
    refine own_bipush X hx hby (8 : Int32) at_12 rfl 14 rfl ?_
    refine own_callC X hx hby hZ (st := [(.ref b8)]) [(.int (8 : Int32))] rfl rfl hown (hw _ (List.mem_of_getElem? (i := 4) rfl)) (hw _ (List.mem_of_getElem? (i := 5) rfl)) (hw _ (List.mem_of_getElem? (i := 3) rfl)) (hw _ (List.mem_of_getElem? (i := 6) rfl)) (by decide) at_14 (rm1 l Z a0 hw b8 h8 n0 Zs E_b8 F_bytes_b8 F_length_b8 g_b8) eT pd_3 rfl (by rw [hml]; rfl) (by decide) 1 rfl (by decide) (by decide) (by decide) 17 rfl ?_
    intro T14 L9 v9 X hQ
    obtain ⟨h14, eT⟩ : ∃ z, T14.heap = z := ⟨_, rfl⟩
    rw [eT] at hQ
    have lt_b8 := E_b8.lt
    obtain ⟨b14b6, rfl, N9, Kc, hs_b14b6, E_b8, F_bytes_b8, F_length_b8, A_b14b6, E_b14b6⟩ := hQ
    have g_b14b6 : n0 ≤ b14b6 := Nat.le_trans Zs hs_b14b6
    have sz_b14b6 : h0.size ≤ b14b6 := Nat.le_trans K.1 hs_b14b6
    have ne_b8_b14b6 : b8 ≠ b14b6 := Nat.ne_of_lt (Nat.lt_of_lt_of_le lt_b8 hs_b14b6)
    obtain ⟨ar14, ear14⟩ : ∃ z : Nat → Int32, (fun _ => (0 : Int32)) = z := ⟨_, rfl⟩
    rw [ear14] at A_b14b6
    have K := K.trans Kc (allS (Or.inr sz_b8) all0)
    have Zs := Nat.le_trans Zs Kc.1
    have N := Fr.app N N9
    show Go p e below _ T14 (mkF m 17 #[.val (.int p1), .val (.long q2), .second, .val (.int p3), .val (.int (2 : Int32)), .unset, .unset, .unset] [(.ref b8)])
    refine own_astore X hx hby at_17 rfl (l' := #[.val (.int p1), .val (.long q2), .second, .val (.int p3), .val (.int (2 : Int32)), .val (.ref b8), .unset, .unset]) rfl 19 rfl ?_
    refine own_aload X hx hby (.ref b8) at_19 rfl rfl 21 rfl ?_
    refine own_lloadN X hx hby q2 at_21 rfl 22 rfl ?_
    refine own_callV X hx hby hZ (st := []) [(.long q2)] rfl hown (hw _ (List.mem_of_getElem? (i := 13) rfl)) (hw _ (List.mem_of_getElem? (i := 14) rfl)) (hw _ (List.mem_of_getElem? (i := 16) rfl)) (hw _ (List.mem_of_getElem? (i := 15) rfl)) (hw _ (List.mem_of_getElem? (i := 3) rfl)) (hw _ (List.mem_of_getElem? (i := 17) rfl)) E_b8 (by decide) at_22 (rm3 l Z a0 hw b8 q2 b14b6 ar14 h14 n0 Zs A_b14b6 E_b14b6 g_b14b6 E_b8 F_bytes_b8 F_length_b8 g_b8) eT pd_5 rfl (by rw [hml]; rfl) (by decide) 0 rfl (by decide) (by decide) (by decide) 25 rfl ?_
    intro T22 L9 v9 X hQ
    obtain ⟨h22, eT⟩ : ∃ z, T22.heap = z := ⟨_, rfl⟩
    rw [eT] at hQ
    obtain ⟨rfl, N9, Kc, E_b8, F_bytes_b8, F_length_b8, A_b14b6, E_b14b6⟩ := hQ
    obtain ⟨ar22, ear22⟩ : ∃ z : Nat → Int32, (updI (updI (updI (updI (updI (updI (updI (updI ar14 0 (nar .byte ((((q2.toUInt64 >>> ((56 : Int32) &&& 0x3f).toInt64.toUInt64).toInt64).toInt32).toInt8.toInt32))) 1 (nar .byte ((((q2.toUInt64 >>> ((48 : Int32) &&& 0x3f).toInt64.toUInt64).toInt64).toInt32).toInt8.toInt32))) 2 (nar .byte ((((q2.toUInt64 >>> ((40 : Int32) &&& 0x3f).toInt64.toUInt64).toInt64).toInt32).toInt8.toInt32))) 3 (nar .byte ((((q2.toUInt64 >>> ((32 : Int32) &&& 0x3f).toInt64.toUInt64).toInt64).toInt32).toInt8.toInt32))) 4 (nar .byte ((((q2.toUInt64 >>> ((24 : Int32) &&& 0x3f).toInt64.toUInt64).toInt64).toInt32).toInt8.toInt32))) 5 (nar .byte ((((q2.toUInt64 >>> ((16 : Int32) &&& 0x3f).toInt64.toUInt64).toInt64).toInt32).toInt8.toInt32))) 6 (nar .byte ((((q2.toUInt64 >>> ((8 : Int32) &&& 0x3f).toInt64.toUInt64).toInt64).toInt32).toInt8.toInt32))) 7 (nar .byte ((((q2.toUInt64 >>> ((0 : Int32) &&& 0x3f).toInt64.toUInt64).toInt64).toInt32).toInt8.toInt32))) = z := ⟨_, rfl⟩
    rw [ear22] at A_b14b6
    have K := K.trans Kc (allS (Or.inr sz_b8) (allS (Or.inr sz_b14b6) all0))
    have Zs := Nat.le_trans Zs Kc.1
    have N := Fr.app N N9
    show Go p e below _ T22 (mkF m 25 #[.val (.int p1), .val (.long q2), .second, .val (.int p3), .val (.int (2 : Int32)), .val (.ref b8), .unset, .unset] [])
    refine own_aload X hx hby (.ref b8) at_25 rfl rfl 27 rfl ?_
    refine own_iload X hx hby (2 : Int32) at_27 rfl 29 rfl ?_
    refine own_iloadN X hx hby p3 at_29 rfl 30 rfl ?_
    refine own_callV X hx hby hZ (st := []) [(.int (2 : Int32)), (.int p3)] rfl hown (hw _ (List.mem_of_getElem? (i := 24) rfl)) (hw _ (List.mem_of_getElem? (i := 25) rfl)) (hw _ (List.mem_of_getElem? (i := 27) rfl)) (hw _ (List.mem_of_getElem? (i := 26) rfl)) (hw _ (List.mem_of_getElem? (i := 3) rfl)) (hw _ (List.mem_of_getElem? (i := 28) rfl)) E_b8 (by decide) at_30 (rm5_2 l Z a0 hw b8 p3 b14b6 ar22 (8 : Int32) h22 n0 Zs A_b14b6 E_b14b6 g_b14b6 E_b8 F_bytes_b8 F_length_b8 g_b8) eT pd_4 rfl (by rw [hml]; rfl) (by decide) 0 rfl (by decide) (by decide) (by decide) 33 rfl ?_
    intro T30 L9 v9 X hQ
    obtain ⟨h30, eT⟩ : ∃ z, T30.heap = z := ⟨_, rfl⟩
    rw [eT] at hQ
    obtain ⟨rfl, N9, Kc, A_b14b6, E_b14b6⟩ := hQ
    have E_b8 := E_b8.keep Kc
    have F_bytes_b8 := F_bytes_b8.keep Kc (ninS ne_b8_b14b6 nin0)
    have F_length_b8 := F_length_b8.keep Kc (ninS ne_b8_b14b6 nin0)
    obtain ⟨ar30, ear30⟩ : ∃ z : Nat → Int32, (updI (updI (updI (updI ar22 2 (nar .byte (((p3.toUInt32 >>> ((0 : Int32) &&& 31).toUInt32).toInt32).toInt8.toInt32))) 3 (nar .byte (((p3.toUInt32 >>> ((8 : Int32) &&& 31).toUInt32).toInt32).toInt8.toInt32))) 4 (nar .byte (((p3.toUInt32 >>> ((16 : Int32) &&& 31).toUInt32).toInt32).toInt8.toInt32))) 5 (nar .byte (((p3.toUInt32 >>> ((24 : Int32) &&& 31).toUInt32).toInt32).toInt8.toInt32))) = z := ⟨_, rfl⟩
    rw [ear30] at A_b14b6
    have K := K.trans Kc (allS (Or.inr sz_b14b6) all0)
    have Zs := Nat.le_trans Zs Kc.1
    have N := Fr.app N N9
    show Go p e below _ T30 (mkF m 33 #[.val (.int p1), .val (.long q2), .second, .val (.int p3), .val (.int (2 : Int32)), .val (.ref b8), .unset, .unset] [])
    refine own_aload X hx hby (.ref b8) at_33 rfl rfl 35 rfl ?_
    refine own_callV X hx hby hZ (st := []) [] rfl hown (hw _ (List.mem_of_getElem? (i := 29) rfl)) (hw _ (List.mem_of_getElem? (i := 30) rfl)) (hw _ (List.mem_of_getElem? (i := 32) rfl)) (hw _ (List.mem_of_getElem? (i := 31) rfl)) (hw _ (List.mem_of_getElem? (i := 3) rfl)) (hw _ (List.mem_of_getElem? (i := 33) rfl)) E_b8 (by decide) at_35 (rm6 l Z a0 hw b8 b14b6 ar30 h30 n0 Zs A_b14b6 E_b14b6 F_bytes_b8 F_length_b8) eT pd_2 rfl (by rw [hml]; rfl) (by decide) 0 rfl (by decide) (by decide) (by decide) 38 rfl ?_
    intro T35 L9 v9 X hQ
    obtain ⟨h35, eT⟩ : ∃ z, T35.heap = z := ⟨_, rfl⟩
    rw [eT] at hQ
    have lt_b14b6 := A_b14b6.lt
    have lt_b8 := E_b8.lt
    obtain ⟨b35b8b7, rfl, N9, Kc, hs_b35b8b7, A_b35b8b7, E_b35b8b7⟩ := hQ
    have g_b35b8b7 : n0 ≤ b35b8b7 := Nat.le_trans Zs hs_b35b8b7
    have sz_b35b8b7 : h0.size ≤ b35b8b7 := Nat.le_trans K.1 hs_b35b8b7
    have ne_b14b6_b35b8b7 : b14b6 ≠ b35b8b7 := Nat.ne_of_lt (Nat.lt_of_lt_of_le lt_b14b6 hs_b35b8b7)
    have ne_b8_b35b8b7 : b8 ≠ b35b8b7 := Nat.ne_of_lt (Nat.lt_of_lt_of_le lt_b8 hs_b35b8b7)
    have E_b8 := E_b8.keep Kc
    have F_bytes_b8 := F_bytes_b8.keep Kc nin0
    have F_length_b8 := F_length_b8.keep Kc nin0
    have A_b14b6 := A_b14b6.keep Kc nin0
    have E_b14b6 := E_b14b6.keep Kc
    have K := K.trans Kc all0
    have Zs := Nat.le_trans Zs Kc.1
    have N := Fr.app N N9
    show Go p e below _ T35 (mkF m 38 #[.val (.int p1), .val (.long q2), .second, .val (.int p3), .val (.int (2 : Int32)), .val (.ref b8), .unset, .unset] [(.ref b35b8b7)])
    refine own_astore X hx hby at_38 rfl (l' := #[.val (.int p1), .val (.long q2), .second, .val (.int p3), .val (.int (2 : Int32)), .val (.ref b8), .val (.ref b35b8b7), .unset]) rfl 40 rfl ?_
    refine own_aload X hx hby (.ref b35b8b7) at_40 rfl rfl 42 rfl ?_
    refine own_arraylength X hx hby hZ (8 : Int32) eT A_b35b8b7 rfl at_42 43 rfl ?_
    refine own_bipush X hx hby (8 : Int32) at_43 rfl 45 rfl ?_
    have c45 : (8 : Int32) = (8 : Int32) := by decide
    refine own_icmp_eq X hx hby at_45 50 48 (by decide) rfl (fun _ => ?_) (fun q => absurd c45 q)
    refine own_aload X hx hby (.ref b35b8b7) at_50 rfl rfl 52 rfl ?_
    refine own_iload X hx hby (2 : Int32) at_52 rfl 54 rfl ?_
    refine own_baload X hx hby hZ (ar30 2) eT A_b35b8b7 (by decide) rfl at_54 55 rfl ?_
    refine own_sipush X hx hby (255 : Int32) at_55 rfl 58 rfl ?_
    refine own_iand X hx hby at_58 59 rfl ?_
    refine own_aload X hx hby (.ref b35b8b7) at_59 rfl rfl 61 rfl ?_
    refine own_iload X hx hby (2 : Int32) at_61 rfl 63 rfl ?_
    refine own_iconst X hx hby (1 : Int32) at_63 rfl 64 rfl ?_
    refine own_iadd X hx hby at_64 65 rfl ?_
    refine own_top (v' := (.int (3 : Int32))) (congrArg Value.int (by decide)) ?_
    refine own_baload X hx hby hZ (ar30 3) eT A_b35b8b7 (by decide) rfl at_65 66 rfl ?_
    refine own_sipush X hx hby (255 : Int32) at_66 rfl 69 rfl ?_
    refine own_iand X hx hby at_69 70 rfl ?_
    refine own_bipush X hx hby (8 : Int32) at_70 rfl 72 rfl ?_
    refine own_ishl X hx hby at_72 73 rfl ?_
    refine own_ior X hx hby at_73 74 rfl ?_
    refine own_aload X hx hby (.ref b35b8b7) at_74 rfl rfl 76 rfl ?_
    refine own_iload X hx hby (2 : Int32) at_76 rfl 78 rfl ?_
    refine own_iconst X hx hby (2 : Int32) at_78 rfl 79 rfl ?_
    refine own_iadd X hx hby at_79 80 rfl ?_
    refine own_top (v' := (.int (4 : Int32))) (congrArg Value.int (by decide)) ?_
    refine own_baload X hx hby hZ (ar30 4) eT A_b35b8b7 (by decide) rfl at_80 81 rfl ?_
    refine own_sipush X hx hby (255 : Int32) at_81 rfl 84 rfl ?_
    refine own_iand X hx hby at_84 85 rfl ?_
    refine own_bipush X hx hby (16 : Int32) at_85 rfl 87 rfl ?_
    refine own_ishl X hx hby at_87 88 rfl ?_
    refine own_ior X hx hby at_88 89 rfl ?_
    refine own_aload X hx hby (.ref b35b8b7) at_89 rfl rfl 91 rfl ?_
    refine own_iload X hx hby (2 : Int32) at_91 rfl 93 rfl ?_
    refine own_iconst X hx hby (3 : Int32) at_93 rfl 94 rfl ?_
    refine own_iadd X hx hby at_94 95 rfl ?_
    refine own_top (v' := (.int (5 : Int32))) (congrArg Value.int (by decide)) ?_
    refine own_baload X hx hby hZ (ar30 5) eT A_b35b8b7 (by decide) rfl at_95 96 rfl ?_
    refine own_sipush X hx hby (255 : Int32) at_96 rfl 99 rfl ?_
    refine own_iand X hx hby at_99 100 rfl ?_
    refine own_bipush X hx hby (24 : Int32) at_100 rfl 102 rfl ?_
    refine own_ishl X hx hby at_102 103 rfl ?_
    refine own_ior X hx hby at_103 104 rfl ?_
    obtain ⟨v104, e104⟩ : ∃ z : Int32, (((((ar30 2) &&& (255 : Int32)) ||| (((ar30 3) &&& (255 : Int32)) <<< ((8 : Int32) &&& 31))) ||| (((ar30 4) &&& (255 : Int32)) <<< ((16 : Int32) &&& 31))) ||| (((ar30 5) &&& (255 : Int32)) <<< ((24 : Int32) &&& 31))) = z := ⟨_, rfl⟩
    refine own_istore X hx hby at_104 e104 (l' := #[.val (.int p1), .val (.long q2), .second, .val (.int p3), .val (.int (2 : Int32)), .val (.ref b8), .val (.ref b35b8b7), .val (.int v104)]) rfl 106 rfl ?_
    refine own_iload X hx hby v104 at_106 rfl 108 rfl ?_
    refine own_iloadN X hx hby p3 at_108 rfl 109 rfl ?_
    have c109 : v104 = p3 := own_le _ _ _ _ _ _ (by rw [← ear30]; rfl) (by rw [← ear30]; rfl) (by rw [← ear30]; rfl) (by rw [← ear30]; rfl) e104
    refine own_icmp_eq X hx hby at_109 114 112 (by decide) rfl (fun _ => ?_) (fun q => absurd c109 q)
    refine own_aload X hx hby (.ref b35b8b7) at_114 rfl rfl 116 rfl ?_
    refine own_iconst X hx hby (0 : Int32) at_116 rfl 117 rfl ?_
    refine own_iload X hx hby (2 : Int32) at_117 rfl 119 rfl ?_
    refine own_lloadN X hx hby q2 at_119 rfl 120 rfl ?_
    refine own_callS X hx hby hZ (st := []) [(.ref b35b8b7), (.int (0 : Int32)), (.int (2 : Int32)), (.long q2)] rfl hown (hw _ (List.mem_of_getElem? (i := 47) rfl)) (hw _ (List.mem_of_getElem? (i := 48) rfl)) (hw _ (List.mem_of_getElem? (i := 49) rfl)) (hw _ (List.mem_of_getElem? (i := 50) rfl)) (by decide) at_120 (rm8 l Z a0 hw b35b8b7 (0 : Int32) (2 : Int32) q2 ar30 h35 n0 Zs (by decide) A_b35b8b7 E_b35b8b7) eT pd_7 rfl (by rw [hml]; rfl) (by decide) 0 rfl (by decide) (by decide) (by decide) 123 rfl ?_
    intro T120 L9 v9 X hQ
    obtain ⟨rfl, N9, eT⟩ := hQ
    have N := Fr.app N N9
    show Go p e below _ T120 (mkF m 123 #[.val (.int p1), .val (.long q2), .second, .val (.int p3), .val (.int (2 : Int32)), .val (.ref b8), .val (.ref b35b8b7), .val (.int v104)] [(.int (f8 (0 : Int32) (2 : Int32) q2 ar30))])
    have c123 : ¬ (f8 (0 : Int32) (2 : Int32) q2 ar30) = (0 : Int32) := own_un _ _ (56 : Int32) _ _ (by decide) (by rw [← ear30, ← ear22]; rfl)
    refine own_if_eq X hx hby at_123 216 126 (by decide) rfl (fun q => absurd q c123) (fun _ => ?_)
    refine own_aload X hx hby (.ref b35b8b7) at_126 rfl rfl 128 rfl ?_
    refine own_iconst X hx hby (1 : Int32) at_128 rfl 129 rfl ?_
    refine own_iload X hx hby (2 : Int32) at_129 rfl 131 rfl ?_
    refine own_lloadN X hx hby q2 at_131 rfl 132 rfl ?_
    refine own_callS X hx hby hZ (st := []) [(.ref b35b8b7), (.int (1 : Int32)), (.int (2 : Int32)), (.long q2)] rfl hown (hw _ (List.mem_of_getElem? (i := 47) rfl)) (hw _ (List.mem_of_getElem? (i := 48) rfl)) (hw _ (List.mem_of_getElem? (i := 49) rfl)) (hw _ (List.mem_of_getElem? (i := 50) rfl)) (by decide) at_132 (rm8 l Z a0 hw b35b8b7 (1 : Int32) (2 : Int32) q2 ar30 h35 n0 Zs (by decide) A_b35b8b7 E_b35b8b7) eT pd_7 rfl (by rw [hml]; rfl) (by decide) 0 rfl (by decide) (by decide) (by decide) 135 rfl ?_
    intro T132 L9 v9 X hQ
    obtain ⟨rfl, N9, eT⟩ := hQ
    have N := Fr.app N N9
    show Go p e below _ T132 (mkF m 135 #[.val (.int p1), .val (.long q2), .second, .val (.int p3), .val (.int (2 : Int32)), .val (.ref b8), .val (.ref b35b8b7), .val (.int v104)] [(.int (f8 (1 : Int32) (2 : Int32) q2 ar30))])
    have c135 : ¬ (f8 (1 : Int32) (2 : Int32) q2 ar30) = (0 : Int32) := own_un _ _ (48 : Int32) _ _ (by decide) (by rw [← ear30, ← ear22]; rfl)
    refine own_if_eq X hx hby at_135 216 138 (by decide) rfl (fun q => absurd q c135) (fun _ => ?_)
    refine own_aload X hx hby (.ref b35b8b7) at_138 rfl rfl 140 rfl ?_
    refine own_iconst X hx hby (2 : Int32) at_140 rfl 141 rfl ?_
    refine own_iload X hx hby (2 : Int32) at_141 rfl 143 rfl ?_
    refine own_lloadN X hx hby q2 at_143 rfl 144 rfl ?_
    refine own_callS X hx hby hZ (st := []) [(.ref b35b8b7), (.int (2 : Int32)), (.int (2 : Int32)), (.long q2)] rfl hown (hw _ (List.mem_of_getElem? (i := 47) rfl)) (hw _ (List.mem_of_getElem? (i := 48) rfl)) (hw _ (List.mem_of_getElem? (i := 49) rfl)) (hw _ (List.mem_of_getElem? (i := 50) rfl)) (by decide) at_144 (rm8 l Z a0 hw b35b8b7 (2 : Int32) (2 : Int32) q2 ar30 h35 n0 Zs (by decide) A_b35b8b7 E_b35b8b7) eT pd_7 rfl (by rw [hml]; rfl) (by decide) 0 rfl (by decide) (by decide) (by decide) 147 rfl ?_
    intro T144 L9 v9 X hQ
    obtain ⟨rfl, N9, eT⟩ := hQ
    have N := Fr.app N N9
    show Go p e below _ T144 (mkF m 147 #[.val (.int p1), .val (.long q2), .second, .val (.int p3), .val (.int (2 : Int32)), .val (.ref b8), .val (.ref b35b8b7), .val (.int v104)] [(.int (f8 (2 : Int32) (2 : Int32) q2 ar30))])
    have c147 : ¬ (f8 (2 : Int32) (2 : Int32) q2 ar30) = (0 : Int32) := own_t _ _ _ _ (by decide) (by decide)
    refine own_if_eq X hx hby at_147 216 150 (by decide) rfl (fun q => absurd q c147) (fun _ => ?_)
    refine own_aload X hx hby (.ref b35b8b7) at_150 rfl rfl 152 rfl ?_
    refine own_iconst X hx hby (3 : Int32) at_152 rfl 153 rfl ?_
    refine own_iload X hx hby (2 : Int32) at_153 rfl 155 rfl ?_
    refine own_lloadN X hx hby q2 at_155 rfl 156 rfl ?_
    refine own_callS X hx hby hZ (st := []) [(.ref b35b8b7), (.int (3 : Int32)), (.int (2 : Int32)), (.long q2)] rfl hown (hw _ (List.mem_of_getElem? (i := 47) rfl)) (hw _ (List.mem_of_getElem? (i := 48) rfl)) (hw _ (List.mem_of_getElem? (i := 49) rfl)) (hw _ (List.mem_of_getElem? (i := 50) rfl)) (by decide) at_156 (rm8 l Z a0 hw b35b8b7 (3 : Int32) (2 : Int32) q2 ar30 h35 n0 Zs (by decide) A_b35b8b7 E_b35b8b7) eT pd_7 rfl (by rw [hml]; rfl) (by decide) 0 rfl (by decide) (by decide) (by decide) 159 rfl ?_
    intro T156 L9 v9 X hQ
    obtain ⟨rfl, N9, eT⟩ := hQ
    have N := Fr.app N N9
    show Go p e below _ T156 (mkF m 159 #[.val (.int p1), .val (.long q2), .second, .val (.int p3), .val (.int (2 : Int32)), .val (.ref b8), .val (.ref b35b8b7), .val (.int v104)] [(.int (f8 (3 : Int32) (2 : Int32) q2 ar30))])
    have c159 : ¬ (f8 (3 : Int32) (2 : Int32) q2 ar30) = (0 : Int32) := own_t _ _ _ _ (by decide) (by decide)
    refine own_if_eq X hx hby at_159 216 162 (by decide) rfl (fun q => absurd q c159) (fun _ => ?_)
    refine own_aload X hx hby (.ref b35b8b7) at_162 rfl rfl 164 rfl ?_
    refine own_iconst X hx hby (4 : Int32) at_164 rfl 165 rfl ?_
    refine own_iload X hx hby (2 : Int32) at_165 rfl 167 rfl ?_
    refine own_lloadN X hx hby q2 at_167 rfl 168 rfl ?_
    refine own_callS X hx hby hZ (st := []) [(.ref b35b8b7), (.int (4 : Int32)), (.int (2 : Int32)), (.long q2)] rfl hown (hw _ (List.mem_of_getElem? (i := 47) rfl)) (hw _ (List.mem_of_getElem? (i := 48) rfl)) (hw _ (List.mem_of_getElem? (i := 49) rfl)) (hw _ (List.mem_of_getElem? (i := 50) rfl)) (by decide) at_168 (rm8 l Z a0 hw b35b8b7 (4 : Int32) (2 : Int32) q2 ar30 h35 n0 Zs (by decide) A_b35b8b7 E_b35b8b7) eT pd_7 rfl (by rw [hml]; rfl) (by decide) 0 rfl (by decide) (by decide) (by decide) 171 rfl ?_
    intro T168 L9 v9 X hQ
    obtain ⟨rfl, N9, eT⟩ := hQ
    have N := Fr.app N N9
    show Go p e below _ T168 (mkF m 171 #[.val (.int p1), .val (.long q2), .second, .val (.int p3), .val (.int (2 : Int32)), .val (.ref b8), .val (.ref b35b8b7), .val (.int v104)] [(.int (f8 (4 : Int32) (2 : Int32) q2 ar30))])
    have c171 : ¬ (f8 (4 : Int32) (2 : Int32) q2 ar30) = (0 : Int32) := own_t _ _ _ _ (by decide) (by decide)
    refine own_if_eq X hx hby at_171 216 174 (by decide) rfl (fun q => absurd q c171) (fun _ => ?_)
    refine own_aload X hx hby (.ref b35b8b7) at_174 rfl rfl 176 rfl ?_
    refine own_iconst X hx hby (5 : Int32) at_176 rfl 177 rfl ?_
    refine own_iload X hx hby (2 : Int32) at_177 rfl 179 rfl ?_
    refine own_lloadN X hx hby q2 at_179 rfl 180 rfl ?_
    refine own_callS X hx hby hZ (st := []) [(.ref b35b8b7), (.int (5 : Int32)), (.int (2 : Int32)), (.long q2)] rfl hown (hw _ (List.mem_of_getElem? (i := 47) rfl)) (hw _ (List.mem_of_getElem? (i := 48) rfl)) (hw _ (List.mem_of_getElem? (i := 49) rfl)) (hw _ (List.mem_of_getElem? (i := 50) rfl)) (by decide) at_180 (rm8 l Z a0 hw b35b8b7 (5 : Int32) (2 : Int32) q2 ar30 h35 n0 Zs (by decide) A_b35b8b7 E_b35b8b7) eT pd_7 rfl (by rw [hml]; rfl) (by decide) 0 rfl (by decide) (by decide) (by decide) 183 rfl ?_
    intro T180 L9 v9 X hQ
    obtain ⟨rfl, N9, eT⟩ := hQ
    have N := Fr.app N N9
    show Go p e below _ T180 (mkF m 183 #[.val (.int p1), .val (.long q2), .second, .val (.int p3), .val (.int (2 : Int32)), .val (.ref b8), .val (.ref b35b8b7), .val (.int v104)] [(.int (f8 (5 : Int32) (2 : Int32) q2 ar30))])
    have c183 : ¬ (f8 (5 : Int32) (2 : Int32) q2 ar30) = (0 : Int32) := own_t _ _ _ _ (by decide) (by decide)
    refine own_if_eq X hx hby at_183 216 186 (by decide) rfl (fun q => absurd q c183) (fun _ => ?_)
    refine own_aload X hx hby (.ref b35b8b7) at_186 rfl rfl 188 rfl ?_
    refine own_bipush X hx hby (6 : Int32) at_188 rfl 190 rfl ?_
    refine own_iload X hx hby (2 : Int32) at_190 rfl 192 rfl ?_
    refine own_lloadN X hx hby q2 at_192 rfl 193 rfl ?_
    refine own_callS X hx hby hZ (st := []) [(.ref b35b8b7), (.int (6 : Int32)), (.int (2 : Int32)), (.long q2)] rfl hown (hw _ (List.mem_of_getElem? (i := 47) rfl)) (hw _ (List.mem_of_getElem? (i := 48) rfl)) (hw _ (List.mem_of_getElem? (i := 49) rfl)) (hw _ (List.mem_of_getElem? (i := 50) rfl)) (by decide) at_193 (rm8 l Z a0 hw b35b8b7 (6 : Int32) (2 : Int32) q2 ar30 h35 n0 Zs (by decide) A_b35b8b7 E_b35b8b7) eT pd_7 rfl (by rw [hml]; rfl) (by decide) 0 rfl (by decide) (by decide) (by decide) 196 rfl ?_
    intro T193 L9 v9 X hQ
    obtain ⟨rfl, N9, eT⟩ := hQ
    have N := Fr.app N N9
    show Go p e below _ T193 (mkF m 196 #[.val (.int p1), .val (.long q2), .second, .val (.int p3), .val (.int (2 : Int32)), .val (.ref b8), .val (.ref b35b8b7), .val (.int v104)] [(.int (f8 (6 : Int32) (2 : Int32) q2 ar30))])
    have c196 : ¬ (f8 (6 : Int32) (2 : Int32) q2 ar30) = (0 : Int32) := own_un _ _ (8 : Int32) _ _ (by decide) (by rw [← ear30, ← ear22]; rfl)
    refine own_if_eq X hx hby at_196 216 199 (by decide) rfl (fun q => absurd q c196) (fun _ => ?_)
    refine own_aload X hx hby (.ref b35b8b7) at_199 rfl rfl 201 rfl ?_
    refine own_bipush X hx hby (7 : Int32) at_201 rfl 203 rfl ?_
    refine own_iload X hx hby (2 : Int32) at_203 rfl 205 rfl ?_
    refine own_lloadN X hx hby q2 at_205 rfl 206 rfl ?_
    refine own_callS X hx hby hZ (st := []) [(.ref b35b8b7), (.int (7 : Int32)), (.int (2 : Int32)), (.long q2)] rfl hown (hw _ (List.mem_of_getElem? (i := 47) rfl)) (hw _ (List.mem_of_getElem? (i := 48) rfl)) (hw _ (List.mem_of_getElem? (i := 49) rfl)) (hw _ (List.mem_of_getElem? (i := 50) rfl)) (by decide) at_206 (rm8 l Z a0 hw b35b8b7 (7 : Int32) (2 : Int32) q2 ar30 h35 n0 Zs (by decide) A_b35b8b7 E_b35b8b7) eT pd_7 rfl (by rw [hml]; rfl) (by decide) 0 rfl (by decide) (by decide) (by decide) 209 rfl ?_
    intro T206 L9 v9 X hQ
    obtain ⟨rfl, N9, eT⟩ := hQ
    have N := Fr.app N N9
    show Go p e below _ T206 (mkF m 209 #[.val (.int p1), .val (.long q2), .second, .val (.int p3), .val (.int (2 : Int32)), .val (.ref b8), .val (.ref b35b8b7), .val (.int v104)] [(.int (f8 (7 : Int32) (2 : Int32) q2 ar30))])
    have c209 : ¬ (f8 (7 : Int32) (2 : Int32) q2 ar30) = (0 : Int32) := own_un _ _ (0 : Int32) _ _ (by decide) (by rw [← ear30, ← ear22]; rfl)
    refine own_if_eq X hx hby at_209 216 212 (by decide) rfl (fun q => absurd q c209) (fun _ => ?_)
    refine own_iconst X hx hby (1 : Int32) at_212 rfl 213 rfl ?_
    refine own_goto X hx hby at_213 217 (by decide) ?_
    refine own_retN X hx hby hret hlk (t := .boolean) (z' := (1 : Int32)) (by simp) at_217 (by decide) (by decide) rfl ?_
    rw [eT]
    exact ⟨rfl, N⟩
  · skip
    refine own_new X hx hby hZ hown (hw _ (List.mem_of_getElem? (i := 1) rfl)) (hw _ (List.mem_of_getElem? (i := 2) rfl)) (hw _ (List.mem_of_getElem? (i := 3) rfl)) eT at_8 (by decide) (by decide) 11 rfl ?_
    intro T8 h8 b8 gb8 X eT Ex A D
    have g_b8 : n0 ≤ b8 := by rw [gb8]; exact Zs
    have sz_b8 : h0.size ≤ b8 := by rw [gb8]; exact K.1
    have E_b8 := A
    have F_bytes_b8 : Fld Z h8 b8 "com/example/daylily/daylily/engine/ByteWriter" "bytes" "[B" .null := D (Or.inl (hw _ (List.mem_of_getElem? (i := 12) rfl))) (ty := (.array .byte)) (by decide)
    have F_length_b8 : Fld Z h8 b8 "com/example/daylily/daylily/engine/ByteWriter" "length" "I" (.int (0 : Int32)) := D (Or.inl (hw _ (List.mem_of_getElem? (i := 23) rfl))) (ty := .int) (by decide)
    have K := K.ext Ex
    have Zs := Nat.le_trans Zs Ex.1
    refine own_dup X hx hby at_11 rfl 12 rfl ?_
    refine own_bipush X hx hby (8 : Int32) at_12 rfl 14 rfl ?_
    refine own_callC X hx hby hZ (st := [(.ref b8)]) [(.int (8 : Int32))] rfl rfl hown (hw _ (List.mem_of_getElem? (i := 4) rfl)) (hw _ (List.mem_of_getElem? (i := 5) rfl)) (hw _ (List.mem_of_getElem? (i := 3) rfl)) (hw _ (List.mem_of_getElem? (i := 6) rfl)) (by decide) at_14 (rm1 l Z a0 hw b8 h8 n0 Zs E_b8 F_bytes_b8 F_length_b8 g_b8) eT pd_3 rfl (by rw [hml]; rfl) (by decide) 1 rfl (by decide) (by decide) (by decide) 17 rfl ?_
    intro T14 L9 v9 X hQ
    obtain ⟨h14, eT⟩ : ∃ z, T14.heap = z := ⟨_, rfl⟩
    rw [eT] at hQ
    have lt_b8 := E_b8.lt
    obtain ⟨b14b6, rfl, N9, Kc, hs_b14b6, E_b8, F_bytes_b8, F_length_b8, A_b14b6, E_b14b6⟩ := hQ
    have g_b14b6 : n0 ≤ b14b6 := Nat.le_trans Zs hs_b14b6
    have sz_b14b6 : h0.size ≤ b14b6 := Nat.le_trans K.1 hs_b14b6
    have ne_b8_b14b6 : b8 ≠ b14b6 := Nat.ne_of_lt (Nat.lt_of_lt_of_le lt_b8 hs_b14b6)
    obtain ⟨ar14, ear14⟩ : ∃ z : Nat → Int32, (fun _ => (0 : Int32)) = z := ⟨_, rfl⟩
    rw [ear14] at A_b14b6
    have K := K.trans Kc (allS (Or.inr sz_b8) all0)
    have Zs := Nat.le_trans Zs Kc.1
    have N := Fr.app N N9
    show Go p e below _ T14 (mkF m 17 #[.val (.int p1), .val (.long q2), .second, .val (.int p3), .val (.int (3 : Int32)), .unset, .unset, .unset] [(.ref b8)])
    refine own_astore X hx hby at_17 rfl (l' := #[.val (.int p1), .val (.long q2), .second, .val (.int p3), .val (.int (3 : Int32)), .val (.ref b8), .unset, .unset]) rfl 19 rfl ?_
    refine own_aload X hx hby (.ref b8) at_19 rfl rfl 21 rfl ?_
    refine own_lloadN X hx hby q2 at_21 rfl 22 rfl ?_
    refine own_callV X hx hby hZ (st := []) [(.long q2)] rfl hown (hw _ (List.mem_of_getElem? (i := 13) rfl)) (hw _ (List.mem_of_getElem? (i := 14) rfl)) (hw _ (List.mem_of_getElem? (i := 16) rfl)) (hw _ (List.mem_of_getElem? (i := 15) rfl)) (hw _ (List.mem_of_getElem? (i := 3) rfl)) (hw _ (List.mem_of_getElem? (i := 17) rfl)) E_b8 (by decide) at_22 (rm3 l Z a0 hw b8 q2 b14b6 ar14 h14 n0 Zs A_b14b6 E_b14b6 g_b14b6 E_b8 F_bytes_b8 F_length_b8 g_b8) eT pd_5 rfl (by rw [hml]; rfl) (by decide) 0 rfl (by decide) (by decide) (by decide) 25 rfl ?_
    intro T22 L9 v9 X hQ
    obtain ⟨h22, eT⟩ : ∃ z, T22.heap = z := ⟨_, rfl⟩
    rw [eT] at hQ
    obtain ⟨rfl, N9, Kc, E_b8, F_bytes_b8, F_length_b8, A_b14b6, E_b14b6⟩ := hQ
    obtain ⟨ar22, ear22⟩ : ∃ z : Nat → Int32, (updI (updI (updI (updI (updI (updI (updI (updI ar14 0 (nar .byte ((((q2.toUInt64 >>> ((56 : Int32) &&& 0x3f).toInt64.toUInt64).toInt64).toInt32).toInt8.toInt32))) 1 (nar .byte ((((q2.toUInt64 >>> ((48 : Int32) &&& 0x3f).toInt64.toUInt64).toInt64).toInt32).toInt8.toInt32))) 2 (nar .byte ((((q2.toUInt64 >>> ((40 : Int32) &&& 0x3f).toInt64.toUInt64).toInt64).toInt32).toInt8.toInt32))) 3 (nar .byte ((((q2.toUInt64 >>> ((32 : Int32) &&& 0x3f).toInt64.toUInt64).toInt64).toInt32).toInt8.toInt32))) 4 (nar .byte ((((q2.toUInt64 >>> ((24 : Int32) &&& 0x3f).toInt64.toUInt64).toInt64).toInt32).toInt8.toInt32))) 5 (nar .byte ((((q2.toUInt64 >>> ((16 : Int32) &&& 0x3f).toInt64.toUInt64).toInt64).toInt32).toInt8.toInt32))) 6 (nar .byte ((((q2.toUInt64 >>> ((8 : Int32) &&& 0x3f).toInt64.toUInt64).toInt64).toInt32).toInt8.toInt32))) 7 (nar .byte ((((q2.toUInt64 >>> ((0 : Int32) &&& 0x3f).toInt64.toUInt64).toInt64).toInt32).toInt8.toInt32))) = z := ⟨_, rfl⟩
    rw [ear22] at A_b14b6
    have K := K.trans Kc (allS (Or.inr sz_b8) (allS (Or.inr sz_b14b6) all0))
    have Zs := Nat.le_trans Zs Kc.1
    have N := Fr.app N N9
    show Go p e below _ T22 (mkF m 25 #[.val (.int p1), .val (.long q2), .second, .val (.int p3), .val (.int (3 : Int32)), .val (.ref b8), .unset, .unset] [])
    refine own_aload X hx hby (.ref b8) at_25 rfl rfl 27 rfl ?_
    refine own_iload X hx hby (3 : Int32) at_27 rfl 29 rfl ?_
    refine own_iloadN X hx hby p3 at_29 rfl 30 rfl ?_
    refine own_callV X hx hby hZ (st := []) [(.int (3 : Int32)), (.int p3)] rfl hown (hw _ (List.mem_of_getElem? (i := 24) rfl)) (hw _ (List.mem_of_getElem? (i := 25) rfl)) (hw _ (List.mem_of_getElem? (i := 27) rfl)) (hw _ (List.mem_of_getElem? (i := 26) rfl)) (hw _ (List.mem_of_getElem? (i := 3) rfl)) (hw _ (List.mem_of_getElem? (i := 28) rfl)) E_b8 (by decide) at_30 (rm5_3 l Z a0 hw b8 p3 b14b6 ar22 (8 : Int32) h22 n0 Zs A_b14b6 E_b14b6 g_b14b6 E_b8 F_bytes_b8 F_length_b8 g_b8) eT pd_4 rfl (by rw [hml]; rfl) (by decide) 0 rfl (by decide) (by decide) (by decide) 33 rfl ?_
    intro T30 L9 v9 X hQ
    obtain ⟨h30, eT⟩ : ∃ z, T30.heap = z := ⟨_, rfl⟩
    rw [eT] at hQ
    obtain ⟨rfl, N9, Kc, A_b14b6, E_b14b6⟩ := hQ
    have E_b8 := E_b8.keep Kc
    have F_bytes_b8 := F_bytes_b8.keep Kc (ninS ne_b8_b14b6 nin0)
    have F_length_b8 := F_length_b8.keep Kc (ninS ne_b8_b14b6 nin0)
    obtain ⟨ar30, ear30⟩ : ∃ z : Nat → Int32, (updI (updI (updI (updI ar22 3 (nar .byte (((p3.toUInt32 >>> ((0 : Int32) &&& 31).toUInt32).toInt32).toInt8.toInt32))) 4 (nar .byte (((p3.toUInt32 >>> ((8 : Int32) &&& 31).toUInt32).toInt32).toInt8.toInt32))) 5 (nar .byte (((p3.toUInt32 >>> ((16 : Int32) &&& 31).toUInt32).toInt32).toInt8.toInt32))) 6 (nar .byte (((p3.toUInt32 >>> ((24 : Int32) &&& 31).toUInt32).toInt32).toInt8.toInt32))) = z := ⟨_, rfl⟩
    rw [ear30] at A_b14b6
    have K := K.trans Kc (allS (Or.inr sz_b14b6) all0)
    have Zs := Nat.le_trans Zs Kc.1
    have N := Fr.app N N9
    show Go p e below _ T30 (mkF m 33 #[.val (.int p1), .val (.long q2), .second, .val (.int p3), .val (.int (3 : Int32)), .val (.ref b8), .unset, .unset] [])
    refine own_aload X hx hby (.ref b8) at_33 rfl rfl 35 rfl ?_
    refine own_callV X hx hby hZ (st := []) [] rfl hown (hw _ (List.mem_of_getElem? (i := 29) rfl)) (hw _ (List.mem_of_getElem? (i := 30) rfl)) (hw _ (List.mem_of_getElem? (i := 32) rfl)) (hw _ (List.mem_of_getElem? (i := 31) rfl)) (hw _ (List.mem_of_getElem? (i := 3) rfl)) (hw _ (List.mem_of_getElem? (i := 33) rfl)) E_b8 (by decide) at_35 (rm6 l Z a0 hw b8 b14b6 ar30 h30 n0 Zs A_b14b6 E_b14b6 F_bytes_b8 F_length_b8) eT pd_2 rfl (by rw [hml]; rfl) (by decide) 0 rfl (by decide) (by decide) (by decide) 38 rfl ?_
    intro T35 L9 v9 X hQ
    obtain ⟨h35, eT⟩ : ∃ z, T35.heap = z := ⟨_, rfl⟩
    rw [eT] at hQ
    have lt_b14b6 := A_b14b6.lt
    have lt_b8 := E_b8.lt
    obtain ⟨b35b8b7, rfl, N9, Kc, hs_b35b8b7, A_b35b8b7, E_b35b8b7⟩ := hQ
    have g_b35b8b7 : n0 ≤ b35b8b7 := Nat.le_trans Zs hs_b35b8b7
    have sz_b35b8b7 : h0.size ≤ b35b8b7 := Nat.le_trans K.1 hs_b35b8b7
    have ne_b14b6_b35b8b7 : b14b6 ≠ b35b8b7 := Nat.ne_of_lt (Nat.lt_of_lt_of_le lt_b14b6 hs_b35b8b7)
    have ne_b8_b35b8b7 : b8 ≠ b35b8b7 := Nat.ne_of_lt (Nat.lt_of_lt_of_le lt_b8 hs_b35b8b7)
    have E_b8 := E_b8.keep Kc
    have F_bytes_b8 := F_bytes_b8.keep Kc nin0
    have F_length_b8 := F_length_b8.keep Kc nin0
    have A_b14b6 := A_b14b6.keep Kc nin0
    have E_b14b6 := E_b14b6.keep Kc
    have K := K.trans Kc all0
    have Zs := Nat.le_trans Zs Kc.1
    have N := Fr.app N N9
    show Go p e below _ T35 (mkF m 38 #[.val (.int p1), .val (.long q2), .second, .val (.int p3), .val (.int (3 : Int32)), .val (.ref b8), .unset, .unset] [(.ref b35b8b7)])
    refine own_astore X hx hby at_38 rfl (l' := #[.val (.int p1), .val (.long q2), .second, .val (.int p3), .val (.int (3 : Int32)), .val (.ref b8), .val (.ref b35b8b7), .unset]) rfl 40 rfl ?_
    refine own_aload X hx hby (.ref b35b8b7) at_40 rfl rfl 42 rfl ?_
    refine own_arraylength X hx hby hZ (8 : Int32) eT A_b35b8b7 rfl at_42 43 rfl ?_
    refine own_bipush X hx hby (8 : Int32) at_43 rfl 45 rfl ?_
    have c45 : (8 : Int32) = (8 : Int32) := by decide
    refine own_icmp_eq X hx hby at_45 50 48 (by decide) rfl (fun _ => ?_) (fun q => absurd c45 q)
    refine own_aload X hx hby (.ref b35b8b7) at_50 rfl rfl 52 rfl ?_
    refine own_iload X hx hby (3 : Int32) at_52 rfl 54 rfl ?_
    refine own_baload X hx hby hZ (ar30 3) eT A_b35b8b7 (by decide) rfl at_54 55 rfl ?_
    refine own_sipush X hx hby (255 : Int32) at_55 rfl 58 rfl ?_
    refine own_iand X hx hby at_58 59 rfl ?_
    refine own_aload X hx hby (.ref b35b8b7) at_59 rfl rfl 61 rfl ?_
    refine own_iload X hx hby (3 : Int32) at_61 rfl 63 rfl ?_
    refine own_iconst X hx hby (1 : Int32) at_63 rfl 64 rfl ?_
    refine own_iadd X hx hby at_64 65 rfl ?_
    refine own_top (v' := (.int (4 : Int32))) (congrArg Value.int (by decide)) ?_
    refine own_baload X hx hby hZ (ar30 4) eT A_b35b8b7 (by decide) rfl at_65 66 rfl ?_
    refine own_sipush X hx hby (255 : Int32) at_66 rfl 69 rfl ?_
    refine own_iand X hx hby at_69 70 rfl ?_
    refine own_bipush X hx hby (8 : Int32) at_70 rfl 72 rfl ?_
    refine own_ishl X hx hby at_72 73 rfl ?_
    refine own_ior X hx hby at_73 74 rfl ?_
    refine own_aload X hx hby (.ref b35b8b7) at_74 rfl rfl 76 rfl ?_
    refine own_iload X hx hby (3 : Int32) at_76 rfl 78 rfl ?_
    refine own_iconst X hx hby (2 : Int32) at_78 rfl 79 rfl ?_
    refine own_iadd X hx hby at_79 80 rfl ?_
    refine own_top (v' := (.int (5 : Int32))) (congrArg Value.int (by decide)) ?_
    refine own_baload X hx hby hZ (ar30 5) eT A_b35b8b7 (by decide) rfl at_80 81 rfl ?_
    refine own_sipush X hx hby (255 : Int32) at_81 rfl 84 rfl ?_
    refine own_iand X hx hby at_84 85 rfl ?_
    refine own_bipush X hx hby (16 : Int32) at_85 rfl 87 rfl ?_
    refine own_ishl X hx hby at_87 88 rfl ?_
    refine own_ior X hx hby at_88 89 rfl ?_
    refine own_aload X hx hby (.ref b35b8b7) at_89 rfl rfl 91 rfl ?_
    refine own_iload X hx hby (3 : Int32) at_91 rfl 93 rfl ?_
    refine own_iconst X hx hby (3 : Int32) at_93 rfl 94 rfl ?_
    refine own_iadd X hx hby at_94 95 rfl ?_
    refine own_top (v' := (.int (6 : Int32))) (congrArg Value.int (by decide)) ?_
    refine own_baload X hx hby hZ (ar30 6) eT A_b35b8b7 (by decide) rfl at_95 96 rfl ?_
    refine own_sipush X hx hby (255 : Int32) at_96 rfl 99 rfl ?_
    refine own_iand X hx hby at_99 100 rfl ?_
    refine own_bipush X hx hby (24 : Int32) at_100 rfl 102 rfl ?_
    refine own_ishl X hx hby at_102 103 rfl ?_
    refine own_ior X hx hby at_103 104 rfl ?_
    obtain ⟨v104, e104⟩ : ∃ z : Int32, (((((ar30 3) &&& (255 : Int32)) ||| (((ar30 4) &&& (255 : Int32)) <<< ((8 : Int32) &&& 31))) ||| (((ar30 5) &&& (255 : Int32)) <<< ((16 : Int32) &&& 31))) ||| (((ar30 6) &&& (255 : Int32)) <<< ((24 : Int32) &&& 31))) = z := ⟨_, rfl⟩
    refine own_istore X hx hby at_104 e104 (l' := #[.val (.int p1), .val (.long q2), .second, .val (.int p3), .val (.int (3 : Int32)), .val (.ref b8), .val (.ref b35b8b7), .val (.int v104)]) rfl 106 rfl ?_
    refine own_iload X hx hby v104 at_106 rfl 108 rfl ?_
    refine own_iloadN X hx hby p3 at_108 rfl 109 rfl ?_
    have c109 : v104 = p3 := own_le _ _ _ _ _ _ (by rw [← ear30]; rfl) (by rw [← ear30]; rfl) (by rw [← ear30]; rfl) (by rw [← ear30]; rfl) e104
    refine own_icmp_eq X hx hby at_109 114 112 (by decide) rfl (fun _ => ?_) (fun q => absurd c109 q)
    refine own_aload X hx hby (.ref b35b8b7) at_114 rfl rfl 116 rfl ?_
    refine own_iconst X hx hby (0 : Int32) at_116 rfl 117 rfl ?_
    refine own_iload X hx hby (3 : Int32) at_117 rfl 119 rfl ?_
    refine own_lloadN X hx hby q2 at_119 rfl 120 rfl ?_
    refine own_callS X hx hby hZ (st := []) [(.ref b35b8b7), (.int (0 : Int32)), (.int (3 : Int32)), (.long q2)] rfl hown (hw _ (List.mem_of_getElem? (i := 47) rfl)) (hw _ (List.mem_of_getElem? (i := 48) rfl)) (hw _ (List.mem_of_getElem? (i := 49) rfl)) (hw _ (List.mem_of_getElem? (i := 50) rfl)) (by decide) at_120 (rm8 l Z a0 hw b35b8b7 (0 : Int32) (3 : Int32) q2 ar30 h35 n0 Zs (by decide) A_b35b8b7 E_b35b8b7) eT pd_7 rfl (by rw [hml]; rfl) (by decide) 0 rfl (by decide) (by decide) (by decide) 123 rfl ?_
    intro T120 L9 v9 X hQ
    obtain ⟨rfl, N9, eT⟩ := hQ
    have N := Fr.app N N9
    show Go p e below _ T120 (mkF m 123 #[.val (.int p1), .val (.long q2), .second, .val (.int p3), .val (.int (3 : Int32)), .val (.ref b8), .val (.ref b35b8b7), .val (.int v104)] [(.int (f8 (0 : Int32) (3 : Int32) q2 ar30))])
    have c123 : ¬ (f8 (0 : Int32) (3 : Int32) q2 ar30) = (0 : Int32) := own_un _ _ (56 : Int32) _ _ (by decide) (by rw [← ear30, ← ear22]; rfl)
    refine own_if_eq X hx hby at_123 216 126 (by decide) rfl (fun q => absurd q c123) (fun _ => ?_)
    refine own_aload X hx hby (.ref b35b8b7) at_126 rfl rfl 128 rfl ?_
    refine own_iconst X hx hby (1 : Int32) at_128 rfl 129 rfl ?_
    refine own_iload X hx hby (3 : Int32) at_129 rfl 131 rfl ?_
    refine own_lloadN X hx hby q2 at_131 rfl 132 rfl ?_
    refine own_callS X hx hby hZ (st := []) [(.ref b35b8b7), (.int (1 : Int32)), (.int (3 : Int32)), (.long q2)] rfl hown (hw _ (List.mem_of_getElem? (i := 47) rfl)) (hw _ (List.mem_of_getElem? (i := 48) rfl)) (hw _ (List.mem_of_getElem? (i := 49) rfl)) (hw _ (List.mem_of_getElem? (i := 50) rfl)) (by decide) at_132 (rm8 l Z a0 hw b35b8b7 (1 : Int32) (3 : Int32) q2 ar30 h35 n0 Zs (by decide) A_b35b8b7 E_b35b8b7) eT pd_7 rfl (by rw [hml]; rfl) (by decide) 0 rfl (by decide) (by decide) (by decide) 135 rfl ?_
    intro T132 L9 v9 X hQ
    obtain ⟨rfl, N9, eT⟩ := hQ
    have N := Fr.app N N9
    show Go p e below _ T132 (mkF m 135 #[.val (.int p1), .val (.long q2), .second, .val (.int p3), .val (.int (3 : Int32)), .val (.ref b8), .val (.ref b35b8b7), .val (.int v104)] [(.int (f8 (1 : Int32) (3 : Int32) q2 ar30))])
    have c135 : ¬ (f8 (1 : Int32) (3 : Int32) q2 ar30) = (0 : Int32) := own_un _ _ (48 : Int32) _ _ (by decide) (by rw [← ear30, ← ear22]; rfl)
    refine own_if_eq X hx hby at_135 216 138 (by decide) rfl (fun q => absurd q c135) (fun _ => ?_)
    refine own_aload X hx hby (.ref b35b8b7) at_138 rfl rfl 140 rfl ?_
    refine own_iconst X hx hby (2 : Int32) at_140 rfl 141 rfl ?_
    refine own_iload X hx hby (3 : Int32) at_141 rfl 143 rfl ?_
    refine own_lloadN X hx hby q2 at_143 rfl 144 rfl ?_
    refine own_callS X hx hby hZ (st := []) [(.ref b35b8b7), (.int (2 : Int32)), (.int (3 : Int32)), (.long q2)] rfl hown (hw _ (List.mem_of_getElem? (i := 47) rfl)) (hw _ (List.mem_of_getElem? (i := 48) rfl)) (hw _ (List.mem_of_getElem? (i := 49) rfl)) (hw _ (List.mem_of_getElem? (i := 50) rfl)) (by decide) at_144 (rm8 l Z a0 hw b35b8b7 (2 : Int32) (3 : Int32) q2 ar30 h35 n0 Zs (by decide) A_b35b8b7 E_b35b8b7) eT pd_7 rfl (by rw [hml]; rfl) (by decide) 0 rfl (by decide) (by decide) (by decide) 147 rfl ?_
    intro T144 L9 v9 X hQ
    obtain ⟨rfl, N9, eT⟩ := hQ
    have N := Fr.app N N9
    show Go p e below _ T144 (mkF m 147 #[.val (.int p1), .val (.long q2), .second, .val (.int p3), .val (.int (3 : Int32)), .val (.ref b8), .val (.ref b35b8b7), .val (.int v104)] [(.int (f8 (2 : Int32) (3 : Int32) q2 ar30))])
    have c147 : ¬ (f8 (2 : Int32) (3 : Int32) q2 ar30) = (0 : Int32) := own_un _ _ (40 : Int32) _ _ (by decide) (by rw [← ear30, ← ear22]; rfl)
    refine own_if_eq X hx hby at_147 216 150 (by decide) rfl (fun q => absurd q c147) (fun _ => ?_)
    refine own_aload X hx hby (.ref b35b8b7) at_150 rfl rfl 152 rfl ?_
    refine own_iconst X hx hby (3 : Int32) at_152 rfl 153 rfl ?_
    refine own_iload X hx hby (3 : Int32) at_153 rfl 155 rfl ?_
    refine own_lloadN X hx hby q2 at_155 rfl 156 rfl ?_
    refine own_callS X hx hby hZ (st := []) [(.ref b35b8b7), (.int (3 : Int32)), (.int (3 : Int32)), (.long q2)] rfl hown (hw _ (List.mem_of_getElem? (i := 47) rfl)) (hw _ (List.mem_of_getElem? (i := 48) rfl)) (hw _ (List.mem_of_getElem? (i := 49) rfl)) (hw _ (List.mem_of_getElem? (i := 50) rfl)) (by decide) at_156 (rm8 l Z a0 hw b35b8b7 (3 : Int32) (3 : Int32) q2 ar30 h35 n0 Zs (by decide) A_b35b8b7 E_b35b8b7) eT pd_7 rfl (by rw [hml]; rfl) (by decide) 0 rfl (by decide) (by decide) (by decide) 159 rfl ?_
    intro T156 L9 v9 X hQ
    obtain ⟨rfl, N9, eT⟩ := hQ
    have N := Fr.app N N9
    show Go p e below _ T156 (mkF m 159 #[.val (.int p1), .val (.long q2), .second, .val (.int p3), .val (.int (3 : Int32)), .val (.ref b8), .val (.ref b35b8b7), .val (.int v104)] [(.int (f8 (3 : Int32) (3 : Int32) q2 ar30))])
    have c159 : ¬ (f8 (3 : Int32) (3 : Int32) q2 ar30) = (0 : Int32) := own_t _ _ _ _ (by decide) (by decide)
    refine own_if_eq X hx hby at_159 216 162 (by decide) rfl (fun q => absurd q c159) (fun _ => ?_)
    refine own_aload X hx hby (.ref b35b8b7) at_162 rfl rfl 164 rfl ?_
    refine own_iconst X hx hby (4 : Int32) at_164 rfl 165 rfl ?_
    refine own_iload X hx hby (3 : Int32) at_165 rfl 167 rfl ?_
    refine own_lloadN X hx hby q2 at_167 rfl 168 rfl ?_
    refine own_callS X hx hby hZ (st := []) [(.ref b35b8b7), (.int (4 : Int32)), (.int (3 : Int32)), (.long q2)] rfl hown (hw _ (List.mem_of_getElem? (i := 47) rfl)) (hw _ (List.mem_of_getElem? (i := 48) rfl)) (hw _ (List.mem_of_getElem? (i := 49) rfl)) (hw _ (List.mem_of_getElem? (i := 50) rfl)) (by decide) at_168 (rm8 l Z a0 hw b35b8b7 (4 : Int32) (3 : Int32) q2 ar30 h35 n0 Zs (by decide) A_b35b8b7 E_b35b8b7) eT pd_7 rfl (by rw [hml]; rfl) (by decide) 0 rfl (by decide) (by decide) (by decide) 171 rfl ?_
    intro T168 L9 v9 X hQ
    obtain ⟨rfl, N9, eT⟩ := hQ
    have N := Fr.app N N9
    show Go p e below _ T168 (mkF m 171 #[.val (.int p1), .val (.long q2), .second, .val (.int p3), .val (.int (3 : Int32)), .val (.ref b8), .val (.ref b35b8b7), .val (.int v104)] [(.int (f8 (4 : Int32) (3 : Int32) q2 ar30))])
    have c171 : ¬ (f8 (4 : Int32) (3 : Int32) q2 ar30) = (0 : Int32) := own_t _ _ _ _ (by decide) (by decide)
    refine own_if_eq X hx hby at_171 216 174 (by decide) rfl (fun q => absurd q c171) (fun _ => ?_)
    refine own_aload X hx hby (.ref b35b8b7) at_174 rfl rfl 176 rfl ?_
    refine own_iconst X hx hby (5 : Int32) at_176 rfl 177 rfl ?_
    refine own_iload X hx hby (3 : Int32) at_177 rfl 179 rfl ?_
    refine own_lloadN X hx hby q2 at_179 rfl 180 rfl ?_
    refine own_callS X hx hby hZ (st := []) [(.ref b35b8b7), (.int (5 : Int32)), (.int (3 : Int32)), (.long q2)] rfl hown (hw _ (List.mem_of_getElem? (i := 47) rfl)) (hw _ (List.mem_of_getElem? (i := 48) rfl)) (hw _ (List.mem_of_getElem? (i := 49) rfl)) (hw _ (List.mem_of_getElem? (i := 50) rfl)) (by decide) at_180 (rm8 l Z a0 hw b35b8b7 (5 : Int32) (3 : Int32) q2 ar30 h35 n0 Zs (by decide) A_b35b8b7 E_b35b8b7) eT pd_7 rfl (by rw [hml]; rfl) (by decide) 0 rfl (by decide) (by decide) (by decide) 183 rfl ?_
    intro T180 L9 v9 X hQ
    obtain ⟨rfl, N9, eT⟩ := hQ
    have N := Fr.app N N9
    show Go p e below _ T180 (mkF m 183 #[.val (.int p1), .val (.long q2), .second, .val (.int p3), .val (.int (3 : Int32)), .val (.ref b8), .val (.ref b35b8b7), .val (.int v104)] [(.int (f8 (5 : Int32) (3 : Int32) q2 ar30))])
    have c183 : ¬ (f8 (5 : Int32) (3 : Int32) q2 ar30) = (0 : Int32) := own_t _ _ _ _ (by decide) (by decide)
    refine own_if_eq X hx hby at_183 216 186 (by decide) rfl (fun q => absurd q c183) (fun _ => ?_)
    refine own_aload X hx hby (.ref b35b8b7) at_186 rfl rfl 188 rfl ?_
    refine own_bipush X hx hby (6 : Int32) at_188 rfl 190 rfl ?_
    refine own_iload X hx hby (3 : Int32) at_190 rfl 192 rfl ?_
    refine own_lloadN X hx hby q2 at_192 rfl 193 rfl ?_
    refine own_callS X hx hby hZ (st := []) [(.ref b35b8b7), (.int (6 : Int32)), (.int (3 : Int32)), (.long q2)] rfl hown (hw _ (List.mem_of_getElem? (i := 47) rfl)) (hw _ (List.mem_of_getElem? (i := 48) rfl)) (hw _ (List.mem_of_getElem? (i := 49) rfl)) (hw _ (List.mem_of_getElem? (i := 50) rfl)) (by decide) at_193 (rm8 l Z a0 hw b35b8b7 (6 : Int32) (3 : Int32) q2 ar30 h35 n0 Zs (by decide) A_b35b8b7 E_b35b8b7) eT pd_7 rfl (by rw [hml]; rfl) (by decide) 0 rfl (by decide) (by decide) (by decide) 196 rfl ?_
    intro T193 L9 v9 X hQ
    obtain ⟨rfl, N9, eT⟩ := hQ
    have N := Fr.app N N9
    show Go p e below _ T193 (mkF m 196 #[.val (.int p1), .val (.long q2), .second, .val (.int p3), .val (.int (3 : Int32)), .val (.ref b8), .val (.ref b35b8b7), .val (.int v104)] [(.int (f8 (6 : Int32) (3 : Int32) q2 ar30))])
    have c196 : ¬ (f8 (6 : Int32) (3 : Int32) q2 ar30) = (0 : Int32) := own_t _ _ _ _ (by decide) (by decide)
    refine own_if_eq X hx hby at_196 216 199 (by decide) rfl (fun q => absurd q c196) (fun _ => ?_)
    refine own_aload X hx hby (.ref b35b8b7) at_199 rfl rfl 201 rfl ?_
    refine own_bipush X hx hby (7 : Int32) at_201 rfl 203 rfl ?_
    refine own_iload X hx hby (3 : Int32) at_203 rfl 205 rfl ?_
    refine own_lloadN X hx hby q2 at_205 rfl 206 rfl ?_
    refine own_callS X hx hby hZ (st := []) [(.ref b35b8b7), (.int (7 : Int32)), (.int (3 : Int32)), (.long q2)] rfl hown (hw _ (List.mem_of_getElem? (i := 47) rfl)) (hw _ (List.mem_of_getElem? (i := 48) rfl)) (hw _ (List.mem_of_getElem? (i := 49) rfl)) (hw _ (List.mem_of_getElem? (i := 50) rfl)) (by decide) at_206 (rm8 l Z a0 hw b35b8b7 (7 : Int32) (3 : Int32) q2 ar30 h35 n0 Zs (by decide) A_b35b8b7 E_b35b8b7) eT pd_7 rfl (by rw [hml]; rfl) (by decide) 0 rfl (by decide) (by decide) (by decide) 209 rfl ?_
    intro T206 L9 v9 X hQ
    obtain ⟨rfl, N9, eT⟩ := hQ
    have N := Fr.app N N9
    show Go p e below _ T206 (mkF m 209 #[.val (.int p1), .val (.long q2), .second, .val (.int p3), .val (.int (3 : Int32)), .val (.ref b8), .val (.ref b35b8b7), .val (.int v104)] [(.int (f8 (7 : Int32) (3 : Int32) q2 ar30))])
    have c209 : ¬ (f8 (7 : Int32) (3 : Int32) q2 ar30) = (0 : Int32) := own_un _ _ (0 : Int32) _ _ (by decide) (by rw [← ear30, ← ear22]; rfl)
    refine own_if_eq X hx hby at_209 216 212 (by decide) rfl (fun q => absurd q c209) (fun _ => ?_)
    refine own_iconst X hx hby (1 : Int32) at_212 rfl 213 rfl ?_
    refine own_goto X hx hby at_213 217 (by decide) ?_
    refine own_retN X hx hby hret hlk (t := .boolean) (z' := (1 : Int32)) (by simp) at_217 (by decide) (by decide) rfl ?_
    rw [eT]
    exact ⟨rfl, N⟩
  · skip
    refine own_new X hx hby hZ hown (hw _ (List.mem_of_getElem? (i := 1) rfl)) (hw _ (List.mem_of_getElem? (i := 2) rfl)) (hw _ (List.mem_of_getElem? (i := 3) rfl)) eT at_8 (by decide) (by decide) 11 rfl ?_
    intro T8 h8 b8 gb8 X eT Ex A D
    have g_b8 : n0 ≤ b8 := by rw [gb8]; exact Zs
    have sz_b8 : h0.size ≤ b8 := by rw [gb8]; exact K.1
    have E_b8 := A
    have F_bytes_b8 : Fld Z h8 b8 "com/example/daylily/daylily/engine/ByteWriter" "bytes" "[B" .null := D (Or.inl (hw _ (List.mem_of_getElem? (i := 12) rfl))) (ty := (.array .byte)) (by decide)
    have F_length_b8 : Fld Z h8 b8 "com/example/daylily/daylily/engine/ByteWriter" "length" "I" (.int (0 : Int32)) := D (Or.inl (hw _ (List.mem_of_getElem? (i := 23) rfl))) (ty := .int) (by decide)
    have K := K.ext Ex
    have Zs := Nat.le_trans Zs Ex.1
    refine own_dup X hx hby at_11 rfl 12 rfl ?_
    refine own_bipush X hx hby (8 : Int32) at_12 rfl 14 rfl ?_
    refine own_callC X hx hby hZ (st := [(.ref b8)]) [(.int (8 : Int32))] rfl rfl hown (hw _ (List.mem_of_getElem? (i := 4) rfl)) (hw _ (List.mem_of_getElem? (i := 5) rfl)) (hw _ (List.mem_of_getElem? (i := 3) rfl)) (hw _ (List.mem_of_getElem? (i := 6) rfl)) (by decide) at_14 (rm1 l Z a0 hw b8 h8 n0 Zs E_b8 F_bytes_b8 F_length_b8 g_b8) eT pd_3 rfl (by rw [hml]; rfl) (by decide) 1 rfl (by decide) (by decide) (by decide) 17 rfl ?_
    intro T14 L9 v9 X hQ
    obtain ⟨h14, eT⟩ : ∃ z, T14.heap = z := ⟨_, rfl⟩
    rw [eT] at hQ
    have lt_b8 := E_b8.lt
    obtain ⟨b14b6, rfl, N9, Kc, hs_b14b6, E_b8, F_bytes_b8, F_length_b8, A_b14b6, E_b14b6⟩ := hQ
    have g_b14b6 : n0 ≤ b14b6 := Nat.le_trans Zs hs_b14b6
    have sz_b14b6 : h0.size ≤ b14b6 := Nat.le_trans K.1 hs_b14b6
    have ne_b8_b14b6 : b8 ≠ b14b6 := Nat.ne_of_lt (Nat.lt_of_lt_of_le lt_b8 hs_b14b6)
    obtain ⟨ar14, ear14⟩ : ∃ z : Nat → Int32, (fun _ => (0 : Int32)) = z := ⟨_, rfl⟩
    rw [ear14] at A_b14b6
    have K := K.trans Kc (allS (Or.inr sz_b8) all0)
    have Zs := Nat.le_trans Zs Kc.1
    have N := Fr.app N N9
    show Go p e below _ T14 (mkF m 17 #[.val (.int p1), .val (.long q2), .second, .val (.int p3), .val (.int (4 : Int32)), .unset, .unset, .unset] [(.ref b8)])
    refine own_astore X hx hby at_17 rfl (l' := #[.val (.int p1), .val (.long q2), .second, .val (.int p3), .val (.int (4 : Int32)), .val (.ref b8), .unset, .unset]) rfl 19 rfl ?_
    refine own_aload X hx hby (.ref b8) at_19 rfl rfl 21 rfl ?_
    refine own_lloadN X hx hby q2 at_21 rfl 22 rfl ?_
    refine own_callV X hx hby hZ (st := []) [(.long q2)] rfl hown (hw _ (List.mem_of_getElem? (i := 13) rfl)) (hw _ (List.mem_of_getElem? (i := 14) rfl)) (hw _ (List.mem_of_getElem? (i := 16) rfl)) (hw _ (List.mem_of_getElem? (i := 15) rfl)) (hw _ (List.mem_of_getElem? (i := 3) rfl)) (hw _ (List.mem_of_getElem? (i := 17) rfl)) E_b8 (by decide) at_22 (rm3 l Z a0 hw b8 q2 b14b6 ar14 h14 n0 Zs A_b14b6 E_b14b6 g_b14b6 E_b8 F_bytes_b8 F_length_b8 g_b8) eT pd_5 rfl (by rw [hml]; rfl) (by decide) 0 rfl (by decide) (by decide) (by decide) 25 rfl ?_
    intro T22 L9 v9 X hQ
    obtain ⟨h22, eT⟩ : ∃ z, T22.heap = z := ⟨_, rfl⟩
    rw [eT] at hQ
    obtain ⟨rfl, N9, Kc, E_b8, F_bytes_b8, F_length_b8, A_b14b6, E_b14b6⟩ := hQ
    obtain ⟨ar22, ear22⟩ : ∃ z : Nat → Int32, (updI (updI (updI (updI (updI (updI (updI (updI ar14 0 (nar .byte ((((q2.toUInt64 >>> ((56 : Int32) &&& 0x3f).toInt64.toUInt64).toInt64).toInt32).toInt8.toInt32))) 1 (nar .byte ((((q2.toUInt64 >>> ((48 : Int32) &&& 0x3f).toInt64.toUInt64).toInt64).toInt32).toInt8.toInt32))) 2 (nar .byte ((((q2.toUInt64 >>> ((40 : Int32) &&& 0x3f).toInt64.toUInt64).toInt64).toInt32).toInt8.toInt32))) 3 (nar .byte ((((q2.toUInt64 >>> ((32 : Int32) &&& 0x3f).toInt64.toUInt64).toInt64).toInt32).toInt8.toInt32))) 4 (nar .byte ((((q2.toUInt64 >>> ((24 : Int32) &&& 0x3f).toInt64.toUInt64).toInt64).toInt32).toInt8.toInt32))) 5 (nar .byte ((((q2.toUInt64 >>> ((16 : Int32) &&& 0x3f).toInt64.toUInt64).toInt64).toInt32).toInt8.toInt32))) 6 (nar .byte ((((q2.toUInt64 >>> ((8 : Int32) &&& 0x3f).toInt64.toUInt64).toInt64).toInt32).toInt8.toInt32))) 7 (nar .byte ((((q2.toUInt64 >>> ((0 : Int32) &&& 0x3f).toInt64.toUInt64).toInt64).toInt32).toInt8.toInt32))) = z := ⟨_, rfl⟩
    rw [ear22] at A_b14b6
    have K := K.trans Kc (allS (Or.inr sz_b8) (allS (Or.inr sz_b14b6) all0))
    have Zs := Nat.le_trans Zs Kc.1
    have N := Fr.app N N9
    show Go p e below _ T22 (mkF m 25 #[.val (.int p1), .val (.long q2), .second, .val (.int p3), .val (.int (4 : Int32)), .val (.ref b8), .unset, .unset] [])
    refine own_aload X hx hby (.ref b8) at_25 rfl rfl 27 rfl ?_
    refine own_iload X hx hby (4 : Int32) at_27 rfl 29 rfl ?_
    refine own_iloadN X hx hby p3 at_29 rfl 30 rfl ?_
    refine own_callV X hx hby hZ (st := []) [(.int (4 : Int32)), (.int p3)] rfl hown (hw _ (List.mem_of_getElem? (i := 24) rfl)) (hw _ (List.mem_of_getElem? (i := 25) rfl)) (hw _ (List.mem_of_getElem? (i := 27) rfl)) (hw _ (List.mem_of_getElem? (i := 26) rfl)) (hw _ (List.mem_of_getElem? (i := 3) rfl)) (hw _ (List.mem_of_getElem? (i := 28) rfl)) E_b8 (by decide) at_30 (rm5_4 l Z a0 hw b8 p3 b14b6 ar22 (8 : Int32) h22 n0 Zs A_b14b6 E_b14b6 g_b14b6 E_b8 F_bytes_b8 F_length_b8 g_b8) eT pd_4 rfl (by rw [hml]; rfl) (by decide) 0 rfl (by decide) (by decide) (by decide) 33 rfl ?_
    intro T30 L9 v9 X hQ
    obtain ⟨h30, eT⟩ : ∃ z, T30.heap = z := ⟨_, rfl⟩
    rw [eT] at hQ
    obtain ⟨rfl, N9, Kc, A_b14b6, E_b14b6⟩ := hQ
    have E_b8 := E_b8.keep Kc
    have F_bytes_b8 := F_bytes_b8.keep Kc (ninS ne_b8_b14b6 nin0)
    have F_length_b8 := F_length_b8.keep Kc (ninS ne_b8_b14b6 nin0)
    obtain ⟨ar30, ear30⟩ : ∃ z : Nat → Int32, (updI (updI (updI (updI ar22 4 (nar .byte (((p3.toUInt32 >>> ((0 : Int32) &&& 31).toUInt32).toInt32).toInt8.toInt32))) 5 (nar .byte (((p3.toUInt32 >>> ((8 : Int32) &&& 31).toUInt32).toInt32).toInt8.toInt32))) 6 (nar .byte (((p3.toUInt32 >>> ((16 : Int32) &&& 31).toUInt32).toInt32).toInt8.toInt32))) 7 (nar .byte (((p3.toUInt32 >>> ((24 : Int32) &&& 31).toUInt32).toInt32).toInt8.toInt32))) = z := ⟨_, rfl⟩
    rw [ear30] at A_b14b6
    have K := K.trans Kc (allS (Or.inr sz_b14b6) all0)
    have Zs := Nat.le_trans Zs Kc.1
    have N := Fr.app N N9
    show Go p e below _ T30 (mkF m 33 #[.val (.int p1), .val (.long q2), .second, .val (.int p3), .val (.int (4 : Int32)), .val (.ref b8), .unset, .unset] [])
    refine own_aload X hx hby (.ref b8) at_33 rfl rfl 35 rfl ?_
    refine own_callV X hx hby hZ (st := []) [] rfl hown (hw _ (List.mem_of_getElem? (i := 29) rfl)) (hw _ (List.mem_of_getElem? (i := 30) rfl)) (hw _ (List.mem_of_getElem? (i := 32) rfl)) (hw _ (List.mem_of_getElem? (i := 31) rfl)) (hw _ (List.mem_of_getElem? (i := 3) rfl)) (hw _ (List.mem_of_getElem? (i := 33) rfl)) E_b8 (by decide) at_35 (rm6 l Z a0 hw b8 b14b6 ar30 h30 n0 Zs A_b14b6 E_b14b6 F_bytes_b8 F_length_b8) eT pd_2 rfl (by rw [hml]; rfl) (by decide) 0 rfl (by decide) (by decide) (by decide) 38 rfl ?_
    intro T35 L9 v9 X hQ
    obtain ⟨h35, eT⟩ : ∃ z, T35.heap = z := ⟨_, rfl⟩
    rw [eT] at hQ
    have lt_b14b6 := A_b14b6.lt
    have lt_b8 := E_b8.lt
    obtain ⟨b35b8b7, rfl, N9, Kc, hs_b35b8b7, A_b35b8b7, E_b35b8b7⟩ := hQ
    have g_b35b8b7 : n0 ≤ b35b8b7 := Nat.le_trans Zs hs_b35b8b7
    have sz_b35b8b7 : h0.size ≤ b35b8b7 := Nat.le_trans K.1 hs_b35b8b7
    have ne_b14b6_b35b8b7 : b14b6 ≠ b35b8b7 := Nat.ne_of_lt (Nat.lt_of_lt_of_le lt_b14b6 hs_b35b8b7)
    have ne_b8_b35b8b7 : b8 ≠ b35b8b7 := Nat.ne_of_lt (Nat.lt_of_lt_of_le lt_b8 hs_b35b8b7)
    have E_b8 := E_b8.keep Kc
    have F_bytes_b8 := F_bytes_b8.keep Kc nin0
    have F_length_b8 := F_length_b8.keep Kc nin0
    have A_b14b6 := A_b14b6.keep Kc nin0
    have E_b14b6 := E_b14b6.keep Kc
    have K := K.trans Kc all0
    have Zs := Nat.le_trans Zs Kc.1
    have N := Fr.app N N9
    show Go p e below _ T35 (mkF m 38 #[.val (.int p1), .val (.long q2), .second, .val (.int p3), .val (.int (4 : Int32)), .val (.ref b8), .unset, .unset] [(.ref b35b8b7)])
    refine own_astore X hx hby at_38 rfl (l' := #[.val (.int p1), .val (.long q2), .second, .val (.int p3), .val (.int (4 : Int32)), .val (.ref b8), .val (.ref b35b8b7), .unset]) rfl 40 rfl ?_
    refine own_aload X hx hby (.ref b35b8b7) at_40 rfl rfl 42 rfl ?_
    refine own_arraylength X hx hby hZ (8 : Int32) eT A_b35b8b7 rfl at_42 43 rfl ?_
    refine own_bipush X hx hby (8 : Int32) at_43 rfl 45 rfl ?_
    have c45 : (8 : Int32) = (8 : Int32) := by decide
    refine own_icmp_eq X hx hby at_45 50 48 (by decide) rfl (fun _ => ?_) (fun q => absurd c45 q)
    refine own_aload X hx hby (.ref b35b8b7) at_50 rfl rfl 52 rfl ?_
    refine own_iload X hx hby (4 : Int32) at_52 rfl 54 rfl ?_
    refine own_baload X hx hby hZ (ar30 4) eT A_b35b8b7 (by decide) rfl at_54 55 rfl ?_
    refine own_sipush X hx hby (255 : Int32) at_55 rfl 58 rfl ?_
    refine own_iand X hx hby at_58 59 rfl ?_
    refine own_aload X hx hby (.ref b35b8b7) at_59 rfl rfl 61 rfl ?_
    refine own_iload X hx hby (4 : Int32) at_61 rfl 63 rfl ?_
    refine own_iconst X hx hby (1 : Int32) at_63 rfl 64 rfl ?_
    refine own_iadd X hx hby at_64 65 rfl ?_
    refine own_top (v' := (.int (5 : Int32))) (congrArg Value.int (by decide)) ?_
    refine own_baload X hx hby hZ (ar30 5) eT A_b35b8b7 (by decide) rfl at_65 66 rfl ?_
    refine own_sipush X hx hby (255 : Int32) at_66 rfl 69 rfl ?_
    refine own_iand X hx hby at_69 70 rfl ?_
    refine own_bipush X hx hby (8 : Int32) at_70 rfl 72 rfl ?_
    refine own_ishl X hx hby at_72 73 rfl ?_
    refine own_ior X hx hby at_73 74 rfl ?_
    refine own_aload X hx hby (.ref b35b8b7) at_74 rfl rfl 76 rfl ?_
    refine own_iload X hx hby (4 : Int32) at_76 rfl 78 rfl ?_
    refine own_iconst X hx hby (2 : Int32) at_78 rfl 79 rfl ?_
    refine own_iadd X hx hby at_79 80 rfl ?_
    refine own_top (v' := (.int (6 : Int32))) (congrArg Value.int (by decide)) ?_
    refine own_baload X hx hby hZ (ar30 6) eT A_b35b8b7 (by decide) rfl at_80 81 rfl ?_
    refine own_sipush X hx hby (255 : Int32) at_81 rfl 84 rfl ?_
    refine own_iand X hx hby at_84 85 rfl ?_
    refine own_bipush X hx hby (16 : Int32) at_85 rfl 87 rfl ?_
    refine own_ishl X hx hby at_87 88 rfl ?_
    refine own_ior X hx hby at_88 89 rfl ?_
    refine own_aload X hx hby (.ref b35b8b7) at_89 rfl rfl 91 rfl ?_
    refine own_iload X hx hby (4 : Int32) at_91 rfl 93 rfl ?_
    refine own_iconst X hx hby (3 : Int32) at_93 rfl 94 rfl ?_
    refine own_iadd X hx hby at_94 95 rfl ?_
    refine own_top (v' := (.int (7 : Int32))) (congrArg Value.int (by decide)) ?_
    refine own_baload X hx hby hZ (ar30 7) eT A_b35b8b7 (by decide) rfl at_95 96 rfl ?_
    refine own_sipush X hx hby (255 : Int32) at_96 rfl 99 rfl ?_
    refine own_iand X hx hby at_99 100 rfl ?_
    refine own_bipush X hx hby (24 : Int32) at_100 rfl 102 rfl ?_
    refine own_ishl X hx hby at_102 103 rfl ?_
    refine own_ior X hx hby at_103 104 rfl ?_
    obtain ⟨v104, e104⟩ : ∃ z : Int32, (((((ar30 4) &&& (255 : Int32)) ||| (((ar30 5) &&& (255 : Int32)) <<< ((8 : Int32) &&& 31))) ||| (((ar30 6) &&& (255 : Int32)) <<< ((16 : Int32) &&& 31))) ||| (((ar30 7) &&& (255 : Int32)) <<< ((24 : Int32) &&& 31))) = z := ⟨_, rfl⟩
    refine own_istore X hx hby at_104 e104 (l' := #[.val (.int p1), .val (.long q2), .second, .val (.int p3), .val (.int (4 : Int32)), .val (.ref b8), .val (.ref b35b8b7), .val (.int v104)]) rfl 106 rfl ?_
    refine own_iload X hx hby v104 at_106 rfl 108 rfl ?_
    refine own_iloadN X hx hby p3 at_108 rfl 109 rfl ?_
    have c109 : v104 = p3 := own_le _ _ _ _ _ _ (by rw [← ear30]; rfl) (by rw [← ear30]; rfl) (by rw [← ear30]; rfl) (by rw [← ear30]; rfl) e104
    refine own_icmp_eq X hx hby at_109 114 112 (by decide) rfl (fun _ => ?_) (fun q => absurd c109 q)
    refine own_aload X hx hby (.ref b35b8b7) at_114 rfl rfl 116 rfl ?_
    refine own_iconst X hx hby (0 : Int32) at_116 rfl 117 rfl ?_
    refine own_iload X hx hby (4 : Int32) at_117 rfl 119 rfl ?_
    refine own_lloadN X hx hby q2 at_119 rfl 120 rfl ?_
    refine own_callS X hx hby hZ (st := []) [(.ref b35b8b7), (.int (0 : Int32)), (.int (4 : Int32)), (.long q2)] rfl hown (hw _ (List.mem_of_getElem? (i := 47) rfl)) (hw _ (List.mem_of_getElem? (i := 48) rfl)) (hw _ (List.mem_of_getElem? (i := 49) rfl)) (hw _ (List.mem_of_getElem? (i := 50) rfl)) (by decide) at_120 (rm8 l Z a0 hw b35b8b7 (0 : Int32) (4 : Int32) q2 ar30 h35 n0 Zs (by decide) A_b35b8b7 E_b35b8b7) eT pd_7 rfl (by rw [hml]; rfl) (by decide) 0 rfl (by decide) (by decide) (by decide) 123 rfl ?_
    intro T120 L9 v9 X hQ
    obtain ⟨rfl, N9, eT⟩ := hQ
    have N := Fr.app N N9
    show Go p e below _ T120 (mkF m 123 #[.val (.int p1), .val (.long q2), .second, .val (.int p3), .val (.int (4 : Int32)), .val (.ref b8), .val (.ref b35b8b7), .val (.int v104)] [(.int (f8 (0 : Int32) (4 : Int32) q2 ar30))])
    have c123 : ¬ (f8 (0 : Int32) (4 : Int32) q2 ar30) = (0 : Int32) := own_un _ _ (56 : Int32) _ _ (by decide) (by rw [← ear30, ← ear22]; rfl)
    refine own_if_eq X hx hby at_123 216 126 (by decide) rfl (fun q => absurd q c123) (fun _ => ?_)
    refine own_aload X hx hby (.ref b35b8b7) at_126 rfl rfl 128 rfl ?_
    refine own_iconst X hx hby (1 : Int32) at_128 rfl 129 rfl ?_
    refine own_iload X hx hby (4 : Int32) at_129 rfl 131 rfl ?_
    refine own_lloadN X hx hby q2 at_131 rfl 132 rfl ?_
    refine own_callS X hx hby hZ (st := []) [(.ref b35b8b7), (.int (1 : Int32)), (.int (4 : Int32)), (.long q2)] rfl hown (hw _ (List.mem_of_getElem? (i := 47) rfl)) (hw _ (List.mem_of_getElem? (i := 48) rfl)) (hw _ (List.mem_of_getElem? (i := 49) rfl)) (hw _ (List.mem_of_getElem? (i := 50) rfl)) (by decide) at_132 (rm8 l Z a0 hw b35b8b7 (1 : Int32) (4 : Int32) q2 ar30 h35 n0 Zs (by decide) A_b35b8b7 E_b35b8b7) eT pd_7 rfl (by rw [hml]; rfl) (by decide) 0 rfl (by decide) (by decide) (by decide) 135 rfl ?_
    intro T132 L9 v9 X hQ
    obtain ⟨rfl, N9, eT⟩ := hQ
    have N := Fr.app N N9
    show Go p e below _ T132 (mkF m 135 #[.val (.int p1), .val (.long q2), .second, .val (.int p3), .val (.int (4 : Int32)), .val (.ref b8), .val (.ref b35b8b7), .val (.int v104)] [(.int (f8 (1 : Int32) (4 : Int32) q2 ar30))])
    have c135 : ¬ (f8 (1 : Int32) (4 : Int32) q2 ar30) = (0 : Int32) := own_un _ _ (48 : Int32) _ _ (by decide) (by rw [← ear30, ← ear22]; rfl)
    refine own_if_eq X hx hby at_135 216 138 (by decide) rfl (fun q => absurd q c135) (fun _ => ?_)
    refine own_aload X hx hby (.ref b35b8b7) at_138 rfl rfl 140 rfl ?_
    refine own_iconst X hx hby (2 : Int32) at_140 rfl 141 rfl ?_
    refine own_iload X hx hby (4 : Int32) at_141 rfl 143 rfl ?_
    refine own_lloadN X hx hby q2 at_143 rfl 144 rfl ?_
    refine own_callS X hx hby hZ (st := []) [(.ref b35b8b7), (.int (2 : Int32)), (.int (4 : Int32)), (.long q2)] rfl hown (hw _ (List.mem_of_getElem? (i := 47) rfl)) (hw _ (List.mem_of_getElem? (i := 48) rfl)) (hw _ (List.mem_of_getElem? (i := 49) rfl)) (hw _ (List.mem_of_getElem? (i := 50) rfl)) (by decide) at_144 (rm8 l Z a0 hw b35b8b7 (2 : Int32) (4 : Int32) q2 ar30 h35 n0 Zs (by decide) A_b35b8b7 E_b35b8b7) eT pd_7 rfl (by rw [hml]; rfl) (by decide) 0 rfl (by decide) (by decide) (by decide) 147 rfl ?_
    intro T144 L9 v9 X hQ
    obtain ⟨rfl, N9, eT⟩ := hQ
    have N := Fr.app N N9
    show Go p e below _ T144 (mkF m 147 #[.val (.int p1), .val (.long q2), .second, .val (.int p3), .val (.int (4 : Int32)), .val (.ref b8), .val (.ref b35b8b7), .val (.int v104)] [(.int (f8 (2 : Int32) (4 : Int32) q2 ar30))])
    have c147 : ¬ (f8 (2 : Int32) (4 : Int32) q2 ar30) = (0 : Int32) := own_un _ _ (40 : Int32) _ _ (by decide) (by rw [← ear30, ← ear22]; rfl)
    refine own_if_eq X hx hby at_147 216 150 (by decide) rfl (fun q => absurd q c147) (fun _ => ?_)
    refine own_aload X hx hby (.ref b35b8b7) at_150 rfl rfl 152 rfl ?_
    refine own_iconst X hx hby (3 : Int32) at_152 rfl 153 rfl ?_
    refine own_iload X hx hby (4 : Int32) at_153 rfl 155 rfl ?_
    refine own_lloadN X hx hby q2 at_155 rfl 156 rfl ?_
    refine own_callS X hx hby hZ (st := []) [(.ref b35b8b7), (.int (3 : Int32)), (.int (4 : Int32)), (.long q2)] rfl hown (hw _ (List.mem_of_getElem? (i := 47) rfl)) (hw _ (List.mem_of_getElem? (i := 48) rfl)) (hw _ (List.mem_of_getElem? (i := 49) rfl)) (hw _ (List.mem_of_getElem? (i := 50) rfl)) (by decide) at_156 (rm8 l Z a0 hw b35b8b7 (3 : Int32) (4 : Int32) q2 ar30 h35 n0 Zs (by decide) A_b35b8b7 E_b35b8b7) eT pd_7 rfl (by rw [hml]; rfl) (by decide) 0 rfl (by decide) (by decide) (by decide) 159 rfl ?_
    intro T156 L9 v9 X hQ
    obtain ⟨rfl, N9, eT⟩ := hQ
    have N := Fr.app N N9
    show Go p e below _ T156 (mkF m 159 #[.val (.int p1), .val (.long q2), .second, .val (.int p3), .val (.int (4 : Int32)), .val (.ref b8), .val (.ref b35b8b7), .val (.int v104)] [(.int (f8 (3 : Int32) (4 : Int32) q2 ar30))])
    have c159 : ¬ (f8 (3 : Int32) (4 : Int32) q2 ar30) = (0 : Int32) := own_un _ _ (32 : Int32) _ _ (by decide) (by rw [← ear30, ← ear22]; rfl)
    refine own_if_eq X hx hby at_159 216 162 (by decide) rfl (fun q => absurd q c159) (fun _ => ?_)
    refine own_aload X hx hby (.ref b35b8b7) at_162 rfl rfl 164 rfl ?_
    refine own_iconst X hx hby (4 : Int32) at_164 rfl 165 rfl ?_
    refine own_iload X hx hby (4 : Int32) at_165 rfl 167 rfl ?_
    refine own_lloadN X hx hby q2 at_167 rfl 168 rfl ?_
    refine own_callS X hx hby hZ (st := []) [(.ref b35b8b7), (.int (4 : Int32)), (.int (4 : Int32)), (.long q2)] rfl hown (hw _ (List.mem_of_getElem? (i := 47) rfl)) (hw _ (List.mem_of_getElem? (i := 48) rfl)) (hw _ (List.mem_of_getElem? (i := 49) rfl)) (hw _ (List.mem_of_getElem? (i := 50) rfl)) (by decide) at_168 (rm8 l Z a0 hw b35b8b7 (4 : Int32) (4 : Int32) q2 ar30 h35 n0 Zs (by decide) A_b35b8b7 E_b35b8b7) eT pd_7 rfl (by rw [hml]; rfl) (by decide) 0 rfl (by decide) (by decide) (by decide) 171 rfl ?_
    intro T168 L9 v9 X hQ
    obtain ⟨rfl, N9, eT⟩ := hQ
    have N := Fr.app N N9
    show Go p e below _ T168 (mkF m 171 #[.val (.int p1), .val (.long q2), .second, .val (.int p3), .val (.int (4 : Int32)), .val (.ref b8), .val (.ref b35b8b7), .val (.int v104)] [(.int (f8 (4 : Int32) (4 : Int32) q2 ar30))])
    have c171 : ¬ (f8 (4 : Int32) (4 : Int32) q2 ar30) = (0 : Int32) := own_t _ _ _ _ (by decide) (by decide)
    refine own_if_eq X hx hby at_171 216 174 (by decide) rfl (fun q => absurd q c171) (fun _ => ?_)
    refine own_aload X hx hby (.ref b35b8b7) at_174 rfl rfl 176 rfl ?_
    refine own_iconst X hx hby (5 : Int32) at_176 rfl 177 rfl ?_
    refine own_iload X hx hby (4 : Int32) at_177 rfl 179 rfl ?_
    refine own_lloadN X hx hby q2 at_179 rfl 180 rfl ?_
    refine own_callS X hx hby hZ (st := []) [(.ref b35b8b7), (.int (5 : Int32)), (.int (4 : Int32)), (.long q2)] rfl hown (hw _ (List.mem_of_getElem? (i := 47) rfl)) (hw _ (List.mem_of_getElem? (i := 48) rfl)) (hw _ (List.mem_of_getElem? (i := 49) rfl)) (hw _ (List.mem_of_getElem? (i := 50) rfl)) (by decide) at_180 (rm8 l Z a0 hw b35b8b7 (5 : Int32) (4 : Int32) q2 ar30 h35 n0 Zs (by decide) A_b35b8b7 E_b35b8b7) eT pd_7 rfl (by rw [hml]; rfl) (by decide) 0 rfl (by decide) (by decide) (by decide) 183 rfl ?_
    intro T180 L9 v9 X hQ
    obtain ⟨rfl, N9, eT⟩ := hQ
    have N := Fr.app N N9
    show Go p e below _ T180 (mkF m 183 #[.val (.int p1), .val (.long q2), .second, .val (.int p3), .val (.int (4 : Int32)), .val (.ref b8), .val (.ref b35b8b7), .val (.int v104)] [(.int (f8 (5 : Int32) (4 : Int32) q2 ar30))])
    have c183 : ¬ (f8 (5 : Int32) (4 : Int32) q2 ar30) = (0 : Int32) := own_t _ _ _ _ (by decide) (by decide)
    refine own_if_eq X hx hby at_183 216 186 (by decide) rfl (fun q => absurd q c183) (fun _ => ?_)
    refine own_aload X hx hby (.ref b35b8b7) at_186 rfl rfl 188 rfl ?_
    refine own_bipush X hx hby (6 : Int32) at_188 rfl 190 rfl ?_
    refine own_iload X hx hby (4 : Int32) at_190 rfl 192 rfl ?_
    refine own_lloadN X hx hby q2 at_192 rfl 193 rfl ?_
    refine own_callS X hx hby hZ (st := []) [(.ref b35b8b7), (.int (6 : Int32)), (.int (4 : Int32)), (.long q2)] rfl hown (hw _ (List.mem_of_getElem? (i := 47) rfl)) (hw _ (List.mem_of_getElem? (i := 48) rfl)) (hw _ (List.mem_of_getElem? (i := 49) rfl)) (hw _ (List.mem_of_getElem? (i := 50) rfl)) (by decide) at_193 (rm8 l Z a0 hw b35b8b7 (6 : Int32) (4 : Int32) q2 ar30 h35 n0 Zs (by decide) A_b35b8b7 E_b35b8b7) eT pd_7 rfl (by rw [hml]; rfl) (by decide) 0 rfl (by decide) (by decide) (by decide) 196 rfl ?_
    intro T193 L9 v9 X hQ
    obtain ⟨rfl, N9, eT⟩ := hQ
    have N := Fr.app N N9
    show Go p e below _ T193 (mkF m 196 #[.val (.int p1), .val (.long q2), .second, .val (.int p3), .val (.int (4 : Int32)), .val (.ref b8), .val (.ref b35b8b7), .val (.int v104)] [(.int (f8 (6 : Int32) (4 : Int32) q2 ar30))])
    have c196 : ¬ (f8 (6 : Int32) (4 : Int32) q2 ar30) = (0 : Int32) := own_t _ _ _ _ (by decide) (by decide)
    refine own_if_eq X hx hby at_196 216 199 (by decide) rfl (fun q => absurd q c196) (fun _ => ?_)
    refine own_aload X hx hby (.ref b35b8b7) at_199 rfl rfl 201 rfl ?_
    refine own_bipush X hx hby (7 : Int32) at_201 rfl 203 rfl ?_
    refine own_iload X hx hby (4 : Int32) at_203 rfl 205 rfl ?_
    refine own_lloadN X hx hby q2 at_205 rfl 206 rfl ?_
    refine own_callS X hx hby hZ (st := []) [(.ref b35b8b7), (.int (7 : Int32)), (.int (4 : Int32)), (.long q2)] rfl hown (hw _ (List.mem_of_getElem? (i := 47) rfl)) (hw _ (List.mem_of_getElem? (i := 48) rfl)) (hw _ (List.mem_of_getElem? (i := 49) rfl)) (hw _ (List.mem_of_getElem? (i := 50) rfl)) (by decide) at_206 (rm8 l Z a0 hw b35b8b7 (7 : Int32) (4 : Int32) q2 ar30 h35 n0 Zs (by decide) A_b35b8b7 E_b35b8b7) eT pd_7 rfl (by rw [hml]; rfl) (by decide) 0 rfl (by decide) (by decide) (by decide) 209 rfl ?_
    intro T206 L9 v9 X hQ
    obtain ⟨rfl, N9, eT⟩ := hQ
    have N := Fr.app N N9
    show Go p e below _ T206 (mkF m 209 #[.val (.int p1), .val (.long q2), .second, .val (.int p3), .val (.int (4 : Int32)), .val (.ref b8), .val (.ref b35b8b7), .val (.int v104)] [(.int (f8 (7 : Int32) (4 : Int32) q2 ar30))])
    have c209 : ¬ (f8 (7 : Int32) (4 : Int32) q2 ar30) = (0 : Int32) := own_t _ _ _ _ (by decide) (by decide)
    refine own_if_eq X hx hby at_209 216 212 (by decide) rfl (fun q => absurd q c209) (fun _ => ?_)
    refine own_iconst X hx hby (1 : Int32) at_212 rfl 213 rfl ?_
    refine own_goto X hx hby at_213 217 (by decide) ?_
    refine own_retN X hx hby hret hlk (t := .boolean) (z' := (1 : Int32)) (by simp) at_217 (by decide) (by decide) rfl ?_
    rw [eT]
    exact ⟨rfl, N⟩
set_option maxRecDepth 65536 in
set_option maxHeartbeats 40000000 in
theorem comes_1 {Post : Tables → Env → Array Value → State → Outcome → State → Prop} (hpost : ∀ tb e args s v u, (limb_1_1.after args s (.returned v) u = true ∧ limb_1_2.after args s (.returned v) u = true ∧ True) → FrameEnd s (.returned v) u (Jvm.fieldLocs frame_1_writes args s ++ Jvm.arrayLocs frame_1_arrays args s ++ Jvm.staticLocs frame_1_statics s) 16 128 → Post tb e args s (.returned v) u) :
    ArmFor flags0 classFile x code maxLocals ret World_1 tables_1 room_1 Calls_1 rest_1 Pre_1 Post := by
  intro l hfl _ _ p e ha hc hk s m args below hf hA hF happ hP
  obtain ⟨hcalls, hrest, hpre⟩ := hP
  obtain ⟨-, -, -, hnamed, -, -, -, hat⟩ := (Spec.applies_iff hf).mp happ
  obtain ⟨hg, hn⟩ := and_e (Cond.before_iff.mp (show (Jvm.Cond.and given_1 narrow_1).before args s = true from hpre))
  obtain ⟨gg1, gg2⟩ := and_e hg
  obtain ⟨gg3, gg4⟩ := and_e gg2
  obtain ⟨gg5, gg6⟩ := and_e gg4
  obtain ⟨w0, w1, w2, rfl⟩ : ∃ w0 w1 w2 : Value, args = #[w0, w1, w2] := by
    have hs : args.size = 3 := by simpa [Cond.value, given_1] using gg1
    obtain ⟨L⟩ := args
    match L, hs with
    | [w0, w1, w2], _ => exact ⟨w0, w1, w2, rfl⟩
  have hw := fun d (hd : d ∈ tables_1) => atoms_spec (ws := Jvm.Cond.code x code maxLocals ret :: tables_1) hat d (List.mem_cons_of_mem _ hd)
  have hfit : Fit s := fun {y c} hc i hi => by
    obtain ⟨ha, rfl⟩ := Array.getElem?_eq_some_iff.mp hc
    have q := List.all_eq_true.mp ((Array.all_eq_true_iff_forall_mem.mp hF) _ (Array.getElem_mem ha)) i (List.mem_range.mpr hi)
    simpa [Array.getElem?_eq_getElem hi] using q
  obtain ⟨i0, ei0⟩ := is_v gg3
  obtain rfl : w0 = (.int i0) := Option.some.inj ei0
  obtain ⟨i1, ei1⟩ := isL_v gg5
  obtain rfl : w1 = (.long i1) := Option.some.inj ei1
  obtain ⟨i2, ei2⟩ := is_v gg6
  obtain rfl : w2 = (.int i2) := Option.some.inj ei2
  obtain ⟨n, o, h1, h2, h3, _, L, rfl, ⟨rfl, N⟩, hq⟩ := rm0 l s _ hw i0 i1 i2  s.heap s.heap.size (Nat.le_refl _)  tables_1 p e ha hc hk s m _ below hf ((Spec.applies_iff_loose hf).mp happ).1 ⟨rfl, State.Warmed39.refl s, rfl⟩ trivial
  refine ⟨n, _, h1, h2, h3, hpost _ _ _ _ _ _ ⟨Cond.after_iff.mpr rfl, Cond.after_iff.mpr (eq_i res_at (Term.int_eval (1)) rfl), trivial⟩ ⟨hq.1, hq.2.1, (hq.2.2.sift fun y hy => Or.inr (N y hy)).mono (by decide) (by decide)⟩⟩
theorem main_1_1 : Claimed_1_1 := comes_1 fun _ _ _ _ _ _ h hF => ⟨h.1, hF⟩
theorem main_1_2 : Claimed_1_2 := comes_1 fun _ _ _ _ _ _ h hF => ⟨h.2.1, hF⟩
end Jvm.Pilot.@@N@@
namespace Jvm.Pilot.@@N@@
open Jvm Jvm.ClassFile Sem Op Lib Jvm.Free Jvm.Stand Jvm.Pilot.@@N@@.Jvm.D
/-! MADE BY PROGRAM (witnessworld.py) out of the Statement's table words and the real class files: 10 classes; the members and pool entries that the words name. The judged class is class 1, her method 2. -/
namespace start1
open Jvm.ClassFile
def u (s : String) : CpInfo := .utf8 (stringToUtf16 s)
/-- a pool by its gaps: so many unusable entries, then the entry; so many at the end -/
def gap : Nat → List CpInfo → List CpInfo
  | 0, r => r
  | n + 1, r => .unusable :: gap n r
def poolList (es : List (Nat × CpInfo)) (last : Nat) : List CpInfo := es.foldr (fun e r => gap e.1 (e.2 :: r)) (gap last [])
def pool (es : List (Nat × CpInfo)) (last : Nat) : Array CpInfo := ⟨poolList es last⟩
def fileOf (pool : Array CpInfo) (this : Nat) (attrs : Array Attribute := #[]) (ms : Array MethodInfo := #[]) (fl : Nat := 33) (sup : Nat := 0) (ifs : Array Nat := #[]) (fds : Array FieldInfo := #[]) : ClassFile where
  minorVersion := 0
  majorVersion := 65
  constantPool := pool
  accessFlags := fl
  thisClass := this
  superClass := sup
  interfaces := ifs
  fields := fds
  methods := ms
  attributes := attrs
def plain (name : String) (sup : Option ClassId) : Class where
  name := name
  kind := .ordinary
  loader := none
  accessFlags := 33
  super := sup
  interfaces := #[]
  cf := none
  fields := #[]
  methods := #[]
  instanceTypes := #[]
  staticTypes := #[]
  resolved := #[]
  callSites := []
  init := .initialized
  statics := none
  mirror := none

def pool0 : Array CpInfo := pool [(5, u "<init>"), (0, u "()V"), (1, .class_ 10), (1, u "java/lang/Object"), (85, u "clone"), (0, u "()Ljava/lang/Object;")] 26

def k0c0 : Code := { maxStack := 0, maxLocals := 1, code := object_method_1_code, exceptionTable := #[], attributes := #[] }
def k0m0 : Method := { name := "<init>", desc := "()V", sig := { parameters := [], returnType := none }, accessFlags := 1, code := some k0c0 }
def k0m1 : Method := { name := "clone", desc := "()Ljava/lang/Object;", sig := { parameters := [], returnType := some (.object "java/lang/Object") }, accessFlags := 260, code := none }
/-- java/lang/Object -/
def k0 : Class := { plain "java/lang/Object" none with
  accessFlags := 33
  interfaces := #[]
  cf := some (fileOf pool0 8 #[] #[{ accessFlags := 1, nameIndex := 5, descriptorIndex := 6, attributes := #[] }, { accessFlags := 260, nameIndex := 96, descriptorIndex := 97, attributes := #[] }] 33 0 #[] #[])
  fields := #[]
  methods := #[k0m0, k0m1]
  instanceTypes := #[]
  staticTypes := #[]
  resolved := Array.replicate 124 none
  statics := none }

def pool1 : Array CpInfo := pool [(2, .class_ 4), (1, u "java/lang/Object"), (0, u "<init>"), (0, u "()V"), (0, .integer 2147483647), (0, .class_ 9), (0, u "com/example/daylily/daylily/engine/ByteWriter"), (0, .methodref 8 11), (0, .nameAndType 5 12), (0, u "(I)V"), (0, .methodref 8 14), (0, .nameAndType 15 16), (0, u "writeLong"), (0, u "(J)V"), (0, .methodref 8 18), (0, .nameAndType 19 20), (0, u "setIntLittleEndian"), (0, u "(II)V"), (0, .methodref 8 22), (0, .nameAndType 23 24), (0, u "toByteArray"), (0, u "()[B"), (0, .methodref 26 27), (0, .class_ 28), (0, .nameAndType 29 30), (0, u "com/example/daylily/daylily/engine/ByteWriterSetIntLittleEndianPinLaw"), (0, u "untouched"), (0, u "([BIIJ)Z"), (3, u "law"), (0, u "(IJI)Z")] 4

def k1m0 : Method := { name := "<init>", desc := "()V", sig := { parameters := [], returnType := none }, accessFlags := 1, code := none }
def k1c1 : Code := { maxStack := 6, maxLocals := 5, code := method_2_code, exceptionTable := #[], attributes := #[] }
def k1m1 : Method := { name := "untouched", desc := "([BIIJ)Z", sig := { parameters := [(.array .byte), .int, .int, .long], returnType := some .boolean }, accessFlags := 10, code := some k1c1 }
def k1c2 : Code := { maxStack := 5, maxLocals := 8, code := code, exceptionTable := #[], attributes := #[] }
def k1m2 : Method := { name := "law", desc := "(IJI)Z", sig := { parameters := [.int, .long, .int], returnType := some .boolean }, accessFlags := 9, code := some k1c2 }
/-- com/example/daylily/daylily/engine/ByteWriterSetIntLittleEndianPinLaw -/
def k1 : Class := { plain "com/example/daylily/daylily/engine/ByteWriterSetIntLittleEndianPinLaw" (some 0) with
  accessFlags := 49
  interfaces := #[]
  cf := some (fileOf pool1 26 #[] #[{ accessFlags := 1, nameIndex := 5, descriptorIndex := 6, attributes := #[] }, { accessFlags := 10, nameIndex := 29, descriptorIndex := 30, attributes := #[] }, { accessFlags := 9, nameIndex := 34, descriptorIndex := 35, attributes := #[] }] 49 2 #[] #[])
  fields := #[]
  methods := #[k1m0, k1m1, k1m2]
  instanceTypes := #[]
  staticTypes := #[]
  resolved := Array.replicate 40 none
  statics := none }

def pool2 : Array CpInfo := pool [(1, .methodref 2 3), (0, .class_ 4), (0, .nameAndType 5 6), (0, u "java/lang/Object"), (0, u "<init>"), (0, u "()V"), (0, .fieldref 8 9), (0, .class_ 10), (0, .nameAndType 11 12), (0, u "com/example/daylily/daylily/engine/ByteWriter"), (0, u "bytes"), (0, u "[B"), (0, .fieldref 8 14), (0, .nameAndType 15 16), (0, u "length"), (0, u "I"), (0, .methodref 18 19), (0, .class_ 20), (0, .nameAndType 21 22), (0, u "java/util/Arrays"), (0, u "copyOf"), (0, u "([BI)[B"), (0, .methodref 8 24), (0, .nameAndType 25 26), (0, u "room"), (0, u "(I)V"), (38, u "LONGEST_TEXT"), (4, u "toByteArray"), (0, u "()[B"), (4, u "writeLong"), (0, u "(J)V"), (6, u "(II)V"), (0, u "setIntLittleEndian")] 17

def k2c0 : Code := { maxStack := 2, maxLocals := 2, code := prog_10_method_1_code, exceptionTable := #[], attributes := #[] }
def k2m0 : Method := { name := "<init>", desc := "(I)V", sig := { parameters := [.int], returnType := none }, accessFlags := 1, code := some k2c0 }
def k2c1 : Code := { maxStack := 2, maxLocals := 1, code := prog_10_method_4_code, exceptionTable := #[], attributes := #[] }
def k2m1 : Method := { name := "toByteArray", desc := "()[B", sig := { parameters := [], returnType := some (.array .byte) }, accessFlags := 1, code := some k2c1 }
def k2c2 : Code := { maxStack := 5, maxLocals := 4, code := prog_10_method_8_code, exceptionTable := #[], attributes := #[] }
def k2m2 : Method := { name := "writeLong", desc := "(J)V", sig := { parameters := [.long], returnType := none }, accessFlags := 1, code := some k2c2 }
def k2c3 : Code := { maxStack := 4, maxLocals := 5, code := prog_10_method_14_code, exceptionTable := #[], attributes := #[] }
def k2m3 : Method := { name := "setIntLittleEndian", desc := "(II)V", sig := { parameters := [.int, .int], returnType := none }, accessFlags := 1, code := some k2c3 }
def k2c4 : Code := { maxStack := 5, maxLocals := 2, code := prog_10_method_15_code, exceptionTable := #[], attributes := #[] }
def k2m4 : Method := { name := "room", desc := "(I)V", sig := { parameters := [.int], returnType := none }, accessFlags := 2, code := some k2c4 }
/-- com/example/daylily/daylily/engine/ByteWriter -/
def k2 : Class := { plain "com/example/daylily/daylily/engine/ByteWriter" (some 0) with
  accessFlags := 49
  interfaces := #[]
  cf := some (fileOf pool2 8 #[] #[{ accessFlags := 1, nameIndex := 5, descriptorIndex := 26, attributes := #[] }, { accessFlags := 1, nameIndex := 70, descriptorIndex := 71, attributes := #[] }, { accessFlags := 1, nameIndex := 76, descriptorIndex := 77, attributes := #[] }, { accessFlags := 1, nameIndex := 85, descriptorIndex := 84, attributes := #[] }, { accessFlags := 2, nameIndex := 25, descriptorIndex := 26, attributes := #[] }] 49 2 #[] #[{ accessFlags := 26, nameIndex := 65, descriptorIndex := 16, attributes := #[] }, { accessFlags := 2, nameIndex := 11, descriptorIndex := 12, attributes := #[] }, { accessFlags := 2, nameIndex := 15, descriptorIndex := 16, attributes := #[] }])
  fields := #[{ name := "LONGEST_TEXT", type := .int, accessFlags := 26, slot := 0, constantValue := 0 }, { name := "bytes", type := (.array .byte), accessFlags := 2, slot := 0, constantValue := 0 }, { name := "length", type := .int, accessFlags := 2, slot := 1, constantValue := 0 }]
  methods := #[k2m0, k2m1, k2m2, k2m3, k2m4]
  instanceTypes := #[(.array .byte), .int]
  staticTypes := #[.int]
  resolved := Array.replicate 103 none
  statics := none }

def pool3 : Array CpInfo := pool [(2, .class_ 4), (1, u "java/lang/Object"), (0, u "<init>"), (0, u "()V"), (7, .class_ 16), (1, u "java/util/Arrays"), (57, .class_ 76), (1, u "java/util/Arrays$NaturalOrder"), (32, u "()Ljava/lang/Object;"), (3, .class_ 115), (1, u "java/util/Arrays$LegacyMergeSort"), (1, u "Z"), (10, .nameAndType 129 109), (0, u "clone"), (172, u "copyOf"), (7, .methodref 311 128), (0, .class_ 312), (0, u "[B"), (62, .class_ 376), (0, u "java/util/Arrays$ArrayList"), (68, u "$assertionsDisabled"), (269, u "MIN_ARRAY_SORT_GRAN"), (0, u "I"), (2, u "INSERTIONSORT_THRESHOLD"), (149, u "([BI)[B"), (105, .class_ 976), (0, u "java/util/Arrays$ArrayItr")] 52

def k3m0 : Method := { name := "<init>", desc := "()V", sig := { parameters := [], returnType := none }, accessFlags := 2, code := none }
def k3c1 : Code := { maxStack := 6, maxLocals := 3, code := jdk_65_method_121_code, exceptionTable := #[], attributes := #[] }
def k3m1 : Method := { name := "copyOf", desc := "([BI)[B", sig := { parameters := [(.array .byte), .int], returnType := some (.array .byte) }, accessFlags := 9, code := some k3c1 }
/-- java/util/Arrays -/
def k3 : Class := { plain "java/util/Arrays" (some 0) with
  accessFlags := 49
  interfaces := #[]
  cf := some (fileOf pool3 14 #[.nestMembers #[975, 375, 113, 74]] #[{ accessFlags := 2, nameIndex := 5, descriptorIndex := 6, attributes := #[] }, { accessFlags := 9, nameIndex := 302, descriptorIndex := 869, attributes := #[] }] 49 2 #[] #[{ accessFlags := 26, nameIndex := 715, descriptorIndex := 716, attributes := #[] }, { accessFlags := 26, nameIndex := 719, descriptorIndex := 716, attributes := #[] }, { accessFlags := 4120, nameIndex := 445, descriptorIndex := 117, attributes := #[] }])
  fields := #[{ name := "MIN_ARRAY_SORT_GRAN", type := .int, accessFlags := 26, slot := 0, constantValue := 0 }, { name := "INSERTIONSORT_THRESHOLD", type := .int, accessFlags := 26, slot := 1, constantValue := 0 }, { name := "$assertionsDisabled", type := .boolean, accessFlags := 4120, slot := 2, constantValue := 0 }]
  methods := #[k3m0, k3m1]
  instanceTypes := #[]
  staticTypes := #[.int, .int, .boolean]
  resolved := Array.replicate 1029 none
  statics := none }

def pool4 : Array CpInfo := pool [(1, .class_ 2), (0, u "java/lang/Cloneable"), (0, .class_ 4), (0, u "java/lang/Object")] 2

/-- java/lang/Cloneable -/
def k4 : Class := { plain "java/lang/Cloneable" (some 0) with
  accessFlags := 1537
  interfaces := #[]
  cf := some (fileOf pool4 1 #[] #[] 1537 3 #[] #[])
  fields := #[]
  methods := #[]
  instanceTypes := #[]
  staticTypes := #[]
  resolved := Array.replicate 7 none
  statics := none }

def pool5 : Array CpInfo := pool [(1, u "java/io/Serializable"), (0, .class_ 1), (0, u "java/lang/Object"), (0, .class_ 3)] 3

/-- java/io/Serializable -/
def k5 : Class := { plain "java/io/Serializable" (some 0) with
  accessFlags := 1537
  interfaces := #[]
  cf := some (fileOf pool5 2 #[] #[] 1537 4 #[] #[])
  fields := #[]
  methods := #[]
  instanceTypes := #[]
  staticTypes := #[]
  resolved := Array.replicate 8 none
  statics := none }

/-- the primitive byte -/
def k6 : Class := { plain "byte" none with kind := .primitive 'B', accessFlags := 0x411 }
/-- [B -/
def k7 : Class := { plain "[B" (some 0) with kind := .array 6 .byte, interfaces := #[4, 5], accessFlags := 1041 }

/-- the primitive int -/
def k8 : Class := { plain "int" none with kind := .primitive 'I', accessFlags := 0x411 }
/-- [I -/
def k9 : Class := { plain "[I" (some 0) with kind := .array 8 .int, interfaces := #[4, 5], accessFlags := 1041 }

def heap : Heap := #[]
def classes : Array Class := #[k0, k1, k2, k3, k4, k5, k6, k7, k8, k9]
def interned : List (Array UInt16 × Addr) := []
def slotsUsed : Nat := 0
def theMethod : MethodId := ⟨1, 2⟩
def args0 : Array Value := #[.int 3, .long 4, .int 5]
def aboutOver (below : List Frame) : State where
  vm := { classes := classes, interned := interned.toArray }
  heap := heap
  slotsUsed := slotsUsed
  threads := #[{ frames := .invoking theMethod args0 :: below }]
def below0 : List Frame := [.native { method := ⟨0, 0⟩, args := #[] }]
def about1 : State := aboutOver below0
def p0 : Program := .bare "" "" ""
def e0 : Env := launch0.env 0 0 0
theorem w_frames : about1.frames = Frame.invoking theMethod args0 :: below0 := rfl
set_option maxRecDepth 65536 in
theorem w_args : argsFit about1.vm theMethod args0 = true := by decide +kernel
set_option maxRecDepth 65536 in
theorem w_heap : heapFits about1 = true := by decide +kernel
set_option maxRecDepth 65536 in
theorem w_runnable : about1.curStatus? = some .runnable := by decide +kernel
set_option maxRecDepth 65536 in
theorem w_alone : about1.alone = true := by decide +kernel
set_option maxRecDepth 65536 in
theorem w_named : about1.methodNamed? x = some theMethod := by decide +kernel
set_option maxRecDepth 65536 in
theorem w_hears : about1.hears theMethod below0 = true := by decide +kernel
set_option maxRecDepth 65536 in
theorem w_ripe : about1.ripe theMethod args0 below0 = true := by decide +kernel
theorem w_running : about1.status = .running := rfl
set_option maxRecDepth 65536 in
theorem w_room : about1.hasRoom e0.platform room_1 = true :=
  launch0.hasRoom_least _ room_1 (by decide +kernel) (by decide +kernel) (by decide +kernel) (by decide +kernel) (by decide +kernel) (by decide +kernel)
theorem allAtoms_all (ts : List Jvm.Cond) (a : Array Jvm.Value) (st : Jvm.State) : (allAtoms ts).before a st = ts.all (fun c => c.before a st) := by
  induction ts with
  | nil => rfl
  | cons c t ih =>
    show (Jvm.Cond.and c (allAtoms t)).before a st = _
    rw [Jvm.Cond.before_and, ih, List.all_cons]
def words1 : List Jvm.Cond := Jvm.Cond.code x code maxLocals ret :: tables_1
/-- a 'code' word, met by the world's own term for the bytes: nothing is compared byte by byte -/
theorem code_word {y : MethodName} {bytes : ByteArray} {mx : Nat} {rt : Option FieldType} {a : Array Value} {s : State} {m : MethodId} {meth : Method} {c : Code} (h1 : s.methodNamed? y = some m) (h2 : s.vm.method? m = some meth) (h3 : meth.code = some c) (h4 : c.code = bytes)
    (h5 : (c.maxLocals == mx && c.exceptionTable.isEmpty && decide (c.maxStack ≤ mostOperands) && decide (meth.sig.returnType = rt) && !meth.locks && decide (parseMethodDescriptor y.desc = some meth.sig)) = true) : (Jvm.Cond.code y bytes mx rt).before a s = true := by
  simp only [Bool.and_eq_true, beq_iff_eq, Bool.not_eq_true', decide_eq_true_eq] at h5
  obtain ⟨⟨⟨⟨⟨g1, g2⟩, g3⟩, g4⟩, g5⟩, g6⟩ := h5
  simp [Cond.before, Cond.holds, Cond.value, h1, h2, h3, h4, g1, g2, g3, g4, g5, g6]
def isCode : Jvm.Cond → Bool
  | .code _ _ _ _ => true
  | _ => false
theorem all_split {L : List Jvm.Cond} {P : Jvm.Cond → Bool} (h1 : L.all (fun c => isCode c || P c) = true) (h2 : ∀ c ∈ L.filter isCode, P c = true) : L.all P = true := by
  refine List.all_eq_true.mpr fun c hc => ?_
  have h := List.all_eq_true.mp h1 c hc
  rcases Bool.eq_false_or_eq_true (isCode c) with hi | hi
  · exact h2 c (List.mem_filter.mpr ⟨hc, hi⟩)
  · simpa [hi] using h
set_option maxRecDepth 65536 in
theorem w_c0 : (Jvm.Cond.code x code maxLocals ret).before args0 about1 = true := code_word (m := ⟨1, 2⟩) (meth := k1m2) (c := k1c2) (by decide +kernel) rfl rfl rfl (by decide +kernel)
set_option maxRecDepth 65536 in
theorem w_c1 : (Jvm.Cond.code ({ cls := "com/example/daylily/daylily/engine/ByteWriter", name := "<init>", desc := "(I)V" } : Jvm.MethodName) prog_10_method_1_code (2 : Nat) (Option.none : Option Jvm.ClassFile.FieldType)).before args0 about1 = true := code_word (m := ⟨2, 0⟩) (meth := k2m0) (c := k2c0) (by decide +kernel) rfl rfl rfl (by decide +kernel)
set_option maxRecDepth 65536 in
theorem w_c2 : (Jvm.Cond.code ({ cls := "java/lang/Object", name := "<init>", desc := "()V" } : Jvm.MethodName) object_method_1_code (1 : Nat) (Option.none : Option Jvm.ClassFile.FieldType)).before args0 about1 = true := code_word (m := ⟨0, 0⟩) (meth := k0m0) (c := k0c0) (by decide +kernel) rfl rfl rfl (by decide +kernel)
set_option maxRecDepth 65536 in
theorem w_c3 : (Jvm.Cond.code ({ cls := "com/example/daylily/daylily/engine/ByteWriter", name := "writeLong", desc := "(J)V" } : Jvm.MethodName) prog_10_method_8_code (4 : Nat) (Option.none : Option Jvm.ClassFile.FieldType)).before args0 about1 = true := code_word (m := ⟨2, 2⟩) (meth := k2m2) (c := k2c2) (by decide +kernel) rfl rfl rfl (by decide +kernel)
set_option maxRecDepth 65536 in
theorem w_c4 : (Jvm.Cond.code ({ cls := "com/example/daylily/daylily/engine/ByteWriter", name := "room", desc := "(I)V" } : Jvm.MethodName) prog_10_method_15_code (2 : Nat) (Option.none : Option Jvm.ClassFile.FieldType)).before args0 about1 = true := code_word (m := ⟨2, 4⟩) (meth := k2m4) (c := k2c4) (by decide +kernel) rfl rfl rfl (by decide +kernel)
set_option maxRecDepth 65536 in
theorem w_c5 : (Jvm.Cond.code ({ cls := "com/example/daylily/daylily/engine/ByteWriter", name := "setIntLittleEndian", desc := "(II)V" } : Jvm.MethodName) prog_10_method_14_code (5 : Nat) (Option.none : Option Jvm.ClassFile.FieldType)).before args0 about1 = true := code_word (m := ⟨2, 3⟩) (meth := k2m3) (c := k2c3) (by decide +kernel) rfl rfl rfl (by decide +kernel)
set_option maxRecDepth 65536 in
theorem w_c6 : (Jvm.Cond.code ({ cls := "com/example/daylily/daylily/engine/ByteWriter", name := "toByteArray", desc := "()[B" } : Jvm.MethodName) prog_10_method_4_code (1 : Nat) (Option.some (Jvm.ClassFile.FieldType.array Jvm.ClassFile.FieldType.byte))).before args0 about1 = true := code_word (m := ⟨2, 1⟩) (meth := k2m1) (c := k2c1) (by decide +kernel) rfl rfl rfl (by decide +kernel)
set_option maxRecDepth 65536 in
theorem w_c7 : (Jvm.Cond.code ({ cls := "java/util/Arrays", name := "copyOf", desc := "([BI)[B" } : Jvm.MethodName) jdk_65_method_121_code (3 : Nat) (Option.some (Jvm.ClassFile.FieldType.array Jvm.ClassFile.FieldType.byte))).before args0 about1 = true := code_word (m := ⟨3, 1⟩) (meth := k3m1) (c := k3c1) (by decide +kernel) rfl rfl rfl (by decide +kernel)
set_option maxRecDepth 65536 in
theorem w_c8 : (Jvm.Cond.code ({ cls := "com/example/daylily/daylily/engine/ByteWriterSetIntLittleEndianPinLaw", name := "untouched", desc := "([BIIJ)Z" } : Jvm.MethodName) method_2_code (5 : Nat) (Option.some Jvm.ClassFile.FieldType.boolean)).before args0 about1 = true := code_word (m := ⟨1, 1⟩) (meth := k1m1) (c := k1c1) (by decide +kernel) rfl rfl rfl (by decide +kernel)
def codes1 : List Jvm.Cond := [Jvm.Cond.code x code maxLocals ret, Jvm.Cond.code ({ cls := "com/example/daylily/daylily/engine/ByteWriter", name := "<init>", desc := "(I)V" } : Jvm.MethodName) prog_10_method_1_code (2 : Nat) (Option.none : Option Jvm.ClassFile.FieldType), Jvm.Cond.code ({ cls := "java/lang/Object", name := "<init>", desc := "()V" } : Jvm.MethodName) object_method_1_code (1 : Nat) (Option.none : Option Jvm.ClassFile.FieldType), Jvm.Cond.code ({ cls := "com/example/daylily/daylily/engine/ByteWriter", name := "writeLong", desc := "(J)V" } : Jvm.MethodName) prog_10_method_8_code (4 : Nat) (Option.none : Option Jvm.ClassFile.FieldType), Jvm.Cond.code ({ cls := "com/example/daylily/daylily/engine/ByteWriter", name := "room", desc := "(I)V" } : Jvm.MethodName) prog_10_method_15_code (2 : Nat) (Option.none : Option Jvm.ClassFile.FieldType), Jvm.Cond.code ({ cls := "com/example/daylily/daylily/engine/ByteWriter", name := "setIntLittleEndian", desc := "(II)V" } : Jvm.MethodName) prog_10_method_14_code (5 : Nat) (Option.none : Option Jvm.ClassFile.FieldType), Jvm.Cond.code ({ cls := "com/example/daylily/daylily/engine/ByteWriter", name := "toByteArray", desc := "()[B" } : Jvm.MethodName) prog_10_method_4_code (1 : Nat) (Option.some (Jvm.ClassFile.FieldType.array Jvm.ClassFile.FieldType.byte)), Jvm.Cond.code ({ cls := "java/util/Arrays", name := "copyOf", desc := "([BI)[B" } : Jvm.MethodName) jdk_65_method_121_code (3 : Nat) (Option.some (Jvm.ClassFile.FieldType.array Jvm.ClassFile.FieldType.byte)), Jvm.Cond.code ({ cls := "com/example/daylily/daylily/engine/ByteWriterSetIntLittleEndianPinLaw", name := "untouched", desc := "([BIIJ)Z" } : Jvm.MethodName) method_2_code (5 : Nat) (Option.some Jvm.ClassFile.FieldType.boolean)]
set_option maxRecDepth 65536 in
theorem codes_eq : words1.filter isCode = codes1 := rfl
theorem w_codes : ∀ c ∈ words1.filter isCode, c.before args0 about1 = true := by
  rw [codes_eq]
  intro c hc
  simp only [codes1, List.mem_cons, List.not_mem_nil, or_false] at hc
  rcases hc with rfl | rfl | rfl | rfl | rfl | rfl | rfl | rfl | rfl
  · exact w_c0
  · exact w_c1
  · exact w_c2
  · exact w_c3
  · exact w_c4
  · exact w_c5
  · exact w_c6
  · exact w_c7
  · exact w_c8
set_option maxRecDepth 65536 in
theorem w_t1 : (words1.take 24).all (fun c => isCode c || c.before args0 about1) = true := by decide +kernel
set_option maxRecDepth 65536 in
theorem w_t2 : ((words1.drop 24).take 24).all (fun c => isCode c || c.before args0 about1) = true := by decide +kernel
set_option maxRecDepth 65536 in
theorem w_t3 : ((words1.drop 24).drop 24).all (fun c => isCode c || c.before args0 about1) = true := by decide +kernel
theorem w_tables : (allAtoms (Jvm.Cond.code x code maxLocals ret :: tables_1)).before args0 about1 = true := by
  rw [allAtoms_all]
  show words1.all (fun c => c.before args0 about1) = true
  refine all_split ?_ w_codes
  rw [← List.take_append_drop 24 words1, List.all_append, w_t1, ← List.take_append_drop 24 (words1.drop 24), List.all_append, w_t2, w_t3]
  rfl
set_option maxRecDepth 65536 in
theorem w_case : (Jvm.Cond.and given_1 narrow_1).before args0 about1 = true := by decide +kernel
theorem w_applies : (headSpec (Jvm.Cond.code x code maxLocals ret :: tables_1) room_1).applies x e0.platform about1 = true :=
  (Spec.applies_iff w_frames).mpr ⟨w_running, w_runnable, w_alone, w_named, w_hears, w_ripe, w_room, w_tables⟩
theorem atStart : AtStart classFile x code maxLocals ret World_1 tables_1 room_1 Calls_1 rest_1 Pre_1 launch0 p0 e0 about1 theMethod args0 below0 :=
  ⟨lists_1, trivial, launch0.admits_env _ _ _, launch0.least_env, fairChoices_fair.cas, fairChoices_fair.clock, w_frames, w_args, w_heap, w_applies, trivial, trivial, w_case⟩
end start1
theorem witness_1 : WitnessClaimed_1 := ⟨start1.p0, start1.e0, start1.about1, start1.theMethod, start1.args0, start1.below0, start1.atStart⟩
end Jvm.Pilot.@@N@@
