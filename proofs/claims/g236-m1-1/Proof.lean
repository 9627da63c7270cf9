import JvmDerived
import JvmDerived.Pilot.@@N@@Statement
import JvmDerived.Pilot.@@N@@Code
set_option linter.unusedVariables false
set_option linter.unusedSimpArgs false
namespace Jvm.OwnGo
open Sem ClassFile Op Lib Jvm.Stand Jvm.Free Jvm.LawKit Jvm.RoadKit Jvm.Free.Fl
/-- from S the run comes to an end of which P speaks -/
def Go (p : Program) (e : Env) (below : List Frame) (P : Outcome → State → Prop) (S : State) : Prop := ∃ s₂ o, Steps p.tables e below S s₂ ∧ s₂.status = .running ∧ Ended s₂ below o ∧ P o s₂
/-- what a body's end says -/
def EndsAt (s : State) (Q : Option Value → Heap → List Loc → Prop) (rm : Room) : Outcome → State → Prop := fun o U' => ∃ v L, o = .returned v ∧ Q v U'.heap L ∧ FrameEnd s o U' L rm.cells rm.slots
/-- a body's contract -/
def Ct (l : Launch) (Z : State) (y : MethodName) (bytes : ByteArray) (ml : Nat) (ret : Option FieldType) (ws : List Jvm.Cond) (rm : Room) (as : Array Value) (h0 : Heap) (Q : Option Value → Heap → List Loc → Prop) : Prop :=
  MetFree l y (head1 (Jvm.Cond.code y bytes ml ret :: ws) rm) (fun a U => a = as ∧ Z.Warmed39 U.vm ∧ U.heap = h0) (fun _ _ _ _ _ => True) (fun _ U o U' => EndsAt U Q rm o U')
section Steps1
variable {p : Program} {l : Launch} {e : Env} {R : Room} {s : State} {m : MethodId} {args : Array Value} {below : List Frame} {meth : Method} {c : Code} {T : State} {locs : List Loc} {cells slots : Nat} {P : Outcome → State → Prop} {pc : Nat} {L L' : Array Slot} {st : List Value} {Z : State} {h h' : Heap} {a0 : Array Value} {rm : Room} {Q : Option Value → Heap → List Loc → Prop}
theorem Go.via {S S' : State} (k : ∀ t, Steps p.tables e below S' t → Steps p.tables e below S t) (g : Go p e below P S') : Go p e below P S := by
  obtain ⟨s2, o, h1, h2⟩ := g; exact ⟨s2, o, k _ h1, h2⟩
theorem Go.tr {S S' : State} (k : Steps p.tables e below S S') (g : Go p e below P S') : Go p e below P S := by
  obtain ⟨s2, o, h1, h2⟩ := g; exact ⟨s2, o, k.trans h1, h2⟩
theorem Ct.intro {y : MethodName} {bytes : ByteArray} {ml : Nat} {ret : Option FieldType} {ws : List Jvm.Cond} {as : Array Value} {h0 : Heap} (hpn : plainFor y = true) (L0 : Array Slot) (hef : ∀ m, entryFrame m as ml = mkF m 0 L0 [])
    (k : ∀ (p : Program) (e : Env) (s : State) (m : MethodId) (below : List Frame) (meth : Method) (c : Code) (T : State), Stand p l e rm s m as below meth c T [] 0 0 → p.tables.exec = Jvm.exec → Z.Warmed39 s.vm → c.code = bytes → c.maxLocals = ml → s.vm.findClass y.cls = some m.cls → meth.name = y.name → meth.sig.returnType = ret → meth.locks = false → T.heap = h0 → Go p e below (EndsAt s Q rm) (T.setTop (mkF m 0 L0 []))) :
    Ct l Z y bytes ml ret ws rm as h0 Q := by
  refine MetFree.of_bodySF hpn hisR ?_
  intro p e s m args below meth c s₁ Bd hml0 hP hK
  obtain ⟨rfl, hZ, hh⟩ := hP
  obtain ⟨s2, o, h1, h2, h3, h4⟩ := k p e s m below meth c s₁ (Stand.of_body Bd) Bd.exec hZ Bd.bytes hml0 (findClass_of_methodNamed Bd.named) (name_of_methodNamed Bd.named Bd.method).1 Bd.returns (BodyLoose.notSynchronized Bd) (by rw [← hh, Bd.state]; rfl)
  exact ⟨s2, o, castTop (hef m) h1, h2, h3, h4⟩
theorem retW (X : Stand p l e R s m args below meth c T locs cells slots) (hx : p.tables.exec = Jvm.exec) (hlk : meth.locks = false) {w : Value} {t : FieldType} {i : Instr} {rest : List Value} (hret : meth.sig.returnType = some t) (hn : narrow t w = w)
    (hi : (i = .ireturn ∧ (t = .int ∨ t = .boolean ∨ t = .byte ∨ t = .char ∨ t = .short) ∧ ∃ z, w = .int z) ∨ (i = .lreturn ∧ t = .long ∧ ∃ z, w = .long z) ∨ (i = .dreturn ∧ t = .double ∧ ∃ z, w = .double z) ∨ (i = .freturn ∧ t = .float ∧ ∃ z, w = .float z) ∨ (i = .areturn ∧ t.isReference = true ∧ w.isRef = true))
    (hd : decode c.code pc = .ok (i, 1)) (eT : T.heap = h) (hq : Q (some w) h locs) (hc : cells ≤ rm.cells) (hs : slots ≤ rm.slots) : Go p e below (EndsAt s Q rm) (T.setTop (mkF m pc L (w :: rest))) := by
  obtain ⟨fs, hr, hrun, hended, hW, hsame⟩ := X.leave (v := some w) (fun q => by rw [hret] at q; cases q) hlk
  refine ⟨_, _, retOut X hx hret hn hi hd hr, hrun, hended, _, _, rfl, ?_, ⟨_, rfl⟩, hW, hsame.mono hc hs⟩
  show Q (some w) T.heap locs
  rw [eT]; exact hq
theorem retI (X : Stand p l e R s m args below meth c T locs cells slots) (hx : p.tables.exec = Jvm.exec) (hlk : meth.locks = false) {z : Int32} {rest : List Value} (hret : meth.sig.returnType = some .int) (hd : decode c.code pc = .ok (.ireturn, 1)) (eT : T.heap = h) (hq : Q (some (.int z)) h locs) (hc : cells ≤ rm.cells) (hs : slots ≤ rm.slots) : Go p e below (EndsAt s Q rm) (T.setTop (mkF m pc L (.int z :: rest))) :=
  retW X hx hlk hret rfl (Or.inl ⟨rfl, Or.inl rfl, z, rfl⟩) hd eT hq hc hs
theorem retZ (X : Stand p l e R s m args below meth c T locs cells slots) (hx : p.tables.exec = Jvm.exec) (hlk : meth.locks = false) {z : Int32} {rest : List Value} (hret : meth.sig.returnType = some .boolean) (hd : decode c.code pc = .ok (.ireturn, 1)) (hn : narrow .boolean (.int z) = .int z) (eT : T.heap = h) (hq : Q (some (.int z)) h locs) (hc : cells ≤ rm.cells) (hs : slots ≤ rm.slots) : Go p e below (EndsAt s Q rm) (T.setTop (mkF m pc L (.int z :: rest))) :=
  retW X hx hlk hret hn (Or.inl ⟨rfl, Or.inr (Or.inl rfl), z, rfl⟩) hd eT hq hc hs
theorem retJ (X : Stand p l e R s m args below meth c T locs cells slots) (hx : p.tables.exec = Jvm.exec) (hlk : meth.locks = false) {z : Int64} {rest : List Value} (hret : meth.sig.returnType = some .long) (hd : decode c.code pc = .ok (.lreturn, 1)) (eT : T.heap = h) (hq : Q (some (.long z)) h locs) (hc : cells ≤ rm.cells) (hs : slots ≤ rm.slots) : Go p e below (EndsAt s Q rm) (T.setTop (mkF m pc L (.long z :: rest))) :=
  retW X hx hlk hret rfl (Or.inr (Or.inl ⟨rfl, rfl, z, rfl⟩)) hd eT hq hc hs
theorem retD (X : Stand p l e R s m args below meth c T locs cells slots) (hx : p.tables.exec = Jvm.exec) (hlk : meth.locks = false) {z : UInt64} {rest : List Value} (hret : meth.sig.returnType = some .double) (hd : decode c.code pc = .ok (.dreturn, 1)) (eT : T.heap = h) (hq : Q (some (.double z)) h locs) (hc : cells ≤ rm.cells) (hs : slots ≤ rm.slots) : Go p e below (EndsAt s Q rm) (T.setTop (mkF m pc L (.double z :: rest))) :=
  retW X hx hlk hret rfl (Or.inr (Or.inr (Or.inl ⟨rfl, rfl, z, rfl⟩))) hd eT hq hc hs
theorem retA (X : Stand p l e R s m args below meth c T locs cells slots) (hx : p.tables.exec = Jvm.exec) (hlk : meth.locks = false) {t : FieldType} {z : Addr} {rest : List Value} (hret : meth.sig.returnType = some t) (ht : t.isReference = true) (hn : narrow t (.ref z) = .ref z) (hd : decode c.code pc = .ok (.areturn, 1)) (eT : T.heap = h) (hq : Q (some (.ref z)) h locs) (hc : cells ≤ rm.cells) (hs : slots ≤ rm.slots) : Go p e below (EndsAt s Q rm) (T.setTop (mkF m pc L (.ref z :: rest))) :=
  retW X hx hlk hret hn (Or.inr (Or.inr (Or.inr (Or.inr ⟨rfl, ht, rfl⟩)))) hd eT hq hc hs
theorem retV (X : Stand p l e R s m args below meth c T locs cells slots) (hx : p.tables.exec = Jvm.exec) (hlk : meth.locks = false) (hret : meth.sig.returnType = none) (hd : decode c.code pc = .ok (.return_, 1)) (eT : T.heap = h) (hq : Q none h locs) (hc : cells ≤ rm.cells) (hs : slots ≤ rm.slots) : Go p e below (EndsAt s Q rm) (T.setTop (mkF m pc L [])) := by
  obtain ⟨fs, hr, hrun, hended, hW, hsame⟩ := X.leave (v := none) (fun _ => rfl) hlk
  refine ⟨_, _, X.returnOut hx hret hd hr, hrun, hended, _, _, rfl, ?_, ⟨_, rfl⟩, hW, hsame.mono hc hs⟩
  show Q none T.heap locs
  rw [eT]; exact hq
theorem s_iload (X : Stand p l e R s m args below meth c T locs cells slots) (hx : p.tables.exec = Jvm.exec) {k : Nat} {v : Int32} (hd : decode c.code pc = .ok (.iload k, 2)) (hl : L[k]? = some (.val (.int v))) (pc' : Nat) (hp : pc + 2 = pc') (g : Go p e below P (T.setTop (mkF m pc' L (.int v :: st)))) : Go p e below P (T.setTop (mkF m pc L (st))) := by
  subst hp; exact Go.via (fun _ k => XS.iload X.here hx rfl hd hl k) g
theorem s_iloadN (X : Stand p l e R s m args below meth c T locs cells slots) (hx : p.tables.exec = Jvm.exec) {k : Fin 4} {v : Int32} (hd : decode c.code pc = .ok (.iload_n k, 1)) (hl : L[k.val]? = some (.val (.int v))) (pc' : Nat) (hp : pc + 1 = pc') (g : Go p e below P (T.setTop (mkF m pc' L (.int v :: st)))) : Go p e below P (T.setTop (mkF m pc L (st))) := by
  subst hp; exact Go.via (fun _ k => XS.iloadN X.here hx rfl hd hl k) g
theorem s_istore (X : Stand p l e R s m args below meth c T locs cells slots) (hx : p.tables.exec = Jvm.exec) {k : Nat} {v : Int32} (hd : decode c.code pc = .ok (.istore k, 2)) (L' : Array Slot) (hl : storeLocals L k (.int v) = some L') (pc' : Nat) (hp : pc + 2 = pc') (g : Go p e below P (T.setTop (mkF m pc' L' (st)))) : Go p e below P (T.setTop (mkF m pc L (.int v :: st))) := by
  subst hp; exact Go.via (fun _ k => XS.istore X.here hx rfl hd rfl hl k) g
theorem s_istoreN (X : Stand p l e R s m args below meth c T locs cells slots) (hx : p.tables.exec = Jvm.exec) {k : Fin 4} {v : Int32} (hd : decode c.code pc = .ok (.istore_n k, 1)) (L' : Array Slot) (hl : storeLocals L k.val (.int v) = some L') (pc' : Nat) (hp : pc + 1 = pc') (g : Go p e below P (T.setTop (mkF m pc' L' (st)))) : Go p e below P (T.setTop (mkF m pc L (.int v :: st))) := by
  subst hp; exact Go.via (fun _ k => XS.istoreN X.here hx rfl hd rfl hl k) g
theorem s_lload (X : Stand p l e R s m args below meth c T locs cells slots) (hx : p.tables.exec = Jvm.exec) {k : Nat} {v : Int64} (hd : decode c.code pc = .ok (.lload k, 2)) (hl : L[k]? = some (.val (.long v))) (pc' : Nat) (hp : pc + 2 = pc') (g : Go p e below P (T.setTop (mkF m pc' L (.long v :: st)))) : Go p e below P (T.setTop (mkF m pc L (st))) := by
  subst hp; exact Go.via (fun _ k => XT.lload X.here hx rfl hd hl k) g
theorem s_lloadN (X : Stand p l e R s m args below meth c T locs cells slots) (hx : p.tables.exec = Jvm.exec) {k : Fin 4} {v : Int64} (hd : decode c.code pc = .ok (.lload_n k, 1)) (hl : L[k.val]? = some (.val (.long v))) (pc' : Nat) (hp : pc + 1 = pc') (g : Go p e below P (T.setTop (mkF m pc' L (.long v :: st)))) : Go p e below P (T.setTop (mkF m pc L (st))) := by
  subst hp; exact Go.via (fun _ k => XT.lloadN X.here hx rfl hd hl k) g
theorem s_lstore (X : Stand p l e R s m args below meth c T locs cells slots) (hx : p.tables.exec = Jvm.exec) {k : Nat} {v : Int64} (hd : decode c.code pc = .ok (.lstore k, 2)) (L' : Array Slot) (hl : storeLocals L k (.long v) = some L') (pc' : Nat) (hp : pc + 2 = pc') (g : Go p e below P (T.setTop (mkF m pc' L' (st)))) : Go p e below P (T.setTop (mkF m pc L (.long v :: st))) := by
  subst hp; exact Go.via (fun _ k => XT.lstore X.here hx rfl hd rfl hl k) g
theorem s_lstoreN (X : Stand p l e R s m args below meth c T locs cells slots) (hx : p.tables.exec = Jvm.exec) {k : Fin 4} {v : Int64} (hd : decode c.code pc = .ok (.lstore_n k, 1)) (L' : Array Slot) (hl : storeLocals L k.val (.long v) = some L') (pc' : Nat) (hp : pc + 1 = pc') (g : Go p e below P (T.setTop (mkF m pc' L' (st)))) : Go p e below P (T.setTop (mkF m pc L (.long v :: st))) := by
  subst hp; exact Go.via (fun _ k => XT.lstoreN X.here hx rfl hd rfl hl k) g
theorem s_dload (X : Stand p l e R s m args below meth c T locs cells slots) (hx : p.tables.exec = Jvm.exec) {k : Nat} {v : UInt64} (hd : decode c.code pc = .ok (.dload k, 2)) (hl : L[k]? = some (.val (.double v))) (pc' : Nat) (hp : pc + 2 = pc') (g : Go p e below P (T.setTop (mkF m pc' L (.double v :: st)))) : Go p e below P (T.setTop (mkF m pc L (st))) := by
  subst hp; exact Go.via (fun _ k => XS.dload X.here hx rfl hd hl k) g
theorem s_dloadN (X : Stand p l e R s m args below meth c T locs cells slots) (hx : p.tables.exec = Jvm.exec) {k : Fin 4} {v : UInt64} (hd : decode c.code pc = .ok (.dload_n k, 1)) (hl : L[k.val]? = some (.val (.double v))) (pc' : Nat) (hp : pc + 1 = pc') (g : Go p e below P (T.setTop (mkF m pc' L (.double v :: st)))) : Go p e below P (T.setTop (mkF m pc L (st))) := by
  subst hp; exact Go.via (fun _ k => XS.dloadN X.here hx rfl hd hl k) g
theorem s_dstore (X : Stand p l e R s m args below meth c T locs cells slots) (hx : p.tables.exec = Jvm.exec) {k : Nat} {v : UInt64} (hd : decode c.code pc = .ok (.dstore k, 2)) (L' : Array Slot) (hl : storeLocals L k (.double v) = some L') (pc' : Nat) (hp : pc + 2 = pc') (g : Go p e below P (T.setTop (mkF m pc' L' (st)))) : Go p e below P (T.setTop (mkF m pc L (.double v :: st))) := by
  subst hp; exact Go.via (fun _ k => XS.dstore X.here hx rfl hd rfl hl k) g
theorem s_dstoreN (X : Stand p l e R s m args below meth c T locs cells slots) (hx : p.tables.exec = Jvm.exec) {k : Fin 4} {v : UInt64} (hd : decode c.code pc = .ok (.dstore_n k, 1)) (L' : Array Slot) (hl : storeLocals L k.val (.double v) = some L') (pc' : Nat) (hp : pc + 1 = pc') (g : Go p e below P (T.setTop (mkF m pc' L' (st)))) : Go p e below P (T.setTop (mkF m pc L (.double v :: st))) := by
  subst hp; exact Go.via (fun _ k => XS.dstoreN X.here hx rfl hd rfl hl k) g
theorem s_aload (X : Stand p l e R s m args below meth c T locs cells slots) (hx : p.tables.exec = Jvm.exec) {k : Nat} {v : Value} (hd : decode c.code pc = .ok (.aload k, 2)) (hl : L[k]? = some (.val v)) (hv : v.isRef = true) (pc' : Nat) (hp : pc + 2 = pc') (g : Go p e below P (T.setTop (mkF m pc' L (v :: st)))) : Go p e below P (T.setTop (mkF m pc L (st))) := by
  subst hp; exact Go.via (fun _ k => XS.aload X.here hx rfl hd hl hv k) g
theorem s_aloadN (X : Stand p l e R s m args below meth c T locs cells slots) (hx : p.tables.exec = Jvm.exec) {k : Fin 4} {v : Value} (hd : decode c.code pc = .ok (.aload_n k, 1)) (hl : L[k.val]? = some (.val v)) (hv : v.isRef = true) (pc' : Nat) (hp : pc + 1 = pc') (g : Go p e below P (T.setTop (mkF m pc' L (v :: st)))) : Go p e below P (T.setTop (mkF m pc L (st))) := by
  subst hp; exact Go.via (fun _ k => XS.aloadN X.here hx rfl hd hl hv k) g
theorem s_astore (X : Stand p l e R s m args below meth c T locs cells slots) (hx : p.tables.exec = Jvm.exec) {k : Nat} {v : Value} (hd : decode c.code pc = .ok (.astore k, 2)) (hv : v.isRef = true) (L' : Array Slot) (hl : storeLocals L k v = some L') (pc' : Nat) (hp : pc + 2 = pc') (g : Go p e below P (T.setTop (mkF m pc' L' (st)))) : Go p e below P (T.setTop (mkF m pc L (v :: st))) := by
  subst hp; exact Go.via (fun _ k => XS.astore X.here hx rfl hd rfl hv hl k) g
theorem s_astoreN (X : Stand p l e R s m args below meth c T locs cells slots) (hx : p.tables.exec = Jvm.exec) {k : Fin 4} {v : Value} (hd : decode c.code pc = .ok (.astore_n k, 1)) (hv : v.isRef = true) (L' : Array Slot) (hl : storeLocals L k.val v = some L') (pc' : Nat) (hp : pc + 1 = pc') (g : Go p e below P (T.setTop (mkF m pc' L' (st)))) : Go p e below P (T.setTop (mkF m pc L (v :: st))) := by
  subst hp; exact Go.via (fun _ k => XS.astoreN X.here hx rfl hd rfl hv hl k) g
theorem s_iconst (X : Stand p l e R s m args below meth c T locs cells slots) (hx : p.tables.exec = Jvm.exec) {i : Int} (hd : decode c.code pc = .ok (.iconst i, 1)) (v : Int32) (hv : Int32.ofInt i = v) (pc' : Nat) (hp : pc + 1 = pc') (g : Go p e below P (T.setTop (mkF m pc' L (.int v :: st)))) : Go p e below P (T.setTop (mkF m pc L (st))) := by
  subst hp hv; exact Go.via (fun _ k => XS.iconst X.here hx rfl hd k) g
theorem s_bipush (X : Stand p l e R s m args below meth c T locs cells slots) (hx : p.tables.exec = Jvm.exec) {i : Int} (hd : decode c.code pc = .ok (.bipush i, 2)) (v : Int32) (hv : (Int8.ofInt i).toInt32 = v) (pc' : Nat) (hp : pc + 2 = pc') (g : Go p e below P (T.setTop (mkF m pc' L (.int v :: st)))) : Go p e below P (T.setTop (mkF m pc L (st))) := by
  subst hp hv; exact Go.via (fun _ k => XS.bipush X.here hx rfl hd k) g
theorem s_sipush (X : Stand p l e R s m args below meth c T locs cells slots) (hx : p.tables.exec = Jvm.exec) {i : Int} (hd : decode c.code pc = .ok (.sipush i, 3)) (v : Int32) (hv : (Int16.ofInt i).toInt32 = v) (pc' : Nat) (hp : pc + 3 = pc') (g : Go p e below P (T.setTop (mkF m pc' L (.int v :: st)))) : Go p e below P (T.setTop (mkF m pc L (st))) := by
  subst hp hv; exact Go.via (fun _ k => XS.sipush X.here hx rfl hd k) g
theorem s_lconst (X : Stand p l e R s m args below meth c T locs cells slots) (hx : p.tables.exec = Jvm.exec) {i : Fin 2} (hd : decode c.code pc = .ok (.lconst i, 1)) (v : Int64) (hv : Int64.ofNat i = v) (pc' : Nat) (hp : pc + 1 = pc') (g : Go p e below P (T.setTop (mkF m pc' L (.long v :: st)))) : Go p e below P (T.setTop (mkF m pc L (st))) := by
  subst hp; exact Go.via (fun _ k => XT.lconstV X.here hx rfl v hd hv k) g
theorem s_null (X : Stand p l e R s m args below meth c T locs cells slots) (hx : p.tables.exec = Jvm.exec)  (hd : decode c.code pc = .ok (.aconst_null, 1))  (pc' : Nat) (hp : pc + 1 = pc') (g : Go p e below P (T.setTop (mkF m pc' L (.null :: st)))) : Go p e below P (T.setTop (mkF m pc L (st))) := by
  subst hp; exact Go.via (fun _ k => XS.aconstNull X.here hx rfl hd k) g
theorem s_dconst0 (X : Stand p l e R s m args below meth c T locs cells slots) (hx : p.tables.exec = Jvm.exec)  (hd : decode c.code pc = .ok (.dconst 0, 1)) (v : UInt64) (hv : FP.dconst0 = v) (pc' : Nat) (hp : pc + 1 = pc') (g : Go p e below P (T.setTop (mkF m pc' L (.double v :: st)))) : Go p e below P (T.setTop (mkF m pc L (st))) := by
  subst hp; exact Go.via (fun _ k => XS.dconst0 X.here hx rfl hd hv k) g
theorem s_dconst1 (X : Stand p l e R s m args below meth c T locs cells slots) (hx : p.tables.exec = Jvm.exec)  (hd : decode c.code pc = .ok (.dconst 1, 1)) (v : UInt64) (hv : FP.dconst1 = v) (pc' : Nat) (hp : pc + 1 = pc') (g : Go p e below P (T.setTop (mkF m pc' L (.double v :: st)))) : Go p e below P (T.setTop (mkF m pc L (st))) := by
  subst hp; exact Go.via (fun _ k => XS.dconst1 X.here hx rfl hd hv k) g
theorem s_ldcI (X : Stand p l e R s m args below meth c T locs cells slots) (hx : p.tables.exec = Jvm.exec) {i : Nat} {v : Int32} (hd : decode c.code pc = .ok (.ldc i, 2)) (hZ : Z.Warmed39 s.vm) {own : String} (hown : s.vm.findClass own = some m.cls) (w : (Cond.constant own i v).before a0 Z = true) (pc' : Nat) (hp : pc + 2 = pc') (g : Go p e below P (T.setTop (mkF m pc' L (.int v :: st)))) : Go p e below P (T.setTop (mkF m pc L (st))) := by
  subst hp; exact Go.via (fun _ k => X.ldcI hx hown (mvT hZ w) rfl hd k) g
theorem s_ldc2J (X : Stand p l e R s m args below meth c T locs cells slots) (hx : p.tables.exec = Jvm.exec) {i : Nat} {v : Int64} (hd : decode c.code pc = .ok (.ldc2_w i, 3)) (hZ : Z.Warmed39 s.vm) {own : String} (hown : s.vm.findClass own = some m.cls) (w : (Cond.constantLong own i v).before a0 Z = true) (pc' : Nat) (hp : pc + 3 = pc') (g : Go p e below P (T.setTop (mkF m pc' L (.long v :: st)))) : Go p e below P (T.setTop (mkF m pc L (st))) := by
  subst hp; exact Go.via (fun _ k => X.ldc2J hx hown (mvT hZ w) rfl hd k) g
theorem s_ldc2D (X : Stand p l e R s m args below meth c T locs cells slots) (hx : p.tables.exec = Jvm.exec) {i : Nat} {v : UInt64} (hd : decode c.code pc = .ok (.ldc2_w i, 3)) (hZ : Z.Warmed39 s.vm) {own : String} (hown : s.vm.findClass own = some m.cls) (w : (Cond.constantDouble own i v).before a0 Z = true) (pc' : Nat) (hp : pc + 3 = pc') (g : Go p e below P (T.setTop (mkF m pc' L (.double v :: st)))) : Go p e below P (T.setTop (mkF m pc L (st))) := by
  subst hp; exact Go.via (fun _ k => X.ldc2DoubleC hx hown (mvT hZ w) (g := mkF m pc L st) rfl hd _ k) g
theorem s_iadd (X : Stand p l e R s m args below meth c T locs cells slots) (hx : p.tables.exec = Jvm.exec) {x y : Int32} (hd : decode c.code pc = .ok (.iadd, 1)) (v : Int32) (hv : x + y = v) (pc' : Nat) (hp : pc + 1 = pc') (g : Go p e below P (T.setTop (mkF m pc' L (.int v :: st)))) : Go p e below P (T.setTop (mkF m pc L (.int y :: .int x :: st))) := by
  subst hp hv; exact Go.via (fun _ k => XS.iadd X.here hx rfl hd rfl k) g
theorem s_isub (X : Stand p l e R s m args below meth c T locs cells slots) (hx : p.tables.exec = Jvm.exec) {x y : Int32} (hd : decode c.code pc = .ok (.isub, 1)) (v : Int32) (hv : x - y = v) (pc' : Nat) (hp : pc + 1 = pc') (g : Go p e below P (T.setTop (mkF m pc' L (.int v :: st)))) : Go p e below P (T.setTop (mkF m pc L (.int y :: .int x :: st))) := by
  subst hp hv; exact Go.via (fun _ k => XS.isub X.here hx rfl hd rfl k) g
theorem s_imul (X : Stand p l e R s m args below meth c T locs cells slots) (hx : p.tables.exec = Jvm.exec) {x y : Int32} (hd : decode c.code pc = .ok (.imul, 1)) (v : Int32) (hv : x * y = v) (pc' : Nat) (hp : pc + 1 = pc') (g : Go p e below P (T.setTop (mkF m pc' L (.int v :: st)))) : Go p e below P (T.setTop (mkF m pc L (.int y :: .int x :: st))) := by
  subst hp hv; exact Go.via (fun _ k => XS.imul X.here hx rfl hd rfl k) g
theorem s_iand (X : Stand p l e R s m args below meth c T locs cells slots) (hx : p.tables.exec = Jvm.exec) {x y : Int32} (hd : decode c.code pc = .ok (.iand, 1)) (v : Int32) (hv : x &&& y = v) (pc' : Nat) (hp : pc + 1 = pc') (g : Go p e below P (T.setTop (mkF m pc' L (.int v :: st)))) : Go p e below P (T.setTop (mkF m pc L (.int y :: .int x :: st))) := by
  subst hp hv; exact Go.via (fun _ k => XS.iand X.here hx rfl hd rfl k) g
theorem s_ixor (X : Stand p l e R s m args below meth c T locs cells slots) (hx : p.tables.exec = Jvm.exec) {x y : Int32} (hd : decode c.code pc = .ok (.ixor, 1)) (v : Int32) (hv : x ^^^ y = v) (pc' : Nat) (hp : pc + 1 = pc') (g : Go p e below P (T.setTop (mkF m pc' L (.int v :: st)))) : Go p e below P (T.setTop (mkF m pc L (.int y :: .int x :: st))) := by
  subst hp hv; exact Go.via (fun _ k => XT.ixor X.here hx rfl hd rfl k) g
theorem s_ior (X : Stand p l e R s m args below meth c T locs cells slots) (hx : p.tables.exec = Jvm.exec) {x y : Int32} (hd : decode c.code pc = .ok (.ior, 1)) (v : Int32) (hv : x ||| y = v) (pc' : Nat) (hp : pc + 1 = pc') (g : Go p e below P (T.setTop (mkF m pc' L (.int v :: st)))) : Go p e below P (T.setTop (mkF m pc L (.int y :: .int x :: st))) := by
  subst hp hv; exact Go.via (fun _ k => XT.ior X.here hx rfl hd rfl k) g
theorem s_ishl (X : Stand p l e R s m args below meth c T locs cells slots) (hx : p.tables.exec = Jvm.exec) {x y : Int32} (hd : decode c.code pc = .ok (.ishl, 1)) (v : Int32) (hv : x <<< (y &&& 31) = v) (pc' : Nat) (hp : pc + 1 = pc') (g : Go p e below P (T.setTop (mkF m pc' L (.int v :: st)))) : Go p e below P (T.setTop (mkF m pc L (.int y :: .int x :: st))) := by
  subst hp hv; exact Go.via (fun _ k => XT.ishl X.here hx rfl hd rfl k) g
theorem s_ishr (X : Stand p l e R s m args below meth c T locs cells slots) (hx : p.tables.exec = Jvm.exec) {x y : Int32} (hd : decode c.code pc = .ok (.ishr, 1)) (v : Int32) (hv : x >>> (y &&& 31) = v) (pc' : Nat) (hp : pc + 1 = pc') (g : Go p e below P (T.setTop (mkF m pc' L (.int v :: st)))) : Go p e below P (T.setTop (mkF m pc L (.int y :: .int x :: st))) := by
  subst hp hv; exact Go.via (fun _ k => XT.ishr X.here hx rfl hd rfl k) g
theorem s_iushr (X : Stand p l e R s m args below meth c T locs cells slots) (hx : p.tables.exec = Jvm.exec) {x y : Int32} (hd : decode c.code pc = .ok (.iushr, 1)) (v : Int32) (hv : XT.ushr x y = v) (pc' : Nat) (hp : pc + 1 = pc') (g : Go p e below P (T.setTop (mkF m pc' L (.int v :: st)))) : Go p e below P (T.setTop (mkF m pc L (.int y :: .int x :: st))) := by
  subst hp hv; exact Go.via (fun _ k => XT.iushr X.here hx rfl hd rfl k) g
theorem s_idiv (X : Stand p l e R s m args below meth c T locs cells slots) (hx : p.tables.exec = Jvm.exec) {x y : Int32} (hd : decode c.code pc = .ok (.idiv, 1)) (hy : y ≠ 0) (v : Int32) (hv : x / y = v) (pc' : Nat) (hp : pc + 1 = pc') (g : Go p e below P (T.setTop (mkF m pc' L (.int v :: st)))) : Go p e below P (T.setTop (mkF m pc L (.int y :: .int x :: st))) := by
  subst hp hv; exact Go.via (fun _ k => XS.idiv X.here hx rfl hd rfl hy k) g
theorem s_irem (X : Stand p l e R s m args below meth c T locs cells slots) (hx : p.tables.exec = Jvm.exec) {x y : Int32} (hd : decode c.code pc = .ok (.irem, 1)) (hy : y ≠ 0) (v : Int32) (hv : x % y = v) (pc' : Nat) (hp : pc + 1 = pc') (g : Go p e below P (T.setTop (mkF m pc' L (.int v :: st)))) : Go p e below P (T.setTop (mkF m pc L (.int y :: .int x :: st))) := by
  subst hp hv; exact Go.via (fun _ k => RoadKit.iremM X hx rfl hd rfl hy k) g
theorem s_ineg (X : Stand p l e R s m args below meth c T locs cells slots) (hx : p.tables.exec = Jvm.exec) {x : Int32} (hd : decode c.code pc = .ok (.ineg, 1)) (v : Int32) (hv : -x = v) (pc' : Nat) (hp : pc + 1 = pc') (g : Go p e below P (T.setTop (mkF m pc' L (.int v :: st)))) : Go p e below P (T.setTop (mkF m pc L (.int x :: st))) := by
  subst hp hv; exact Go.via (fun _ k => XS.ineg X.here hx rfl hd rfl k) g
theorem s_ladd (X : Stand p l e R s m args below meth c T locs cells slots) (hx : p.tables.exec = Jvm.exec) {x y : Int64} (hd : decode c.code pc = .ok (.ladd, 1)) (v : Int64) (hv : x + y = v) (pc' : Nat) (hp : pc + 1 = pc') (g : Go p e below P (T.setTop (mkF m pc' L (.long v :: st)))) : Go p e below P (T.setTop (mkF m pc L (.long y :: .long x :: st))) := by
  subst hp hv; exact Go.via (fun _ k => XT.ladd X.here hx rfl hd rfl k) g
theorem s_lsub (X : Stand p l e R s m args below meth c T locs cells slots) (hx : p.tables.exec = Jvm.exec) {x y : Int64} (hd : decode c.code pc = .ok (.lsub, 1)) (v : Int64) (hv : x - y = v) (pc' : Nat) (hp : pc + 1 = pc') (g : Go p e below P (T.setTop (mkF m pc' L (.long v :: st)))) : Go p e below P (T.setTop (mkF m pc L (.long y :: .long x :: st))) := by
  subst hp hv; exact Go.via (fun _ k => XT.lsub X.here hx rfl hd rfl k) g
theorem s_lmul (X : Stand p l e R s m args below meth c T locs cells slots) (hx : p.tables.exec = Jvm.exec) {x y : Int64} (hd : decode c.code pc = .ok (.lmul, 1)) (v : Int64) (hv : x * y = v) (pc' : Nat) (hp : pc + 1 = pc') (g : Go p e below P (T.setTop (mkF m pc' L (.long v :: st)))) : Go p e below P (T.setTop (mkF m pc L (.long y :: .long x :: st))) := by
  subst hp hv; exact Go.via (fun _ k => XT.lmul X.here hx rfl hd rfl k) g
theorem s_land (X : Stand p l e R s m args below meth c T locs cells slots) (hx : p.tables.exec = Jvm.exec) {x y : Int64} (hd : decode c.code pc = .ok (.land, 1)) (v : Int64) (hv : x &&& y = v) (pc' : Nat) (hp : pc + 1 = pc') (g : Go p e below P (T.setTop (mkF m pc' L (.long v :: st)))) : Go p e below P (T.setTop (mkF m pc L (.long y :: .long x :: st))) := by
  subst hp hv; exact Go.via (fun _ k => XT.land X.here hx rfl hd rfl k) g
theorem s_lor (X : Stand p l e R s m args below meth c T locs cells slots) (hx : p.tables.exec = Jvm.exec) {x y : Int64} (hd : decode c.code pc = .ok (.lor, 1)) (v : Int64) (hv : x ||| y = v) (pc' : Nat) (hp : pc + 1 = pc') (g : Go p e below P (T.setTop (mkF m pc' L (.long v :: st)))) : Go p e below P (T.setTop (mkF m pc L (.long y :: .long x :: st))) := by
  subst hp hv; exact Go.via (fun _ k => XT.lor X.here hx rfl hd rfl k) g
theorem s_lxor (X : Stand p l e R s m args below meth c T locs cells slots) (hx : p.tables.exec = Jvm.exec) {x y : Int64} (hd : decode c.code pc = .ok (.lxor, 1)) (v : Int64) (hv : x ^^^ y = v) (pc' : Nat) (hp : pc + 1 = pc') (g : Go p e below P (T.setTop (mkF m pc' L (.long v :: st)))) : Go p e below P (T.setTop (mkF m pc L (.long y :: .long x :: st))) := by
  subst hp hv; exact Go.via (fun _ k => XT.lxor X.here hx rfl hd rfl k) g
theorem s_ldiv (X : Stand p l e R s m args below meth c T locs cells slots) (hx : p.tables.exec = Jvm.exec) {x y : Int64} (hd : decode c.code pc = .ok (.ldiv, 1)) (hy : y ≠ 0) (v : Int64) (hv : x / y = v) (pc' : Nat) (hp : pc + 1 = pc') (g : Go p e below P (T.setTop (mkF m pc' L (.long v :: st)))) : Go p e below P (T.setTop (mkF m pc L (.long y :: .long x :: st))) := by
  subst hp hv; exact Go.via (fun _ k => XT.ldiv X.here hx rfl hd rfl hy k) g
theorem s_lrem (X : Stand p l e R s m args below meth c T locs cells slots) (hx : p.tables.exec = Jvm.exec) {x y : Int64} (hd : decode c.code pc = .ok (.lrem, 1)) (hy : y ≠ 0) (v : Int64) (hv : x - (x / y) * y = v) (pc' : Nat) (hp : pc + 1 = pc') (g : Go p e below P (T.setTop (mkF m pc' L (.long v :: st)))) : Go p e below P (T.setTop (mkF m pc L (.long y :: .long x :: st))) := by
  subst hp hv; exact Go.via (fun _ k => XT.lrem X.here hx rfl hd rfl hy k) g
theorem s_lneg (X : Stand p l e R s m args below meth c T locs cells slots) (hx : p.tables.exec = Jvm.exec) {x : Int64} (hd : decode c.code pc = .ok (.lneg, 1)) (v : Int64) (hv : -x = v) (pc' : Nat) (hp : pc + 1 = pc') (g : Go p e below P (T.setTop (mkF m pc' L (.long v :: st)))) : Go p e below P (T.setTop (mkF m pc L (.long x :: st))) := by
  subst hp hv; exact Go.via (fun _ k => XT.lneg X.here hx rfl hd rfl k) g
theorem sh64 (y : Int32) : (y.toInt64 &&& 63) = (y &&& 0x3f).toInt64 := by rw [Int32.toInt64_and]; rfl
theorem s_lshl (X : Stand p l e R s m args below meth c T locs cells slots) (hx : p.tables.exec = Jvm.exec) {x : Int64} {y : Int32} (hd : decode c.code pc = .ok (.lshl, 1)) (v : Int64) (hv : x <<< (y &&& 0x3f).toInt64 = v) (pc' : Nat) (hp : pc + 1 = pc') (g : Go p e below P (T.setTop (mkF m pc' L (.long v :: st)))) : Go p e below P (T.setTop (mkF m pc L (.int y :: .long x :: st))) := by
  subst hp hv; exact Go.via (fun _ k => XT.lshl X.here hx rfl hd rfl (by rw [sh64]; exact k)) g
theorem s_lshr (X : Stand p l e R s m args below meth c T locs cells slots) (hx : p.tables.exec = Jvm.exec) {x : Int64} {y : Int32} (hd : decode c.code pc = .ok (.lshr, 1)) (v : Int64) (hv : x >>> (y &&& 0x3f).toInt64 = v) (pc' : Nat) (hp : pc + 1 = pc') (g : Go p e below P (T.setTop (mkF m pc' L (.long v :: st)))) : Go p e below P (T.setTop (mkF m pc L (.int y :: .long x :: st))) := by
  subst hp hv; exact Go.via (fun _ k => XT.lshr X.here hx rfl hd rfl (by rw [sh64]; exact k)) g
theorem s_lushr (X : Stand p l e R s m args below meth c T locs cells slots) (hx : p.tables.exec = Jvm.exec) {x : Int64} {y : Int32} (hd : decode c.code pc = .ok (.lushr, 1)) (v : Int64) (hv : XT.ushrL x y = v) (pc' : Nat) (hp : pc + 1 = pc') (g : Go p e below P (T.setTop (mkF m pc' L (.long v :: st)))) : Go p e below P (T.setTop (mkF m pc L (.int y :: .long x :: st))) := by
  subst hp hv; exact Go.via (fun _ k => XT.lushr X.here hx rfl hd rfl k) g
theorem s_i2l (X : Stand p l e R s m args below meth c T locs cells slots) (hx : p.tables.exec = Jvm.exec) {x : Int32} (hd : decode c.code pc = .ok (.i2l, 1)) (v : Int64) (hv : x.toInt64 = v) (pc' : Nat) (hp : pc + 1 = pc') (g : Go p e below P (T.setTop (mkF m pc' L (.long v :: st)))) : Go p e below P (T.setTop (mkF m pc L (.int x :: st))) := by
  subst hp hv; exact Go.via (fun _ k => XT.i2l X.here hx rfl hd rfl k) g
theorem s_l2i (X : Stand p l e R s m args below meth c T locs cells slots) (hx : p.tables.exec = Jvm.exec) {x : Int64} (hd : decode c.code pc = .ok (.l2i, 1)) (v : Int32) (hv : x.toInt32 = v) (pc' : Nat) (hp : pc + 1 = pc') (g : Go p e below P (T.setTop (mkF m pc' L (.int v :: st)))) : Go p e below P (T.setTop (mkF m pc L (.long x :: st))) := by
  subst hp hv; exact Go.via (fun _ k => XT.l2i X.here hx rfl hd rfl k) g
theorem s_i2b (X : Stand p l e R s m args below meth c T locs cells slots) (hx : p.tables.exec = Jvm.exec) {x : Int32} (hd : decode c.code pc = .ok (.i2b, 1)) (v : Int32) (hv : x.toInt8.toInt32 = v) (pc' : Nat) (hp : pc + 1 = pc') (g : Go p e below P (T.setTop (mkF m pc' L (.int v :: st)))) : Go p e below P (T.setTop (mkF m pc L (.int x :: st))) := by
  subst hp hv; exact Go.via (fun _ k => XT.i2b X.here hx rfl hd rfl k) g
theorem s_i2s (X : Stand p l e R s m args below meth c T locs cells slots) (hx : p.tables.exec = Jvm.exec) {x : Int32} (hd : decode c.code pc = .ok (.i2s, 1)) (v : Int32) (hv : x.toInt16.toInt32 = v) (pc' : Nat) (hp : pc + 1 = pc') (g : Go p e below P (T.setTop (mkF m pc' L (.int v :: st)))) : Go p e below P (T.setTop (mkF m pc L (.int x :: st))) := by
  subst hp hv; exact Go.via (fun _ k => XT.i2s X.here hx rfl hd rfl k) g
theorem s_i2d (X : Stand p l e R s m args below meth c T locs cells slots) (hx : p.tables.exec = Jvm.exec) {x : Int32} (hd : decode c.code pc = .ok (.i2d, 1)) (v : UInt64) (hv : FP.i2d x = v) (pc' : Nat) (hp : pc + 1 = pc') (g : Go p e below P (T.setTop (mkF m pc' L (.double v :: st)))) : Go p e below P (T.setTop (mkF m pc L (.int x :: st))) := by
  subst hp; exact Go.via (fun _ k => XS.i2dS X.here hx rfl hd rfl hv k) g
theorem s_l2d (X : Stand p l e R s m args below meth c T locs cells slots) (hx : p.tables.exec = Jvm.exec) {x : Int64} (hd : decode c.code pc = .ok (.l2d, 1)) (v : UInt64) (hv : FP.l2d x = v) (pc' : Nat) (hp : pc + 1 = pc') (g : Go p e below P (T.setTop (mkF m pc' L (.double v :: st)))) : Go p e below P (T.setTop (mkF m pc L (.long x :: st))) := by
  subst hp; exact Go.via (fun _ k => XS.l2dS X.here hx rfl hd rfl hv k) g
theorem s_dneg (X : Stand p l e R s m args below meth c T locs cells slots) (hx : p.tables.exec = Jvm.exec) {x : UInt64} (hd : decode c.code pc = .ok (.dneg, 1)) (v : UInt64) (hv : FP.dneg x = v) (pc' : Nat) (hp : pc + 1 = pc') (g : Go p e below P (T.setTop (mkF m pc' L (.double v :: st)))) : Go p e below P (T.setTop (mkF m pc L (.double x :: st))) := by
  subst hp; exact Go.via (fun _ k => XS.dnegS X.here hx rfl hd rfl hv k) g
theorem s_dadd (X : Stand p l e R s m args below meth c T locs cells slots) (hx : p.tables.exec = Jvm.exec) {x y : UInt64} (hd : decode c.code pc = .ok (.dadd, 1)) (v : UInt64) (hv : FP.dadd x y = v) (hn : NoNaN64 v) (pc' : Nat) (hp : pc + 1 = pc') (g : Go p e below P (T.setTop (mkF m pc' L (.double v :: st)))) : Go p e below P (T.setTop (mkF m pc L (.double y :: .double x :: st))) := by
  subst hp hv; exact Go.via (fun _ k => XS.daddS X.here hx rfl hd rfl hn rfl k) g
theorem s_dsub (X : Stand p l e R s m args below meth c T locs cells slots) (hx : p.tables.exec = Jvm.exec) {x y : UInt64} (hd : decode c.code pc = .ok (.dsub, 1)) (v : UInt64) (hv : FP.dsub x y = v) (hn : NoNaN64 v) (pc' : Nat) (hp : pc + 1 = pc') (g : Go p e below P (T.setTop (mkF m pc' L (.double v :: st)))) : Go p e below P (T.setTop (mkF m pc L (.double y :: .double x :: st))) := by
  subst hp hv; exact Go.via (fun _ k => XS.dsubS X.here hx rfl hd rfl hn rfl k) g
theorem s_dmul (X : Stand p l e R s m args below meth c T locs cells slots) (hx : p.tables.exec = Jvm.exec) {x y : UInt64} (hd : decode c.code pc = .ok (.dmul, 1)) (v : UInt64) (hv : FP.dmul x y = v) (hn : NoNaN64 v) (pc' : Nat) (hp : pc + 1 = pc') (g : Go p e below P (T.setTop (mkF m pc' L (.double v :: st)))) : Go p e below P (T.setTop (mkF m pc L (.double y :: .double x :: st))) := by
  subst hp hv; exact Go.via (fun _ k => XS.dmulS X.here hx rfl hd rfl hn rfl k) g
theorem s_ddiv (X : Stand p l e R s m args below meth c T locs cells slots) (hx : p.tables.exec = Jvm.exec) {x y : UInt64} (hd : decode c.code pc = .ok (.ddiv, 1)) (v : UInt64) (hv : FP.ddiv x y = v) (hn : NoNaN64 v) (pc' : Nat) (hp : pc + 1 = pc') (g : Go p e below P (T.setTop (mkF m pc' L (.double v :: st)))) : Go p e below P (T.setTop (mkF m pc L (.double y :: .double x :: st))) := by
  subst hp hv; exact Go.via (fun _ k => XS.ddivS X.here hx rfl hd rfl hn rfl k) g
theorem s_dcmp (X : Stand p l e R s m args below meth c T locs cells slots) (hx : p.tables.exec = Jvm.exec) {x y : UInt64} {o : CmpOp} (hd : decode c.code pc = .ok (.dcmp o, 1)) (v : Int32) (hv : cmpValue (FP.dcmp x y) o = v) (pc' : Nat) (hp : pc + 1 = pc') (g : Go p e below P (T.setTop (mkF m pc' L (.int v :: st)))) : Go p e below P (T.setTop (mkF m pc L (.double y :: .double x :: st))) := by
  subst hp; exact Go.via (fun _ k => XS.dcmpS X.here hx rfl hd rfl hv k) g
theorem s_lcmp (X : Stand p l e R s m args below meth c T locs cells slots) (hx : p.tables.exec = Jvm.exec) {x y : Int64} (hd : decode c.code pc = .ok (.lcmp, 1)) (v : Int32) (hv : XT.cmpL x y = v) (pc' : Nat) (hp : pc + 1 = pc') (g : Go p e below P (T.setTop (mkF m pc' L (.int v :: st)))) : Go p e below P (T.setTop (mkF m pc L (.long y :: .long x :: st))) := by
  subst hp hv; exact Go.via (fun _ k => XT.lcmp X.here hx rfl hd rfl k) g
theorem s_dup (X : Stand p l e R s m args below meth c T locs cells slots) (hx : p.tables.exec = Jvm.exec) {x : Value} (hd : decode c.code pc = .ok (.dup, 1)) (hc : x.category = 1) (pc' : Nat) (hp : pc + 1 = pc') (g : Go p e below P (T.setTop (mkF m pc' L (x :: x :: st)))) : Go p e below P (T.setTop (mkF m pc L (x :: st))) := by
  subst hp; exact Go.via (fun _ k => XS.dup X.here hx rfl hd rfl hc k) g
theorem s_pop (X : Stand p l e R s m args below meth c T locs cells slots) (hx : p.tables.exec = Jvm.exec) {x : Value} (hd : decode c.code pc = .ok (.pop, 1)) (hc : x.category = 1) (pc' : Nat) (hp : pc + 1 = pc') (g : Go p e below P (T.setTop (mkF m pc' L (st)))) : Go p e below P (T.setTop (mkF m pc L (x :: st))) := by
  subst hp; exact Go.via (fun _ k => XT.pop X.here hx rfl hd rfl hc k) g
theorem s_dupX1 (X : Stand p l e R s m args below meth c T locs cells slots) (hx : p.tables.exec = Jvm.exec) {x y : Value} (hd : decode c.code pc = .ok (.dup_x1, 1)) (hc : x.category = 1) (hc' : y.category = 1) (pc' : Nat) (hp : pc + 1 = pc') (g : Go p e below P (T.setTop (mkF m pc' L (x :: y :: x :: st)))) : Go p e below P (T.setTop (mkF m pc L (x :: y :: st))) := by
  subst hp; exact Go.via (fun _ k => XT.dupX1 X.here hx rfl hd rfl hc hc' k) g
theorem s_dup2 (X : Stand p l e R s m args below meth c T locs cells slots) (hx : p.tables.exec = Jvm.exec) {x y : Value} (hd : decode c.code pc = .ok (.dup2, 1)) (hc : x.category = 1) (hc' : y.category = 1) (pc' : Nat) (hp : pc + 1 = pc') (g : Go p e below P (T.setTop (mkF m pc' L (x :: y :: x :: y :: st)))) : Go p e below P (T.setTop (mkF m pc L (x :: y :: st))) := by
  subst hp; exact Go.via (fun _ k => XT.dup2 X.here hx rfl hd rfl hc hc' k) g
theorem s_iinc (X : Stand p l e R s m args below meth c T locs cells slots) (hx : p.tables.exec = Jvm.exec) {k : Nat} {cst : Int} {x : Int32} (hd : decode c.code pc = .ok (.iinc k cst, 3)) (v : Int32) (hv : x + Int32.ofInt cst = v) (hl : L[k]? = some (.val (.int x))) (L' : Array Slot) (hl' : storeLocals L k (.int v) = some L') (pc' : Nat) (hp : pc + 3 = pc') (g : Go p e below P (T.setTop (mkF m pc' L' (st)))) : Go p e below P (T.setTop (mkF m pc L (st))) := by
  subst hp hv; exact Go.via (fun _ k => XS.iinc X.here hx rfl hd hl hl' k) g
theorem s_goto (X : Stand p l e R s m args below meth c T locs cells slots) (hx : p.tables.exec = Jvm.exec) {o : Int} (hd : decode c.code pc = .ok (.goto o, 3)) (pc' : Nat) (ho : 0 ≤ (pc : Int) + o) (hp : ((pc : Int) + o).toNat = pc') (g : Go p e below P (T.setTop (mkF m pc' L st))) : Go p e below P (T.setTop (mkF m pc L st)) := Go.via (fun _ k => XS.goto X.here hx rfl rfl hd ho hp k) g
theorem s_ifY (X : Stand p l e R s m args below meth c T locs cells slots) (hx : p.tables.exec = Jvm.exec) {cd : ClassFile.Cond} {o : Int} {x : Int32} (hd : decode c.code pc = .ok (.ifCond cd o, 3)) (hc : ifCond.holds cd x = true) (pc' : Nat) (ho : 0 ≤ (pc : Int) + o) (hp : ((pc : Int) + o).toNat = pc') (g : Go p e below P (T.setTop (mkF m pc' L st))) : Go p e below P (T.setTop (mkF m pc L (.int x :: st))) := Go.via (fun _ k => XS.ifYes X.here hx rfl rfl hd rfl hc ho hp k) g
theorem s_ifN (X : Stand p l e R s m args below meth c T locs cells slots) (hx : p.tables.exec = Jvm.exec) {cd : ClassFile.Cond} {o : Int} {x : Int32} (hd : decode c.code pc = .ok (.ifCond cd o, 3)) (hc : ifCond.holds cd x = false) (pc' : Nat) (hp : pc + 3 = pc') (g : Go p e below P (T.setTop (mkF m pc' L (st)))) : Go p e below P (T.setTop (mkF m pc L (.int x :: st))) := by
  subst hp; exact Go.via (fun _ k => XS.ifNo X.here hx rfl hd rfl hc k) g
theorem s_icmpY (X : Stand p l e R s m args below meth c T locs cells slots) (hx : p.tables.exec = Jvm.exec) {cd : ClassFile.Cond} {o : Int} {x y : Int32} (hd : decode c.code pc = .ok (.if_icmp cd o, 3)) (hc : if_icmp.holds cd x y = true) (pc' : Nat) (ho : 0 ≤ (pc : Int) + o) (hp : ((pc : Int) + o).toNat = pc') (g : Go p e below P (T.setTop (mkF m pc' L st))) : Go p e below P (T.setTop (mkF m pc L (.int y :: .int x :: st))) := Go.via (fun _ k => XS.icmpYes X.here hx rfl rfl hd rfl hc ho hp k) g
theorem s_icmpN (X : Stand p l e R s m args below meth c T locs cells slots) (hx : p.tables.exec = Jvm.exec) {cd : ClassFile.Cond} {o : Int} {x y : Int32} (hd : decode c.code pc = .ok (.if_icmp cd o, 3)) (hc : if_icmp.holds cd x y = false) (pc' : Nat) (hp : pc + 3 = pc') (g : Go p e below P (T.setTop (mkF m pc' L (st)))) : Go p e below P (T.setTop (mkF m pc L (.int y :: .int x :: st))) := by
  subst hp; exact Go.via (fun _ k => XS.icmpNo X.here hx rfl hd rfl hc k) g
theorem s_acmpY (X : Stand p l e R s m args below meth c T locs cells slots) (hx : p.tables.exec = Jvm.exec) {cd : ClassFile.ACond} {o : Int} {x y : Value} (hd : decode c.code pc = .ok (.if_acmp cd o, 3)) (h1 : x.isRef = true) (h2 : y.isRef = true) (hc : XT.acmp cd x y = true) (pc' : Nat) (ho : 0 ≤ (pc : Int) + o) (hp : ((pc : Int) + o).toNat = pc') (g : Go p e below P (T.setTop (mkF m pc' L st))) : Go p e below P (T.setTop (mkF m pc L (y :: x :: st))) := Go.via (fun _ k => XT.acmpYes X.here hx rfl rfl hd rfl h1 h2 hc ho hp k) g
theorem s_acmpN (X : Stand p l e R s m args below meth c T locs cells slots) (hx : p.tables.exec = Jvm.exec) {cd : ClassFile.ACond} {o : Int} {x y : Value} (hd : decode c.code pc = .ok (.if_acmp cd o, 3)) (h1 : x.isRef = true) (h2 : y.isRef = true) (hc : XT.acmp cd x y = false) (pc' : Nat) (hp : pc + 3 = pc') (g : Go p e below P (T.setTop (mkF m pc' L (st)))) : Go p e below P (T.setTop (mkF m pc L (y :: x :: st))) := by
  subst hp; exact Go.via (fun _ k => XT.acmpNo X.here hx rfl hd rfl h1 h2 hc k) g
theorem s_ifnullN (X : Stand p l e R s m args below meth c T locs cells slots) (hx : p.tables.exec = Jvm.exec) {o : Int} {b : Addr} (hd : decode c.code pc = .ok (.ifnull o, 3))  (pc' : Nat) (hp : pc + 3 = pc') (g : Go p e below P (T.setTop (mkF m pc' L (st)))) : Go p e below P (T.setTop (mkF m pc L (.ref b :: st))) := by
  subst hp; exact Go.via (fun _ k => XS.ifnullNo X.here hx rfl hd rfl k) g
theorem s_ifnullY (X : Stand p l e R s m args below meth c T locs cells slots) (hx : p.tables.exec = Jvm.exec) {o : Int} (hd : decode c.code pc = .ok (.ifnull o, 3)) (pc' : Nat) (ho : 0 ≤ (pc : Int) + o) (hp : ((pc : Int) + o).toNat = pc') (g : Go p e below P (T.setTop (mkF m pc' L st))) : Go p e below P (T.setTop (mkF m pc L (.null :: st))) := Go.via (fun _ k => XS.ifnullYes X.here hx rfl rfl hd rfl ho hp k) g
theorem s_ifnonnullN (X : Stand p l e R s m args below meth c T locs cells slots) (hx : p.tables.exec = Jvm.exec) {o : Int} (hd : decode c.code pc = .ok (.ifnonnull o, 3))  (pc' : Nat) (hp : pc + 3 = pc') (g : Go p e below P (T.setTop (mkF m pc' L (st)))) : Go p e below P (T.setTop (mkF m pc L (.null :: st))) := by
  subst hp; exact Go.via (fun _ k => XT.ifnonnullNo X.here hx rfl hd rfl k) g
theorem s_ifnonnullY (X : Stand p l e R s m args below meth c T locs cells slots) (hx : p.tables.exec = Jvm.exec) {o : Int} {b : Addr} (hd : decode c.code pc = .ok (.ifnonnull o, 3)) (pc' : Nat) (ho : 0 ≤ (pc : Int) + o) (hp : ((pc : Int) + o).toNat = pc') (g : Go p e below P (T.setTop (mkF m pc' L st))) : Go p e below P (T.setTop (mkF m pc L (.ref b :: st))) := Go.via (fun _ k => XT.ifnonnullYes X.here hx rfl rfl hd rfl ho hp k) g
section Cmp
variable {r : Option Ordering} {o : CmpOp}
theorem dd_ne_t (h : r ≠ some .eq) : ifCond.holds .ne (cmpValue r o) = true := by rcases r with _ | (_ | _ | _) <;> cases o <;> first | rfl | exact absurd rfl h
theorem dd_ne_f (h : r = some .eq) : ifCond.holds .ne (cmpValue r o) = false := by subst h; cases o <;> rfl
theorem dd_eq_t (h : r = some .eq) : ifCond.holds .eq (cmpValue r o) = true := by subst h; cases o <;> rfl
theorem dd_eq_f (h : r ≠ some .eq) : ifCond.holds .eq (cmpValue r o) = false := by rcases r with _ | (_ | _ | _) <;> cases o <;> first | rfl | exact absurd rfl h
theorem dd_ge_t (h : r ≠ some .lt) : ifCond.holds .ge (cmpValue r .g) = true := by rcases r with _ | (_ | _ | _) <;> first | rfl | exact absurd rfl h
theorem dd_ge_f (h : r = some .lt) : ifCond.holds .ge (cmpValue r .g) = false := by subst h; rfl
theorem dd_le_t (h : r ≠ some .gt) : ifCond.holds .le (cmpValue r .l) = true := by rcases r with _ | (_ | _ | _) <;> first | rfl | exact absurd rfl h
theorem dd_le_f (h : r = some .gt) : ifCond.holds .le (cmpValue r .l) = false := by subst h; rfl
theorem dd_gt_f (h : r = some .lt ∨ r = some .eq) : ifCond.holds .gt (cmpValue r .g) = false := by rcases h with h | h <;> (subst h; rfl)
theorem dd_lt_f (h : r = some .gt ∨ r = some .eq) : ifCond.holds .lt (cmpValue r .l) = false := by rcases h with h | h <;> (subst h; rfl)
theorem dd_lt_t (h : r = some .lt) : ifCond.holds .lt (cmpValue r o) = true := by subst h; cases o <;> rfl
end Cmp
end Steps1
/-! ## arrays, by the list of what they hold -/
section Arrays
variable {p : Program} {l : Launch} {e : Env} {R : Room} {s : State} {m : MethodId} {args : Array Value} {below : List Frame} {meth : Method} {c : Code} {T : State} {locs : List Loc} {cells slots : Nat} {P : Outcome → State → Prop} {pc : Nat} {L : Array Slot} {st : List Value} {Z : State} {h h' : Heap} {a b : Addr} {a0 : Array Value} {k : ClassId} {ty : FieldType} {vs : List Value} {v : Value} {sl : Nat} {ws : List Addr}
/-- at a lies an array of components ty, of the class numbered k, that holds vs -/
def AR (Z : State) (h : Heap) (a : Addr) (k : ClassId) (ty : FieldType) (vs : List Value) : Prop := ∃ c : Cell, Arr Z h a c ty ∧ c.cls = k ∧ c.slots = vs.toArray
theorem AR.lt (F : AR Z h a k ty vs) : a < h.size := by obtain ⟨c, A, -⟩ := F; exact A.lt
theorem AR.ext (F : AR Z h a k ty vs) (E : Ext h h') : AR Z h' a k ty vs := by obtain ⟨c, A, r⟩ := F; exact ⟨c, A.ext E, r⟩
theorem AR.other (F : AR Z h b k ty vs) (W : Wr h h' a sl v) (q : b ≠ a) : AR Z h' b k ty vs := by obtain ⟨c, A, r⟩ := F; exact ⟨c, A.other W q, r⟩
theorem AR.keep (F : AR Z h a k ty vs) (K : Keep h h' ws) (q : a ∉ ws) : AR Z h' a k ty vs := by obtain ⟨c, A, r⟩ := F; exact ⟨c, ⟨K.2.1 a c A.1 q, A.2⟩, r⟩
theorem AR.same (F : AR Z h a k ty vs) (W : Wr h h' a sl v) : AR Z h' a k ty (vs.set sl v) := by
  obtain ⟨c, A, r1, r2⟩ := F
  exact ⟨c.setSlot sl v, A.same W, r1, by simp [Cell.setSlot, r2]⟩
theorem ar_len {c : Cell} (r : c.slots = vs.toArray) : c.slots.size = vs.length := by rw [r]; simp
theorem ar_in {c : Cell} (r : c.slots = vs.toArray) {j : Int32} {i : Nat} (hj : ¬ j < 0 ∧ j.toNatClampNeg = i) (hv : vs[i]? = some v) : ¬ (j < 0 ∨ c.slots.size ≤ j.toNatClampNeg) ∧ c.slots[j.toNatClampNeg]? = some v := by
  obtain ⟨h1, rfl⟩ := hj
  have h2 : j.toNatClampNeg < vs.length := (List.getElem?_eq_some_iff.mp hv).1
  refine ⟨?_, by rw [r]; simpa using hv⟩
  rintro (q | q)
  · exact h1 q
  · rw [ar_len r] at q; omega
theorem s_len (X : Stand p l e R s m args below meth c T locs cells slots) (hx : p.tables.exec = Jvm.exec) (hZ : Z.Warmed39 s.vm) (eT : T.heap = h) (F : AR Z h a k ty vs) (hd : decode c.code pc = .ok (.arraylength, 1)) (n : Int32) (hn : vs.length.toInt32 = n) (pc' : Nat) (hp : pc + 1 = pc') (g : Go p e below P (T.setTop (mkF m pc' L (.int n :: st)))) : Go p e below P (T.setTop (mkF m pc L (.ref a :: st))) := by
  obtain ⟨cl, A, r1, r2⟩ := F
  subst hp hn
  rw [← ar_len r2] at g
  exact Go.via (fun _ k => X.arraylength hx (by rw [eT]; exact A.1) (State.isArrayOf_alike hZ.alike A.2.1) (g := mkF m pc L (.ref a :: st)) rfl rfl hd _ k) g
theorem s_iaload (X : Stand p l e R s m args below meth c T locs cells slots) (hx : p.tables.exec = Jvm.exec) (hZ : Z.Warmed39 s.vm) (eT : T.heap = h) (F : AR Z h a k .int vs) (hd : decode c.code pc = .ok (.iaload, 1)) {j : Int32} (i : Nat) (hj : ¬ j < 0 ∧ j.toNatClampNeg = i) (v : Value) (hv : vs[i]? = some v) (pc' : Nat) (hp : pc + 1 = pc') (g : Go p e below P (T.setTop (mkF m pc' L (v :: st)))) : Go p e below P (T.setTop (mkF m pc L (.int j :: .ref a :: st))) := by
  obtain ⟨cl, A, r1, r2⟩ := F
  obtain ⟨q1, q2⟩ := ar_in r2 hj hv
  subst hp
  exact Go.via (fun _ k => X.iaload hx (by rw [eT]; exact A.1) (State.isArrayOf_alike hZ.alike A.2.1) A.2.2 q1 q2 (g := mkF m pc L (.int j :: .ref a :: st)) rfl rfl hd _ k) g
theorem s_laload (X : Stand p l e R s m args below meth c T locs cells slots) (hx : p.tables.exec = Jvm.exec) (hZ : Z.Warmed39 s.vm) (eT : T.heap = h) (F : AR Z h a k .long vs) (hd : decode c.code pc = .ok (.laload, 1)) {j : Int32} (i : Nat) (hj : ¬ j < 0 ∧ j.toNatClampNeg = i) (v : Value) (hv : vs[i]? = some v) (pc' : Nat) (hp : pc + 1 = pc') (g : Go p e below P (T.setTop (mkF m pc' L (v :: st)))) : Go p e below P (T.setTop (mkF m pc L (.int j :: .ref a :: st))) := by
  obtain ⟨cl, A, r1, r2⟩ := F
  obtain ⟨q1, q2⟩ := ar_in r2 hj hv
  subst hp
  exact Go.via (fun _ k => X.laload hx (by rw [eT]; exact A.1) (State.isArrayOf_alike hZ.alike A.2.1) A.2.2 q1 q2 (g := mkF m pc L (.int j :: .ref a :: st)) rfl rfl hd _ k) g
theorem s_daload (X : Stand p l e R s m args below meth c T locs cells slots) (hx : p.tables.exec = Jvm.exec) (hZ : Z.Warmed39 s.vm) (eT : T.heap = h) (F : AR Z h a k .double vs) (hd : decode c.code pc = .ok (.daload, 1)) {j : Int32} (i : Nat) (hj : ¬ j < 0 ∧ j.toNatClampNeg = i) (v : Value) (hv : vs[i]? = some v) (pc' : Nat) (hp : pc + 1 = pc') (g : Go p e below P (T.setTop (mkF m pc' L (v :: st)))) : Go p e below P (T.setTop (mkF m pc L (.int j :: .ref a :: st))) := by
  obtain ⟨cl, A, r1, r2⟩ := F
  obtain ⟨q1, q2⟩ := ar_in r2 hj hv
  subst hp
  exact Go.via (fun _ k => X.daload hx (by rw [eT]; exact A.1) (State.isArrayOf_alike hZ.alike A.2.1) A.2.2 q1 q2 (g := mkF m pc L (.int j :: .ref a :: st)) rfl rfl hd _ k) g
theorem s_aaload (X : Stand p l e R s m args below meth c T locs cells slots) (hx : p.tables.exec = Jvm.exec) (hZ : Z.Warmed39 s.vm) (eT : T.heap = h) (F : AR Z h a k ty vs) (ht : ty.isReference = true) (hd : decode c.code pc = .ok (.aaload, 1)) {j : Int32} (i : Nat) (hj : ¬ j < 0 ∧ j.toNatClampNeg = i) (v : Value) (hv : vs[i]? = some v) (pc' : Nat) (hp : pc + 1 = pc') (g : Go p e below P (T.setTop (mkF m pc' L (v :: st)))) : Go p e below P (T.setTop (mkF m pc L (.int j :: .ref a :: st))) := by
  obtain ⟨cl, A, r1, r2⟩ := F
  obtain ⟨q1, q2⟩ := ar_in r2 hj hv
  subst hp
  exact Go.via (fun _ k => X.aaload hx (by rw [eT]; exact A.1) (State.isArrayOf_alike hZ.alike A.2.1) ht A.2.2 q1 q2 (g := mkF m pc L (.int j :: .ref a :: st)) rfl rfl hd _ k) g
theorem s_iastore (X : Stand p l e R s m args below meth c T locs cells slots) (hx : p.tables.exec = Jvm.exec) (hZ : Z.Warmed39 s.vm) (eT : T.heap = h) (F : AR Z h a k .int vs) (hd : decode c.code pc = .ok (.iastore, 1)) (L : Array Slot) (st : List Value) {j : Int32} (i : Nat) (hj : ¬ j < 0 ∧ j.toNatClampNeg = i) (hi : i < vs.length) (x : Int32) (vs' : List Value) (hvs : vs.set i (.int x) = vs') (pc' : Nat) (hp : pc + 1 = pc') :
    ∃ T' h', Stand p l e R s m args below meth c T' (locs ++ [⟨a, i⟩]) cells slots ∧ T'.heap = h' ∧ Wr h h' a i (.int x) ∧ AR Z h' a k .int vs' ∧ ∀ t, Steps p.tables e below (T'.setTop (mkF m pc' L st)) t → Steps p.tables e below (T.setTop (mkF m pc L (.int x :: .int j :: .ref a :: st))) t := by
  obtain ⟨cl, A, r1, r2⟩ := F
  obtain ⟨q1, -⟩ := ar_in r2 hj (List.getElem?_eq_getElem hi)
  obtain ⟨hj1, rfl⟩ := hj
  subst hp hvs
  obtain ⟨T', h', X', e', W, st'⟩ := stI X hx hZ eT A q1 (g := mkF m pc L (.int x :: .int j :: .ref a :: st)) rfl rfl hd
  exact ⟨T', h', X', e', W, AR.same ⟨cl, A, r1, r2⟩ W, st'⟩
theorem s_lastore (X : Stand p l e R s m args below meth c T locs cells slots) (hx : p.tables.exec = Jvm.exec) (hZ : Z.Warmed39 s.vm) (eT : T.heap = h) (F : AR Z h a k .long vs) (hd : decode c.code pc = .ok (.lastore, 1)) (L : Array Slot) (st : List Value) {j : Int32} (i : Nat) (hj : ¬ j < 0 ∧ j.toNatClampNeg = i) (hi : i < vs.length) (x : Int64) (vs' : List Value) (hvs : vs.set i (.long x) = vs') (pc' : Nat) (hp : pc + 1 = pc') :
    ∃ T' h', Stand p l e R s m args below meth c T' (locs ++ [⟨a, i⟩]) cells slots ∧ T'.heap = h' ∧ Wr h h' a i (.long x) ∧ AR Z h' a k .long vs' ∧ ∀ t, Steps p.tables e below (T'.setTop (mkF m pc' L st)) t → Steps p.tables e below (T.setTop (mkF m pc L (.long x :: .int j :: .ref a :: st))) t := by
  obtain ⟨cl, A, r1, r2⟩ := F
  obtain ⟨q1, -⟩ := ar_in r2 hj (List.getElem?_eq_getElem hi)
  obtain ⟨hj1, rfl⟩ := hj
  subst hp hvs
  obtain ⟨T', h', X', e', W, st'⟩ := stJ X hx hZ eT A q1 (g := mkF m pc L (.long x :: .int j :: .ref a :: st)) rfl rfl hd
  exact ⟨T', h', X', e', W, AR.same ⟨cl, A, r1, r2⟩ W, st'⟩
theorem s_dastore (X : Stand p l e R s m args below meth c T locs cells slots) (hx : p.tables.exec = Jvm.exec) (hZ : Z.Warmed39 s.vm) (eT : T.heap = h) (F : AR Z h a k .double vs) (hd : decode c.code pc = .ok (.dastore, 1)) (L : Array Slot) (st : List Value) {j : Int32} (i : Nat) (hj : ¬ j < 0 ∧ j.toNatClampNeg = i) (hi : i < vs.length) (x : UInt64) (vs' : List Value) (hvs : vs.set i (.double x) = vs') (pc' : Nat) (hp : pc + 1 = pc') :
    ∃ T' h', Stand p l e R s m args below meth c T' (locs ++ [⟨a, i⟩]) cells slots ∧ T'.heap = h' ∧ Wr h h' a i (.double x) ∧ AR Z h' a k .double vs' ∧ ∀ t, Steps p.tables e below (T'.setTop (mkF m pc' L st)) t → Steps p.tables e below (T.setTop (mkF m pc L (.double x :: .int j :: .ref a :: st))) t := by
  obtain ⟨cl, A, r1, r2⟩ := F
  obtain ⟨q1, -⟩ := ar_in r2 hj (List.getElem?_eq_getElem hi)
  obtain ⟨hj1, rfl⟩ := hj
  subst hp hvs
  obtain ⟨T', h', X', e', W, st'⟩ := stD X hx hZ eT A q1 (g := mkF m pc L (.double x :: .int j :: .ref a :: st)) rfl rfl hd
  exact ⟨T', h', X', e', W, AR.same ⟨cl, A, r1, r2⟩ W, st'⟩
theorem s_aastore (X : Stand p l e R s m args below meth c T locs cells slots) (hx : p.tables.exec = Jvm.exec) (hZ : Z.Warmed39 s.vm) (eT : T.heap = h) (F : AR Z h a k ty vs) (ht : ty.isReference = true) (hd : decode c.code pc = .ok (.aastore, 1)) (L : Array Slot) (st : List Value) {j : Int32} (i : Nat) (hj : ¬ j < 0 ∧ j.toNatClampNeg = i) (hi : i < vs.length) (x : Value) (S : Sto Z h a x) (vs' : List Value) (hvs : vs.set i x = vs') (pc' : Nat) (hp : pc + 1 = pc') :
    ∃ T' h', Stand p l e R s m args below meth c T' (locs ++ [⟨a, i⟩]) cells slots ∧ T'.heap = h' ∧ Wr h h' a i x ∧ AR Z h' a k ty vs' ∧ ∀ t, Steps p.tables e below (T'.setTop (mkF m pc' L st)) t → Steps p.tables e below (T.setTop (mkF m pc L (x :: .int j :: .ref a :: st))) t := by
  obtain ⟨cl, A, r1, r2⟩ := F
  obtain ⟨q1, -⟩ := ar_in r2 hj (List.getElem?_eq_getElem hi)
  obtain ⟨hj1, rfl⟩ := hj
  subst hp hvs
  obtain ⟨T', h', X', e', W, st'⟩ := stR X hx hZ eT A q1 ht S (g := mkF m pc L (x :: .int j :: .ref a :: st)) rfl rfl hd
  exact ⟨T', h', X', e', W, AR.same ⟨cl, A, r1, r2⟩ W, st'⟩
theorem s_newarray (X : Stand p l e R s m args below meth c T locs cells slots) (hx : p.tables.exec = Jvm.exec) (hZ : Z.Warmed39 s.vm) {aty : ArrayType} (w : (Cond.arrayClass (newarray.typeOf aty)).before a0 Z = true) (eT : T.heap = h) (hd : decode c.code pc = .ok (.newarray aty, 2)) (L : Array Slot) (st : List Value) {n : Int32} (cap : Nat) (hn : ¬ n < 0 ∧ n.toNatClampNeg = cap) (vs : List Value) (hvs : List.replicate cap (defaultValue (newarray.typeOf aty)) = vs) (hb : cap * 8 ≤ 536870912) (hc : cells + 1 ≤ R.cells) (hl : slots + cap ≤ R.slots) (pc' : Nat) (hp : pc + 2 = pc') :
    ∃ T' h' cA, Stand p l e R s m args below meth c T' locs (cells + 1) (slots + cap) ∧ T'.heap = h' ∧ Ext h h' ∧ AR Z h' h.size cA (newarray.typeOf aty) vs ∧ ∀ t, Steps p.tables e below (T'.setTop (mkF m pc' L (.ref h.size :: st))) t → Steps p.tables e below (T.setTop (mkF m pc L (.int n :: st))) t := by
  obtain ⟨n1, n2⟩ := hn
  obtain ⟨T', h', cA, X', e', E, A, st'⟩ := newP X hx hZ w eT (g := mkF m pc L (.int n :: st)) rfl hd rfl n1 (cap := cap) (Nat.le_of_eq n2) hb hc hl
  subst hp hvs
  exact ⟨T', h', cA, X', e', E, ⟨_, A, rfl, by simp [newA, n2]⟩, st'⟩
end Arrays
/-! ## calls by contract -/
section Calls
variable {p : Program} {l : Launch} {e : Env} {R : Room} {s : State} {m : MethodId} {args : Array Value} {below : List Frame} {meth : Method} {c : Code} {T : State} {locs : List Loc} {cells slots : Nat} {P : Outcome → State → Prop} {pc : Nat} {L : Array Slot} {st : List Value} {Z : State} {h h' : Heap} {a0 : Array Value} {own : String} {index : Nat} {y : MethodName} {bytes : ByteArray} {ml : Nat} {rm : Room} {as : Array Value} {Q : Option Value → Heap → List Loc → Prop}
theorem ct_back {ret : Option FieldType} {len W : Nat} (C : Ct l Z y bytes ml ret [] rm as h Q) (hZ : Z.Warmed39 s.vm) (wc : (Cond.code y bytes ml ret).before a0 Z = true) (wz : (Cond.initialized y.cls).before a0 Z = true) (hf : rm.frames + 1 ≤ R.frames) (hl : W + (ml + 11) + rm.locals ≤ R.locals) :
    Back l R p e below s args y len W (fun A a => a = as ∧ A.U.heap = h ∧ A.cells + rm.cells ≤ R.cells ∧ A.slots + rm.slots ≤ R.slots)
      (fun A _ v B => ∃ L, Q v B.U.heap L ∧ B.locs = A.locs ++ L ∧ B.cells = A.cells + rm.cells ∧ B.slots = A.slots + rm.slots) := backOf C hZ wc wz hf hl
theorem callStat {ret : Option FieldType} (X : Stand p l e R s m args below meth c T locs cells slots) (hx : p.tables.exec = Jvm.exec) (hZ : Z.Warmed39 s.vm) (hown : s.vm.findClass own = some m.cls) (w1 : (Cond.methodLink own index y).before a0 Z = true) (w2 : (Cond.static y).before a0 Z = true) (w3 : (Cond.initialized y.cls).before a0 Z = true) (w4 : (Cond.code y bytes ml ret).before a0 Z = true) (hy : y.cls ≠ "java/lang/invoke/MethodHandle" ∧ y.cls ≠ "java/lang/invoke/VarHandle") (C : Ct l Z y bytes ml ret [] rm as h Q) (eT : T.heap = h) (hd : decode c.code pc = .ok (.invokestatic index, 3)) (hml : L.size = c.maxLocals) (argsL rest : List Value) (hst : st = argsL.reverse ++ rest) (has : argsL.toArray = as) {ps : List FieldType} {r : Option FieldType} (hpd : parseMethodDescriptor y.desc = some ⟨ps, r⟩) (hln : argsL.length = ps.length) (W : Nat) (hW : 2 * 0 + (rest.map fun v => v.category).sum ≤ W) (hfr : rm.frames + 1 ≤ R.frames) (hlo : W + (ml + 11) + rm.locals ≤ R.locals) (hc : cells + rm.cells ≤ R.cells) (hs : slots + rm.slots ≤ R.slots) :
    ∃ v T' L', Stand p l e R s m args below meth c T' (locs ++ L') (cells + rm.cells) (slots + rm.slots) ∧ Q v T'.heap L' ∧ ∀ t, Steps p.tables e below (T'.setTop (mkF m (pc + 3) L (v.toList ++ rest))) t → Steps p.tables e below (T.setTop (mkF m pc L st)) t := by
  obtain ⟨v, _, ⟨T', L1, k1, n1⟩, -, X', ⟨L', hQ, l1, y1, z1⟩, st'⟩ := Jvm.LawKit.callS X hx (y := y) hown (mvT hZ w1) (mvT hZ w2) (mvT hZ w3) (mvT hZ w4) hy (ct_back (W := W) C hZ w4 w3 hfr hlo) (g := mkF m pc L st) rfl hml (argsL := argsL) (rest := rest) (lenOf hpd hln) hst hW hd (fun _ _ => ⟨has, eT, hc, hs⟩)
  dsimp only [Pt.U, Pt.locs, Pt.cells, Pt.slots] at X' l1 y1 z1 st' hQ
  subst l1 y1 z1
  exact ⟨v, T', L', X', hQ, st'⟩
theorem callInit (X : Stand p l e R s m args below meth c T locs cells slots) (hx : p.tables.exec = Jvm.exec) (hZ : Z.Warmed39 s.vm) (hown : s.vm.findClass own = some m.cls) (hin : y.name = "<init>") (w1 : (Cond.methodLink own index y).before a0 Z = true) (w2 : (Cond.instanceMethod y).before a0 Z = true) (w3 : (Cond.initialized y.cls).before a0 Z = true) (w4 : (Cond.code y bytes ml none).before a0 Z = true) (hy : y.cls ≠ "java/lang/invoke/MethodHandle" ∧ y.cls ≠ "java/lang/invoke/VarHandle") (C : Ct l Z y bytes ml none [] rm as h Q) (eT : T.heap = h) (hd : decode c.code pc = .ok (.invokespecial index, 3)) (hml : L.size = c.maxLocals) (a : Addr) (argsL rest : List Value) (hst : st = argsL.reverse ++ .ref a :: rest) (has : (.ref a :: argsL).toArray = as) {ps : List FieldType} {r : Option FieldType} (hpd : parseMethodDescriptor y.desc = some ⟨ps, r⟩) (hln : argsL.length = ps.length) (W : Nat) (hW : 2 * 0 + (rest.map fun v => v.category).sum ≤ W) (hfr : rm.frames + 1 ≤ R.frames) (hlo : W + (ml + 11) + rm.locals ≤ R.locals) (hc : cells + rm.cells ≤ R.cells) (hs : slots + rm.slots ≤ R.slots) :
    ∃ v T' L', Stand p l e R s m args below meth c T' (locs ++ L') (cells + rm.cells) (slots + rm.slots) ∧ Q v T'.heap L' ∧ ∀ t, Steps p.tables e below (T'.setTop (mkF m (pc + 3) L (v.toList ++ rest))) t → Steps p.tables e below (T.setTop (mkF m pc L st)) t := by
  obtain ⟨v, _, ⟨T', L1, k1, n1⟩, -, X', ⟨L', hQ, l1, y1, z1⟩, st'⟩ := X.specialBack hx (y := y) hin hown (mvT hZ w1) (mvT hZ w2) (mvT hZ w4) hy (ct_back (W := W) C hZ w4 w3 hfr hlo) (g := mkF m pc L st) rfl hml (Steps.refl _) (a := a) (argsL := argsL) (rest := rest) (lenOf hpd hln) hst hW hd (fun _ _ => ⟨has, eT, hc, hs⟩)
  dsimp only [Pt.U, Pt.locs, Pt.cells, Pt.slots] at X' l1 y1 z1 st' hQ
  subst l1 y1 z1
  exact ⟨v, T', L', X', hQ, fun t k => st'.trans k⟩
theorem callVirt {ret : Option FieldType} {C0 : String} (X : Stand p l e R s m args below meth c T locs cells slots) (hx : p.tables.exec = Jvm.exec) (hZ : Z.Warmed39 s.vm) (hown : s.vm.findClass own = some m.cls) (w1 : (Cond.methodLink own index y).before a0 Z = true) (w2 : (Cond.declares y).before a0 Z = true) (w3 : (Cond.selects C0 y y).before a0 Z = true) (w4 : (Cond.instanceMethod y).before a0 Z = true) (w5 : (Cond.initialized y.cls).before a0 Z = true) (w6 : (Cond.code y bytes ml ret).before a0 Z = true) (hy : y.cls ≠ "java/lang/invoke/MethodHandle" ∧ y.cls ≠ "java/lang/invoke/VarHandle") (C : Ct l Z y bytes ml ret [] rm as h Q) (eT : T.heap = h) (a : Addr) (E : Exa Z h a C0) (hd : decode c.code pc = .ok (.invokevirtual index, 3)) (hml : L.size = c.maxLocals) (argsL rest : List Value) (hst : st = argsL.reverse ++ .ref a :: rest) (has : (.ref a :: argsL).toArray = as) {ps : List FieldType} {r : Option FieldType} (hpd : parseMethodDescriptor y.desc = some ⟨ps, r⟩) (hln : argsL.length = ps.length) (W : Nat) (hW : 2 * 0 + (rest.map fun v => v.category).sum ≤ W) (hfr : rm.frames + 1 ≤ R.frames) (hlo : W + (ml + 11) + rm.locals ≤ R.locals) (hc : cells + rm.cells ≤ R.cells) (hs : slots + rm.slots ≤ R.slots) :
    ∃ v T' L', Stand p l e R s m args below meth c T' (locs ++ L') (cells + rm.cells) (slots + rm.slots) ∧ Q v T'.heap L' ∧ ∀ t, Steps p.tables e below (T'.setTop (mkF m (pc + 3) L (v.toList ++ rest))) t → Steps p.tables e below (T.setTop (mkF m pc L st)) t := by
  obtain ⟨cq, kq, qa, qb, qc⟩ := isOf hZ eT E
  obtain ⟨v, _, ⟨T', L1, k1, n1⟩, -, X', ⟨L', hQ, l1, y1, z1⟩, st'⟩ := X.virtualBack hx (y := y) (z := y) hown (mvT hZ w1) (mvT hZ w2) (notFace_of_selects (args := #[]) (mvT hZ w3)) (mvT hZ w3) (mvT hZ w4) hy (ct_back (W := W) C hZ w6 w5 hfr hlo) qa qc (g := mkF m pc L st) rfl hml (Steps.refl _) (argsL := argsL) (rest := rest) (lenOf hpd hln) hst hW hd (fun _ _ => ⟨has, eT, hc, hs⟩)
  dsimp only [Pt.U, Pt.locs, Pt.cells, Pt.slots] at X' l1 y1 z1 st' hQ
  subst l1 y1 z1
  exact ⟨v, T', L', X', hQ, fun t k => st'.trans k⟩
end Calls
end Jvm.OwnGo
namespace Jvm.OwnFP
open Jvm.FP Jvm.FP.Core Jvm.Free.Fl
/-- a * 2^x = b -/
def PE (a b : Nat) (x : Int) : Prop := a * 2 ^ x.toNat = b * 2 ^ (-x).toNat
theorem pe_iff {a b : Nat} {x : Int} (y z : Nat) (h : x = (y : Int) - z) : PE a b x ↔ a * 2 ^ y = b * 2 ^ z := by
  unfold PE
  obtain ⟨d, rfl, rfl⟩ : ∃ d, y = x.toNat + d ∧ z = (-x).toNat + d := ⟨min y z, by omega, by omega⟩
  have p1 : 0 < 2 ^ d := Nat.two_pow_pos _
  rw [Nat.pow_add, Nat.pow_add, ← Nat.mul_assoc, ← Nat.mul_assoc]
  exact ⟨fun q => by rw [q], fun q => Nat.eq_of_mul_eq_mul_right p1 q⟩
theorem PE.symm {a b : Nat} {x : Int} (h : PE a b x) : PE b a (-x) := by
  unfold PE at h ⊢; rw [Int.neg_neg]; exact h.symm
theorem PE.trans {a b c : Nat} {x y : Int} (h : PE a b x) (g : PE b c y) : PE a c (x + y) := by
  rw [pe_iff (x.toNat + y.toNat) ((-x).toNat + (-y).toNat) (by omega)]
  unfold PE at h g
  rw [Nat.pow_add, Nat.pow_add, ← Nat.mul_assoc, h, Nat.mul_right_comm, g, Nat.mul_assoc, Nat.mul_comm (2 ^ (-y).toNat)]
theorem PE.mul {a b : Nat} {x : Int} (h : PE a b x) (c : Nat) : PE (c * a) (c * b) x := by
  unfold PE at h ⊢; rw [Nat.mul_assoc, Nat.mul_assoc, h]
theorem PE.of {a b : Nat} {y z : Nat} (h : a * 2 ^ y = b * 2 ^ z) : PE a b ((y : Int) - z) := (pe_iff y z rfl).mpr h
theorem PE.cast {a b : Nat} {x y : Int} (h : PE a b x) (e : x = y) : PE a b y := e ▸ h
/-- the datum times 2^k -/
def sh (k : Int) : Datum → Datum
  | .fin s c q => .fin s c (q + k)
  | d => d
/-- the double a is i / 2^k, just so -/
def Dy (i : Int) (k : Nat) (a : UInt64) : Prop := Whole i (sh k (val64 a))
theorem Dy.fin {i : Int} {k : Nat} {a : UInt64} (h : Dy i k a) : ∃ s c q, val64 a = .fin s c q := by
  unfold Dy at h
  cases hv : val64 a with
  | nan => rw [hv] at h; exact h.elim
  | inf s => rw [hv] at h; exact h.elim
  | fin s c q => exact ⟨s, c, q, rfl⟩
theorem Dy.dfin {i : Int} {k : Nat} {a : UInt64} (h : Dy i k a) : DFin a := h.fin
theorem Dy.fin64 {i : Int} {k : Nat} {a : UInt64} (h : Dy i k a) : Fin64 a := fin64_core.mpr h.fin
theorem Dy.nn {i : Int} {k : Nat} {a : UInt64} (h : Dy i k a) : NoNaN64 a := h.fin64.noNaN
theorem Dy.ne {i : Int} {k : Nat} {a : UInt64} (h : Dy i k a) : val64 a ≠ .nan := h.dfin.ne_nan
theorem dy_int {i : Int} {a : UInt64} (h : DInt i a) : Dy i 0 a := by
  unfold DInt at h; unfold Dy
  cases hv : val64 a with
  | nan => rw [hv] at h; exact h.elim
  | inf s => rw [hv] at h; exact h.elim
  | fin s c q => rw [hv] at h; show Whole i (.fin s c (q + 0)); rw [Int.add_zero]; exact h
theorem Dy.int {i : Int} {a : UInt64} (h : Dy i 0 a) : DInt i a := by
  obtain ⟨s, c, q, hv⟩ := h.fin
  unfold Dy at h; unfold DInt
  rw [hv] at h ⊢
  have h : Whole i (.fin s c (q + 0)) := h
  rw [Int.add_zero] at h; exact h
theorem dy_i2d (x : Int32) : Dy x.toInt 0 (FP.i2d x) := dy_int (i2d_int x)
theorem dy_l2d {x : Int64} (h : x.toInt.natAbs ≤ 2 ^ 53) : Dy x.toInt 0 (FP.l2d x) := dy_int (l2d_int h)
theorem whole_pe {i : Int} {s : Bool} {c : Nat} {q : Int} (h : Whole i (.fin s c q)) : PE c i.natAbs q := whole_natAbs h
/-- what is so small a multiple of a power of two is a double -/
theorem dy_rnd {i : Int} {k : Nat} {s : Bool} {n : Nat} (hn : i.natAbs = n) (hs : i ≠ 0 → s = decide (i < 0)) (hi : n ≤ 2 ^ 53) (hk : k ≤ 1000) : Whole i (sh k (roundRatio b64 s n 1 (-(k : Int)))) := by
  by_cases h0 : n = 0
  · have : i = 0 := by omega
    subst this
    unfold roundRatio
    rw [if_pos h0]
    show signed s (0 * _) = 0 * _
    rw [Nat.zero_mul, Int.zero_mul]; exact signed_zero s
  · obtain ⟨c, q, hfit, hv⟩ := natFit good_b64 wide_b64 s (n := n) hi
    have hq : q = -1074 ∨ b64.tails ≤ c := by have := hfit.2.2.2; rw [qmin_b64] at this; exact this
    have hv' : n * 2 ^ (-q).toNat = c * 2 ^ q.toNat := by
      rw [show (0 - q).toNat = (-q).toNat by omega, show (q - 0).toNat = q.toNat by omega, Nat.mul_one] at hv; exact hv
    have hc : c < 2 ^ 53 := hfit.1
    have hq2 : q ≤ b64.qmax := hfit.2.2.1
    have hq1 : -53 ≤ q := by
      refine Int.le_of_not_gt fun hlt => ?_
      have e1 : q.toNat = 0 := by omega
      rw [e1, Nat.pow_zero, Nat.mul_one] at hv'
      have : 2 ^ 53 ≤ 2 ^ (-q).toNat := Nat.pow_le_pow_right (by decide) (by omega)
      have h2 : 1 * 2 ^ 53 ≤ n * 2 ^ (-q).toNat := Nat.mul_le_mul (by omega) this
      omega
    have hfit2 : Core.fits b64 (.fin s c (q - k)) := by
      refine ⟨hfit.1, ?_, by omega, Or.inr ?_⟩
      · rw [qmin_b64]; omega
      · rcases hq with hq | hq
        · omega
        · exact hq
    rw [roundRatio_exact good_b64 (by decide) hfit2 (by
      rw [show (-(k : Int) - (q - k)).toNat = (-q).toNat by omega, show (q - (k : Int) - -(k : Int)).toNat = q.toNat by omega, Nat.mul_one]; exact hv')]
    show Whole i (.fin s c (q - k + k))
    rw [show q - (k : Int) + k = q by omega]
    show signed s (c * 2 ^ q.toNat) = i * _
    rw [← hv', signed_mul, hs (by omega)]
    congr 1
    unfold signed
    by_cases h : i < 0 <;> simp [h] <;> omega
theorem dy_round {i : Int} {k : Nat} {s : Bool} {c : Nat} {q : Int} (h : Whole i (.fin s c (q + k))) (hi : i.natAbs ≤ 2 ^ 53) (hk : k ≤ 1000) : Whole i (sh k (round b64 (.fin s c q))) := by
  have e : round b64 (.fin s c q) = roundRatio b64 s i.natAbs 1 (-(k : Int)) := by
    refine roundRatio_congr (by decide) (by decide) ?_
    have := whole_natAbs h
    rw [show (q - -(k : Int)).toNat = (q + k).toNat by omega, show (-(k : Int) - q).toNat = (-(q + k)).toNat by omega]
    simpa using this
  rw [e]
  exact dy_rnd rfl (fun hz => whole_sign h hz) hi hk
theorem sh_sum (k : Int) (s : Bool) (c : Nat) (q : Int) (t : Bool) (d : Nat) (r : Int) : sh k (exactSum (.fin s c q) (.fin t d r)) = exactSum (.fin s c (q + k)) (.fin t d (r + k)) := by
  have e : min (q + k) (r + k) = min q r + k := by omega
  simp only [exactSum, sh, e, sumUnits, inUnits]
  rw [show q + k - (min q r + k) = q - min q r by omega, show r + k - (min q r + k) = r - min q r by omega]
theorem dy_add {i j : Int} {k : Nat} {a b : UInt64} (ha : Dy i k a) (hb : Dy j k b) (h : (i + j).natAbs ≤ 2 ^ 53) (hk : k ≤ 1000) : Dy (i + j) k (FP.dadd a b) := by
  obtain ⟨s, c, q, ea⟩ := ha.fin
  obtain ⟨t, d, r, eb⟩ := hb.fin
  unfold Dy at ha hb ⊢
  rw [ea] at ha; rw [eb] at hb
  have w : Whole (i + j) (sh k (exactSum (.fin s c q) (.fin t d r))) := by rw [sh_sum]; exact whole_sum ha hb
  rw [show FP.dadd a b = Core.dadd a b from rfl, val64_dadd, ea, eb]
  exact dy_round w h hk
theorem dy_neg {i : Int} {k : Nat} {a : UInt64} (ha : Dy i k a) : Dy (-i) k (FP.dneg a) := by
  obtain ⟨s, c, q, ea⟩ := ha.fin
  unfold Dy at ha ⊢
  rw [ea] at ha
  rw [FP.val64_dneg, ea]
  exact whole_negate ha
theorem dy_sub {i j : Int} {k : Nat} {a b : UInt64} (ha : Dy i k a) (hb : Dy j k b) (h : (i - j).natAbs ≤ 2 ^ 53) (hk : k ≤ 1000) : Dy (i - j) k (FP.dsub a b) := by
  obtain ⟨s, c, q, ea⟩ := ha.fin
  obtain ⟨t, d, r, eb⟩ := hb.fin
  unfold Dy at ha hb ⊢
  rw [ea] at ha; rw [eb] at hb
  have hb' : Whole (-j) (.fin (!t) d (r + k)) := whole_negate hb
  have w : Whole (i - j) (sh k (exactSum (.fin s c q) (.fin (!t) d r))) := by rw [sh_sum]; exact whole_sum ha hb'
  rw [show FP.dsub a b = Core.dsub a b from rfl, val64_dsub, ea, eb]
  exact dy_round w h hk
theorem dy_mul {i j : Int} {k n : Nat} {a b : UInt64} (ha : Dy i k a) (hb : Dy j n b) (h : (i * j).natAbs ≤ 2 ^ 53) (hk : k + n ≤ 1000) : Dy (i * j) (k + n) (FP.dmul a b) := by
  obtain ⟨s, c, q, ea⟩ := ha.fin
  obtain ⟨t, d, r, eb⟩ := hb.fin
  unfold Dy at ha hb ⊢
  rw [ea] at ha; rw [eb] at hb
  have w : Whole (i * j) (.fin (s != t) (c * d) (q + r + (k + n : Nat))) := by
    have := whole_product ha hb
    rw [show q + r + ((k + n : Nat) : Int) = q + k + (r + n) by omega]; exact this
  rw [show FP.dmul a b = Core.dmul a b from rfl, val64_dmul, ea, eb]
  exact dy_round w h hk
theorem dy_up {i : Int} {k : Nat} {a : UInt64} (n : Nat) (ha : Dy i k a) : Dy (i * (2 ^ n : Nat)) (k + n) a := by
  obtain ⟨s, c, q, ea⟩ := ha.fin
  unfold Dy at ha ⊢
  rw [ea] at ha ⊢
  have ha : signed s (c * 2 ^ (q + k).toNat) = i * ((2 ^ (-(q + k)).toNat : Nat) : Int) := ha
  show signed s (c * 2 ^ (q + (k + n : Nat)).toNat) = i * (2 ^ n : Nat) * ((2 ^ (-(q + (k + n : Nat))).toNat : Nat) : Int)
  have p2 : ((2 ^ (-(q + (k : Int))).toNat : Nat) : Int) ≠ 0 := by have := Nat.two_pow_pos (-(q + (k : Int))).toNat; omega
  have e1 : (q + ((k + n : Nat) : Int)).toNat + (-(q + (k : Int))).toNat = (q + (k : Int)).toNat + (n + (-(q + ((k + n : Nat) : Int))).toNat) := by omega
  rw [signed_mul] at ha ⊢
  refine Int.eq_of_mul_eq_mul_right p2 ?_
  rw [Int.mul_assoc, ← Int.natCast_mul, ← Nat.pow_add, e1, Nat.pow_add, Int.natCast_mul, ← Int.mul_assoc, ha, Nat.pow_add, Int.natCast_mul]
  ac_rfl
theorem dy_cmp {i j : Int} {k : Nat} {a b : UInt64} (ha : Dy i k a) (hb : Dy j k b) : FP.dcmp a b = some (compare i j) := by
  obtain ⟨s, c, q, ea⟩ := ha.fin
  obtain ⟨t, d, r, eb⟩ := hb.fin
  unfold Dy at ha hb
  rw [ea] at ha; rw [eb] at hb
  have w := order_whole ha hb
  show order (val64 a) (val64 b) = _
  rw [ea, eb, ← w]
  have e : min (q + k) (r + k) = min q r + k := by omega
  simp only [order, sh, e, inUnits]
  rw [show q + k - (min q r + k) = q - min q r by omega, show r + k - (min q r + k) = r - min q r by omega]
theorem dy_div {i j t : Int} {k n r : Nat} {a b : UInt64} (ha : Dy i k a) (hb : Dy j n b) (hj : j ≠ 0) (h : i * (2 ^ (n + r) : Nat) = t * j * (2 ^ k : Nat)) (ht : t.natAbs ≤ 2 ^ 53) (hr : r ≤ 1000) : Dy t r (FP.ddiv a b) := by
  obtain ⟨s, c, q, ea⟩ := ha.fin
  obtain ⟨u, d, z, eb⟩ := hb.fin
  unfold Dy at ha hb ⊢
  rw [ea] at ha; rw [eb] at hb
  have ha : Whole i (.fin s c (q + k)) := ha
  have hb : Whole j (.fin u d (z + n)) := hb
  have hd : d ≠ 0 := fun e => hj ((whole_zero hb).mp e)
  rw [show FP.ddiv a b = Core.ddiv a b from rfl, val64_ddiv, ea, eb]
  show Whole t (sh r (if d = 0 then _ else roundRatio b64 (s != u) c d (q - z)))
  rw [if_neg hd]
  have pn : (0 : Int) < ((2 ^ (n + r) : Nat) : Int) := by have := Nat.two_pow_pos (n + r); omega
  have pk : (0 : Int) < ((2 ^ k : Nat) : Int) := by have := Nat.two_pow_pos k; omega
  have hn : i.natAbs * 2 ^ (n + r) = t.natAbs * j.natAbs * 2 ^ k := by
    have := congrArg Int.natAbs h
    rw [Int.natAbs_mul, Int.natAbs_mul, Int.natAbs_mul, Int.natAbs_natCast, Int.natAbs_natCast] at this
    exact this
  have e : roundRatio b64 (s != u) c d (q - z) = roundRatio b64 (s != u) t.natAbs 1 (-(r : Int)) := by
    refine roundRatio_congr (by omega) (by decide) ?_
    have g := ((whole_pe ha).trans (PE.of hn)).trans ((whole_pe hb).symm.mul t.natAbs)
    have g' : PE c (t.natAbs * d) (q - z + r) := g.cast (by omega)
    unfold PE at g'
    rw [show (q - z - -(r : Int)).toNat = (q - z + r).toNat by omega, show (-(r : Int) - (q - z)).toNat = (-(q - z + r)).toNat by omega, Nat.mul_one]
    exact g'
  rw [e]
  refine dy_rnd rfl (fun hz => ?_) ht hr
  have hi : i ≠ 0 := by
    rintro rfl
    rw [Int.zero_mul] at h
    rcases Int.mul_eq_zero.mp h.symm with q | q
    · rcases Int.mul_eq_zero.mp q with q | q
      · exact hz q
      · exact hj q
    · omega
  rw [whole_sign ha hi, whole_sign hb hj]
  have g1 : i < 0 ↔ t * j < 0 := by
    constructor
    · intro q
      have : t * j * ((2 ^ k : Nat) : Int) < 0 := by rw [← h]; exact Int.mul_neg_of_neg_of_pos q pn
      exact Int.lt_of_not_ge fun q' => by have := Int.mul_nonneg q' (Int.le_of_lt pk); omega
    · intro q
      have : i * ((2 ^ (n + r) : Nat) : Int) < 0 := by rw [h]; exact Int.mul_neg_of_neg_of_pos q pk
      exact Int.lt_of_not_ge fun q' => by have := Int.mul_nonneg q' (Int.le_of_lt pn); omega
  rcases Int.lt_or_lt_of_ne hz with ht0 | ht0 <;> rcases Int.lt_or_lt_of_ne hj with hj0 | hj0
  · have q1 := Int.mul_pos_of_neg_of_neg ht0 hj0
    have q2 : ¬ i < 0 := by rw [g1]; omega
    simp [ht0, hj0, q2]
  · have q1 := Int.mul_neg_of_neg_of_pos ht0 hj0
    have q2 : i < 0 := by rw [g1]; exact q1
    have q3 : ¬ j < 0 := by omega
    simp [ht0, q2, q3]
  · have q1 := Int.mul_neg_of_pos_of_neg ht0 hj0
    have q2 : i < 0 := by rw [g1]; exact q1
    have q3 : ¬ t < 0 := by omega
    simp [hj0, q2, q3]
  · have q1 := Int.mul_pos ht0 hj0
    have q2 : ¬ i < 0 := by rw [g1]; omega
    have q3 : ¬ t < 0 := by omega
    have q4 : ¬ j < 0 := by omega
    simp [q2, q3, q4]
theorem dy_eq {i j : Int} {k : Nat} {a b : UInt64} (ha : Dy i k a) (hb : Dy j k b) (h : i = j) : FP.dcmp a b = some .eq := by
  rw [dy_cmp ha hb, h, compare_self_int]
theorem dy_lt {i j : Int} {k : Nat} {a b : UInt64} (ha : Dy i k a) (hb : Dy j k b) (h : i < j) : FP.dcmp a b = some .lt := by
  rw [dy_cmp ha hb, (compare_lt_iff i j).mpr h]
theorem dy_gt {i j : Int} {k : Nat} {a b : UInt64} (ha : Dy i k a) (hb : Dy j k b) (h : j < i) : FP.dcmp a b = some .gt := by
  rw [dy_cmp ha hb, (compare_gt_iff i j).mpr h]
theorem dy_cast {i j : Int} {k n : Nat} {a : UInt64} (h : Dy i k a) (e : i = j) (e' : k = n) : Dy j n a := by subst e e'; exact h
theorem dy_zero : Dy 0 0 (0 : UInt64) := by
  show Whole 0 (sh 0 (val64 0)); rw [val64_zero]
  show signed false (0 * _) = 0 * _
  rw [Nat.zero_mul, Int.zero_mul]; rfl
end Jvm.OwnFP
namespace Jvm.OwnFP
open Jvm.FP Jvm.FP.Core Jvm.Free.Fl
/-! ## numbers with a bound: an int, a long, a double that is i (over 2^k), i at most N -/
def Ib (N : Nat) (i : Int) (x : Int32) : Prop := x.toInt = i ∧ i.natAbs ≤ N
def Lb (N : Nat) (i : Int) (x : Int64) : Prop := x.toInt = i ∧ i.natAbs ≤ N
def Db (N : Nat) (i : Int) (k : Nat) (a : UInt64) : Prop := Dy i k a ∧ i.natAbs ≤ N
theorem Ib.lit (N : Nat) (i : Int) (x : Int32) (h : x.toInt = i ∧ i.natAbs ≤ N := by decide) : Ib N i x := h
theorem Lb.lit (N : Nat) (i : Int) (x : Int64) (h : x.toInt = i ∧ i.natAbs ≤ N := by decide) : Lb N i x := h
theorem Ib.any (x : Int32) : Ib (2 ^ 31) x.toInt x := ⟨rfl, by have := x.toInt_lt; have := x.le_toInt; omega⟩
theorem Ib.cast {N M : Nat} {i j : Int} {x : Int32} (h : Ib N i x) (e : i = j) (g : j.natAbs ≤ M) : Ib M j x := ⟨h.1.trans e, g⟩
theorem Lb.cast {N M : Nat} {i j : Int} {x : Int64} (h : Lb N i x) (e : i = j) (g : j.natAbs ≤ M) : Lb M j x := ⟨h.1.trans e, g⟩
theorem Db.cast {N M : Nat} {i j : Int} {k : Nat} {a : UInt64} (h : Db N i k a) (e : i = j) (g : j.natAbs ≤ M) : Db M j k a := by subst e; exact ⟨h.1, g⟩
theorem bn_add {a b : Int} {N M : Nat} (h1 : a.natAbs ≤ N) (h2 : b.natAbs ≤ M) : (a + b).natAbs ≤ N + M := by omega
theorem bn_sub {a b : Int} {N M : Nat} (h1 : a.natAbs ≤ N) (h2 : b.natAbs ≤ M) : (a - b).natAbs ≤ N + M := by omega
theorem bn_mul {a b : Int} {N M : Nat} (h1 : a.natAbs ≤ N) (h2 : b.natAbs ≤ M) : (a * b).natAbs ≤ N * M := by rw [Int.natAbs_mul]; exact Nat.mul_le_mul h1 h2
section
variable {N M : Nat} {i j : Int} {k n : Nat}
theorem Ib.add {x y : Int32} (h1 : Ib N i x) (h2 : Ib M j y) (h : N + M < 2147483648) : Ib (N + M) (i + j) (x + y) := by
  obtain ⟨rfl, b1⟩ := h1
  obtain ⟨rfl, b2⟩ := h2
  have b := bn_add b1 b2
  exact ⟨Jvm.Free.XT.add32 ⟨by omega, by omega⟩, b⟩
theorem Ib.sub {x y : Int32} (h1 : Ib N i x) (h2 : Ib M j y) (h : N + M < 2147483648) : Ib (N + M) (i - j) (x - y) := by
  obtain ⟨rfl, b1⟩ := h1
  obtain ⟨rfl, b2⟩ := h2
  have b := bn_sub b1 b2
  exact ⟨Jvm.Free.XT.sub32 ⟨by omega, by omega⟩, b⟩
theorem Ib.mul {x y : Int32} (h1 : Ib N i x) (h2 : Ib M j y) (h : N * M < 2147483648) : Ib (N * M) (i * j) (x * y) := by
  obtain ⟨rfl, b1⟩ := h1
  obtain ⟨rfl, b2⟩ := h2
  have b := bn_mul b1 b2
  exact ⟨Jvm.Free.XT.mul32 ⟨by omega, by omega⟩, b⟩
theorem Lb.add {x y : Int64} (h1 : Lb N i x) (h2 : Lb M j y) (h : N + M < 9223372036854775808) : Lb (N + M) (i + j) (x + y) := by
  obtain ⟨rfl, b1⟩ := h1
  obtain ⟨rfl, b2⟩ := h2
  have b := bn_add b1 b2
  exact ⟨Jvm.Free.XT.add64 ⟨by omega, by omega⟩, b⟩
theorem Lb.sub {x y : Int64} (h1 : Lb N i x) (h2 : Lb M j y) (h : N + M < 9223372036854775808) : Lb (N + M) (i - j) (x - y) := by
  obtain ⟨rfl, b1⟩ := h1
  obtain ⟨rfl, b2⟩ := h2
  have b := bn_sub b1 b2
  exact ⟨Jvm.Free.XT.sub64 ⟨by omega, by omega⟩, b⟩
theorem Lb.mul {x y : Int64} (h1 : Lb N i x) (h2 : Lb M j y) (h : N * M < 9223372036854775808) : Lb (N * M) (i * j) (x * y) := by
  obtain ⟨rfl, b1⟩ := h1
  obtain ⟨rfl, b2⟩ := h2
  have b := bn_mul b1 b2
  exact ⟨Jvm.Free.XT.mul64 ⟨by omega, by omega⟩, b⟩
theorem Lb.neg {x : Int64} (h1 : Lb N i x) (h : N < 9223372036854775808) : Lb N (-i) (-x) := by
  obtain ⟨rfl, h2⟩ := h1
  exact ⟨int64_neg (by omega), by omega⟩
theorem Ib.i2l {x : Int32} (h : Ib N i x) : Lb N i x.toInt64 := ⟨(Int32.toInt_toInt64 x).trans h.1, h.2⟩
theorem Lb.l2i {x : Int64} (h : Lb N i x) (hN : N < 2147483648) : Ib N i x.toInt32 := by
  obtain ⟨rfl, h2⟩ := h
  exact ⟨int64_toInt32 (by omega) (by omega), h2⟩
theorem Ib.i2d {x : Int32} (h : Ib N i x) : Db N i 0 (FP.i2d x) := by obtain ⟨rfl, h2⟩ := h; exact ⟨dy_i2d x, h2⟩
theorem Lb.l2d {x : Int64} (h : Lb N i x) (hN : N ≤ 9007199254740992) : Db N i 0 (FP.l2d x) := by obtain ⟨rfl, h2⟩ := h; exact ⟨dy_l2d (Nat.le_trans h2 hN), h2⟩
theorem Db.nn {a : UInt64} (h : Db N i k a) : NoNaN64 a := h.1.nn
theorem Db.add {a b : UInt64} (h1 : Db N i k a) (h2 : Db M j k b) (h : N + M ≤ 9007199254740992 ∧ k ≤ 1000) : Db (N + M) (i + j) k (FP.dadd a b) :=
  ⟨dy_add h1.1 h2.1 (Nat.le_trans (bn_add h1.2 h2.2) h.1) h.2, bn_add h1.2 h2.2⟩
theorem Db.sub {a b : UInt64} (h1 : Db N i k a) (h2 : Db M j k b) (h : N + M ≤ 9007199254740992 ∧ k ≤ 1000) : Db (N + M) (i - j) k (FP.dsub a b) :=
  ⟨dy_sub h1.1 h2.1 (Nat.le_trans (bn_sub h1.2 h2.2) h.1) h.2, bn_sub h1.2 h2.2⟩
theorem Db.mul {a b : UInt64} (h1 : Db N i k a) (h2 : Db M j n b) (h : N * M ≤ 9007199254740992 ∧ k + n ≤ 1000) : Db (N * M) (i * j) (k + n) (FP.dmul a b) :=
  ⟨dy_mul h1.1 h2.1 (Nat.le_trans (bn_mul h1.2 h2.2) h.1) h.2, bn_mul h1.2 h2.2⟩
theorem Db.neg {a : UInt64} (h1 : Db N i k a) : Db N (-i) k (FP.dneg a) := ⟨dy_neg h1.1, by have := h1.2; omega⟩
theorem Db.eq {a b : UInt64} (h1 : Db N i k a) (h2 : Db M j k b) (e : i = j) : FP.dcmp a b = some .eq := dy_eq h1.1 h2.1 e
theorem Db.up {a : UInt64} (h : Db N i k a) (n : Nat) : Db (N * 2 ^ n) (i * (2 ^ n : Nat)) (k + n) a := ⟨dy_up n h.1, by rw [Int.natAbs_mul, Int.natAbs_natCast]; exact Nat.mul_le_mul_right _ h.2⟩
theorem Db.zero : Db 0 0 0 (0 : UInt64) := ⟨dy_zero, Nat.le_refl _⟩
theorem Db.div2 {a b : UInt64} (e : Nat) (h1 : Db N i k a) (h2 : Db M ((2 ^ e : Nat) : Int) 0 b) (h : N ≤ 9007199254740992 ∧ k + e ≤ 1000) : Db N i (k + e) (FP.ddiv a b) := by
  refine ⟨dy_div h1.1 h2.1 (by have := Nat.two_pow_pos e; omega) ?_ (Nat.le_trans h1.2 h.1) h.2, h1.2⟩
  rw [Nat.zero_add, Nat.pow_add, Int.natCast_mul, Int.mul_assoc, Int.mul_comm ((2 ^ k : Nat) : Int)]
theorem Db.lit {a : UInt64} (s : Bool) (c : Nat) (q : Int) (N : Nat) (i : Int) (k : Nat) (e : val64 a = .fin s c q) (w : signed s (c * 2 ^ (q + k).toNat) = i * ((2 ^ (-(q + (k : Int))).toNat : Nat) : Int) ∧ i.natAbs ≤ N) : Db N i k a := by
  refine ⟨?_, w.2⟩
  unfold Dy; rw [e]; exact w.1
theorem Ib.re {x : Int32} (h : Ib N i x) : Ib N x.toInt x := ⟨rfl, by rw [h.1]; exact h.2⟩
theorem Lb.re {x : Int64} (h : Lb N i x) : Lb N x.toInt x := ⟨rfl, by rw [h.1]; exact h.2⟩
theorem Db.weak {M : Nat} {a : UInt64} (h : Db N i k a) (q : N ≤ M) : Db M i k a := ⟨h.1, Nat.le_trans h.2 q⟩
theorem Lb.weak {M : Nat} {a : Int64} (h : Lb N i a) (q : N ≤ M) : Lb M i a := ⟨h.1, Nat.le_trans h.2 q⟩
theorem Ib.weak {M : Nat} {a : Int32} (h : Ib N i a) (q : N ≤ M) : Ib M i a := ⟨h.1, Nat.le_trans h.2 q⟩
end
end Jvm.OwnFP
namespace Jvm.OwnPlain
open Jvm.OwnFP
theorem own_sh (x : Int32) : Lb 128 (x >>> ((24 : Int32) &&& 31)).toInt64.toInt (x >>> ((24 : Int32) &&& 31)).toInt64 := ⟨rfl, by
  rw [Int32.toInt_toInt64]; have h := Jvm.RoadKit.c_ishr x 24 24 (by decide); have := x.toInt_lt; have := x.le_toInt; omega⟩
end Jvm.OwnPlain
namespace Jvm.Pilot.@@N@@
open Jvm Jvm.ClassFile Sem Op Lib Jvm.Free Jvm.Stand Jvm.LawKit Jvm.RoadKit Bundle Jvm.Pilot.@@N@@.Jvm.D Jvm.OwnGo
theorem wd {a0 : Array Value} {Z : State} (hw : ∀ d ∈ tables_1, d.before a0 Z = true) (k : Nat) (d : Jvm.Cond) (hd : tables_1[k]? = some d) : d.before a0 Z = true := hw _ (List.mem_of_getElem? hd)
theorem pn_law : plainFor x = true := plainFor_of_name (by show plainName "com/example/entalpi/entalpi/fluids/DerivativesAddSeparablePinLaw" = true; first | (simp [plainName, overriddenIn]; done) | decide +kernel)
open Jvm.OwnPlain Jvm.OwnFP
theorem d0_0 : decode method_2_code 0 = .ok (.iload_n 0, 1) := by decide +kernel
theorem d0_1 : decode method_2_code 1 = .ok (.bipush 24, 2) := by decide +kernel
theorem d0_3 : decode method_2_code 3 = .ok (.ishl, 1) := by decide +kernel
theorem d0_4 : decode method_2_code 4 = .ok (.bipush 24, 2) := by decide +kernel
theorem d0_6 : decode method_2_code 6 = .ok (.ishr, 1) := by decide +kernel
theorem d0_7 : decode method_2_code 7 = .ok (.i2l, 1) := by decide +kernel
theorem d0_8 : decode method_2_code 8 = .ok (.lreturn, 1) := by decide +kernel
theorem pd_0 : parseMethodDescriptor "(I)J" = some ⟨[.int], some .long⟩ := by decide +kernel
theorem pn_0 : plainFor (⟨"com/example/entalpi/entalpi/fluids/DerivativesAddSeparablePinLaw", "lo", "(I)J"⟩ : MethodName) = true := plainFor_of_name (by show plainName "com/example/entalpi/entalpi/fluids/DerivativesAddSeparablePinLaw" = true; first | (simp [plainName, overriddenIn]; done) | decide +kernel)
set_option maxRecDepth 65536 in
set_option maxHeartbeats 40000000 in
theorem rm_lo (l : Launch) (Z : State) (a0 : Array Value) (hw : ∀ d ∈ tables_1, d.before a0 Z = true) (ws : List Jvm.Cond) (n : Int32) (h0 : Heap) (n0 : Nat) (Z0 : n0 ≤ h0.size)  :
    Ct l Z (⟨"com/example/entalpi/entalpi/fluids/DerivativesAddSeparablePinLaw", "lo", "(I)J"⟩ : MethodName) method_2_code 1 (some .long) ws ({ frames := 0, cells := 0, slots := 0, locals := 0 } : Room) #[.int n] h0 (fun v h L => ∃ r, v = some (.long r) ∧ Fr n0 L ∧ h = h0 ∧ Lb 128 r.toInt r) := by
  refine Ct.intro pn_0 #[.val (.int n)] (fun _ => by first | (simp [entryFrame, mkF, argsToLocals, Value.category, maxLocals]; done) | rfl) ?_
  intro p e s m below meth c T0 X0 hx hZ hby hml hown hnm hret hlk e0
  have N0 := Fr.nil n0
  refine s_iloadN X0 hx (hb hby d0_0) rfl 1 rfl ?_
  refine s_bipush X0 hx (hb hby d0_1) (24 : Int32) rfl 3 rfl ?_
  refine s_ishl X0 hx (hb hby d0_3) (n <<< ((24 : Int32) &&& 31)) rfl 4 rfl ?_
  refine s_bipush X0 hx (hb hby d0_4) (24 : Int32) rfl 6 rfl ?_
  refine s_ishr X0 hx (hb hby d0_6) ((n <<< ((24 : Int32) &&& 31)) >>> ((24 : Int32) &&& 31)) rfl 7 rfl ?_
  refine s_i2l X0 hx (hb hby d0_7) (((n <<< ((24 : Int32) &&& 31)) >>> ((24 : Int32) &&& 31)).toInt64) rfl 8 rfl ?_
  exact retJ X0 hx hlk hret (hb hby d0_8) e0 ⟨_, rfl, N0, rfl, own_sh _⟩ (by decide) (by decide)
theorem d1_0 : decode method_3_code 0 = .ok (.iload_n 0, 1) := by decide +kernel
theorem d1_1 : decode method_3_code 1 = .ok (.bipush 16, 2) := by decide +kernel
theorem d1_3 : decode method_3_code 3 = .ok (.ishl, 1) := by decide +kernel
theorem d1_4 : decode method_3_code 4 = .ok (.bipush 24, 2) := by decide +kernel
theorem d1_6 : decode method_3_code 6 = .ok (.ishr, 1) := by decide +kernel
theorem d1_7 : decode method_3_code 7 = .ok (.i2l, 1) := by decide +kernel
theorem d1_8 : decode method_3_code 8 = .ok (.lreturn, 1) := by decide +kernel
theorem pd_1 : parseMethodDescriptor "(I)J" = some ⟨[.int], some .long⟩ := by decide +kernel
theorem pn_1 : plainFor (⟨"com/example/entalpi/entalpi/fluids/DerivativesAddSeparablePinLaw", "hi", "(I)J"⟩ : MethodName) = true := plainFor_of_name (by show plainName "com/example/entalpi/entalpi/fluids/DerivativesAddSeparablePinLaw" = true; first | (simp [plainName, overriddenIn]; done) | decide +kernel)
set_option maxRecDepth 65536 in
set_option maxHeartbeats 40000000 in
theorem rm_hi (l : Launch) (Z : State) (a0 : Array Value) (hw : ∀ d ∈ tables_1, d.before a0 Z = true) (ws : List Jvm.Cond) (n : Int32) (h0 : Heap) (n0 : Nat) (Z0 : n0 ≤ h0.size)  :
    Ct l Z (⟨"com/example/entalpi/entalpi/fluids/DerivativesAddSeparablePinLaw", "hi", "(I)J"⟩ : MethodName) method_3_code 1 (some .long) ws ({ frames := 0, cells := 0, slots := 0, locals := 0 } : Room) #[.int n] h0 (fun v h L => ∃ r, v = some (.long r) ∧ Fr n0 L ∧ h = h0 ∧ Lb 128 r.toInt r) := by
  refine Ct.intro pn_1 #[.val (.int n)] (fun _ => by first | (simp [entryFrame, mkF, argsToLocals, Value.category, maxLocals]; done) | rfl) ?_
  intro p e s m below meth c T0 X0 hx hZ hby hml hown hnm hret hlk e0
  have N0 := Fr.nil n0
  refine s_iloadN X0 hx (hb hby d1_0) rfl 1 rfl ?_
  refine s_bipush X0 hx (hb hby d1_1) (16 : Int32) rfl 3 rfl ?_
  refine s_ishl X0 hx (hb hby d1_3) (n <<< ((16 : Int32) &&& 31)) rfl 4 rfl ?_
  refine s_bipush X0 hx (hb hby d1_4) (24 : Int32) rfl 6 rfl ?_
  refine s_ishr X0 hx (hb hby d1_6) ((n <<< ((16 : Int32) &&& 31)) >>> ((24 : Int32) &&& 31)) rfl 7 rfl ?_
  refine s_i2l X0 hx (hb hby d1_7) (((n <<< ((16 : Int32) &&& 31)) >>> ((24 : Int32) &&& 31)).toInt64) rfl 8 rfl ?_
  exact retJ X0 hx hlk hret (hb hby d1_8) e0 ⟨_, rfl, N0, rfl, own_sh _⟩ (by decide) (by decide)
theorem d2_0 : decode prog_7_method_1_code 0 = .ok (.aload_n 0, 1) := by decide +kernel
theorem d2_1 : decode prog_7_method_1_code 1 = .ok (.invokespecial 1, 3) := by decide +kernel
theorem d2_4 : decode prog_7_method_1_code 4 = .ok (.return_, 1) := by decide +kernel
theorem pd_2 : parseMethodDescriptor "()V" = some ⟨[], none⟩ := by decide +kernel
theorem pn_2 : plainFor (⟨"com/example/entalpi/entalpi/fluids/Derivatives", "<init>", "()V"⟩ : MethodName) = true := plainFor_of_name (by show plainName "com/example/entalpi/entalpi/fluids/Derivatives" = true; first | (simp [plainName, overriddenIn]; done) | decide +kernel)
set_option maxRecDepth 65536 in
set_option maxHeartbeats 40000000 in
theorem rm_init (l : Launch) (Z : State) (a0 : Array Value) (hw : ∀ d ∈ tables_1, d.before a0 Z = true) (ws : List Jvm.Cond) (a1 : Addr) (h0 : Heap) (n0 : Nat) (Z0 : n0 ≤ h0.size)  :
    Ct l Z (⟨"com/example/entalpi/entalpi/fluids/Derivatives", "<init>", "()V"⟩ : MethodName) prog_7_method_1_code 1 none ws ({ frames := 1, cells := 0, slots := 0, locals := 12 } : Room) #[.ref a1] h0 (fun v h L => v = none ∧ Fr n0 L ∧ h = h0) := by
  refine Ct.intro pn_2 #[.val (.ref a1)] (fun _ => by first | (simp [entryFrame, mkF, argsToLocals, Value.category, maxLocals]; done) | rfl) ?_
  intro p e s m below meth c T0 X0 hx hZ hby hml hown hnm hret hlk e0
  have N0 := Fr.nil n0
  refine s_aloadN X0 hx (hb hby d2_0) rfl rfl 1 rfl ?_
  obtain ⟨T1, X1, e1, st1⟩ := initO X0 hx hZ hown (wd hw 13 _ rfl) (wd hw 14 _ rfl) (wd hw 15 _ rfl) e0 (g := (mkF m 1 #[.val (.ref a1)] [.ref a1])) rfl (by rw [hml]; rfl) rfl (hb hby d2_1) (by decide) (W := 0) (by show 2 * 0 + _ ≤ _; exact Nat.le_of_eq rfl) (by decide)
  refine Go.via st1 ?_
  show Go p e below _ (T1.setTop (mkF m 4 #[.val (.ref a1)] []))
  exact retV X1 hx hlk hret (hb hby d2_4) e1 ⟨rfl, N0, rfl⟩ (by decide) (by decide)
theorem d4_0 : decode prog_7_method_2_code 0 = .ok (.aload_n 0, 1) := by decide +kernel
theorem d4_1 : decode prog_7_method_2_code 1 = .ok (.dup, 1) := by decide +kernel
theorem d4_2 : decode prog_7_method_2_code 2 = .ok (.getfield 7, 3) := by decide +kernel
theorem d4_5 : decode prog_7_method_2_code 5 = .ok (.dload_n 1, 1) := by decide +kernel
theorem d4_6 : decode prog_7_method_2_code 6 = .ok (.dadd, 1) := by decide +kernel
theorem d4_7 : decode prog_7_method_2_code 7 = .ok (.putfield 7, 3) := by decide +kernel
theorem d4_10 : decode prog_7_method_2_code 10 = .ok (.aload_n 0, 1) := by decide +kernel
theorem d4_11 : decode prog_7_method_2_code 11 = .ok (.dup, 1) := by decide +kernel
theorem d4_12 : decode prog_7_method_2_code 12 = .ok (.getfield 13, 3) := by decide +kernel
theorem d4_15 : decode prog_7_method_2_code 15 = .ok (.dload 9, 2) := by decide +kernel
theorem d4_17 : decode prog_7_method_2_code 17 = .ok (.dload_n 1, 1) := by decide +kernel
theorem d4_18 : decode prog_7_method_2_code 18 = .ok (.dmul, 1) := by decide +kernel
theorem d4_19 : decode prog_7_method_2_code 19 = .ok (.dadd, 1) := by decide +kernel
theorem d4_20 : decode prog_7_method_2_code 20 = .ok (.putfield 13, 3) := by decide +kernel
theorem d4_23 : decode prog_7_method_2_code 23 = .ok (.aload_n 0, 1) := by decide +kernel
theorem d4_24 : decode prog_7_method_2_code 24 = .ok (.dup, 1) := by decide +kernel
theorem d4_25 : decode prog_7_method_2_code 25 = .ok (.getfield 16, 3) := by decide +kernel
theorem d4_28 : decode prog_7_method_2_code 28 = .ok (.dload 9, 2) := by decide +kernel
theorem d4_30 : decode prog_7_method_2_code 30 = .ok (.dload 9, 2) := by decide +kernel
theorem d4_32 : decode prog_7_method_2_code 32 = .ok (.dconst 1, 1) := by decide +kernel
theorem d4_33 : decode prog_7_method_2_code 33 = .ok (.dsub, 1) := by decide +kernel
theorem d4_34 : decode prog_7_method_2_code 34 = .ok (.dmul, 1) := by decide +kernel
theorem d4_35 : decode prog_7_method_2_code 35 = .ok (.dload 11, 2) := by decide +kernel
theorem d4_37 : decode prog_7_method_2_code 37 = .ok (.dadd, 1) := by decide +kernel
theorem d4_38 : decode prog_7_method_2_code 38 = .ok (.dload_n 1, 1) := by decide +kernel
theorem d4_39 : decode prog_7_method_2_code 39 = .ok (.dmul, 1) := by decide +kernel
theorem d4_40 : decode prog_7_method_2_code 40 = .ok (.dadd, 1) := by decide +kernel
theorem d4_41 : decode prog_7_method_2_code 41 = .ok (.putfield 16, 3) := by decide +kernel
theorem d4_44 : decode prog_7_method_2_code 44 = .ok (.aload_n 0, 1) := by decide +kernel
theorem d4_45 : decode prog_7_method_2_code 45 = .ok (.dup, 1) := by decide +kernel
theorem d4_46 : decode prog_7_method_2_code 46 = .ok (.getfield 19, 3) := by decide +kernel
theorem d4_49 : decode prog_7_method_2_code 49 = .ok (.dload_n 3, 1) := by decide +kernel
theorem d4_50 : decode prog_7_method_2_code 50 = .ok (.dload_n 1, 1) := by decide +kernel
theorem d4_51 : decode prog_7_method_2_code 51 = .ok (.dmul, 1) := by decide +kernel
theorem d4_52 : decode prog_7_method_2_code 52 = .ok (.dadd, 1) := by decide +kernel
theorem d4_53 : decode prog_7_method_2_code 53 = .ok (.putfield 19, 3) := by decide +kernel
theorem d4_56 : decode prog_7_method_2_code 56 = .ok (.aload_n 0, 1) := by decide +kernel
theorem d4_57 : decode prog_7_method_2_code 57 = .ok (.dup, 1) := by decide +kernel
theorem d4_58 : decode prog_7_method_2_code 58 = .ok (.getfield 22, 3) := by decide +kernel
theorem d4_61 : decode prog_7_method_2_code 61 = .ok (.dload_n 3, 1) := by decide +kernel
theorem d4_62 : decode prog_7_method_2_code 62 = .ok (.dload_n 3, 1) := by decide +kernel
theorem d4_63 : decode prog_7_method_2_code 63 = .ok (.dconst 1, 1) := by decide +kernel
theorem d4_64 : decode prog_7_method_2_code 64 = .ok (.dsub, 1) := by decide +kernel
theorem d4_65 : decode prog_7_method_2_code 65 = .ok (.dmul, 1) := by decide +kernel
theorem d4_66 : decode prog_7_method_2_code 66 = .ok (.dload 5, 2) := by decide +kernel
theorem d4_68 : decode prog_7_method_2_code 68 = .ok (.dadd, 1) := by decide +kernel
theorem d4_69 : decode prog_7_method_2_code 69 = .ok (.dload_n 1, 1) := by decide +kernel
theorem d4_70 : decode prog_7_method_2_code 70 = .ok (.dmul, 1) := by decide +kernel
theorem d4_71 : decode prog_7_method_2_code 71 = .ok (.dadd, 1) := by decide +kernel
theorem d4_72 : decode prog_7_method_2_code 72 = .ok (.putfield 22, 3) := by decide +kernel
theorem d4_75 : decode prog_7_method_2_code 75 = .ok (.aload_n 0, 1) := by decide +kernel
theorem d4_76 : decode prog_7_method_2_code 76 = .ok (.dup, 1) := by decide +kernel
theorem d4_77 : decode prog_7_method_2_code 77 = .ok (.getfield 25, 3) := by decide +kernel
theorem d4_80 : decode prog_7_method_2_code 80 = .ok (.dload 9, 2) := by decide +kernel
theorem d4_82 : decode prog_7_method_2_code 82 = .ok (.dload_n 3, 1) := by decide +kernel
theorem d4_83 : decode prog_7_method_2_code 83 = .ok (.dmul, 1) := by decide +kernel
theorem d4_84 : decode prog_7_method_2_code 84 = .ok (.dload_n 1, 1) := by decide +kernel
theorem d4_85 : decode prog_7_method_2_code 85 = .ok (.dmul, 1) := by decide +kernel
theorem d4_86 : decode prog_7_method_2_code 86 = .ok (.dadd, 1) := by decide +kernel
theorem d4_87 : decode prog_7_method_2_code 87 = .ok (.putfield 25, 3) := by decide +kernel
theorem d4_90 : decode prog_7_method_2_code 90 = .ok (.aload_n 0, 1) := by decide +kernel
theorem d4_91 : decode prog_7_method_2_code 91 = .ok (.dup, 1) := by decide +kernel
theorem d4_92 : decode prog_7_method_2_code 92 = .ok (.getfield 28, 3) := by decide +kernel
theorem d4_95 : decode prog_7_method_2_code 95 = .ok (.dload_n 3, 1) := by decide +kernel
theorem d4_96 : decode prog_7_method_2_code 96 = .ok (.dload_n 3, 1) := by decide +kernel
theorem d4_97 : decode prog_7_method_2_code 97 = .ok (.dconst 1, 1) := by decide +kernel
theorem d4_98 : decode prog_7_method_2_code 98 = .ok (.dsub, 1) := by decide +kernel
theorem d4_99 : decode prog_7_method_2_code 99 = .ok (.dmul, 1) := by decide +kernel
theorem d4_100 : decode prog_7_method_2_code 100 = .ok (.dload_n 3, 1) := by decide +kernel
theorem d4_101 : decode prog_7_method_2_code 101 = .ok (.ldc2_w 31, 3) := by decide +kernel
theorem d4_104 : decode prog_7_method_2_code 104 = .ok (.dsub, 1) := by decide +kernel
theorem d4_105 : decode prog_7_method_2_code 105 = .ok (.dmul, 1) := by decide +kernel
theorem d4_106 : decode prog_7_method_2_code 106 = .ok (.ldc2_w 33, 3) := by decide +kernel
theorem d4_109 : decode prog_7_method_2_code 109 = .ok (.dload_n 3, 1) := by decide +kernel
theorem d4_110 : decode prog_7_method_2_code 110 = .ok (.dconst 1, 1) := by decide +kernel
theorem d4_111 : decode prog_7_method_2_code 111 = .ok (.dsub, 1) := by decide +kernel
theorem d4_112 : decode prog_7_method_2_code 112 = .ok (.dmul, 1) := by decide +kernel
theorem d4_113 : decode prog_7_method_2_code 113 = .ok (.dload 5, 2) := by decide +kernel
theorem d4_115 : decode prog_7_method_2_code 115 = .ok (.dmul, 1) := by decide +kernel
theorem d4_116 : decode prog_7_method_2_code 116 = .ok (.dadd, 1) := by decide +kernel
theorem d4_117 : decode prog_7_method_2_code 117 = .ok (.dload 7, 2) := by decide +kernel
theorem d4_119 : decode prog_7_method_2_code 119 = .ok (.dadd, 1) := by decide +kernel
theorem d4_120 : decode prog_7_method_2_code 120 = .ok (.dload_n 1, 1) := by decide +kernel
theorem d4_121 : decode prog_7_method_2_code 121 = .ok (.dmul, 1) := by decide +kernel
theorem d4_122 : decode prog_7_method_2_code 122 = .ok (.dadd, 1) := by decide +kernel
theorem d4_123 : decode prog_7_method_2_code 123 = .ok (.putfield 28, 3) := by decide +kernel
theorem d4_126 : decode prog_7_method_2_code 126 = .ok (.return_, 1) := by decide +kernel
theorem pd_4 : parseMethodDescriptor "(DDDDDD)V" = some ⟨[.double, .double, .double, .double, .double, .double], none⟩ := by decide +kernel
theorem pn_4 : plainFor (⟨"com/example/entalpi/entalpi/fluids/Derivatives", "addSeparable", "(DDDDDD)V"⟩ : MethodName) = true := plainFor_of_name (by show plainName "com/example/entalpi/entalpi/fluids/Derivatives" = true; first | (simp [plainName, overriddenIn]; done) | decide +kernel)
theorem dc_4607182418800017408 : Jvm.OwnFP.Db 1 (1) 0 (4607182418800017408 : UInt64) := Jvm.OwnFP.Db.lit false 4503599627370496 (-52) 1 (1) 0 (by decide +kernel) (by decide +kernel)
theorem dc_4611686018427387904 : Jvm.OwnFP.Db 2 (2) 0 (4611686018427387904 : UInt64) := Jvm.OwnFP.Db.lit false 4503599627370496 (-51) 2 (2) 0 (by decide +kernel) (by decide +kernel)
theorem dc_4613937818241073152 : Jvm.OwnFP.Db 3 (3) 0 (4613937818241073152 : UInt64) := Jvm.OwnFP.Db.lit false 6755399441055744 (-51) 3 (3) 0 (by decide +kernel) (by decide +kernel)
set_option maxRecDepth 65536 in
set_option maxHeartbeats 40000000 in
theorem rm_add1 (l : Launch) (Z : State) (a0 : Array Value) (hw : ∀ d ∈ tables_1, d.before a0 Z = true) (ws : List Jvm.Cond) (a1 : Addr) (t k ks kc j js : UInt64) (T K KS KC J JS : Int) (f1 f2 f3 f4 f5 f6 f7 : UInt64) (A1 A2 A3 A4 A5 A6 A7 : Int) (h0 : Heap) (n0 : Nat) (Z0 : n0 ≤ h0.size) (E1 : Exa Z h0 a1 "com/example/entalpi/entalpi/fluids/Derivatives") (g1 : n0 ≤ a1) (F_1 : Fld Z h0 a1 "com/example/entalpi/entalpi/fluids/Derivatives" "alpha" "D" (.double f1)) (F_2 : Fld Z h0 a1 "com/example/entalpi/entalpi/fluids/Derivatives" "tauAlphaTau" "D" (.double f2)) (F_3 : Fld Z h0 a1 "com/example/entalpi/entalpi/fluids/Derivatives" "tauTauAlphaTauTau" "D" (.double f3)) (F_4 : Fld Z h0 a1 "com/example/entalpi/entalpi/fluids/Derivatives" "deltaResidualDelta" "D" (.double f4)) (F_5 : Fld Z h0 a1 "com/example/entalpi/entalpi/fluids/Derivatives" "deltaDeltaResidualDeltaDelta" "D" (.double f5)) (F_6 : Fld Z h0 a1 "com/example/entalpi/entalpi/fluids/Derivatives" "deltaTauResidualDeltaTau" "D" (.double f6)) (F_7 : Fld Z h0 a1 "com/example/entalpi/entalpi/fluids/Derivatives" "deltaDeltaDeltaResidualDeltaDeltaDelta" "D" (.double f7)) (H_1 : Db 0 A1 0 f1) (H_2 : Db 0 A2 0 f2) (H_3 : Db 0 A3 0 f3) (H_4 : Db 0 A4 0 f4) (H_5 : Db 0 A5 0 f5) (H_6 : Db 0 A6 0 f6) (H_7 : Db 0 A7 0 f7) (H_t : Db 32768 T 0 t) (H_k : Db 128 K 0 k) (H_ks : Db 32768 KS 0 ks) (H_kc : Db 2147483648 KC 0 kc) (H_j : Db 32768 J 0 j) (H_js : Db 2147483648 JS 0 js) :
    Ct l Z (⟨"com/example/entalpi/entalpi/fluids/Derivatives", "addSeparable", "(DDDDDD)V"⟩ : MethodName) prog_7_method_2_code 13 none ws ({ frames := 0, cells := 0, slots := 0, locals := 0 } : Room) #[.ref a1, .double t, .double k, .double ks, .double kc, .double j, .double js] h0 (fun v h L => v = none ∧ Fr n0 L ∧ Keep h0 h [a1] ∧ ∃ r1 r2 r3 r4 r5 r6 r7, (Fld Z h a1 "com/example/entalpi/entalpi/fluids/Derivatives" "alpha" "D" (.double r1) ∧ Db 281474976710656 (A1 + T) 0 r1) ∧ (Fld Z h a1 "com/example/entalpi/entalpi/fluids/Derivatives" "tauAlphaTau" "D" (.double r2) ∧ Db 281474976710656 (A2 + J * T) 0 r2) ∧ (Fld Z h a1 "com/example/entalpi/entalpi/fluids/Derivatives" "tauTauAlphaTauTau" "D" (.double r3) ∧ Db 281474976710656 (A3 + (J * (J - 1) + JS) * T) 0 r3) ∧ (Fld Z h a1 "com/example/entalpi/entalpi/fluids/Derivatives" "deltaResidualDelta" "D" (.double r4) ∧ Db 281474976710656 (A4 + K * T) 0 r4) ∧ (Fld Z h a1 "com/example/entalpi/entalpi/fluids/Derivatives" "deltaDeltaResidualDeltaDelta" "D" (.double r5) ∧ Db 281474976710656 (A5 + (K * (K - 1) + KS) * T) 0 r5) ∧ (Fld Z h a1 "com/example/entalpi/entalpi/fluids/Derivatives" "deltaTauResidualDeltaTau" "D" (.double r6) ∧ Db 281474976710656 (A6 + J * K * T) 0 r6) ∧ (Fld Z h a1 "com/example/entalpi/entalpi/fluids/Derivatives" "deltaDeltaDeltaResidualDeltaDeltaDelta" "D" (.double r7) ∧ Db 281474976710656 (A7 + (K * (K - 1) * (K - 2) + 3 * (K - 1) * KS + KC) * T) 0 r7)) := by
  refine Ct.intro pn_4 #[.val (.ref a1), .val (.double t), .second, .val (.double k), .second, .val (.double ks), .second, .val (.double kc), .second, .val (.double j), .second, .val (.double js), .second] (fun _ => by first | (simp [entryFrame, mkF, argsToLocals, Value.category, maxLocals]; done) | rfl) ?_
  intro p e s m below meth c T0 X0 hx hZ hby hml hown hnm hret hlk e0
  have N0 := Fr.nil n0
  have K0 := Keep.refl h0 [a1]
  refine s_aloadN X0 hx (hb hby d4_0) rfl rfl 1 rfl ?_
  refine s_dup X0 hx (hb hby d4_1) rfl 2 rfl ?_
  obtain ⟨T2, X2, e2, st2⟩ := getF X0 hx hZ hown (host := "") (Or.inl (wd hw 21 _ rfl)) Via.refl e0 F_1 (g := (mkF m 2 #[.val (.ref a1), .val (.double t), .second, .val (.double k), .second, .val (.double ks), .second, .val (.double kc), .second, .val (.double j), .second, .val (.double js), .second] [.ref a1, .ref a1])) rfl rfl (hb hby d4_2)
  refine Go.via st2 ?_
  show Go p e below _ (T2.setTop (mkF m 5 #[.val (.ref a1), .val (.double t), .second, .val (.double k), .second, .val (.double ks), .second, .val (.double kc), .second, .val (.double j), .second, .val (.double js), .second] [.double f1, .ref a1]))
  refine s_dloadN X2 hx (hb hby d4_5) rfl 6 rfl ?_
  have Dd3 := Db.add H_1 H_t (by decide)
  obtain ⟨d3, h_d3⟩ : ∃ v, FP.dadd f1 t = v := ⟨_, rfl⟩
  rw [h_d3] at Dd3
  refine s_dadd X2 hx (hb hby d4_6) d3 h_d3 Dd3.nn 7 rfl ?_
  obtain ⟨T4, h4, X4, e4, W4, st4⟩ := putF X2 hx hZ hown (host := "") (Or.inl (wd hw 21 _ rfl)) Via.refl e2 F_1 E1 (Or.inl (wd hw 22 _ rfl)) (wd hw 8 _ rfl) (ty := .double) (by decide) rfl rfl (g := (mkF m 7 #[.val (.ref a1), .val (.double t), .second, .val (.double k), .second, .val (.double ks), .second, .val (.double kc), .second, .val (.double j), .second, .val (.double js), .second] [.double d3, .ref a1])) rfl rfl (hb hby d4_7)
  have N4 := Fr.snoc X4 N0 g1
  have F5 := F_1.same W4
  have F6 := E1.wr W4
  have F7 := F_2.other W4 (Or.inr (slot_ne (a0 := a0) (t := .double) (t' := .double) (Or.inl (wd hw 24 _ rfl)) (Or.inl (wd hw 22 _ rfl)) (by decide) (by decide) (by decide)))
  have F8 := F_3.other W4 (Or.inr (slot_ne (a0 := a0) (t := .double) (t' := .double) (Or.inl (wd hw 26 _ rfl)) (Or.inl (wd hw 22 _ rfl)) (by decide) (by decide) (by decide)))
  have F9 := F_4.other W4 (Or.inr (slot_ne (a0 := a0) (t := .double) (t' := .double) (Or.inl (wd hw 28 _ rfl)) (Or.inl (wd hw 22 _ rfl)) (by decide) (by decide) (by decide)))
  have F10 := F_5.other W4 (Or.inr (slot_ne (a0 := a0) (t := .double) (t' := .double) (Or.inl (wd hw 30 _ rfl)) (Or.inl (wd hw 22 _ rfl)) (by decide) (by decide) (by decide)))
  have F11 := F_6.other W4 (Or.inr (slot_ne (a0 := a0) (t := .double) (t' := .double) (Or.inl (wd hw 32 _ rfl)) (Or.inl (wd hw 22 _ rfl)) (by decide) (by decide) (by decide)))
  have F12 := F_7.other W4 (Or.inr (slot_ne (a0 := a0) (t := .double) (t' := .double) (Or.inl (wd hw 34 _ rfl)) (Or.inl (wd hw 22 _ rfl)) (by decide) (by decide) (by decide)))
  have Z13 : n0 ≤ h4.size := by rw [W4.size]; exact Z0
  have K14 := K0.wr W4 (Or.inl (by simp))
  refine Go.via st4 ?_
  show Go p e below _ (T4.setTop (mkF m 10 #[.val (.ref a1), .val (.double t), .second, .val (.double k), .second, .val (.double ks), .second, .val (.double kc), .second, .val (.double j), .second, .val (.double js), .second] []))
  refine s_aloadN X4 hx (hb hby d4_10) rfl rfl 11 rfl ?_
  refine s_dup X4 hx (hb hby d4_11) rfl 12 rfl ?_
  obtain ⟨T15, X15, e15, st15⟩ := getF X4 hx hZ hown (host := "") (Or.inl (wd hw 23 _ rfl)) Via.refl e4 F7 (g := (mkF m 12 #[.val (.ref a1), .val (.double t), .second, .val (.double k), .second, .val (.double ks), .second, .val (.double kc), .second, .val (.double j), .second, .val (.double js), .second] [.ref a1, .ref a1])) rfl rfl (hb hby d4_12)
  refine Go.via st15 ?_
  show Go p e below _ (T15.setTop (mkF m 15 #[.val (.ref a1), .val (.double t), .second, .val (.double k), .second, .val (.double ks), .second, .val (.double kc), .second, .val (.double j), .second, .val (.double js), .second] [.double f2, .ref a1]))
  refine s_dload X15 hx (hb hby d4_15) rfl 17 rfl ?_
  refine s_dloadN X15 hx (hb hby d4_17) rfl 18 rfl ?_
  have Dd16 := Db.mul H_j H_t (by decide)
  obtain ⟨d16, h_d16⟩ : ∃ v, FP.dmul j t = v := ⟨_, rfl⟩
  rw [h_d16] at Dd16
  refine s_dmul X15 hx (hb hby d4_18) d16 h_d16 Dd16.nn 19 rfl ?_
  have Dd17 := Db.add H_2 Dd16 (by decide)
  obtain ⟨d17, h_d17⟩ : ∃ v, FP.dadd f2 d16 = v := ⟨_, rfl⟩
  rw [h_d17] at Dd17
  refine s_dadd X15 hx (hb hby d4_19) d17 h_d17 Dd17.nn 20 rfl ?_
  obtain ⟨T18, h18, X18, e18, W18, st18⟩ := putF X15 hx hZ hown (host := "") (Or.inl (wd hw 23 _ rfl)) Via.refl e15 F7 F6 (Or.inl (wd hw 24 _ rfl)) (wd hw 8 _ rfl) (ty := .double) (by decide) rfl rfl (g := (mkF m 20 #[.val (.ref a1), .val (.double t), .second, .val (.double k), .second, .val (.double ks), .second, .val (.double kc), .second, .val (.double j), .second, .val (.double js), .second] [.double d17, .ref a1])) rfl rfl (hb hby d4_20)
  have N18 := Fr.snoc X18 N4 g1
  have F19 := F7.same W18
  have F20 := F6.wr W18
  have F21 := F5.other W18 (Or.inr (slot_ne (a0 := a0) (t := .double) (t' := .double) (Or.inl (wd hw 22 _ rfl)) (Or.inl (wd hw 24 _ rfl)) (by decide) (by decide) (by decide)))
  have F22 := F8.other W18 (Or.inr (slot_ne (a0 := a0) (t := .double) (t' := .double) (Or.inl (wd hw 26 _ rfl)) (Or.inl (wd hw 24 _ rfl)) (by decide) (by decide) (by decide)))
  have F23 := F9.other W18 (Or.inr (slot_ne (a0 := a0) (t := .double) (t' := .double) (Or.inl (wd hw 28 _ rfl)) (Or.inl (wd hw 24 _ rfl)) (by decide) (by decide) (by decide)))
  have F24 := F10.other W18 (Or.inr (slot_ne (a0 := a0) (t := .double) (t' := .double) (Or.inl (wd hw 30 _ rfl)) (Or.inl (wd hw 24 _ rfl)) (by decide) (by decide) (by decide)))
  have F25 := F11.other W18 (Or.inr (slot_ne (a0 := a0) (t := .double) (t' := .double) (Or.inl (wd hw 32 _ rfl)) (Or.inl (wd hw 24 _ rfl)) (by decide) (by decide) (by decide)))
  have F26 := F12.other W18 (Or.inr (slot_ne (a0 := a0) (t := .double) (t' := .double) (Or.inl (wd hw 34 _ rfl)) (Or.inl (wd hw 24 _ rfl)) (by decide) (by decide) (by decide)))
  have Z27 : n0 ≤ h18.size := by rw [W18.size]; exact Z13
  have K28 := K14.wr W18 (Or.inl (by simp))
  refine Go.via st18 ?_
  show Go p e below _ (T18.setTop (mkF m 23 #[.val (.ref a1), .val (.double t), .second, .val (.double k), .second, .val (.double ks), .second, .val (.double kc), .second, .val (.double j), .second, .val (.double js), .second] []))
  refine s_aloadN X18 hx (hb hby d4_23) rfl rfl 24 rfl ?_
  refine s_dup X18 hx (hb hby d4_24) rfl 25 rfl ?_
  obtain ⟨T29, X29, e29, st29⟩ := getF X18 hx hZ hown (host := "") (Or.inl (wd hw 25 _ rfl)) Via.refl e18 F22 (g := (mkF m 25 #[.val (.ref a1), .val (.double t), .second, .val (.double k), .second, .val (.double ks), .second, .val (.double kc), .second, .val (.double j), .second, .val (.double js), .second] [.ref a1, .ref a1])) rfl rfl (hb hby d4_25)
  refine Go.via st29 ?_
  show Go p e below _ (T29.setTop (mkF m 28 #[.val (.ref a1), .val (.double t), .second, .val (.double k), .second, .val (.double ks), .second, .val (.double kc), .second, .val (.double j), .second, .val (.double js), .second] [.double f3, .ref a1]))
  refine s_dload X29 hx (hb hby d4_28) rfl 30 rfl ?_
  refine s_dload X29 hx (hb hby d4_30) rfl 32 rfl ?_
  refine s_dconst1 X29 hx (hb hby d4_32) (4607182418800017408 : UInt64) rfl 33 rfl ?_
  have Dd30 := Db.sub H_j dc_4607182418800017408 (by decide)
  obtain ⟨d30, h_d30⟩ : ∃ v, FP.dsub j (4607182418800017408 : UInt64) = v := ⟨_, rfl⟩
  rw [h_d30] at Dd30
  refine s_dsub X29 hx (hb hby d4_33) d30 h_d30 Dd30.nn 34 rfl ?_
  have Dd31 := Db.mul H_j Dd30 (by decide)
  obtain ⟨d31, h_d31⟩ : ∃ v, FP.dmul j d30 = v := ⟨_, rfl⟩
  rw [h_d31] at Dd31
  refine s_dmul X29 hx (hb hby d4_34) d31 h_d31 Dd31.nn 35 rfl ?_
  refine s_dload X29 hx (hb hby d4_35) rfl 37 rfl ?_
  have Dd32 := Db.add Dd31 H_js (by decide)
  obtain ⟨d32, h_d32⟩ : ∃ v, FP.dadd d31 js = v := ⟨_, rfl⟩
  rw [h_d32] at Dd32
  refine s_dadd X29 hx (hb hby d4_37) d32 h_d32 Dd32.nn 38 rfl ?_
  refine s_dloadN X29 hx (hb hby d4_38) rfl 39 rfl ?_
  have Dd33 := Db.mul Dd32 H_t (by decide)
  obtain ⟨d33, h_d33⟩ : ∃ v, FP.dmul d32 t = v := ⟨_, rfl⟩
  rw [h_d33] at Dd33
  refine s_dmul X29 hx (hb hby d4_39) d33 h_d33 Dd33.nn 40 rfl ?_
  have Dd34 := Db.add H_3 Dd33 (by decide)
  obtain ⟨d34, h_d34⟩ : ∃ v, FP.dadd f3 d33 = v := ⟨_, rfl⟩
  rw [h_d34] at Dd34
  refine s_dadd X29 hx (hb hby d4_40) d34 h_d34 Dd34.nn 41 rfl ?_
  obtain ⟨T35, h35, X35, e35, W35, st35⟩ := putF X29 hx hZ hown (host := "") (Or.inl (wd hw 25 _ rfl)) Via.refl e29 F22 F20 (Or.inl (wd hw 26 _ rfl)) (wd hw 8 _ rfl) (ty := .double) (by decide) rfl rfl (g := (mkF m 41 #[.val (.ref a1), .val (.double t), .second, .val (.double k), .second, .val (.double ks), .second, .val (.double kc), .second, .val (.double j), .second, .val (.double js), .second] [.double d34, .ref a1])) rfl rfl (hb hby d4_41)
  have N35 := Fr.snoc X35 N18 g1
  have F36 := F22.same W35
  have F37 := F20.wr W35
  have F38 := F21.other W35 (Or.inr (slot_ne (a0 := a0) (t := .double) (t' := .double) (Or.inl (wd hw 22 _ rfl)) (Or.inl (wd hw 26 _ rfl)) (by decide) (by decide) (by decide)))
  have F39 := F19.other W35 (Or.inr (slot_ne (a0 := a0) (t := .double) (t' := .double) (Or.inl (wd hw 24 _ rfl)) (Or.inl (wd hw 26 _ rfl)) (by decide) (by decide) (by decide)))
  have F40 := F23.other W35 (Or.inr (slot_ne (a0 := a0) (t := .double) (t' := .double) (Or.inl (wd hw 28 _ rfl)) (Or.inl (wd hw 26 _ rfl)) (by decide) (by decide) (by decide)))
  have F41 := F24.other W35 (Or.inr (slot_ne (a0 := a0) (t := .double) (t' := .double) (Or.inl (wd hw 30 _ rfl)) (Or.inl (wd hw 26 _ rfl)) (by decide) (by decide) (by decide)))
  have F42 := F25.other W35 (Or.inr (slot_ne (a0 := a0) (t := .double) (t' := .double) (Or.inl (wd hw 32 _ rfl)) (Or.inl (wd hw 26 _ rfl)) (by decide) (by decide) (by decide)))
  have F43 := F26.other W35 (Or.inr (slot_ne (a0 := a0) (t := .double) (t' := .double) (Or.inl (wd hw 34 _ rfl)) (Or.inl (wd hw 26 _ rfl)) (by decide) (by decide) (by decide)))
  have Z44 : n0 ≤ h35.size := by rw [W35.size]; exact Z27
  have K45 := K28.wr W35 (Or.inl (by simp))
  refine Go.via st35 ?_
  show Go p e below _ (T35.setTop (mkF m 44 #[.val (.ref a1), .val (.double t), .second, .val (.double k), .second, .val (.double ks), .second, .val (.double kc), .second, .val (.double j), .second, .val (.double js), .second] []))
  refine s_aloadN X35 hx (hb hby d4_44) rfl rfl 45 rfl ?_
  refine s_dup X35 hx (hb hby d4_45) rfl 46 rfl ?_
  obtain ⟨T46, X46, e46, st46⟩ := getF X35 hx hZ hown (host := "") (Or.inl (wd hw 27 _ rfl)) Via.refl e35 F40 (g := (mkF m 46 #[.val (.ref a1), .val (.double t), .second, .val (.double k), .second, .val (.double ks), .second, .val (.double kc), .second, .val (.double j), .second, .val (.double js), .second] [.ref a1, .ref a1])) rfl rfl (hb hby d4_46)
  refine Go.via st46 ?_
  show Go p e below _ (T46.setTop (mkF m 49 #[.val (.ref a1), .val (.double t), .second, .val (.double k), .second, .val (.double ks), .second, .val (.double kc), .second, .val (.double j), .second, .val (.double js), .second] [.double f4, .ref a1]))
  refine s_dloadN X46 hx (hb hby d4_49) rfl 50 rfl ?_
  refine s_dloadN X46 hx (hb hby d4_50) rfl 51 rfl ?_
  have Dd47 := Db.mul H_k H_t (by decide)
  obtain ⟨d47, h_d47⟩ : ∃ v, FP.dmul k t = v := ⟨_, rfl⟩
  rw [h_d47] at Dd47
  refine s_dmul X46 hx (hb hby d4_51) d47 h_d47 Dd47.nn 52 rfl ?_
  have Dd48 := Db.add H_4 Dd47 (by decide)
  obtain ⟨d48, h_d48⟩ : ∃ v, FP.dadd f4 d47 = v := ⟨_, rfl⟩
  rw [h_d48] at Dd48
  refine s_dadd X46 hx (hb hby d4_52) d48 h_d48 Dd48.nn 53 rfl ?_
  obtain ⟨T49, h49, X49, e49, W49, st49⟩ := putF X46 hx hZ hown (host := "") (Or.inl (wd hw 27 _ rfl)) Via.refl e46 F40 F37 (Or.inl (wd hw 28 _ rfl)) (wd hw 8 _ rfl) (ty := .double) (by decide) rfl rfl (g := (mkF m 53 #[.val (.ref a1), .val (.double t), .second, .val (.double k), .second, .val (.double ks), .second, .val (.double kc), .second, .val (.double j), .second, .val (.double js), .second] [.double d48, .ref a1])) rfl rfl (hb hby d4_53)
  have N49 := Fr.snoc X49 N35 g1
  have F50 := F40.same W49
  have F51 := F37.wr W49
  have F52 := F38.other W49 (Or.inr (slot_ne (a0 := a0) (t := .double) (t' := .double) (Or.inl (wd hw 22 _ rfl)) (Or.inl (wd hw 28 _ rfl)) (by decide) (by decide) (by decide)))
  have F53 := F39.other W49 (Or.inr (slot_ne (a0 := a0) (t := .double) (t' := .double) (Or.inl (wd hw 24 _ rfl)) (Or.inl (wd hw 28 _ rfl)) (by decide) (by decide) (by decide)))
  have F54 := F36.other W49 (Or.inr (slot_ne (a0 := a0) (t := .double) (t' := .double) (Or.inl (wd hw 26 _ rfl)) (Or.inl (wd hw 28 _ rfl)) (by decide) (by decide) (by decide)))
  have F55 := F41.other W49 (Or.inr (slot_ne (a0 := a0) (t := .double) (t' := .double) (Or.inl (wd hw 30 _ rfl)) (Or.inl (wd hw 28 _ rfl)) (by decide) (by decide) (by decide)))
  have F56 := F42.other W49 (Or.inr (slot_ne (a0 := a0) (t := .double) (t' := .double) (Or.inl (wd hw 32 _ rfl)) (Or.inl (wd hw 28 _ rfl)) (by decide) (by decide) (by decide)))
  have F57 := F43.other W49 (Or.inr (slot_ne (a0 := a0) (t := .double) (t' := .double) (Or.inl (wd hw 34 _ rfl)) (Or.inl (wd hw 28 _ rfl)) (by decide) (by decide) (by decide)))
  have Z58 : n0 ≤ h49.size := by rw [W49.size]; exact Z44
  have K59 := K45.wr W49 (Or.inl (by simp))
  refine Go.via st49 ?_
  show Go p e below _ (T49.setTop (mkF m 56 #[.val (.ref a1), .val (.double t), .second, .val (.double k), .second, .val (.double ks), .second, .val (.double kc), .second, .val (.double j), .second, .val (.double js), .second] []))
  refine s_aloadN X49 hx (hb hby d4_56) rfl rfl 57 rfl ?_
  refine s_dup X49 hx (hb hby d4_57) rfl 58 rfl ?_
  obtain ⟨T60, X60, e60, st60⟩ := getF X49 hx hZ hown (host := "") (Or.inl (wd hw 29 _ rfl)) Via.refl e49 F55 (g := (mkF m 58 #[.val (.ref a1), .val (.double t), .second, .val (.double k), .second, .val (.double ks), .second, .val (.double kc), .second, .val (.double j), .second, .val (.double js), .second] [.ref a1, .ref a1])) rfl rfl (hb hby d4_58)
  refine Go.via st60 ?_
  show Go p e below _ (T60.setTop (mkF m 61 #[.val (.ref a1), .val (.double t), .second, .val (.double k), .second, .val (.double ks), .second, .val (.double kc), .second, .val (.double j), .second, .val (.double js), .second] [.double f5, .ref a1]))
  refine s_dloadN X60 hx (hb hby d4_61) rfl 62 rfl ?_
  refine s_dloadN X60 hx (hb hby d4_62) rfl 63 rfl ?_
  refine s_dconst1 X60 hx (hb hby d4_63) (4607182418800017408 : UInt64) rfl 64 rfl ?_
  have Dd61 := Db.sub H_k dc_4607182418800017408 (by decide)
  obtain ⟨d61, h_d61⟩ : ∃ v, FP.dsub k (4607182418800017408 : UInt64) = v := ⟨_, rfl⟩
  rw [h_d61] at Dd61
  refine s_dsub X60 hx (hb hby d4_64) d61 h_d61 Dd61.nn 65 rfl ?_
  have Dd62 := Db.mul H_k Dd61 (by decide)
  obtain ⟨d62, h_d62⟩ : ∃ v, FP.dmul k d61 = v := ⟨_, rfl⟩
  rw [h_d62] at Dd62
  refine s_dmul X60 hx (hb hby d4_65) d62 h_d62 Dd62.nn 66 rfl ?_
  refine s_dload X60 hx (hb hby d4_66) rfl 68 rfl ?_
  have Dd63 := Db.add Dd62 H_ks (by decide)
  obtain ⟨d63, h_d63⟩ : ∃ v, FP.dadd d62 ks = v := ⟨_, rfl⟩
  rw [h_d63] at Dd63
  refine s_dadd X60 hx (hb hby d4_68) d63 h_d63 Dd63.nn 69 rfl ?_
  refine s_dloadN X60 hx (hb hby d4_69) rfl 70 rfl ?_
  have Dd64 := Db.mul Dd63 H_t (by decide)
  obtain ⟨d64, h_d64⟩ : ∃ v, FP.dmul d63 t = v := ⟨_, rfl⟩
  rw [h_d64] at Dd64
  refine s_dmul X60 hx (hb hby d4_70) d64 h_d64 Dd64.nn 71 rfl ?_
  have Dd65 := Db.add H_5 Dd64 (by decide)
  obtain ⟨d65, h_d65⟩ : ∃ v, FP.dadd f5 d64 = v := ⟨_, rfl⟩
  rw [h_d65] at Dd65
  refine s_dadd X60 hx (hb hby d4_71) d65 h_d65 Dd65.nn 72 rfl ?_
  obtain ⟨T66, h66, X66, e66, W66, st66⟩ := putF X60 hx hZ hown (host := "") (Or.inl (wd hw 29 _ rfl)) Via.refl e60 F55 F51 (Or.inl (wd hw 30 _ rfl)) (wd hw 8 _ rfl) (ty := .double) (by decide) rfl rfl (g := (mkF m 72 #[.val (.ref a1), .val (.double t), .second, .val (.double k), .second, .val (.double ks), .second, .val (.double kc), .second, .val (.double j), .second, .val (.double js), .second] [.double d65, .ref a1])) rfl rfl (hb hby d4_72)
  have N66 := Fr.snoc X66 N49 g1
  have F67 := F55.same W66
  have F68 := F51.wr W66
  have F69 := F52.other W66 (Or.inr (slot_ne (a0 := a0) (t := .double) (t' := .double) (Or.inl (wd hw 22 _ rfl)) (Or.inl (wd hw 30 _ rfl)) (by decide) (by decide) (by decide)))
  have F70 := F53.other W66 (Or.inr (slot_ne (a0 := a0) (t := .double) (t' := .double) (Or.inl (wd hw 24 _ rfl)) (Or.inl (wd hw 30 _ rfl)) (by decide) (by decide) (by decide)))
  have F71 := F54.other W66 (Or.inr (slot_ne (a0 := a0) (t := .double) (t' := .double) (Or.inl (wd hw 26 _ rfl)) (Or.inl (wd hw 30 _ rfl)) (by decide) (by decide) (by decide)))
  have F72 := F50.other W66 (Or.inr (slot_ne (a0 := a0) (t := .double) (t' := .double) (Or.inl (wd hw 28 _ rfl)) (Or.inl (wd hw 30 _ rfl)) (by decide) (by decide) (by decide)))
  have F73 := F56.other W66 (Or.inr (slot_ne (a0 := a0) (t := .double) (t' := .double) (Or.inl (wd hw 32 _ rfl)) (Or.inl (wd hw 30 _ rfl)) (by decide) (by decide) (by decide)))
  have F74 := F57.other W66 (Or.inr (slot_ne (a0 := a0) (t := .double) (t' := .double) (Or.inl (wd hw 34 _ rfl)) (Or.inl (wd hw 30 _ rfl)) (by decide) (by decide) (by decide)))
  have Z75 : n0 ≤ h66.size := by rw [W66.size]; exact Z58
  have K76 := K59.wr W66 (Or.inl (by simp))
  refine Go.via st66 ?_
  show Go p e below _ (T66.setTop (mkF m 75 #[.val (.ref a1), .val (.double t), .second, .val (.double k), .second, .val (.double ks), .second, .val (.double kc), .second, .val (.double j), .second, .val (.double js), .second] []))
  refine s_aloadN X66 hx (hb hby d4_75) rfl rfl 76 rfl ?_
  refine s_dup X66 hx (hb hby d4_76) rfl 77 rfl ?_
  obtain ⟨T77, X77, e77, st77⟩ := getF X66 hx hZ hown (host := "") (Or.inl (wd hw 31 _ rfl)) Via.refl e66 F73 (g := (mkF m 77 #[.val (.ref a1), .val (.double t), .second, .val (.double k), .second, .val (.double ks), .second, .val (.double kc), .second, .val (.double j), .second, .val (.double js), .second] [.ref a1, .ref a1])) rfl rfl (hb hby d4_77)
  refine Go.via st77 ?_
  show Go p e below _ (T77.setTop (mkF m 80 #[.val (.ref a1), .val (.double t), .second, .val (.double k), .second, .val (.double ks), .second, .val (.double kc), .second, .val (.double j), .second, .val (.double js), .second] [.double f6, .ref a1]))
  refine s_dload X77 hx (hb hby d4_80) rfl 82 rfl ?_
  refine s_dloadN X77 hx (hb hby d4_82) rfl 83 rfl ?_
  have Dd78 := Db.mul H_j H_k (by decide)
  obtain ⟨d78, h_d78⟩ : ∃ v, FP.dmul j k = v := ⟨_, rfl⟩
  rw [h_d78] at Dd78
  refine s_dmul X77 hx (hb hby d4_83) d78 h_d78 Dd78.nn 84 rfl ?_
  refine s_dloadN X77 hx (hb hby d4_84) rfl 85 rfl ?_
  have Dd79 := Db.mul Dd78 H_t (by decide)
  obtain ⟨d79, h_d79⟩ : ∃ v, FP.dmul d78 t = v := ⟨_, rfl⟩
  rw [h_d79] at Dd79
  refine s_dmul X77 hx (hb hby d4_85) d79 h_d79 Dd79.nn 86 rfl ?_
  have Dd80 := Db.add H_6 Dd79 (by decide)
  obtain ⟨d80, h_d80⟩ : ∃ v, FP.dadd f6 d79 = v := ⟨_, rfl⟩
  rw [h_d80] at Dd80
  refine s_dadd X77 hx (hb hby d4_86) d80 h_d80 Dd80.nn 87 rfl ?_
  obtain ⟨T81, h81, X81, e81, W81, st81⟩ := putF X77 hx hZ hown (host := "") (Or.inl (wd hw 31 _ rfl)) Via.refl e77 F73 F68 (Or.inl (wd hw 32 _ rfl)) (wd hw 8 _ rfl) (ty := .double) (by decide) rfl rfl (g := (mkF m 87 #[.val (.ref a1), .val (.double t), .second, .val (.double k), .second, .val (.double ks), .second, .val (.double kc), .second, .val (.double j), .second, .val (.double js), .second] [.double d80, .ref a1])) rfl rfl (hb hby d4_87)
  have N81 := Fr.snoc X81 N66 g1
  have F82 := F73.same W81
  have F83 := F68.wr W81
  have F84 := F69.other W81 (Or.inr (slot_ne (a0 := a0) (t := .double) (t' := .double) (Or.inl (wd hw 22 _ rfl)) (Or.inl (wd hw 32 _ rfl)) (by decide) (by decide) (by decide)))
  have F85 := F70.other W81 (Or.inr (slot_ne (a0 := a0) (t := .double) (t' := .double) (Or.inl (wd hw 24 _ rfl)) (Or.inl (wd hw 32 _ rfl)) (by decide) (by decide) (by decide)))
  have F86 := F71.other W81 (Or.inr (slot_ne (a0 := a0) (t := .double) (t' := .double) (Or.inl (wd hw 26 _ rfl)) (Or.inl (wd hw 32 _ rfl)) (by decide) (by decide) (by decide)))
  have F87 := F72.other W81 (Or.inr (slot_ne (a0 := a0) (t := .double) (t' := .double) (Or.inl (wd hw 28 _ rfl)) (Or.inl (wd hw 32 _ rfl)) (by decide) (by decide) (by decide)))
  have F88 := F67.other W81 (Or.inr (slot_ne (a0 := a0) (t := .double) (t' := .double) (Or.inl (wd hw 30 _ rfl)) (Or.inl (wd hw 32 _ rfl)) (by decide) (by decide) (by decide)))
  have F89 := F74.other W81 (Or.inr (slot_ne (a0 := a0) (t := .double) (t' := .double) (Or.inl (wd hw 34 _ rfl)) (Or.inl (wd hw 32 _ rfl)) (by decide) (by decide) (by decide)))
  have Z90 : n0 ≤ h81.size := by rw [W81.size]; exact Z75
  have K91 := K76.wr W81 (Or.inl (by simp))
  refine Go.via st81 ?_
  show Go p e below _ (T81.setTop (mkF m 90 #[.val (.ref a1), .val (.double t), .second, .val (.double k), .second, .val (.double ks), .second, .val (.double kc), .second, .val (.double j), .second, .val (.double js), .second] []))
  refine s_aloadN X81 hx (hb hby d4_90) rfl rfl 91 rfl ?_
  refine s_dup X81 hx (hb hby d4_91) rfl 92 rfl ?_
  obtain ⟨T92, X92, e92, st92⟩ := getF X81 hx hZ hown (host := "") (Or.inl (wd hw 33 _ rfl)) Via.refl e81 F89 (g := (mkF m 92 #[.val (.ref a1), .val (.double t), .second, .val (.double k), .second, .val (.double ks), .second, .val (.double kc), .second, .val (.double j), .second, .val (.double js), .second] [.ref a1, .ref a1])) rfl rfl (hb hby d4_92)
  refine Go.via st92 ?_
  show Go p e below _ (T92.setTop (mkF m 95 #[.val (.ref a1), .val (.double t), .second, .val (.double k), .second, .val (.double ks), .second, .val (.double kc), .second, .val (.double j), .second, .val (.double js), .second] [.double f7, .ref a1]))
  refine s_dloadN X92 hx (hb hby d4_95) rfl 96 rfl ?_
  refine s_dloadN X92 hx (hb hby d4_96) rfl 97 rfl ?_
  refine s_dconst1 X92 hx (hb hby d4_97) (4607182418800017408 : UInt64) rfl 98 rfl ?_
  have Dd93 := Db.sub H_k dc_4607182418800017408 (by decide)
  obtain ⟨d93, h_d93⟩ : ∃ v, FP.dsub k (4607182418800017408 : UInt64) = v := ⟨_, rfl⟩
  rw [h_d93] at Dd93
  refine s_dsub X92 hx (hb hby d4_98) d93 h_d93 Dd93.nn 99 rfl ?_
  have Dd94 := Db.mul H_k Dd93 (by decide)
  obtain ⟨d94, h_d94⟩ : ∃ v, FP.dmul k d93 = v := ⟨_, rfl⟩
  rw [h_d94] at Dd94
  refine s_dmul X92 hx (hb hby d4_99) d94 h_d94 Dd94.nn 100 rfl ?_
  refine s_dloadN X92 hx (hb hby d4_100) rfl 101 rfl ?_
  refine s_ldc2D X92 hx (hb hby d4_101) hZ hown (wd hw 35 _ rfl) 104 rfl ?_
  have Dd95 := Db.sub H_k dc_4611686018427387904 (by decide)
  obtain ⟨d95, h_d95⟩ : ∃ v, FP.dsub k (4611686018427387904 : UInt64) = v := ⟨_, rfl⟩
  rw [h_d95] at Dd95
  refine s_dsub X92 hx (hb hby d4_104) d95 h_d95 Dd95.nn 105 rfl ?_
  have Dd96 := Db.mul Dd94 Dd95 (by decide)
  obtain ⟨d96, h_d96⟩ : ∃ v, FP.dmul d94 d95 = v := ⟨_, rfl⟩
  rw [h_d96] at Dd96
  refine s_dmul X92 hx (hb hby d4_105) d96 h_d96 Dd96.nn 106 rfl ?_
  refine s_ldc2D X92 hx (hb hby d4_106) hZ hown (wd hw 36 _ rfl) 109 rfl ?_
  refine s_dloadN X92 hx (hb hby d4_109) rfl 110 rfl ?_
  refine s_dconst1 X92 hx (hb hby d4_110) (4607182418800017408 : UInt64) rfl 111 rfl ?_
  have Dd97 := Db.sub H_k dc_4607182418800017408 (by decide)
  obtain ⟨d97, h_d97⟩ : ∃ v, FP.dsub k (4607182418800017408 : UInt64) = v := ⟨_, rfl⟩
  rw [h_d97] at Dd97
  refine s_dsub X92 hx (hb hby d4_111) d97 h_d97 Dd97.nn 112 rfl ?_
  have Dd98 := Db.mul dc_4613937818241073152 Dd97 (by decide)
  obtain ⟨d98, h_d98⟩ : ∃ v, FP.dmul (4613937818241073152 : UInt64) d97 = v := ⟨_, rfl⟩
  rw [h_d98] at Dd98
  refine s_dmul X92 hx (hb hby d4_112) d98 h_d98 Dd98.nn 113 rfl ?_
  refine s_dload X92 hx (hb hby d4_113) rfl 115 rfl ?_
  have Dd99 := Db.mul Dd98 H_ks (by decide)
  obtain ⟨d99, h_d99⟩ : ∃ v, FP.dmul d98 ks = v := ⟨_, rfl⟩
  rw [h_d99] at Dd99
  refine s_dmul X92 hx (hb hby d4_115) d99 h_d99 Dd99.nn 116 rfl ?_
  have Dd100 := Db.add Dd96 Dd99 (by decide)
  obtain ⟨d100, h_d100⟩ : ∃ v, FP.dadd d96 d99 = v := ⟨_, rfl⟩
  rw [h_d100] at Dd100
  refine s_dadd X92 hx (hb hby d4_116) d100 h_d100 Dd100.nn 117 rfl ?_
  refine s_dload X92 hx (hb hby d4_117) rfl 119 rfl ?_
  have Dd101 := Db.add Dd100 H_kc (by decide)
  obtain ⟨d101, h_d101⟩ : ∃ v, FP.dadd d100 kc = v := ⟨_, rfl⟩
  rw [h_d101] at Dd101
  refine s_dadd X92 hx (hb hby d4_119) d101 h_d101 Dd101.nn 120 rfl ?_
  refine s_dloadN X92 hx (hb hby d4_120) rfl 121 rfl ?_
  have Dd102 := Db.mul Dd101 H_t (by decide)
  obtain ⟨d102, h_d102⟩ : ∃ v, FP.dmul d101 t = v := ⟨_, rfl⟩
  rw [h_d102] at Dd102
  refine s_dmul X92 hx (hb hby d4_121) d102 h_d102 Dd102.nn 122 rfl ?_
  have Dd103 := Db.add H_7 Dd102 (by decide)
  obtain ⟨d103, h_d103⟩ : ∃ v, FP.dadd f7 d102 = v := ⟨_, rfl⟩
  rw [h_d103] at Dd103
  refine s_dadd X92 hx (hb hby d4_122) d103 h_d103 Dd103.nn 123 rfl ?_
  obtain ⟨T104, h104, X104, e104, W104, st104⟩ := putF X92 hx hZ hown (host := "") (Or.inl (wd hw 33 _ rfl)) Via.refl e92 F89 F83 (Or.inl (wd hw 34 _ rfl)) (wd hw 8 _ rfl) (ty := .double) (by decide) rfl rfl (g := (mkF m 123 #[.val (.ref a1), .val (.double t), .second, .val (.double k), .second, .val (.double ks), .second, .val (.double kc), .second, .val (.double j), .second, .val (.double js), .second] [.double d103, .ref a1])) rfl rfl (hb hby d4_123)
  have N104 := Fr.snoc X104 N81 g1
  have F105 := F89.same W104
  have F106 := F83.wr W104
  have F107 := F84.other W104 (Or.inr (slot_ne (a0 := a0) (t := .double) (t' := .double) (Or.inl (wd hw 22 _ rfl)) (Or.inl (wd hw 34 _ rfl)) (by decide) (by decide) (by decide)))
  have F108 := F85.other W104 (Or.inr (slot_ne (a0 := a0) (t := .double) (t' := .double) (Or.inl (wd hw 24 _ rfl)) (Or.inl (wd hw 34 _ rfl)) (by decide) (by decide) (by decide)))
  have F109 := F86.other W104 (Or.inr (slot_ne (a0 := a0) (t := .double) (t' := .double) (Or.inl (wd hw 26 _ rfl)) (Or.inl (wd hw 34 _ rfl)) (by decide) (by decide) (by decide)))
  have F110 := F87.other W104 (Or.inr (slot_ne (a0 := a0) (t := .double) (t' := .double) (Or.inl (wd hw 28 _ rfl)) (Or.inl (wd hw 34 _ rfl)) (by decide) (by decide) (by decide)))
  have F111 := F88.other W104 (Or.inr (slot_ne (a0 := a0) (t := .double) (t' := .double) (Or.inl (wd hw 30 _ rfl)) (Or.inl (wd hw 34 _ rfl)) (by decide) (by decide) (by decide)))
  have F112 := F82.other W104 (Or.inr (slot_ne (a0 := a0) (t := .double) (t' := .double) (Or.inl (wd hw 32 _ rfl)) (Or.inl (wd hw 34 _ rfl)) (by decide) (by decide) (by decide)))
  have Z113 : n0 ≤ h104.size := by rw [W104.size]; exact Z90
  have K114 := K91.wr W104 (Or.inl (by simp))
  refine Go.via st104 ?_
  show Go p e below _ (T104.setTop (mkF m 126 #[.val (.ref a1), .val (.double t), .second, .val (.double k), .second, .val (.double ks), .second, .val (.double kc), .second, .val (.double j), .second, .val (.double js), .second] []))
  exact retV X104 hx hlk hret (hb hby d4_126) e104 ⟨rfl, N104, K114, d3, d17, d34, d48, d65, d80, d103, ⟨F107, Dd3.weak (by decide)⟩, ⟨F108, Dd17.weak (by decide)⟩, ⟨F109, Dd34.weak (by decide)⟩, ⟨F110, Dd48.weak (by decide)⟩, ⟨F111, Dd65.weak (by decide)⟩, ⟨F112, Dd80.weak (by decide)⟩, ⟨F105, Dd103.weak (by decide)⟩⟩ (by decide) (by decide)
set_option maxRecDepth 65536 in
set_option maxHeartbeats 40000000 in
theorem rm_add2 (l : Launch) (Z : State) (a0 : Array Value) (hw : ∀ d ∈ tables_1, d.before a0 Z = true) (ws : List Jvm.Cond) (a1 : Addr) (t k ks kc j js : UInt64) (T K KS KC J JS : Int) (f1 f2 f3 f4 f5 f6 f7 : UInt64) (A1 A2 A3 A4 A5 A6 A7 : Int) (h0 : Heap) (n0 : Nat) (Z0 : n0 ≤ h0.size) (E1 : Exa Z h0 a1 "com/example/entalpi/entalpi/fluids/Derivatives") (g1 : n0 ≤ a1) (F_1 : Fld Z h0 a1 "com/example/entalpi/entalpi/fluids/Derivatives" "alpha" "D" (.double f1)) (F_2 : Fld Z h0 a1 "com/example/entalpi/entalpi/fluids/Derivatives" "tauAlphaTau" "D" (.double f2)) (F_3 : Fld Z h0 a1 "com/example/entalpi/entalpi/fluids/Derivatives" "tauTauAlphaTauTau" "D" (.double f3)) (F_4 : Fld Z h0 a1 "com/example/entalpi/entalpi/fluids/Derivatives" "deltaResidualDelta" "D" (.double f4)) (F_5 : Fld Z h0 a1 "com/example/entalpi/entalpi/fluids/Derivatives" "deltaDeltaResidualDeltaDelta" "D" (.double f5)) (F_6 : Fld Z h0 a1 "com/example/entalpi/entalpi/fluids/Derivatives" "deltaTauResidualDeltaTau" "D" (.double f6)) (F_7 : Fld Z h0 a1 "com/example/entalpi/entalpi/fluids/Derivatives" "deltaDeltaDeltaResidualDeltaDeltaDelta" "D" (.double f7)) (H_1 : Db 281474976710656 A1 0 f1) (H_2 : Db 281474976710656 A2 0 f2) (H_3 : Db 281474976710656 A3 0 f3) (H_4 : Db 281474976710656 A4 0 f4) (H_5 : Db 281474976710656 A5 0 f5) (H_6 : Db 281474976710656 A6 0 f6) (H_7 : Db 281474976710656 A7 0 f7) (H_t : Db 32768 T 0 t) (H_k : Db 128 K 0 k) (H_ks : Db 32768 KS 0 ks) (H_kc : Db 2147483648 KC 0 kc) (H_j : Db 32768 J 0 j) (H_js : Db 2147483648 JS 0 js) :
    Ct l Z (⟨"com/example/entalpi/entalpi/fluids/Derivatives", "addSeparable", "(DDDDDD)V"⟩ : MethodName) prog_7_method_2_code 13 none ws ({ frames := 0, cells := 0, slots := 0, locals := 0 } : Room) #[.ref a1, .double t, .double k, .double ks, .double kc, .double j, .double js] h0 (fun v h L => v = none ∧ Fr n0 L ∧ Keep h0 h [a1] ∧ ∃ r1 r2 r3 r4 r5 r6 r7, (Fld Z h a1 "com/example/entalpi/entalpi/fluids/Derivatives" "alpha" "D" (.double r1) ∧ Db 562949953421312 (A1 + T) 0 r1) ∧ (Fld Z h a1 "com/example/entalpi/entalpi/fluids/Derivatives" "tauAlphaTau" "D" (.double r2) ∧ Db 562949953421312 (A2 + J * T) 0 r2) ∧ (Fld Z h a1 "com/example/entalpi/entalpi/fluids/Derivatives" "tauTauAlphaTauTau" "D" (.double r3) ∧ Db 562949953421312 (A3 + (J * (J - 1) + JS) * T) 0 r3) ∧ (Fld Z h a1 "com/example/entalpi/entalpi/fluids/Derivatives" "deltaResidualDelta" "D" (.double r4) ∧ Db 562949953421312 (A4 + K * T) 0 r4) ∧ (Fld Z h a1 "com/example/entalpi/entalpi/fluids/Derivatives" "deltaDeltaResidualDeltaDelta" "D" (.double r5) ∧ Db 562949953421312 (A5 + (K * (K - 1) + KS) * T) 0 r5) ∧ (Fld Z h a1 "com/example/entalpi/entalpi/fluids/Derivatives" "deltaTauResidualDeltaTau" "D" (.double r6) ∧ Db 562949953421312 (A6 + J * K * T) 0 r6) ∧ (Fld Z h a1 "com/example/entalpi/entalpi/fluids/Derivatives" "deltaDeltaDeltaResidualDeltaDeltaDelta" "D" (.double r7) ∧ Db 562949953421312 (A7 + (K * (K - 1) * (K - 2) + 3 * (K - 1) * KS + KC) * T) 0 r7)) := by
  refine Ct.intro pn_4 #[.val (.ref a1), .val (.double t), .second, .val (.double k), .second, .val (.double ks), .second, .val (.double kc), .second, .val (.double j), .second, .val (.double js), .second] (fun _ => by first | (simp [entryFrame, mkF, argsToLocals, Value.category, maxLocals]; done) | rfl) ?_
  intro p e s m below meth c T0 X0 hx hZ hby hml hown hnm hret hlk e0
  have N0 := Fr.nil n0
  have K0 := Keep.refl h0 [a1]
  refine s_aloadN X0 hx (hb hby d4_0) rfl rfl 1 rfl ?_
  refine s_dup X0 hx (hb hby d4_1) rfl 2 rfl ?_
  obtain ⟨T115, X115, e115, st115⟩ := getF X0 hx hZ hown (host := "") (Or.inl (wd hw 21 _ rfl)) Via.refl e0 F_1 (g := (mkF m 2 #[.val (.ref a1), .val (.double t), .second, .val (.double k), .second, .val (.double ks), .second, .val (.double kc), .second, .val (.double j), .second, .val (.double js), .second] [.ref a1, .ref a1])) rfl rfl (hb hby d4_2)
  refine Go.via st115 ?_
  show Go p e below _ (T115.setTop (mkF m 5 #[.val (.ref a1), .val (.double t), .second, .val (.double k), .second, .val (.double ks), .second, .val (.double kc), .second, .val (.double j), .second, .val (.double js), .second] [.double f1, .ref a1]))
  refine s_dloadN X115 hx (hb hby d4_5) rfl 6 rfl ?_
  have Dd116 := Db.add H_1 H_t (by decide)
  obtain ⟨d116, h_d116⟩ : ∃ v, FP.dadd f1 t = v := ⟨_, rfl⟩
  rw [h_d116] at Dd116
  refine s_dadd X115 hx (hb hby d4_6) d116 h_d116 Dd116.nn 7 rfl ?_
  obtain ⟨T117, h117, X117, e117, W117, st117⟩ := putF X115 hx hZ hown (host := "") (Or.inl (wd hw 21 _ rfl)) Via.refl e115 F_1 E1 (Or.inl (wd hw 22 _ rfl)) (wd hw 8 _ rfl) (ty := .double) (by decide) rfl rfl (g := (mkF m 7 #[.val (.ref a1), .val (.double t), .second, .val (.double k), .second, .val (.double ks), .second, .val (.double kc), .second, .val (.double j), .second, .val (.double js), .second] [.double d116, .ref a1])) rfl rfl (hb hby d4_7)
  have N117 := Fr.snoc X117 N0 g1
  have F118 := F_1.same W117
  have F119 := E1.wr W117
  have F120 := F_2.other W117 (Or.inr (slot_ne (a0 := a0) (t := .double) (t' := .double) (Or.inl (wd hw 24 _ rfl)) (Or.inl (wd hw 22 _ rfl)) (by decide) (by decide) (by decide)))
  have F121 := F_3.other W117 (Or.inr (slot_ne (a0 := a0) (t := .double) (t' := .double) (Or.inl (wd hw 26 _ rfl)) (Or.inl (wd hw 22 _ rfl)) (by decide) (by decide) (by decide)))
  have F122 := F_4.other W117 (Or.inr (slot_ne (a0 := a0) (t := .double) (t' := .double) (Or.inl (wd hw 28 _ rfl)) (Or.inl (wd hw 22 _ rfl)) (by decide) (by decide) (by decide)))
  have F123 := F_5.other W117 (Or.inr (slot_ne (a0 := a0) (t := .double) (t' := .double) (Or.inl (wd hw 30 _ rfl)) (Or.inl (wd hw 22 _ rfl)) (by decide) (by decide) (by decide)))
  have F124 := F_6.other W117 (Or.inr (slot_ne (a0 := a0) (t := .double) (t' := .double) (Or.inl (wd hw 32 _ rfl)) (Or.inl (wd hw 22 _ rfl)) (by decide) (by decide) (by decide)))
  have F125 := F_7.other W117 (Or.inr (slot_ne (a0 := a0) (t := .double) (t' := .double) (Or.inl (wd hw 34 _ rfl)) (Or.inl (wd hw 22 _ rfl)) (by decide) (by decide) (by decide)))
  have Z126 : n0 ≤ h117.size := by rw [W117.size]; exact Z0
  have K127 := K0.wr W117 (Or.inl (by simp))
  refine Go.via st117 ?_
  show Go p e below _ (T117.setTop (mkF m 10 #[.val (.ref a1), .val (.double t), .second, .val (.double k), .second, .val (.double ks), .second, .val (.double kc), .second, .val (.double j), .second, .val (.double js), .second] []))
  refine s_aloadN X117 hx (hb hby d4_10) rfl rfl 11 rfl ?_
  refine s_dup X117 hx (hb hby d4_11) rfl 12 rfl ?_
  obtain ⟨T128, X128, e128, st128⟩ := getF X117 hx hZ hown (host := "") (Or.inl (wd hw 23 _ rfl)) Via.refl e117 F120 (g := (mkF m 12 #[.val (.ref a1), .val (.double t), .second, .val (.double k), .second, .val (.double ks), .second, .val (.double kc), .second, .val (.double j), .second, .val (.double js), .second] [.ref a1, .ref a1])) rfl rfl (hb hby d4_12)
  refine Go.via st128 ?_
  show Go p e below _ (T128.setTop (mkF m 15 #[.val (.ref a1), .val (.double t), .second, .val (.double k), .second, .val (.double ks), .second, .val (.double kc), .second, .val (.double j), .second, .val (.double js), .second] [.double f2, .ref a1]))
  refine s_dload X128 hx (hb hby d4_15) rfl 17 rfl ?_
  refine s_dloadN X128 hx (hb hby d4_17) rfl 18 rfl ?_
  have Dd129 := Db.mul H_j H_t (by decide)
  obtain ⟨d129, h_d129⟩ : ∃ v, FP.dmul j t = v := ⟨_, rfl⟩
  rw [h_d129] at Dd129
  refine s_dmul X128 hx (hb hby d4_18) d129 h_d129 Dd129.nn 19 rfl ?_
  have Dd130 := Db.add H_2 Dd129 (by decide)
  obtain ⟨d130, h_d130⟩ : ∃ v, FP.dadd f2 d129 = v := ⟨_, rfl⟩
  rw [h_d130] at Dd130
  refine s_dadd X128 hx (hb hby d4_19) d130 h_d130 Dd130.nn 20 rfl ?_
  obtain ⟨T131, h131, X131, e131, W131, st131⟩ := putF X128 hx hZ hown (host := "") (Or.inl (wd hw 23 _ rfl)) Via.refl e128 F120 F119 (Or.inl (wd hw 24 _ rfl)) (wd hw 8 _ rfl) (ty := .double) (by decide) rfl rfl (g := (mkF m 20 #[.val (.ref a1), .val (.double t), .second, .val (.double k), .second, .val (.double ks), .second, .val (.double kc), .second, .val (.double j), .second, .val (.double js), .second] [.double d130, .ref a1])) rfl rfl (hb hby d4_20)
  have N131 := Fr.snoc X131 N117 g1
  have F132 := F120.same W131
  have F133 := F119.wr W131
  have F134 := F118.other W131 (Or.inr (slot_ne (a0 := a0) (t := .double) (t' := .double) (Or.inl (wd hw 22 _ rfl)) (Or.inl (wd hw 24 _ rfl)) (by decide) (by decide) (by decide)))
  have F135 := F121.other W131 (Or.inr (slot_ne (a0 := a0) (t := .double) (t' := .double) (Or.inl (wd hw 26 _ rfl)) (Or.inl (wd hw 24 _ rfl)) (by decide) (by decide) (by decide)))
  have F136 := F122.other W131 (Or.inr (slot_ne (a0 := a0) (t := .double) (t' := .double) (Or.inl (wd hw 28 _ rfl)) (Or.inl (wd hw 24 _ rfl)) (by decide) (by decide) (by decide)))
  have F137 := F123.other W131 (Or.inr (slot_ne (a0 := a0) (t := .double) (t' := .double) (Or.inl (wd hw 30 _ rfl)) (Or.inl (wd hw 24 _ rfl)) (by decide) (by decide) (by decide)))
  have F138 := F124.other W131 (Or.inr (slot_ne (a0 := a0) (t := .double) (t' := .double) (Or.inl (wd hw 32 _ rfl)) (Or.inl (wd hw 24 _ rfl)) (by decide) (by decide) (by decide)))
  have F139 := F125.other W131 (Or.inr (slot_ne (a0 := a0) (t := .double) (t' := .double) (Or.inl (wd hw 34 _ rfl)) (Or.inl (wd hw 24 _ rfl)) (by decide) (by decide) (by decide)))
  have Z140 : n0 ≤ h131.size := by rw [W131.size]; exact Z126
  have K141 := K127.wr W131 (Or.inl (by simp))
  refine Go.via st131 ?_
  show Go p e below _ (T131.setTop (mkF m 23 #[.val (.ref a1), .val (.double t), .second, .val (.double k), .second, .val (.double ks), .second, .val (.double kc), .second, .val (.double j), .second, .val (.double js), .second] []))
  refine s_aloadN X131 hx (hb hby d4_23) rfl rfl 24 rfl ?_
  refine s_dup X131 hx (hb hby d4_24) rfl 25 rfl ?_
  obtain ⟨T142, X142, e142, st142⟩ := getF X131 hx hZ hown (host := "") (Or.inl (wd hw 25 _ rfl)) Via.refl e131 F135 (g := (mkF m 25 #[.val (.ref a1), .val (.double t), .second, .val (.double k), .second, .val (.double ks), .second, .val (.double kc), .second, .val (.double j), .second, .val (.double js), .second] [.ref a1, .ref a1])) rfl rfl (hb hby d4_25)
  refine Go.via st142 ?_
  show Go p e below _ (T142.setTop (mkF m 28 #[.val (.ref a1), .val (.double t), .second, .val (.double k), .second, .val (.double ks), .second, .val (.double kc), .second, .val (.double j), .second, .val (.double js), .second] [.double f3, .ref a1]))
  refine s_dload X142 hx (hb hby d4_28) rfl 30 rfl ?_
  refine s_dload X142 hx (hb hby d4_30) rfl 32 rfl ?_
  refine s_dconst1 X142 hx (hb hby d4_32) (4607182418800017408 : UInt64) rfl 33 rfl ?_
  have Dd143 := Db.sub H_j dc_4607182418800017408 (by decide)
  obtain ⟨d143, h_d143⟩ : ∃ v, FP.dsub j (4607182418800017408 : UInt64) = v := ⟨_, rfl⟩
  rw [h_d143] at Dd143
  refine s_dsub X142 hx (hb hby d4_33) d143 h_d143 Dd143.nn 34 rfl ?_
  have Dd144 := Db.mul H_j Dd143 (by decide)
  obtain ⟨d144, h_d144⟩ : ∃ v, FP.dmul j d143 = v := ⟨_, rfl⟩
  rw [h_d144] at Dd144
  refine s_dmul X142 hx (hb hby d4_34) d144 h_d144 Dd144.nn 35 rfl ?_
  refine s_dload X142 hx (hb hby d4_35) rfl 37 rfl ?_
  have Dd145 := Db.add Dd144 H_js (by decide)
  obtain ⟨d145, h_d145⟩ : ∃ v, FP.dadd d144 js = v := ⟨_, rfl⟩
  rw [h_d145] at Dd145
  refine s_dadd X142 hx (hb hby d4_37) d145 h_d145 Dd145.nn 38 rfl ?_
  refine s_dloadN X142 hx (hb hby d4_38) rfl 39 rfl ?_
  have Dd146 := Db.mul Dd145 H_t (by decide)
  obtain ⟨d146, h_d146⟩ : ∃ v, FP.dmul d145 t = v := ⟨_, rfl⟩
  rw [h_d146] at Dd146
  refine s_dmul X142 hx (hb hby d4_39) d146 h_d146 Dd146.nn 40 rfl ?_
  have Dd147 := Db.add H_3 Dd146 (by decide)
  obtain ⟨d147, h_d147⟩ : ∃ v, FP.dadd f3 d146 = v := ⟨_, rfl⟩
  rw [h_d147] at Dd147
  refine s_dadd X142 hx (hb hby d4_40) d147 h_d147 Dd147.nn 41 rfl ?_
  obtain ⟨T148, h148, X148, e148, W148, st148⟩ := putF X142 hx hZ hown (host := "") (Or.inl (wd hw 25 _ rfl)) Via.refl e142 F135 F133 (Or.inl (wd hw 26 _ rfl)) (wd hw 8 _ rfl) (ty := .double) (by decide) rfl rfl (g := (mkF m 41 #[.val (.ref a1), .val (.double t), .second, .val (.double k), .second, .val (.double ks), .second, .val (.double kc), .second, .val (.double j), .second, .val (.double js), .second] [.double d147, .ref a1])) rfl rfl (hb hby d4_41)
  have N148 := Fr.snoc X148 N131 g1
  have F149 := F135.same W148
  have F150 := F133.wr W148
  have F151 := F134.other W148 (Or.inr (slot_ne (a0 := a0) (t := .double) (t' := .double) (Or.inl (wd hw 22 _ rfl)) (Or.inl (wd hw 26 _ rfl)) (by decide) (by decide) (by decide)))
  have F152 := F132.other W148 (Or.inr (slot_ne (a0 := a0) (t := .double) (t' := .double) (Or.inl (wd hw 24 _ rfl)) (Or.inl (wd hw 26 _ rfl)) (by decide) (by decide) (by decide)))
  have F153 := F136.other W148 (Or.inr (slot_ne (a0 := a0) (t := .double) (t' := .double) (Or.inl (wd hw 28 _ rfl)) (Or.inl (wd hw 26 _ rfl)) (by decide) (by decide) (by decide)))
  have F154 := F137.other W148 (Or.inr (slot_ne (a0 := a0) (t := .double) (t' := .double) (Or.inl (wd hw 30 _ rfl)) (Or.inl (wd hw 26 _ rfl)) (by decide) (by decide) (by decide)))
  have F155 := F138.other W148 (Or.inr (slot_ne (a0 := a0) (t := .double) (t' := .double) (Or.inl (wd hw 32 _ rfl)) (Or.inl (wd hw 26 _ rfl)) (by decide) (by decide) (by decide)))
  have F156 := F139.other W148 (Or.inr (slot_ne (a0 := a0) (t := .double) (t' := .double) (Or.inl (wd hw 34 _ rfl)) (Or.inl (wd hw 26 _ rfl)) (by decide) (by decide) (by decide)))
  have Z157 : n0 ≤ h148.size := by rw [W148.size]; exact Z140
  have K158 := K141.wr W148 (Or.inl (by simp))
  refine Go.via st148 ?_
  show Go p e below _ (T148.setTop (mkF m 44 #[.val (.ref a1), .val (.double t), .second, .val (.double k), .second, .val (.double ks), .second, .val (.double kc), .second, .val (.double j), .second, .val (.double js), .second] []))
  refine s_aloadN X148 hx (hb hby d4_44) rfl rfl 45 rfl ?_
  refine s_dup X148 hx (hb hby d4_45) rfl 46 rfl ?_
  obtain ⟨T159, X159, e159, st159⟩ := getF X148 hx hZ hown (host := "") (Or.inl (wd hw 27 _ rfl)) Via.refl e148 F153 (g := (mkF m 46 #[.val (.ref a1), .val (.double t), .second, .val (.double k), .second, .val (.double ks), .second, .val (.double kc), .second, .val (.double j), .second, .val (.double js), .second] [.ref a1, .ref a1])) rfl rfl (hb hby d4_46)
  refine Go.via st159 ?_
  show Go p e below _ (T159.setTop (mkF m 49 #[.val (.ref a1), .val (.double t), .second, .val (.double k), .second, .val (.double ks), .second, .val (.double kc), .second, .val (.double j), .second, .val (.double js), .second] [.double f4, .ref a1]))
  refine s_dloadN X159 hx (hb hby d4_49) rfl 50 rfl ?_
  refine s_dloadN X159 hx (hb hby d4_50) rfl 51 rfl ?_
  have Dd160 := Db.mul H_k H_t (by decide)
  obtain ⟨d160, h_d160⟩ : ∃ v, FP.dmul k t = v := ⟨_, rfl⟩
  rw [h_d160] at Dd160
  refine s_dmul X159 hx (hb hby d4_51) d160 h_d160 Dd160.nn 52 rfl ?_
  have Dd161 := Db.add H_4 Dd160 (by decide)
  obtain ⟨d161, h_d161⟩ : ∃ v, FP.dadd f4 d160 = v := ⟨_, rfl⟩
  rw [h_d161] at Dd161
  refine s_dadd X159 hx (hb hby d4_52) d161 h_d161 Dd161.nn 53 rfl ?_
  obtain ⟨T162, h162, X162, e162, W162, st162⟩ := putF X159 hx hZ hown (host := "") (Or.inl (wd hw 27 _ rfl)) Via.refl e159 F153 F150 (Or.inl (wd hw 28 _ rfl)) (wd hw 8 _ rfl) (ty := .double) (by decide) rfl rfl (g := (mkF m 53 #[.val (.ref a1), .val (.double t), .second, .val (.double k), .second, .val (.double ks), .second, .val (.double kc), .second, .val (.double j), .second, .val (.double js), .second] [.double d161, .ref a1])) rfl rfl (hb hby d4_53)
  have N162 := Fr.snoc X162 N148 g1
  have F163 := F153.same W162
  have F164 := F150.wr W162
  have F165 := F151.other W162 (Or.inr (slot_ne (a0 := a0) (t := .double) (t' := .double) (Or.inl (wd hw 22 _ rfl)) (Or.inl (wd hw 28 _ rfl)) (by decide) (by decide) (by decide)))
  have F166 := F152.other W162 (Or.inr (slot_ne (a0 := a0) (t := .double) (t' := .double) (Or.inl (wd hw 24 _ rfl)) (Or.inl (wd hw 28 _ rfl)) (by decide) (by decide) (by decide)))
  have F167 := F149.other W162 (Or.inr (slot_ne (a0 := a0) (t := .double) (t' := .double) (Or.inl (wd hw 26 _ rfl)) (Or.inl (wd hw 28 _ rfl)) (by decide) (by decide) (by decide)))
  have F168 := F154.other W162 (Or.inr (slot_ne (a0 := a0) (t := .double) (t' := .double) (Or.inl (wd hw 30 _ rfl)) (Or.inl (wd hw 28 _ rfl)) (by decide) (by decide) (by decide)))
  have F169 := F155.other W162 (Or.inr (slot_ne (a0 := a0) (t := .double) (t' := .double) (Or.inl (wd hw 32 _ rfl)) (Or.inl (wd hw 28 _ rfl)) (by decide) (by decide) (by decide)))
  have F170 := F156.other W162 (Or.inr (slot_ne (a0 := a0) (t := .double) (t' := .double) (Or.inl (wd hw 34 _ rfl)) (Or.inl (wd hw 28 _ rfl)) (by decide) (by decide) (by decide)))
  have Z171 : n0 ≤ h162.size := by rw [W162.size]; exact Z157
  have K172 := K158.wr W162 (Or.inl (by simp))
  refine Go.via st162 ?_
  show Go p e below _ (T162.setTop (mkF m 56 #[.val (.ref a1), .val (.double t), .second, .val (.double k), .second, .val (.double ks), .second, .val (.double kc), .second, .val (.double j), .second, .val (.double js), .second] []))
  refine s_aloadN X162 hx (hb hby d4_56) rfl rfl 57 rfl ?_
  refine s_dup X162 hx (hb hby d4_57) rfl 58 rfl ?_
  obtain ⟨T173, X173, e173, st173⟩ := getF X162 hx hZ hown (host := "") (Or.inl (wd hw 29 _ rfl)) Via.refl e162 F168 (g := (mkF m 58 #[.val (.ref a1), .val (.double t), .second, .val (.double k), .second, .val (.double ks), .second, .val (.double kc), .second, .val (.double j), .second, .val (.double js), .second] [.ref a1, .ref a1])) rfl rfl (hb hby d4_58)
  refine Go.via st173 ?_
  show Go p e below _ (T173.setTop (mkF m 61 #[.val (.ref a1), .val (.double t), .second, .val (.double k), .second, .val (.double ks), .second, .val (.double kc), .second, .val (.double j), .second, .val (.double js), .second] [.double f5, .ref a1]))
  refine s_dloadN X173 hx (hb hby d4_61) rfl 62 rfl ?_
  refine s_dloadN X173 hx (hb hby d4_62) rfl 63 rfl ?_
  refine s_dconst1 X173 hx (hb hby d4_63) (4607182418800017408 : UInt64) rfl 64 rfl ?_
  have Dd174 := Db.sub H_k dc_4607182418800017408 (by decide)
  obtain ⟨d174, h_d174⟩ : ∃ v, FP.dsub k (4607182418800017408 : UInt64) = v := ⟨_, rfl⟩
  rw [h_d174] at Dd174
  refine s_dsub X173 hx (hb hby d4_64) d174 h_d174 Dd174.nn 65 rfl ?_
  have Dd175 := Db.mul H_k Dd174 (by decide)
  obtain ⟨d175, h_d175⟩ : ∃ v, FP.dmul k d174 = v := ⟨_, rfl⟩
  rw [h_d175] at Dd175
  refine s_dmul X173 hx (hb hby d4_65) d175 h_d175 Dd175.nn 66 rfl ?_
  refine s_dload X173 hx (hb hby d4_66) rfl 68 rfl ?_
  have Dd176 := Db.add Dd175 H_ks (by decide)
  obtain ⟨d176, h_d176⟩ : ∃ v, FP.dadd d175 ks = v := ⟨_, rfl⟩
  rw [h_d176] at Dd176
  refine s_dadd X173 hx (hb hby d4_68) d176 h_d176 Dd176.nn 69 rfl ?_
  refine s_dloadN X173 hx (hb hby d4_69) rfl 70 rfl ?_
  have Dd177 := Db.mul Dd176 H_t (by decide)
  obtain ⟨d177, h_d177⟩ : ∃ v, FP.dmul d176 t = v := ⟨_, rfl⟩
  rw [h_d177] at Dd177
  refine s_dmul X173 hx (hb hby d4_70) d177 h_d177 Dd177.nn 71 rfl ?_
  have Dd178 := Db.add H_5 Dd177 (by decide)
  obtain ⟨d178, h_d178⟩ : ∃ v, FP.dadd f5 d177 = v := ⟨_, rfl⟩
  rw [h_d178] at Dd178
  refine s_dadd X173 hx (hb hby d4_71) d178 h_d178 Dd178.nn 72 rfl ?_
  obtain ⟨T179, h179, X179, e179, W179, st179⟩ := putF X173 hx hZ hown (host := "") (Or.inl (wd hw 29 _ rfl)) Via.refl e173 F168 F164 (Or.inl (wd hw 30 _ rfl)) (wd hw 8 _ rfl) (ty := .double) (by decide) rfl rfl (g := (mkF m 72 #[.val (.ref a1), .val (.double t), .second, .val (.double k), .second, .val (.double ks), .second, .val (.double kc), .second, .val (.double j), .second, .val (.double js), .second] [.double d178, .ref a1])) rfl rfl (hb hby d4_72)
  have N179 := Fr.snoc X179 N162 g1
  have F180 := F168.same W179
  have F181 := F164.wr W179
  have F182 := F165.other W179 (Or.inr (slot_ne (a0 := a0) (t := .double) (t' := .double) (Or.inl (wd hw 22 _ rfl)) (Or.inl (wd hw 30 _ rfl)) (by decide) (by decide) (by decide)))
  have F183 := F166.other W179 (Or.inr (slot_ne (a0 := a0) (t := .double) (t' := .double) (Or.inl (wd hw 24 _ rfl)) (Or.inl (wd hw 30 _ rfl)) (by decide) (by decide) (by decide)))
  have F184 := F167.other W179 (Or.inr (slot_ne (a0 := a0) (t := .double) (t' := .double) (Or.inl (wd hw 26 _ rfl)) (Or.inl (wd hw 30 _ rfl)) (by decide) (by decide) (by decide)))
  have F185 := F163.other W179 (Or.inr (slot_ne (a0 := a0) (t := .double) (t' := .double) (Or.inl (wd hw 28 _ rfl)) (Or.inl (wd hw 30 _ rfl)) (by decide) (by decide) (by decide)))
  have F186 := F169.other W179 (Or.inr (slot_ne (a0 := a0) (t := .double) (t' := .double) (Or.inl (wd hw 32 _ rfl)) (Or.inl (wd hw 30 _ rfl)) (by decide) (by decide) (by decide)))
  have F187 := F170.other W179 (Or.inr (slot_ne (a0 := a0) (t := .double) (t' := .double) (Or.inl (wd hw 34 _ rfl)) (Or.inl (wd hw 30 _ rfl)) (by decide) (by decide) (by decide)))
  have Z188 : n0 ≤ h179.size := by rw [W179.size]; exact Z171
  have K189 := K172.wr W179 (Or.inl (by simp))
  refine Go.via st179 ?_
  show Go p e below _ (T179.setTop (mkF m 75 #[.val (.ref a1), .val (.double t), .second, .val (.double k), .second, .val (.double ks), .second, .val (.double kc), .second, .val (.double j), .second, .val (.double js), .second] []))
  refine s_aloadN X179 hx (hb hby d4_75) rfl rfl 76 rfl ?_
  refine s_dup X179 hx (hb hby d4_76) rfl 77 rfl ?_
  obtain ⟨T190, X190, e190, st190⟩ := getF X179 hx hZ hown (host := "") (Or.inl (wd hw 31 _ rfl)) Via.refl e179 F186 (g := (mkF m 77 #[.val (.ref a1), .val (.double t), .second, .val (.double k), .second, .val (.double ks), .second, .val (.double kc), .second, .val (.double j), .second, .val (.double js), .second] [.ref a1, .ref a1])) rfl rfl (hb hby d4_77)
  refine Go.via st190 ?_
  show Go p e below _ (T190.setTop (mkF m 80 #[.val (.ref a1), .val (.double t), .second, .val (.double k), .second, .val (.double ks), .second, .val (.double kc), .second, .val (.double j), .second, .val (.double js), .second] [.double f6, .ref a1]))
  refine s_dload X190 hx (hb hby d4_80) rfl 82 rfl ?_
  refine s_dloadN X190 hx (hb hby d4_82) rfl 83 rfl ?_
  have Dd191 := Db.mul H_j H_k (by decide)
  obtain ⟨d191, h_d191⟩ : ∃ v, FP.dmul j k = v := ⟨_, rfl⟩
  rw [h_d191] at Dd191
  refine s_dmul X190 hx (hb hby d4_83) d191 h_d191 Dd191.nn 84 rfl ?_
  refine s_dloadN X190 hx (hb hby d4_84) rfl 85 rfl ?_
  have Dd192 := Db.mul Dd191 H_t (by decide)
  obtain ⟨d192, h_d192⟩ : ∃ v, FP.dmul d191 t = v := ⟨_, rfl⟩
  rw [h_d192] at Dd192
  refine s_dmul X190 hx (hb hby d4_85) d192 h_d192 Dd192.nn 86 rfl ?_
  have Dd193 := Db.add H_6 Dd192 (by decide)
  obtain ⟨d193, h_d193⟩ : ∃ v, FP.dadd f6 d192 = v := ⟨_, rfl⟩
  rw [h_d193] at Dd193
  refine s_dadd X190 hx (hb hby d4_86) d193 h_d193 Dd193.nn 87 rfl ?_
  obtain ⟨T194, h194, X194, e194, W194, st194⟩ := putF X190 hx hZ hown (host := "") (Or.inl (wd hw 31 _ rfl)) Via.refl e190 F186 F181 (Or.inl (wd hw 32 _ rfl)) (wd hw 8 _ rfl) (ty := .double) (by decide) rfl rfl (g := (mkF m 87 #[.val (.ref a1), .val (.double t), .second, .val (.double k), .second, .val (.double ks), .second, .val (.double kc), .second, .val (.double j), .second, .val (.double js), .second] [.double d193, .ref a1])) rfl rfl (hb hby d4_87)
  have N194 := Fr.snoc X194 N179 g1
  have F195 := F186.same W194
  have F196 := F181.wr W194
  have F197 := F182.other W194 (Or.inr (slot_ne (a0 := a0) (t := .double) (t' := .double) (Or.inl (wd hw 22 _ rfl)) (Or.inl (wd hw 32 _ rfl)) (by decide) (by decide) (by decide)))
  have F198 := F183.other W194 (Or.inr (slot_ne (a0 := a0) (t := .double) (t' := .double) (Or.inl (wd hw 24 _ rfl)) (Or.inl (wd hw 32 _ rfl)) (by decide) (by decide) (by decide)))
  have F199 := F184.other W194 (Or.inr (slot_ne (a0 := a0) (t := .double) (t' := .double) (Or.inl (wd hw 26 _ rfl)) (Or.inl (wd hw 32 _ rfl)) (by decide) (by decide) (by decide)))
  have F200 := F185.other W194 (Or.inr (slot_ne (a0 := a0) (t := .double) (t' := .double) (Or.inl (wd hw 28 _ rfl)) (Or.inl (wd hw 32 _ rfl)) (by decide) (by decide) (by decide)))
  have F201 := F180.other W194 (Or.inr (slot_ne (a0 := a0) (t := .double) (t' := .double) (Or.inl (wd hw 30 _ rfl)) (Or.inl (wd hw 32 _ rfl)) (by decide) (by decide) (by decide)))
  have F202 := F187.other W194 (Or.inr (slot_ne (a0 := a0) (t := .double) (t' := .double) (Or.inl (wd hw 34 _ rfl)) (Or.inl (wd hw 32 _ rfl)) (by decide) (by decide) (by decide)))
  have Z203 : n0 ≤ h194.size := by rw [W194.size]; exact Z188
  have K204 := K189.wr W194 (Or.inl (by simp))
  refine Go.via st194 ?_
  show Go p e below _ (T194.setTop (mkF m 90 #[.val (.ref a1), .val (.double t), .second, .val (.double k), .second, .val (.double ks), .second, .val (.double kc), .second, .val (.double j), .second, .val (.double js), .second] []))
  refine s_aloadN X194 hx (hb hby d4_90) rfl rfl 91 rfl ?_
  refine s_dup X194 hx (hb hby d4_91) rfl 92 rfl ?_
  obtain ⟨T205, X205, e205, st205⟩ := getF X194 hx hZ hown (host := "") (Or.inl (wd hw 33 _ rfl)) Via.refl e194 F202 (g := (mkF m 92 #[.val (.ref a1), .val (.double t), .second, .val (.double k), .second, .val (.double ks), .second, .val (.double kc), .second, .val (.double j), .second, .val (.double js), .second] [.ref a1, .ref a1])) rfl rfl (hb hby d4_92)
  refine Go.via st205 ?_
  show Go p e below _ (T205.setTop (mkF m 95 #[.val (.ref a1), .val (.double t), .second, .val (.double k), .second, .val (.double ks), .second, .val (.double kc), .second, .val (.double j), .second, .val (.double js), .second] [.double f7, .ref a1]))
  refine s_dloadN X205 hx (hb hby d4_95) rfl 96 rfl ?_
  refine s_dloadN X205 hx (hb hby d4_96) rfl 97 rfl ?_
  refine s_dconst1 X205 hx (hb hby d4_97) (4607182418800017408 : UInt64) rfl 98 rfl ?_
  have Dd206 := Db.sub H_k dc_4607182418800017408 (by decide)
  obtain ⟨d206, h_d206⟩ : ∃ v, FP.dsub k (4607182418800017408 : UInt64) = v := ⟨_, rfl⟩
  rw [h_d206] at Dd206
  refine s_dsub X205 hx (hb hby d4_98) d206 h_d206 Dd206.nn 99 rfl ?_
  have Dd207 := Db.mul H_k Dd206 (by decide)
  obtain ⟨d207, h_d207⟩ : ∃ v, FP.dmul k d206 = v := ⟨_, rfl⟩
  rw [h_d207] at Dd207
  refine s_dmul X205 hx (hb hby d4_99) d207 h_d207 Dd207.nn 100 rfl ?_
  refine s_dloadN X205 hx (hb hby d4_100) rfl 101 rfl ?_
  refine s_ldc2D X205 hx (hb hby d4_101) hZ hown (wd hw 35 _ rfl) 104 rfl ?_
  have Dd208 := Db.sub H_k dc_4611686018427387904 (by decide)
  obtain ⟨d208, h_d208⟩ : ∃ v, FP.dsub k (4611686018427387904 : UInt64) = v := ⟨_, rfl⟩
  rw [h_d208] at Dd208
  refine s_dsub X205 hx (hb hby d4_104) d208 h_d208 Dd208.nn 105 rfl ?_
  have Dd209 := Db.mul Dd207 Dd208 (by decide)
  obtain ⟨d209, h_d209⟩ : ∃ v, FP.dmul d207 d208 = v := ⟨_, rfl⟩
  rw [h_d209] at Dd209
  refine s_dmul X205 hx (hb hby d4_105) d209 h_d209 Dd209.nn 106 rfl ?_
  refine s_ldc2D X205 hx (hb hby d4_106) hZ hown (wd hw 36 _ rfl) 109 rfl ?_
  refine s_dloadN X205 hx (hb hby d4_109) rfl 110 rfl ?_
  refine s_dconst1 X205 hx (hb hby d4_110) (4607182418800017408 : UInt64) rfl 111 rfl ?_
  have Dd210 := Db.sub H_k dc_4607182418800017408 (by decide)
  obtain ⟨d210, h_d210⟩ : ∃ v, FP.dsub k (4607182418800017408 : UInt64) = v := ⟨_, rfl⟩
  rw [h_d210] at Dd210
  refine s_dsub X205 hx (hb hby d4_111) d210 h_d210 Dd210.nn 112 rfl ?_
  have Dd211 := Db.mul dc_4613937818241073152 Dd210 (by decide)
  obtain ⟨d211, h_d211⟩ : ∃ v, FP.dmul (4613937818241073152 : UInt64) d210 = v := ⟨_, rfl⟩
  rw [h_d211] at Dd211
  refine s_dmul X205 hx (hb hby d4_112) d211 h_d211 Dd211.nn 113 rfl ?_
  refine s_dload X205 hx (hb hby d4_113) rfl 115 rfl ?_
  have Dd212 := Db.mul Dd211 H_ks (by decide)
  obtain ⟨d212, h_d212⟩ : ∃ v, FP.dmul d211 ks = v := ⟨_, rfl⟩
  rw [h_d212] at Dd212
  refine s_dmul X205 hx (hb hby d4_115) d212 h_d212 Dd212.nn 116 rfl ?_
  have Dd213 := Db.add Dd209 Dd212 (by decide)
  obtain ⟨d213, h_d213⟩ : ∃ v, FP.dadd d209 d212 = v := ⟨_, rfl⟩
  rw [h_d213] at Dd213
  refine s_dadd X205 hx (hb hby d4_116) d213 h_d213 Dd213.nn 117 rfl ?_
  refine s_dload X205 hx (hb hby d4_117) rfl 119 rfl ?_
  have Dd214 := Db.add Dd213 H_kc (by decide)
  obtain ⟨d214, h_d214⟩ : ∃ v, FP.dadd d213 kc = v := ⟨_, rfl⟩
  rw [h_d214] at Dd214
  refine s_dadd X205 hx (hb hby d4_119) d214 h_d214 Dd214.nn 120 rfl ?_
  refine s_dloadN X205 hx (hb hby d4_120) rfl 121 rfl ?_
  have Dd215 := Db.mul Dd214 H_t (by decide)
  obtain ⟨d215, h_d215⟩ : ∃ v, FP.dmul d214 t = v := ⟨_, rfl⟩
  rw [h_d215] at Dd215
  refine s_dmul X205 hx (hb hby d4_121) d215 h_d215 Dd215.nn 122 rfl ?_
  have Dd216 := Db.add H_7 Dd215 (by decide)
  obtain ⟨d216, h_d216⟩ : ∃ v, FP.dadd f7 d215 = v := ⟨_, rfl⟩
  rw [h_d216] at Dd216
  refine s_dadd X205 hx (hb hby d4_122) d216 h_d216 Dd216.nn 123 rfl ?_
  obtain ⟨T217, h217, X217, e217, W217, st217⟩ := putF X205 hx hZ hown (host := "") (Or.inl (wd hw 33 _ rfl)) Via.refl e205 F202 F196 (Or.inl (wd hw 34 _ rfl)) (wd hw 8 _ rfl) (ty := .double) (by decide) rfl rfl (g := (mkF m 123 #[.val (.ref a1), .val (.double t), .second, .val (.double k), .second, .val (.double ks), .second, .val (.double kc), .second, .val (.double j), .second, .val (.double js), .second] [.double d216, .ref a1])) rfl rfl (hb hby d4_123)
  have N217 := Fr.snoc X217 N194 g1
  have F218 := F202.same W217
  have F219 := F196.wr W217
  have F220 := F197.other W217 (Or.inr (slot_ne (a0 := a0) (t := .double) (t' := .double) (Or.inl (wd hw 22 _ rfl)) (Or.inl (wd hw 34 _ rfl)) (by decide) (by decide) (by decide)))
  have F221 := F198.other W217 (Or.inr (slot_ne (a0 := a0) (t := .double) (t' := .double) (Or.inl (wd hw 24 _ rfl)) (Or.inl (wd hw 34 _ rfl)) (by decide) (by decide) (by decide)))
  have F222 := F199.other W217 (Or.inr (slot_ne (a0 := a0) (t := .double) (t' := .double) (Or.inl (wd hw 26 _ rfl)) (Or.inl (wd hw 34 _ rfl)) (by decide) (by decide) (by decide)))
  have F223 := F200.other W217 (Or.inr (slot_ne (a0 := a0) (t := .double) (t' := .double) (Or.inl (wd hw 28 _ rfl)) (Or.inl (wd hw 34 _ rfl)) (by decide) (by decide) (by decide)))
  have F224 := F201.other W217 (Or.inr (slot_ne (a0 := a0) (t := .double) (t' := .double) (Or.inl (wd hw 30 _ rfl)) (Or.inl (wd hw 34 _ rfl)) (by decide) (by decide) (by decide)))
  have F225 := F195.other W217 (Or.inr (slot_ne (a0 := a0) (t := .double) (t' := .double) (Or.inl (wd hw 32 _ rfl)) (Or.inl (wd hw 34 _ rfl)) (by decide) (by decide) (by decide)))
  have Z226 : n0 ≤ h217.size := by rw [W217.size]; exact Z203
  have K227 := K204.wr W217 (Or.inl (by simp))
  refine Go.via st217 ?_
  show Go p e below _ (T217.setTop (mkF m 126 #[.val (.ref a1), .val (.double t), .second, .val (.double k), .second, .val (.double ks), .second, .val (.double kc), .second, .val (.double j), .second, .val (.double js), .second] []))
  exact retV X217 hx hlk hret (hb hby d4_126) e217 ⟨rfl, N217, K227, d116, d130, d147, d161, d178, d193, d216, ⟨F220, Dd116.weak (by decide)⟩, ⟨F221, Dd130.weak (by decide)⟩, ⟨F222, Dd147.weak (by decide)⟩, ⟨F223, Dd161.weak (by decide)⟩, ⟨F224, Dd178.weak (by decide)⟩, ⟨F225, Dd193.weak (by decide)⟩, ⟨F218, Dd216.weak (by decide)⟩⟩ (by decide) (by decide)
theorem d5_0 : decode method_4_code 0 = .ok (.lload_n 2, 1) := by decide +kernel
theorem d5_1 : decode method_4_code 1 = .ok (.lload_n 2, 1) := by decide +kernel
theorem d5_2 : decode method_4_code 2 = .ok (.lmul, 1) := by decide +kernel
theorem d5_3 : decode method_4_code 3 = .ok (.lload_n 2, 1) := by decide +kernel
theorem d5_4 : decode method_4_code 4 = .ok (.lsub, 1) := by decide +kernel
theorem d5_5 : decode method_4_code 5 = .ok (.lload 4, 2) := by decide +kernel
theorem d5_7 : decode method_4_code 7 = .ok (.ladd, 1) := by decide +kernel
theorem d5_8 : decode method_4_code 8 = .ok (.lload_n 0, 1) := by decide +kernel
theorem d5_9 : decode method_4_code 9 = .ok (.lmul, 1) := by decide +kernel
theorem d5_10 : decode method_4_code 10 = .ok (.lreturn, 1) := by decide +kernel
theorem pd_5 : parseMethodDescriptor "(JJJ)J" = some ⟨[.long, .long, .long], some .long⟩ := by decide +kernel
theorem pn_5 : plainFor (⟨"com/example/entalpi/entalpi/fluids/DerivativesAddSeparablePinLaw", "tauTau", "(JJJ)J"⟩ : MethodName) = true := plainFor_of_name (by show plainName "com/example/entalpi/entalpi/fluids/DerivativesAddSeparablePinLaw" = true; first | (simp [plainName, overriddenIn]; done) | decide +kernel)
set_option maxRecDepth 65536 in
set_option maxHeartbeats 40000000 in
theorem rm_tt (l : Launch) (Z : State) (a0 : Array Value) (hw : ∀ d ∈ tables_1, d.before a0 Z = true) (ws : List Jvm.Cond) (t j js : Int64) (T J JS : Int) (h0 : Heap) (n0 : Nat) (Z0 : n0 ≤ h0.size) (H_t : Lb 128 T t) (H_j : Lb 128 J j) (H_js : Lb 128 JS js) :
    Ct l Z (⟨"com/example/entalpi/entalpi/fluids/DerivativesAddSeparablePinLaw", "tauTau", "(JJJ)J"⟩ : MethodName) method_4_code 6 (some .long) ws ({ frames := 0, cells := 0, slots := 0, locals := 0 } : Room) #[.long t, .long j, .long js] h0 (fun v h L => ∃ r, v = some (.long r) ∧ Fr n0 L ∧ h = h0 ∧ Lb 281474976710656 ((J * J - J + JS) * T) r) := by
  refine Ct.intro pn_5 #[.val (.long t), .second, .val (.long j), .second, .val (.long js), .second] (fun _ => by first | (simp [entryFrame, mkF, argsToLocals, Value.category, maxLocals]; done) | rfl) ?_
  intro p e s m below meth c T0 X0 hx hZ hby hml hown hnm hret hlk e0
  have N0 := Fr.nil n0
  refine s_lloadN X0 hx (hb hby d5_0) rfl 1 rfl ?_
  refine s_lloadN X0 hx (hb hby d5_1) rfl 2 rfl ?_
  have B228 := Lb.mul H_j H_j (by decide)
  refine s_lmul X0 hx (hb hby d5_2) (j * j) rfl 3 rfl ?_
  refine s_lloadN X0 hx (hb hby d5_3) rfl 4 rfl ?_
  have B229 := Lb.sub B228 H_j (by decide)
  refine s_lsub X0 hx (hb hby d5_4) ((j * j) - j) rfl 5 rfl ?_
  refine s_lload X0 hx (hb hby d5_5) rfl 7 rfl ?_
  have B230 := Lb.add B229 H_js (by decide)
  refine s_ladd X0 hx (hb hby d5_7) (((j * j) - j) + js) rfl 8 rfl ?_
  refine s_lloadN X0 hx (hb hby d5_8) rfl 9 rfl ?_
  have B231 := Lb.mul B230 H_t (by decide)
  refine s_lmul X0 hx (hb hby d5_9) ((((j * j) - j) + js) * t) rfl 10 rfl ?_
  exact retJ X0 hx hlk hret (hb hby d5_10) e0 ⟨_, rfl, N0, rfl, B231.weak (by decide)⟩ (by decide) (by decide)
theorem d6_0 : decode method_5_code 0 = .ok (.lload_n 2, 1) := by decide +kernel
theorem d6_1 : decode method_5_code 1 = .ok (.lload_n 2, 1) := by decide +kernel
theorem d6_2 : decode method_5_code 2 = .ok (.lmul, 1) := by decide +kernel
theorem d6_3 : decode method_5_code 3 = .ok (.lload_n 2, 1) := by decide +kernel
theorem d6_4 : decode method_5_code 4 = .ok (.lsub, 1) := by decide +kernel
theorem d6_5 : decode method_5_code 5 = .ok (.lload 4, 2) := by decide +kernel
theorem d6_7 : decode method_5_code 7 = .ok (.ladd, 1) := by decide +kernel
theorem d6_8 : decode method_5_code 8 = .ok (.lload_n 0, 1) := by decide +kernel
theorem d6_9 : decode method_5_code 9 = .ok (.lmul, 1) := by decide +kernel
theorem d6_10 : decode method_5_code 10 = .ok (.lreturn, 1) := by decide +kernel
theorem pd_6 : parseMethodDescriptor "(JJJ)J" = some ⟨[.long, .long, .long], some .long⟩ := by decide +kernel
theorem pn_6 : plainFor (⟨"com/example/entalpi/entalpi/fluids/DerivativesAddSeparablePinLaw", "deltaDelta", "(JJJ)J"⟩ : MethodName) = true := plainFor_of_name (by show plainName "com/example/entalpi/entalpi/fluids/DerivativesAddSeparablePinLaw" = true; first | (simp [plainName, overriddenIn]; done) | decide +kernel)
set_option maxRecDepth 65536 in
set_option maxHeartbeats 40000000 in
theorem rm_dd (l : Launch) (Z : State) (a0 : Array Value) (hw : ∀ d ∈ tables_1, d.before a0 Z = true) (ws : List Jvm.Cond) (t k ks : Int64) (T K KS : Int) (h0 : Heap) (n0 : Nat) (Z0 : n0 ≤ h0.size) (H_t : Lb 128 T t) (H_k : Lb 128 K k) (H_ks : Lb 128 KS ks) :
    Ct l Z (⟨"com/example/entalpi/entalpi/fluids/DerivativesAddSeparablePinLaw", "deltaDelta", "(JJJ)J"⟩ : MethodName) method_5_code 6 (some .long) ws ({ frames := 0, cells := 0, slots := 0, locals := 0 } : Room) #[.long t, .long k, .long ks] h0 (fun v h L => ∃ r, v = some (.long r) ∧ Fr n0 L ∧ h = h0 ∧ Lb 281474976710656 ((K * K - K + KS) * T) r) := by
  refine Ct.intro pn_6 #[.val (.long t), .second, .val (.long k), .second, .val (.long ks), .second] (fun _ => by first | (simp [entryFrame, mkF, argsToLocals, Value.category, maxLocals]; done) | rfl) ?_
  intro p e s m below meth c T0 X0 hx hZ hby hml hown hnm hret hlk e0
  have N0 := Fr.nil n0
  refine s_lloadN X0 hx (hb hby d6_0) rfl 1 rfl ?_
  refine s_lloadN X0 hx (hb hby d6_1) rfl 2 rfl ?_
  have B232 := Lb.mul H_k H_k (by decide)
  refine s_lmul X0 hx (hb hby d6_2) (k * k) rfl 3 rfl ?_
  refine s_lloadN X0 hx (hb hby d6_3) rfl 4 rfl ?_
  have B233 := Lb.sub B232 H_k (by decide)
  refine s_lsub X0 hx (hb hby d6_4) ((k * k) - k) rfl 5 rfl ?_
  refine s_lload X0 hx (hb hby d6_5) rfl 7 rfl ?_
  have B234 := Lb.add B233 H_ks (by decide)
  refine s_ladd X0 hx (hb hby d6_7) (((k * k) - k) + ks) rfl 8 rfl ?_
  refine s_lloadN X0 hx (hb hby d6_8) rfl 9 rfl ?_
  have B235 := Lb.mul B234 H_t (by decide)
  refine s_lmul X0 hx (hb hby d6_9) ((((k * k) - k) + ks) * t) rfl 10 rfl ?_
  exact retJ X0 hx hlk hret (hb hby d6_10) e0 ⟨_, rfl, N0, rfl, B235.weak (by decide)⟩ (by decide) (by decide)
theorem d7_0 : decode method_6_code 0 = .ok (.lload_n 2, 1) := by decide +kernel
theorem d7_1 : decode method_6_code 1 = .ok (.lload_n 2, 1) := by decide +kernel
theorem d7_2 : decode method_6_code 2 = .ok (.lmul, 1) := by decide +kernel
theorem d7_3 : decode method_6_code 3 = .ok (.lload_n 2, 1) := by decide +kernel
theorem d7_4 : decode method_6_code 4 = .ok (.lmul, 1) := by decide +kernel
theorem d7_5 : decode method_6_code 5 = .ok (.ldc2_w 7, 3) := by decide +kernel
theorem d7_8 : decode method_6_code 8 = .ok (.lload_n 2, 1) := by decide +kernel
theorem d7_9 : decode method_6_code 9 = .ok (.lmul, 1) := by decide +kernel
theorem d7_10 : decode method_6_code 10 = .ok (.lload_n 2, 1) := by decide +kernel
theorem d7_11 : decode method_6_code 11 = .ok (.lmul, 1) := by decide +kernel
theorem d7_12 : decode method_6_code 12 = .ok (.lsub, 1) := by decide +kernel
theorem d7_13 : decode method_6_code 13 = .ok (.ldc2_w 9, 3) := by decide +kernel
theorem d7_16 : decode method_6_code 16 = .ok (.lload_n 2, 1) := by decide +kernel
theorem d7_17 : decode method_6_code 17 = .ok (.lmul, 1) := by decide +kernel
theorem d7_18 : decode method_6_code 18 = .ok (.ladd, 1) := by decide +kernel
theorem d7_19 : decode method_6_code 19 = .ok (.ldc2_w 7, 3) := by decide +kernel
theorem d7_22 : decode method_6_code 22 = .ok (.lload_n 2, 1) := by decide +kernel
theorem d7_23 : decode method_6_code 23 = .ok (.lmul, 1) := by decide +kernel
theorem d7_24 : decode method_6_code 24 = .ok (.lload 4, 2) := by decide +kernel
theorem d7_26 : decode method_6_code 26 = .ok (.lmul, 1) := by decide +kernel
theorem d7_27 : decode method_6_code 27 = .ok (.ladd, 1) := by decide +kernel
theorem d7_28 : decode method_6_code 28 = .ok (.ldc2_w 7, 3) := by decide +kernel
theorem d7_31 : decode method_6_code 31 = .ok (.lload 4, 2) := by decide +kernel
theorem d7_33 : decode method_6_code 33 = .ok (.lmul, 1) := by decide +kernel
theorem d7_34 : decode method_6_code 34 = .ok (.lsub, 1) := by decide +kernel
theorem d7_35 : decode method_6_code 35 = .ok (.lload 6, 2) := by decide +kernel
theorem d7_37 : decode method_6_code 37 = .ok (.ladd, 1) := by decide +kernel
theorem d7_38 : decode method_6_code 38 = .ok (.lload_n 0, 1) := by decide +kernel
theorem d7_39 : decode method_6_code 39 = .ok (.lmul, 1) := by decide +kernel
theorem d7_40 : decode method_6_code 40 = .ok (.lreturn, 1) := by decide +kernel
theorem pd_7 : parseMethodDescriptor "(JJJJ)J" = some ⟨[.long, .long, .long, .long], some .long⟩ := by decide +kernel
theorem pn_7 : plainFor (⟨"com/example/entalpi/entalpi/fluids/DerivativesAddSeparablePinLaw", "deltaDeltaDelta", "(JJJJ)J"⟩ : MethodName) = true := plainFor_of_name (by show plainName "com/example/entalpi/entalpi/fluids/DerivativesAddSeparablePinLaw" = true; first | (simp [plainName, overriddenIn]; done) | decide +kernel)
set_option maxRecDepth 65536 in
set_option maxHeartbeats 40000000 in
theorem rm_ddd (l : Launch) (Z : State) (a0 : Array Value) (hw : ∀ d ∈ tables_1, d.before a0 Z = true) (ws : List Jvm.Cond) (t k ks kc : Int64) (T K KS KC : Int) (h0 : Heap) (n0 : Nat) (Z0 : n0 ≤ h0.size) (H_t : Lb 128 T t) (H_k : Lb 128 K k) (H_ks : Lb 128 KS ks) (H_kc : Lb 128 KC kc) :
    Ct l Z (⟨"com/example/entalpi/entalpi/fluids/DerivativesAddSeparablePinLaw", "deltaDeltaDelta", "(JJJJ)J"⟩ : MethodName) method_6_code 8 (some .long) ws ({ frames := 0, cells := 0, slots := 0, locals := 0 } : Room) #[.long t, .long k, .long ks, .long kc] h0 (fun v h L => ∃ r, v = some (.long r) ∧ Fr n0 L ∧ h = h0 ∧ Lb 281474976710656 ((K * K * K - 3 * K * K + 2 * K + 3 * K * KS - 3 * KS + KC) * T) r) := by
  refine Ct.intro pn_7 #[.val (.long t), .second, .val (.long k), .second, .val (.long ks), .second, .val (.long kc), .second] (fun _ => by first | (simp [entryFrame, mkF, argsToLocals, Value.category, maxLocals]; done) | rfl) ?_
  intro p e s m below meth c T0 X0 hx hZ hby hml hown hnm hret hlk e0
  have N0 := Fr.nil n0
  refine s_lloadN X0 hx (hb hby d7_0) rfl 1 rfl ?_
  refine s_lloadN X0 hx (hb hby d7_1) rfl 2 rfl ?_
  have B236 := Lb.mul H_k H_k (by decide)
  refine s_lmul X0 hx (hb hby d7_2) (k * k) rfl 3 rfl ?_
  refine s_lloadN X0 hx (hb hby d7_3) rfl 4 rfl ?_
  have B237 := Lb.mul B236 H_k (by decide)
  refine s_lmul X0 hx (hb hby d7_4) ((k * k) * k) rfl 5 rfl ?_
  refine s_ldc2J X0 hx (hb hby d7_5) hZ hown (wd hw 46 _ rfl) 8 rfl ?_
  refine s_lloadN X0 hx (hb hby d7_8) rfl 9 rfl ?_
  have B238 := Lb.mul (Lb.lit 3 (3) (3 : Int64)) H_k (by decide)
  refine s_lmul X0 hx (hb hby d7_9) ((3 : Int64) * k) rfl 10 rfl ?_
  refine s_lloadN X0 hx (hb hby d7_10) rfl 11 rfl ?_
  have B239 := Lb.mul B238 H_k (by decide)
  refine s_lmul X0 hx (hb hby d7_11) (((3 : Int64) * k) * k) rfl 12 rfl ?_
  have B240 := Lb.sub B237 B239 (by decide)
  refine s_lsub X0 hx (hb hby d7_12) (((k * k) * k) - (((3 : Int64) * k) * k)) rfl 13 rfl ?_
  refine s_ldc2J X0 hx (hb hby d7_13) hZ hown (wd hw 47 _ rfl) 16 rfl ?_
  refine s_lloadN X0 hx (hb hby d7_16) rfl 17 rfl ?_
  have B241 := Lb.mul (Lb.lit 2 (2) (2 : Int64)) H_k (by decide)
  refine s_lmul X0 hx (hb hby d7_17) ((2 : Int64) * k) rfl 18 rfl ?_
  have B242 := Lb.add B240 B241 (by decide)
  refine s_ladd X0 hx (hb hby d7_18) ((((k * k) * k) - (((3 : Int64) * k) * k)) + ((2 : Int64) * k)) rfl 19 rfl ?_
  refine s_ldc2J X0 hx (hb hby d7_19) hZ hown (wd hw 46 _ rfl) 22 rfl ?_
  refine s_lloadN X0 hx (hb hby d7_22) rfl 23 rfl ?_
  have B243 := Lb.mul (Lb.lit 3 (3) (3 : Int64)) H_k (by decide)
  refine s_lmul X0 hx (hb hby d7_23) ((3 : Int64) * k) rfl 24 rfl ?_
  refine s_lload X0 hx (hb hby d7_24) rfl 26 rfl ?_
  have B244 := Lb.mul B243 H_ks (by decide)
  refine s_lmul X0 hx (hb hby d7_26) (((3 : Int64) * k) * ks) rfl 27 rfl ?_
  have B245 := Lb.add B242 B244 (by decide)
  refine s_ladd X0 hx (hb hby d7_27) (((((k * k) * k) - (((3 : Int64) * k) * k)) + ((2 : Int64) * k)) + (((3 : Int64) * k) * ks)) rfl 28 rfl ?_
  refine s_ldc2J X0 hx (hb hby d7_28) hZ hown (wd hw 46 _ rfl) 31 rfl ?_
  refine s_lload X0 hx (hb hby d7_31) rfl 33 rfl ?_
  have B246 := Lb.mul (Lb.lit 3 (3) (3 : Int64)) H_ks (by decide)
  refine s_lmul X0 hx (hb hby d7_33) ((3 : Int64) * ks) rfl 34 rfl ?_
  have B247 := Lb.sub B245 B246 (by decide)
  refine s_lsub X0 hx (hb hby d7_34) ((((((k * k) * k) - (((3 : Int64) * k) * k)) + ((2 : Int64) * k)) + (((3 : Int64) * k) * ks)) - ((3 : Int64) * ks)) rfl 35 rfl ?_
  refine s_lload X0 hx (hb hby d7_35) rfl 37 rfl ?_
  have B248 := Lb.add B247 H_kc (by decide)
  refine s_ladd X0 hx (hb hby d7_37) (((((((k * k) * k) - (((3 : Int64) * k) * k)) + ((2 : Int64) * k)) + (((3 : Int64) * k) * ks)) - ((3 : Int64) * ks)) + kc) rfl 38 rfl ?_
  refine s_lloadN X0 hx (hb hby d7_38) rfl 39 rfl ?_
  have B249 := Lb.mul B248 H_t (by decide)
  refine s_lmul X0 hx (hb hby d7_39) ((((((((k * k) * k) - (((3 : Int64) * k) * k)) + ((2 : Int64) * k)) + (((3 : Int64) * k) * ks)) - ((3 : Int64) * ks)) + kc) * t) rfl 40 rfl ?_
  exact retJ X0 hx hlk hret (hb hby d7_40) e0 ⟨_, rfl, N0, rfl, B249.weak (by decide)⟩ (by decide) (by decide)
set_option maxRecDepth 65536 in
set_option maxHeartbeats 40000000 in
theorem rm_law (l : Launch) (Z : State) (a0 : Array Value) (hw : ∀ d ∈ tables_1, d.before a0 Z = true) (ws : List Jvm.Cond) (i0 i1 i2 i3 i4 i5 : Int32) (h0 : Heap) (n0 : Nat) (Z0 : n0 ≤ h0.size)  :
    Ct l Z x code maxLocals ret ws room_1 #[.int i0, .int i1, .int i2, .int i3, .int i4, .int i5] h0 (fun v h L => v = some (.int 1) ∧ Fr n0 L) := by
  refine Ct.intro pn_law #[.val (.int i0), .val (.int i1), .val (.int i2), .val (.int i3), .val (.int i4), .val (.int i5), .unset, .unset, .unset, .unset, .unset, .unset, .unset, .unset, .unset, .unset, .unset, .unset, .unset, .unset, .unset, .unset, .unset, .unset, .unset, .unset, .unset, .unset, .unset, .unset, .unset, .unset, .unset, .unset, .unset, .unset, .unset, .unset, .unset, .unset, .unset, .unset, .unset, .unset, .unset] (fun _ => by first | (simp [entryFrame, mkF, argsToLocals, Value.category, maxLocals]; done) | rfl) ?_
  intro p e s m below meth c T0 X0 hx hZ hby hml hown hnm hret hlk e0
  have N0 := Fr.nil n0
  refine s_iloadN X0 hx (hb hby at_0) rfl 1 rfl ?_
  obtain ⟨v250, T250, L250, X250, hQ250, st250⟩ := callStat X0 hx hZ hown (wd hw 0 _ rfl) (wd hw 1 _ rfl) (wd hw 2 _ rfl) (wd hw 3 _ rfl) (by decide) (rm_lo l Z a0 hw [] i0 h0 n0 Z0) e0 (L := #[.val (.int i0), .val (.int i1), .val (.int i2), .val (.int i3), .val (.int i4), .val (.int i5), .unset, .unset, .unset, .unset, .unset, .unset, .unset, .unset, .unset, .unset, .unset, .unset, .unset, .unset, .unset, .unset, .unset, .unset, .unset, .unset, .unset, .unset, .unset, .unset, .unset, .unset, .unset, .unset, .unset, .unset, .unset, .unset, .unset, .unset, .unset, .unset, .unset, .unset, .unset]) (hb hby at_1) (by rw [hml]; rfl) [.int i0] [] rfl rfl pd_0 rfl 0 (by show 2 * 0 + _ ≤ _; exact Nat.le_of_eq rfl) (by decide) (by decide) (by decide) (by decide)
  obtain ⟨r250, rfl, N250, hh250, H250⟩ := hQ250
  have M250 := Fr.app N0 N250
  refine Go.via st250 ?_
  show Go p e below _ (T250.setTop (mkF m 4 #[.val (.int i0), .val (.int i1), .val (.int i2), .val (.int i3), .val (.int i4), .val (.int i5), .unset, .unset, .unset, .unset, .unset, .unset, .unset, .unset, .unset, .unset, .unset, .unset, .unset, .unset, .unset, .unset, .unset, .unset, .unset, .unset, .unset, .unset, .unset, .unset, .unset, .unset, .unset, .unset, .unset, .unset, .unset, .unset, .unset, .unset, .unset, .unset, .unset, .unset, .unset] [.long r250]))
  refine s_lstore X250 hx (hb hby at_4) #[.val (.int i0), .val (.int i1), .val (.int i2), .val (.int i3), .val (.int i4), .val (.int i5), .val (.long r250), .second, .unset, .unset, .unset, .unset, .unset, .unset, .unset, .unset, .unset, .unset, .unset, .unset, .unset, .unset, .unset, .unset, .unset, .unset, .unset, .unset, .unset, .unset, .unset, .unset, .unset, .unset, .unset, .unset, .unset, .unset, .unset, .unset, .unset, .unset, .unset, .unset, .unset] rfl 6 rfl ?_
  refine s_iloadN X250 hx (hb hby at_6) rfl 7 rfl ?_
  obtain ⟨v251, T251, L251, X251, hQ251, st251⟩ := callStat X250 hx hZ hown (wd hw 0 _ rfl) (wd hw 1 _ rfl) (wd hw 2 _ rfl) (wd hw 3 _ rfl) (by decide) (rm_lo l Z a0 hw [] i1 h0 n0 Z0) hh250 (L := #[.val (.int i0), .val (.int i1), .val (.int i2), .val (.int i3), .val (.int i4), .val (.int i5), .val (.long r250), .second, .unset, .unset, .unset, .unset, .unset, .unset, .unset, .unset, .unset, .unset, .unset, .unset, .unset, .unset, .unset, .unset, .unset, .unset, .unset, .unset, .unset, .unset, .unset, .unset, .unset, .unset, .unset, .unset, .unset, .unset, .unset, .unset, .unset, .unset, .unset, .unset, .unset]) (hb hby at_7) (by rw [hml]; rfl) [.int i1] [] rfl rfl pd_0 rfl 0 (by show 2 * 0 + _ ≤ _; exact Nat.le_of_eq rfl) (by decide) (by decide) (by decide) (by decide)
  obtain ⟨r251, rfl, N251, hh251, H251⟩ := hQ251
  have M251 := Fr.app M250 N251
  refine Go.via st251 ?_
  show Go p e below _ (T251.setTop (mkF m 10 #[.val (.int i0), .val (.int i1), .val (.int i2), .val (.int i3), .val (.int i4), .val (.int i5), .val (.long r250), .second, .unset, .unset, .unset, .unset, .unset, .unset, .unset, .unset, .unset, .unset, .unset, .unset, .unset, .unset, .unset, .unset, .unset, .unset, .unset, .unset, .unset, .unset, .unset, .unset, .unset, .unset, .unset, .unset, .unset, .unset, .unset, .unset, .unset, .unset, .unset, .unset, .unset] [.long r251]))
  refine s_lstore X251 hx (hb hby at_10) #[.val (.int i0), .val (.int i1), .val (.int i2), .val (.int i3), .val (.int i4), .val (.int i5), .val (.long r250), .second, .val (.long r251), .second, .unset, .unset, .unset, .unset, .unset, .unset, .unset, .unset, .unset, .unset, .unset, .unset, .unset, .unset, .unset, .unset, .unset, .unset, .unset, .unset, .unset, .unset, .unset, .unset, .unset, .unset, .unset, .unset, .unset, .unset, .unset, .unset, .unset, .unset, .unset] rfl 12 rfl ?_
  refine s_iloadN X251 hx (hb hby at_12) rfl 13 rfl ?_
  obtain ⟨v252, T252, L252, X252, hQ252, st252⟩ := callStat X251 hx hZ hown (wd hw 0 _ rfl) (wd hw 1 _ rfl) (wd hw 2 _ rfl) (wd hw 3 _ rfl) (by decide) (rm_lo l Z a0 hw [] i2 h0 n0 Z0) hh251 (L := #[.val (.int i0), .val (.int i1), .val (.int i2), .val (.int i3), .val (.int i4), .val (.int i5), .val (.long r250), .second, .val (.long r251), .second, .unset, .unset, .unset, .unset, .unset, .unset, .unset, .unset, .unset, .unset, .unset, .unset, .unset, .unset, .unset, .unset, .unset, .unset, .unset, .unset, .unset, .unset, .unset, .unset, .unset, .unset, .unset, .unset, .unset, .unset, .unset, .unset, .unset, .unset, .unset]) (hb hby at_13) (by rw [hml]; rfl) [.int i2] [] rfl rfl pd_0 rfl 0 (by show 2 * 0 + _ ≤ _; exact Nat.le_of_eq rfl) (by decide) (by decide) (by decide) (by decide)
  obtain ⟨r252, rfl, N252, hh252, H252⟩ := hQ252
  have M252 := Fr.app M251 N252
  refine Go.via st252 ?_
  show Go p e below _ (T252.setTop (mkF m 16 #[.val (.int i0), .val (.int i1), .val (.int i2), .val (.int i3), .val (.int i4), .val (.int i5), .val (.long r250), .second, .val (.long r251), .second, .unset, .unset, .unset, .unset, .unset, .unset, .unset, .unset, .unset, .unset, .unset, .unset, .unset, .unset, .unset, .unset, .unset, .unset, .unset, .unset, .unset, .unset, .unset, .unset, .unset, .unset, .unset, .unset, .unset, .unset, .unset, .unset, .unset, .unset, .unset] [.long r252]))
  refine s_lstore X252 hx (hb hby at_16) #[.val (.int i0), .val (.int i1), .val (.int i2), .val (.int i3), .val (.int i4), .val (.int i5), .val (.long r250), .second, .val (.long r251), .second, .val (.long r252), .second, .unset, .unset, .unset, .unset, .unset, .unset, .unset, .unset, .unset, .unset, .unset, .unset, .unset, .unset, .unset, .unset, .unset, .unset, .unset, .unset, .unset, .unset, .unset, .unset, .unset, .unset, .unset, .unset, .unset, .unset, .unset, .unset, .unset] rfl 18 rfl ?_
  refine s_iloadN X252 hx (hb hby at_18) rfl 19 rfl ?_
  obtain ⟨v253, T253, L253, X253, hQ253, st253⟩ := callStat X252 hx hZ hown (wd hw 0 _ rfl) (wd hw 1 _ rfl) (wd hw 2 _ rfl) (wd hw 3 _ rfl) (by decide) (rm_lo l Z a0 hw [] i3 h0 n0 Z0) hh252 (L := #[.val (.int i0), .val (.int i1), .val (.int i2), .val (.int i3), .val (.int i4), .val (.int i5), .val (.long r250), .second, .val (.long r251), .second, .val (.long r252), .second, .unset, .unset, .unset, .unset, .unset, .unset, .unset, .unset, .unset, .unset, .unset, .unset, .unset, .unset, .unset, .unset, .unset, .unset, .unset, .unset, .unset, .unset, .unset, .unset, .unset, .unset, .unset, .unset, .unset, .unset, .unset, .unset, .unset]) (hb hby at_19) (by rw [hml]; rfl) [.int i3] [] rfl rfl pd_0 rfl 0 (by show 2 * 0 + _ ≤ _; exact Nat.le_of_eq rfl) (by decide) (by decide) (by decide) (by decide)
  obtain ⟨r253, rfl, N253, hh253, H253⟩ := hQ253
  have M253 := Fr.app M252 N253
  refine Go.via st253 ?_
  show Go p e below _ (T253.setTop (mkF m 22 #[.val (.int i0), .val (.int i1), .val (.int i2), .val (.int i3), .val (.int i4), .val (.int i5), .val (.long r250), .second, .val (.long r251), .second, .val (.long r252), .second, .unset, .unset, .unset, .unset, .unset, .unset, .unset, .unset, .unset, .unset, .unset, .unset, .unset, .unset, .unset, .unset, .unset, .unset, .unset, .unset, .unset, .unset, .unset, .unset, .unset, .unset, .unset, .unset, .unset, .unset, .unset, .unset, .unset] [.long r253]))
  refine s_lstore X253 hx (hb hby at_22) #[.val (.int i0), .val (.int i1), .val (.int i2), .val (.int i3), .val (.int i4), .val (.int i5), .val (.long r250), .second, .val (.long r251), .second, .val (.long r252), .second, .val (.long r253), .second, .unset, .unset, .unset, .unset, .unset, .unset, .unset, .unset, .unset, .unset, .unset, .unset, .unset, .unset, .unset, .unset, .unset, .unset, .unset, .unset, .unset, .unset, .unset, .unset, .unset, .unset, .unset, .unset, .unset, .unset, .unset] rfl 24 rfl ?_
  refine s_iload X253 hx (hb hby at_24) rfl 26 rfl ?_
  obtain ⟨v254, T254, L254, X254, hQ254, st254⟩ := callStat X253 hx hZ hown (wd hw 0 _ rfl) (wd hw 1 _ rfl) (wd hw 2 _ rfl) (wd hw 3 _ rfl) (by decide) (rm_lo l Z a0 hw [] i4 h0 n0 Z0) hh253 (L := #[.val (.int i0), .val (.int i1), .val (.int i2), .val (.int i3), .val (.int i4), .val (.int i5), .val (.long r250), .second, .val (.long r251), .second, .val (.long r252), .second, .val (.long r253), .second, .unset, .unset, .unset, .unset, .unset, .unset, .unset, .unset, .unset, .unset, .unset, .unset, .unset, .unset, .unset, .unset, .unset, .unset, .unset, .unset, .unset, .unset, .unset, .unset, .unset, .unset, .unset, .unset, .unset, .unset, .unset]) (hb hby at_26) (by rw [hml]; rfl) [.int i4] [] rfl rfl pd_0 rfl 0 (by show 2 * 0 + _ ≤ _; exact Nat.le_of_eq rfl) (by decide) (by decide) (by decide) (by decide)
  obtain ⟨r254, rfl, N254, hh254, H254⟩ := hQ254
  have M254 := Fr.app M253 N254
  refine Go.via st254 ?_
  show Go p e below _ (T254.setTop (mkF m 29 #[.val (.int i0), .val (.int i1), .val (.int i2), .val (.int i3), .val (.int i4), .val (.int i5), .val (.long r250), .second, .val (.long r251), .second, .val (.long r252), .second, .val (.long r253), .second, .unset, .unset, .unset, .unset, .unset, .unset, .unset, .unset, .unset, .unset, .unset, .unset, .unset, .unset, .unset, .unset, .unset, .unset, .unset, .unset, .unset, .unset, .unset, .unset, .unset, .unset, .unset, .unset, .unset, .unset, .unset] [.long r254]))
  refine s_lstore X254 hx (hb hby at_29) #[.val (.int i0), .val (.int i1), .val (.int i2), .val (.int i3), .val (.int i4), .val (.int i5), .val (.long r250), .second, .val (.long r251), .second, .val (.long r252), .second, .val (.long r253), .second, .val (.long r254), .second, .unset, .unset, .unset, .unset, .unset, .unset, .unset, .unset, .unset, .unset, .unset, .unset, .unset, .unset, .unset, .unset, .unset, .unset, .unset, .unset, .unset, .unset, .unset, .unset, .unset, .unset, .unset, .unset, .unset] rfl 31 rfl ?_
  refine s_iload X254 hx (hb hby at_31) rfl 33 rfl ?_
  obtain ⟨v255, T255, L255, X255, hQ255, st255⟩ := callStat X254 hx hZ hown (wd hw 0 _ rfl) (wd hw 1 _ rfl) (wd hw 2 _ rfl) (wd hw 3 _ rfl) (by decide) (rm_lo l Z a0 hw [] i5 h0 n0 Z0) hh254 (L := #[.val (.int i0), .val (.int i1), .val (.int i2), .val (.int i3), .val (.int i4), .val (.int i5), .val (.long r250), .second, .val (.long r251), .second, .val (.long r252), .second, .val (.long r253), .second, .val (.long r254), .second, .unset, .unset, .unset, .unset, .unset, .unset, .unset, .unset, .unset, .unset, .unset, .unset, .unset, .unset, .unset, .unset, .unset, .unset, .unset, .unset, .unset, .unset, .unset, .unset, .unset, .unset, .unset, .unset, .unset]) (hb hby at_33) (by rw [hml]; rfl) [.int i5] [] rfl rfl pd_0 rfl 0 (by show 2 * 0 + _ ≤ _; exact Nat.le_of_eq rfl) (by decide) (by decide) (by decide) (by decide)
  obtain ⟨r255, rfl, N255, hh255, H255⟩ := hQ255
  have M255 := Fr.app M254 N255
  refine Go.via st255 ?_
  show Go p e below _ (T255.setTop (mkF m 36 #[.val (.int i0), .val (.int i1), .val (.int i2), .val (.int i3), .val (.int i4), .val (.int i5), .val (.long r250), .second, .val (.long r251), .second, .val (.long r252), .second, .val (.long r253), .second, .val (.long r254), .second, .unset, .unset, .unset, .unset, .unset, .unset, .unset, .unset, .unset, .unset, .unset, .unset, .unset, .unset, .unset, .unset, .unset, .unset, .unset, .unset, .unset, .unset, .unset, .unset, .unset, .unset, .unset, .unset, .unset] [.long r255]))
  refine s_lstore X255 hx (hb hby at_36) #[.val (.int i0), .val (.int i1), .val (.int i2), .val (.int i3), .val (.int i4), .val (.int i5), .val (.long r250), .second, .val (.long r251), .second, .val (.long r252), .second, .val (.long r253), .second, .val (.long r254), .second, .val (.long r255), .second, .unset, .unset, .unset, .unset, .unset, .unset, .unset, .unset, .unset, .unset, .unset, .unset, .unset, .unset, .unset, .unset, .unset, .unset, .unset, .unset, .unset, .unset, .unset, .unset, .unset, .unset, .unset] rfl 38 rfl ?_
  refine s_iloadN X255 hx (hb hby at_38) rfl 39 rfl ?_
  obtain ⟨v256, T256, L256, X256, hQ256, st256⟩ := callStat X255 hx hZ hown (wd hw 4 _ rfl) (wd hw 5 _ rfl) (wd hw 2 _ rfl) (wd hw 6 _ rfl) (by decide) (rm_hi l Z a0 hw [] i0 h0 n0 Z0) hh255 (L := #[.val (.int i0), .val (.int i1), .val (.int i2), .val (.int i3), .val (.int i4), .val (.int i5), .val (.long r250), .second, .val (.long r251), .second, .val (.long r252), .second, .val (.long r253), .second, .val (.long r254), .second, .val (.long r255), .second, .unset, .unset, .unset, .unset, .unset, .unset, .unset, .unset, .unset, .unset, .unset, .unset, .unset, .unset, .unset, .unset, .unset, .unset, .unset, .unset, .unset, .unset, .unset, .unset, .unset, .unset, .unset]) (hb hby at_39) (by rw [hml]; rfl) [.int i0] [] rfl rfl pd_1 rfl 0 (by show 2 * 0 + _ ≤ _; exact Nat.le_of_eq rfl) (by decide) (by decide) (by decide) (by decide)
  obtain ⟨r256, rfl, N256, hh256, H256⟩ := hQ256
  have M256 := Fr.app M255 N256
  refine Go.via st256 ?_
  show Go p e below _ (T256.setTop (mkF m 42 #[.val (.int i0), .val (.int i1), .val (.int i2), .val (.int i3), .val (.int i4), .val (.int i5), .val (.long r250), .second, .val (.long r251), .second, .val (.long r252), .second, .val (.long r253), .second, .val (.long r254), .second, .val (.long r255), .second, .unset, .unset, .unset, .unset, .unset, .unset, .unset, .unset, .unset, .unset, .unset, .unset, .unset, .unset, .unset, .unset, .unset, .unset, .unset, .unset, .unset, .unset, .unset, .unset, .unset, .unset, .unset] [.long r256]))
  refine s_lstore X256 hx (hb hby at_42) #[.val (.int i0), .val (.int i1), .val (.int i2), .val (.int i3), .val (.int i4), .val (.int i5), .val (.long r250), .second, .val (.long r251), .second, .val (.long r252), .second, .val (.long r253), .second, .val (.long r254), .second, .val (.long r255), .second, .val (.long r256), .second, .unset, .unset, .unset, .unset, .unset, .unset, .unset, .unset, .unset, .unset, .unset, .unset, .unset, .unset, .unset, .unset, .unset, .unset, .unset, .unset, .unset, .unset, .unset, .unset, .unset] rfl 44 rfl ?_
  refine s_iloadN X256 hx (hb hby at_44) rfl 45 rfl ?_
  obtain ⟨v257, T257, L257, X257, hQ257, st257⟩ := callStat X256 hx hZ hown (wd hw 4 _ rfl) (wd hw 5 _ rfl) (wd hw 2 _ rfl) (wd hw 6 _ rfl) (by decide) (rm_hi l Z a0 hw [] i1 h0 n0 Z0) hh256 (L := #[.val (.int i0), .val (.int i1), .val (.int i2), .val (.int i3), .val (.int i4), .val (.int i5), .val (.long r250), .second, .val (.long r251), .second, .val (.long r252), .second, .val (.long r253), .second, .val (.long r254), .second, .val (.long r255), .second, .val (.long r256), .second, .unset, .unset, .unset, .unset, .unset, .unset, .unset, .unset, .unset, .unset, .unset, .unset, .unset, .unset, .unset, .unset, .unset, .unset, .unset, .unset, .unset, .unset, .unset, .unset, .unset]) (hb hby at_45) (by rw [hml]; rfl) [.int i1] [] rfl rfl pd_1 rfl 0 (by show 2 * 0 + _ ≤ _; exact Nat.le_of_eq rfl) (by decide) (by decide) (by decide) (by decide)
  obtain ⟨r257, rfl, N257, hh257, H257⟩ := hQ257
  have M257 := Fr.app M256 N257
  refine Go.via st257 ?_
  show Go p e below _ (T257.setTop (mkF m 48 #[.val (.int i0), .val (.int i1), .val (.int i2), .val (.int i3), .val (.int i4), .val (.int i5), .val (.long r250), .second, .val (.long r251), .second, .val (.long r252), .second, .val (.long r253), .second, .val (.long r254), .second, .val (.long r255), .second, .val (.long r256), .second, .unset, .unset, .unset, .unset, .unset, .unset, .unset, .unset, .unset, .unset, .unset, .unset, .unset, .unset, .unset, .unset, .unset, .unset, .unset, .unset, .unset, .unset, .unset, .unset, .unset] [.long r257]))
  refine s_lstore X257 hx (hb hby at_48) #[.val (.int i0), .val (.int i1), .val (.int i2), .val (.int i3), .val (.int i4), .val (.int i5), .val (.long r250), .second, .val (.long r251), .second, .val (.long r252), .second, .val (.long r253), .second, .val (.long r254), .second, .val (.long r255), .second, .val (.long r256), .second, .val (.long r257), .second, .unset, .unset, .unset, .unset, .unset, .unset, .unset, .unset, .unset, .unset, .unset, .unset, .unset, .unset, .unset, .unset, .unset, .unset, .unset, .unset, .unset, .unset, .unset] rfl 50 rfl ?_
  refine s_iloadN X257 hx (hb hby at_50) rfl 51 rfl ?_
  obtain ⟨v258, T258, L258, X258, hQ258, st258⟩ := callStat X257 hx hZ hown (wd hw 4 _ rfl) (wd hw 5 _ rfl) (wd hw 2 _ rfl) (wd hw 6 _ rfl) (by decide) (rm_hi l Z a0 hw [] i2 h0 n0 Z0) hh257 (L := #[.val (.int i0), .val (.int i1), .val (.int i2), .val (.int i3), .val (.int i4), .val (.int i5), .val (.long r250), .second, .val (.long r251), .second, .val (.long r252), .second, .val (.long r253), .second, .val (.long r254), .second, .val (.long r255), .second, .val (.long r256), .second, .val (.long r257), .second, .unset, .unset, .unset, .unset, .unset, .unset, .unset, .unset, .unset, .unset, .unset, .unset, .unset, .unset, .unset, .unset, .unset, .unset, .unset, .unset, .unset, .unset, .unset]) (hb hby at_51) (by rw [hml]; rfl) [.int i2] [] rfl rfl pd_1 rfl 0 (by show 2 * 0 + _ ≤ _; exact Nat.le_of_eq rfl) (by decide) (by decide) (by decide) (by decide)
  obtain ⟨r258, rfl, N258, hh258, H258⟩ := hQ258
  have M258 := Fr.app M257 N258
  refine Go.via st258 ?_
  show Go p e below _ (T258.setTop (mkF m 54 #[.val (.int i0), .val (.int i1), .val (.int i2), .val (.int i3), .val (.int i4), .val (.int i5), .val (.long r250), .second, .val (.long r251), .second, .val (.long r252), .second, .val (.long r253), .second, .val (.long r254), .second, .val (.long r255), .second, .val (.long r256), .second, .val (.long r257), .second, .unset, .unset, .unset, .unset, .unset, .unset, .unset, .unset, .unset, .unset, .unset, .unset, .unset, .unset, .unset, .unset, .unset, .unset, .unset, .unset, .unset, .unset, .unset] [.long r258]))
  refine s_lstore X258 hx (hb hby at_54) #[.val (.int i0), .val (.int i1), .val (.int i2), .val (.int i3), .val (.int i4), .val (.int i5), .val (.long r250), .second, .val (.long r251), .second, .val (.long r252), .second, .val (.long r253), .second, .val (.long r254), .second, .val (.long r255), .second, .val (.long r256), .second, .val (.long r257), .second, .val (.long r258), .second, .unset, .unset, .unset, .unset, .unset, .unset, .unset, .unset, .unset, .unset, .unset, .unset, .unset, .unset, .unset, .unset, .unset, .unset, .unset, .unset, .unset] rfl 56 rfl ?_
  refine s_iloadN X258 hx (hb hby at_56) rfl 57 rfl ?_
  obtain ⟨v259, T259, L259, X259, hQ259, st259⟩ := callStat X258 hx hZ hown (wd hw 4 _ rfl) (wd hw 5 _ rfl) (wd hw 2 _ rfl) (wd hw 6 _ rfl) (by decide) (rm_hi l Z a0 hw [] i3 h0 n0 Z0) hh258 (L := #[.val (.int i0), .val (.int i1), .val (.int i2), .val (.int i3), .val (.int i4), .val (.int i5), .val (.long r250), .second, .val (.long r251), .second, .val (.long r252), .second, .val (.long r253), .second, .val (.long r254), .second, .val (.long r255), .second, .val (.long r256), .second, .val (.long r257), .second, .val (.long r258), .second, .unset, .unset, .unset, .unset, .unset, .unset, .unset, .unset, .unset, .unset, .unset, .unset, .unset, .unset, .unset, .unset, .unset, .unset, .unset, .unset, .unset]) (hb hby at_57) (by rw [hml]; rfl) [.int i3] [] rfl rfl pd_1 rfl 0 (by show 2 * 0 + _ ≤ _; exact Nat.le_of_eq rfl) (by decide) (by decide) (by decide) (by decide)
  obtain ⟨r259, rfl, N259, hh259, H259⟩ := hQ259
  have M259 := Fr.app M258 N259
  refine Go.via st259 ?_
  show Go p e below _ (T259.setTop (mkF m 60 #[.val (.int i0), .val (.int i1), .val (.int i2), .val (.int i3), .val (.int i4), .val (.int i5), .val (.long r250), .second, .val (.long r251), .second, .val (.long r252), .second, .val (.long r253), .second, .val (.long r254), .second, .val (.long r255), .second, .val (.long r256), .second, .val (.long r257), .second, .val (.long r258), .second, .unset, .unset, .unset, .unset, .unset, .unset, .unset, .unset, .unset, .unset, .unset, .unset, .unset, .unset, .unset, .unset, .unset, .unset, .unset, .unset, .unset] [.long r259]))
  refine s_lstore X259 hx (hb hby at_60) #[.val (.int i0), .val (.int i1), .val (.int i2), .val (.int i3), .val (.int i4), .val (.int i5), .val (.long r250), .second, .val (.long r251), .second, .val (.long r252), .second, .val (.long r253), .second, .val (.long r254), .second, .val (.long r255), .second, .val (.long r256), .second, .val (.long r257), .second, .val (.long r258), .second, .val (.long r259), .second, .unset, .unset, .unset, .unset, .unset, .unset, .unset, .unset, .unset, .unset, .unset, .unset, .unset, .unset, .unset, .unset, .unset, .unset, .unset] rfl 62 rfl ?_
  refine s_iload X259 hx (hb hby at_62) rfl 64 rfl ?_
  obtain ⟨v260, T260, L260, X260, hQ260, st260⟩ := callStat X259 hx hZ hown (wd hw 4 _ rfl) (wd hw 5 _ rfl) (wd hw 2 _ rfl) (wd hw 6 _ rfl) (by decide) (rm_hi l Z a0 hw [] i4 h0 n0 Z0) hh259 (L := #[.val (.int i0), .val (.int i1), .val (.int i2), .val (.int i3), .val (.int i4), .val (.int i5), .val (.long r250), .second, .val (.long r251), .second, .val (.long r252), .second, .val (.long r253), .second, .val (.long r254), .second, .val (.long r255), .second, .val (.long r256), .second, .val (.long r257), .second, .val (.long r258), .second, .val (.long r259), .second, .unset, .unset, .unset, .unset, .unset, .unset, .unset, .unset, .unset, .unset, .unset, .unset, .unset, .unset, .unset, .unset, .unset, .unset, .unset]) (hb hby at_64) (by rw [hml]; rfl) [.int i4] [] rfl rfl pd_1 rfl 0 (by show 2 * 0 + _ ≤ _; exact Nat.le_of_eq rfl) (by decide) (by decide) (by decide) (by decide)
  obtain ⟨r260, rfl, N260, hh260, H260⟩ := hQ260
  have M260 := Fr.app M259 N260
  refine Go.via st260 ?_
  show Go p e below _ (T260.setTop (mkF m 67 #[.val (.int i0), .val (.int i1), .val (.int i2), .val (.int i3), .val (.int i4), .val (.int i5), .val (.long r250), .second, .val (.long r251), .second, .val (.long r252), .second, .val (.long r253), .second, .val (.long r254), .second, .val (.long r255), .second, .val (.long r256), .second, .val (.long r257), .second, .val (.long r258), .second, .val (.long r259), .second, .unset, .unset, .unset, .unset, .unset, .unset, .unset, .unset, .unset, .unset, .unset, .unset, .unset, .unset, .unset, .unset, .unset, .unset, .unset] [.long r260]))
  refine s_lstore X260 hx (hb hby at_67) #[.val (.int i0), .val (.int i1), .val (.int i2), .val (.int i3), .val (.int i4), .val (.int i5), .val (.long r250), .second, .val (.long r251), .second, .val (.long r252), .second, .val (.long r253), .second, .val (.long r254), .second, .val (.long r255), .second, .val (.long r256), .second, .val (.long r257), .second, .val (.long r258), .second, .val (.long r259), .second, .val (.long r260), .second, .unset, .unset, .unset, .unset, .unset, .unset, .unset, .unset, .unset, .unset, .unset, .unset, .unset, .unset, .unset, .unset, .unset] rfl 69 rfl ?_
  refine s_iload X260 hx (hb hby at_69) rfl 71 rfl ?_
  obtain ⟨v261, T261, L261, X261, hQ261, st261⟩ := callStat X260 hx hZ hown (wd hw 4 _ rfl) (wd hw 5 _ rfl) (wd hw 2 _ rfl) (wd hw 6 _ rfl) (by decide) (rm_hi l Z a0 hw [] i5 h0 n0 Z0) hh260 (L := #[.val (.int i0), .val (.int i1), .val (.int i2), .val (.int i3), .val (.int i4), .val (.int i5), .val (.long r250), .second, .val (.long r251), .second, .val (.long r252), .second, .val (.long r253), .second, .val (.long r254), .second, .val (.long r255), .second, .val (.long r256), .second, .val (.long r257), .second, .val (.long r258), .second, .val (.long r259), .second, .val (.long r260), .second, .unset, .unset, .unset, .unset, .unset, .unset, .unset, .unset, .unset, .unset, .unset, .unset, .unset, .unset, .unset, .unset, .unset]) (hb hby at_71) (by rw [hml]; rfl) [.int i5] [] rfl rfl pd_1 rfl 0 (by show 2 * 0 + _ ≤ _; exact Nat.le_of_eq rfl) (by decide) (by decide) (by decide) (by decide)
  obtain ⟨r261, rfl, N261, hh261, H261⟩ := hQ261
  have M261 := Fr.app M260 N261
  refine Go.via st261 ?_
  show Go p e below _ (T261.setTop (mkF m 74 #[.val (.int i0), .val (.int i1), .val (.int i2), .val (.int i3), .val (.int i4), .val (.int i5), .val (.long r250), .second, .val (.long r251), .second, .val (.long r252), .second, .val (.long r253), .second, .val (.long r254), .second, .val (.long r255), .second, .val (.long r256), .second, .val (.long r257), .second, .val (.long r258), .second, .val (.long r259), .second, .val (.long r260), .second, .unset, .unset, .unset, .unset, .unset, .unset, .unset, .unset, .unset, .unset, .unset, .unset, .unset, .unset, .unset, .unset, .unset] [.long r261]))
  refine s_lstore X261 hx (hb hby at_74) #[.val (.int i0), .val (.int i1), .val (.int i2), .val (.int i3), .val (.int i4), .val (.int i5), .val (.long r250), .second, .val (.long r251), .second, .val (.long r252), .second, .val (.long r253), .second, .val (.long r254), .second, .val (.long r255), .second, .val (.long r256), .second, .val (.long r257), .second, .val (.long r258), .second, .val (.long r259), .second, .val (.long r260), .second, .val (.long r261), .second, .unset, .unset, .unset, .unset, .unset, .unset, .unset, .unset, .unset, .unset, .unset, .unset, .unset, .unset, .unset] rfl 76 rfl ?_
  obtain ⟨T262, h262, X262, e262, E262, A262, D262, -, st262⟩ := newO X261 hx hZ hown (wd hw 7 _ rfl) (wd hw 8 _ rfl) (wd hw 9 _ rfl) hh261 (g := (mkF m 76 #[.val (.int i0), .val (.int i1), .val (.int i2), .val (.int i3), .val (.int i4), .val (.int i5), .val (.long r250), .second, .val (.long r251), .second, .val (.long r252), .second, .val (.long r253), .second, .val (.long r254), .second, .val (.long r255), .second, .val (.long r256), .second, .val (.long r257), .second, .val (.long r258), .second, .val (.long r259), .second, .val (.long r260), .second, .val (.long r261), .second, .unset, .unset, .unset, .unset, .unset, .unset, .unset, .unset, .unset, .unset, .unset, .unset, .unset, .unset, .unset] [])) rfl (hb hby at_76) (by decide) (by decide)
  obtain ⟨a262, g262⟩ : ∃ z, z = h0.size := ⟨_, rfl⟩
  rw [← g262] at A262 D262 st262
  have q263 : n0 ≤ a262 := by rw [g262]; exact Z0
  have Z264 := Nat.le_trans Z0 E262.1
  have F265 : Fld Z h262 a262 "com/example/entalpi/entalpi/fluids/Derivatives" "alpha" "D" (.double (0 : UInt64)) := D262 (Or.inl (wd hw 22 _ rfl)) (ty := .double) (by decide)
  have F266 : Fld Z h262 a262 "com/example/entalpi/entalpi/fluids/Derivatives" "tauAlphaTau" "D" (.double (0 : UInt64)) := D262 (Or.inl (wd hw 24 _ rfl)) (ty := .double) (by decide)
  have F267 : Fld Z h262 a262 "com/example/entalpi/entalpi/fluids/Derivatives" "tauTauAlphaTauTau" "D" (.double (0 : UInt64)) := D262 (Or.inl (wd hw 26 _ rfl)) (ty := .double) (by decide)
  have F268 : Fld Z h262 a262 "com/example/entalpi/entalpi/fluids/Derivatives" "deltaResidualDelta" "D" (.double (0 : UInt64)) := D262 (Or.inl (wd hw 28 _ rfl)) (ty := .double) (by decide)
  have F269 : Fld Z h262 a262 "com/example/entalpi/entalpi/fluids/Derivatives" "deltaDeltaResidualDeltaDelta" "D" (.double (0 : UInt64)) := D262 (Or.inl (wd hw 30 _ rfl)) (ty := .double) (by decide)
  have F270 : Fld Z h262 a262 "com/example/entalpi/entalpi/fluids/Derivatives" "deltaTauResidualDeltaTau" "D" (.double (0 : UInt64)) := D262 (Or.inl (wd hw 32 _ rfl)) (ty := .double) (by decide)
  have F271 : Fld Z h262 a262 "com/example/entalpi/entalpi/fluids/Derivatives" "deltaDeltaDeltaResidualDeltaDeltaDelta" "D" (.double (0 : UInt64)) := D262 (Or.inl (wd hw 34 _ rfl)) (ty := .double) (by decide)
  refine Go.via st262 ?_
  show Go p e below _ (T262.setTop (mkF m 79 #[.val (.int i0), .val (.int i1), .val (.int i2), .val (.int i3), .val (.int i4), .val (.int i5), .val (.long r250), .second, .val (.long r251), .second, .val (.long r252), .second, .val (.long r253), .second, .val (.long r254), .second, .val (.long r255), .second, .val (.long r256), .second, .val (.long r257), .second, .val (.long r258), .second, .val (.long r259), .second, .val (.long r260), .second, .val (.long r261), .second, .unset, .unset, .unset, .unset, .unset, .unset, .unset, .unset, .unset, .unset, .unset, .unset, .unset, .unset, .unset] [.ref a262]))
  refine s_dup X262 hx (hb hby at_79) rfl 80 rfl ?_
  obtain ⟨v272, T272, L272, X272, hQ272, st272⟩ := callInit X262 hx hZ hown rfl (wd hw 10 _ rfl) (wd hw 11 _ rfl) (wd hw 9 _ rfl) (wd hw 12 _ rfl) (by decide) (rm_init l Z a0 hw [] a262 h262 n0 Z264) e262 (L := #[.val (.int i0), .val (.int i1), .val (.int i2), .val (.int i3), .val (.int i4), .val (.int i5), .val (.long r250), .second, .val (.long r251), .second, .val (.long r252), .second, .val (.long r253), .second, .val (.long r254), .second, .val (.long r255), .second, .val (.long r256), .second, .val (.long r257), .second, .val (.long r258), .second, .val (.long r259), .second, .val (.long r260), .second, .val (.long r261), .second, .unset, .unset, .unset, .unset, .unset, .unset, .unset, .unset, .unset, .unset, .unset, .unset, .unset, .unset, .unset]) (hb hby at_80) (by rw [hml]; rfl) a262 [] [.ref a262] rfl rfl pd_2 rfl 1 (by show 2 * 0 + _ ≤ _; exact Nat.le_of_eq rfl) (by decide) (by decide) (by decide) (by decide)
  obtain ⟨rfl, N272, hh272⟩ := hQ272
  have M272 := Fr.app M261 N272
  refine Go.via st272 ?_
  show Go p e below _ (T272.setTop (mkF m 83 #[.val (.int i0), .val (.int i1), .val (.int i2), .val (.int i3), .val (.int i4), .val (.int i5), .val (.long r250), .second, .val (.long r251), .second, .val (.long r252), .second, .val (.long r253), .second, .val (.long r254), .second, .val (.long r255), .second, .val (.long r256), .second, .val (.long r257), .second, .val (.long r258), .second, .val (.long r259), .second, .val (.long r260), .second, .val (.long r261), .second, .unset, .unset, .unset, .unset, .unset, .unset, .unset, .unset, .unset, .unset, .unset, .unset, .unset, .unset, .unset] [.ref a262]))
  refine s_astore X272 hx (hb hby at_83) rfl #[.val (.int i0), .val (.int i1), .val (.int i2), .val (.int i3), .val (.int i4), .val (.int i5), .val (.long r250), .second, .val (.long r251), .second, .val (.long r252), .second, .val (.long r253), .second, .val (.long r254), .second, .val (.long r255), .second, .val (.long r256), .second, .val (.long r257), .second, .val (.long r258), .second, .val (.long r259), .second, .val (.long r260), .second, .val (.long r261), .second, .val (.ref a262), .unset, .unset, .unset, .unset, .unset, .unset, .unset, .unset, .unset, .unset, .unset, .unset, .unset, .unset] rfl 85 rfl ?_
  refine s_aload X272 hx (hb hby at_85) rfl rfl 87 rfl ?_
  refine s_lload X272 hx (hb hby at_87) rfl 89 rfl ?_
  have Dd273 := Lb.l2d H250 (by decide)
  obtain ⟨d273, h_d273⟩ : ∃ v, (FP.l2d r250) = v := ⟨_, rfl⟩
  rw [h_d273] at Dd273
  refine s_l2d X272 hx (hb hby at_89) d273 h_d273 90 rfl ?_
  refine s_lload X272 hx (hb hby at_90) rfl 92 rfl ?_
  have Dd274 := Lb.l2d H251 (by decide)
  obtain ⟨d274, h_d274⟩ : ∃ v, (FP.l2d r251) = v := ⟨_, rfl⟩
  rw [h_d274] at Dd274
  refine s_l2d X272 hx (hb hby at_92) d274 h_d274 93 rfl ?_
  refine s_lload X272 hx (hb hby at_93) rfl 95 rfl ?_
  have Dd275 := Lb.l2d H252 (by decide)
  obtain ⟨d275, h_d275⟩ : ∃ v, (FP.l2d r252) = v := ⟨_, rfl⟩
  rw [h_d275] at Dd275
  refine s_l2d X272 hx (hb hby at_95) d275 h_d275 96 rfl ?_
  refine s_lload X272 hx (hb hby at_96) rfl 98 rfl ?_
  have Dd276 := Lb.l2d H253 (by decide)
  obtain ⟨d276, h_d276⟩ : ∃ v, (FP.l2d r253) = v := ⟨_, rfl⟩
  rw [h_d276] at Dd276
  refine s_l2d X272 hx (hb hby at_98) d276 h_d276 99 rfl ?_
  refine s_lload X272 hx (hb hby at_99) rfl 101 rfl ?_
  have Dd277 := Lb.l2d H254 (by decide)
  obtain ⟨d277, h_d277⟩ : ∃ v, (FP.l2d r254) = v := ⟨_, rfl⟩
  rw [h_d277] at Dd277
  refine s_l2d X272 hx (hb hby at_101) d277 h_d277 102 rfl ?_
  refine s_lload X272 hx (hb hby at_102) rfl 104 rfl ?_
  have Dd278 := Lb.l2d H255 (by decide)
  obtain ⟨d278, h_d278⟩ : ∃ v, (FP.l2d r255) = v := ⟨_, rfl⟩
  rw [h_d278] at Dd278
  refine s_l2d X272 hx (hb hby at_104) d278 h_d278 105 rfl ?_
  obtain ⟨v279, T279, L279, X279, hQ279, st279⟩ := callVirt X272 hx hZ hown (wd hw 16 _ rfl) (wd hw 17 _ rfl) (wd hw 19 _ rfl) (wd hw 18 _ rfl) (wd hw 9 _ rfl) (wd hw 20 _ rfl) (by decide) (rm_add1 l Z a0 hw [] a262 d273 d274 d275 d276 d277 d278 _ _ _ _ _ _ (0 : UInt64) (0 : UInt64) (0 : UInt64) (0 : UInt64) (0 : UInt64) (0 : UInt64) (0 : UInt64) _ _ _ _ _ _ _ h262 n0 Z264 A262 q263 F265 F266 F267 F268 F269 F270 F271 (Db.zero.weak (by decide)) (Db.zero.weak (by decide)) (Db.zero.weak (by decide)) (Db.zero.weak (by decide)) (Db.zero.weak (by decide)) (Db.zero.weak (by decide)) (Db.zero.weak (by decide)) (Dd273.weak (by decide)) (Dd274.weak (by decide)) (Dd275.weak (by decide)) (Dd276.weak (by decide)) (Dd277.weak (by decide)) (Dd278.weak (by decide))) hh272 a262 A262 (L := #[.val (.int i0), .val (.int i1), .val (.int i2), .val (.int i3), .val (.int i4), .val (.int i5), .val (.long r250), .second, .val (.long r251), .second, .val (.long r252), .second, .val (.long r253), .second, .val (.long r254), .second, .val (.long r255), .second, .val (.long r256), .second, .val (.long r257), .second, .val (.long r258), .second, .val (.long r259), .second, .val (.long r260), .second, .val (.long r261), .second, .val (.ref a262), .unset, .unset, .unset, .unset, .unset, .unset, .unset, .unset, .unset, .unset, .unset, .unset, .unset, .unset]) (hb hby at_105) (by rw [hml]; rfl) [.double d273, .double d274, .double d275, .double d276, .double d277, .double d278] [] rfl rfl pd_4 rfl 0 (by show 2 * 0 + _ ≤ _; exact Nat.le_of_eq rfl) (by decide) (by decide) (by decide) (by decide)
  obtain ⟨rfl, N279, K279, r279_1, r279_2, r279_3, r279_4, r279_5, r279_6, r279_7, ⟨G279_1, H279_1⟩, ⟨G279_2, H279_2⟩, ⟨G279_3, H279_3⟩, ⟨G279_4, H279_4⟩, ⟨G279_5, H279_5⟩, ⟨G279_6, H279_6⟩, ⟨G279_7, H279_7⟩⟩ := hQ279
  have M279 := Fr.app M272 N279
  have F280 := A262.keep K279
  have Z281 := Nat.le_trans Z264 K279.1
  have e279 : T279.heap = T279.heap := rfl
  refine Go.via st279 ?_
  show Go p e below _ (T279.setTop (mkF m 108 #[.val (.int i0), .val (.int i1), .val (.int i2), .val (.int i3), .val (.int i4), .val (.int i5), .val (.long r250), .second, .val (.long r251), .second, .val (.long r252), .second, .val (.long r253), .second, .val (.long r254), .second, .val (.long r255), .second, .val (.long r256), .second, .val (.long r257), .second, .val (.long r258), .second, .val (.long r259), .second, .val (.long r260), .second, .val (.long r261), .second, .val (.ref a262), .unset, .unset, .unset, .unset, .unset, .unset, .unset, .unset, .unset, .unset, .unset, .unset, .unset, .unset] []))
  refine s_aload X279 hx (hb hby at_108) rfl rfl 110 rfl ?_
  refine s_lload X279 hx (hb hby at_110) rfl 112 rfl ?_
  have Dd282 := Lb.l2d H256 (by decide)
  obtain ⟨d282, h_d282⟩ : ∃ v, (FP.l2d r256) = v := ⟨_, rfl⟩
  rw [h_d282] at Dd282
  refine s_l2d X279 hx (hb hby at_112) d282 h_d282 113 rfl ?_
  refine s_lload X279 hx (hb hby at_113) rfl 115 rfl ?_
  have Dd283 := Lb.l2d H257 (by decide)
  obtain ⟨d283, h_d283⟩ : ∃ v, (FP.l2d r257) = v := ⟨_, rfl⟩
  rw [h_d283] at Dd283
  refine s_l2d X279 hx (hb hby at_115) d283 h_d283 116 rfl ?_
  refine s_lload X279 hx (hb hby at_116) rfl 118 rfl ?_
  have Dd284 := Lb.l2d H258 (by decide)
  obtain ⟨d284, h_d284⟩ : ∃ v, (FP.l2d r258) = v := ⟨_, rfl⟩
  rw [h_d284] at Dd284
  refine s_l2d X279 hx (hb hby at_118) d284 h_d284 119 rfl ?_
  refine s_lload X279 hx (hb hby at_119) rfl 121 rfl ?_
  have Dd285 := Lb.l2d H259 (by decide)
  obtain ⟨d285, h_d285⟩ : ∃ v, (FP.l2d r259) = v := ⟨_, rfl⟩
  rw [h_d285] at Dd285
  refine s_l2d X279 hx (hb hby at_121) d285 h_d285 122 rfl ?_
  refine s_lload X279 hx (hb hby at_122) rfl 124 rfl ?_
  have Dd286 := Lb.l2d H260 (by decide)
  obtain ⟨d286, h_d286⟩ : ∃ v, (FP.l2d r260) = v := ⟨_, rfl⟩
  rw [h_d286] at Dd286
  refine s_l2d X279 hx (hb hby at_124) d286 h_d286 125 rfl ?_
  refine s_lload X279 hx (hb hby at_125) rfl 127 rfl ?_
  have Dd287 := Lb.l2d H261 (by decide)
  obtain ⟨d287, h_d287⟩ : ∃ v, (FP.l2d r261) = v := ⟨_, rfl⟩
  rw [h_d287] at Dd287
  refine s_l2d X279 hx (hb hby at_127) d287 h_d287 128 rfl ?_
  obtain ⟨v288, T288, L288, X288, hQ288, st288⟩ := callVirt X279 hx hZ hown (wd hw 16 _ rfl) (wd hw 17 _ rfl) (wd hw 19 _ rfl) (wd hw 18 _ rfl) (wd hw 9 _ rfl) (wd hw 20 _ rfl) (by decide) (rm_add2 l Z a0 hw [] a262 d282 d283 d284 d285 d286 d287 _ _ _ _ _ _ r279_1 r279_2 r279_3 r279_4 r279_5 r279_6 r279_7 _ _ _ _ _ _ _ T279.heap n0 Z281 F280 q263 G279_1 G279_2 G279_3 G279_4 G279_5 G279_6 G279_7 (H279_1.weak (by decide)) (H279_2.weak (by decide)) (H279_3.weak (by decide)) (H279_4.weak (by decide)) (H279_5.weak (by decide)) (H279_6.weak (by decide)) (H279_7.weak (by decide)) (Dd282.weak (by decide)) (Dd283.weak (by decide)) (Dd284.weak (by decide)) (Dd285.weak (by decide)) (Dd286.weak (by decide)) (Dd287.weak (by decide))) e279 a262 F280 (L := #[.val (.int i0), .val (.int i1), .val (.int i2), .val (.int i3), .val (.int i4), .val (.int i5), .val (.long r250), .second, .val (.long r251), .second, .val (.long r252), .second, .val (.long r253), .second, .val (.long r254), .second, .val (.long r255), .second, .val (.long r256), .second, .val (.long r257), .second, .val (.long r258), .second, .val (.long r259), .second, .val (.long r260), .second, .val (.long r261), .second, .val (.ref a262), .unset, .unset, .unset, .unset, .unset, .unset, .unset, .unset, .unset, .unset, .unset, .unset, .unset, .unset]) (hb hby at_128) (by rw [hml]; rfl) [.double d282, .double d283, .double d284, .double d285, .double d286, .double d287] [] rfl rfl pd_4 rfl 0 (by show 2 * 0 + _ ≤ _; exact Nat.le_of_eq rfl) (by decide) (by decide) (by decide) (by decide)
  obtain ⟨rfl, N288, K288, r288_1, r288_2, r288_3, r288_4, r288_5, r288_6, r288_7, ⟨G288_1, H288_1⟩, ⟨G288_2, H288_2⟩, ⟨G288_3, H288_3⟩, ⟨G288_4, H288_4⟩, ⟨G288_5, H288_5⟩, ⟨G288_6, H288_6⟩, ⟨G288_7, H288_7⟩⟩ := hQ288
  have M288 := Fr.app M279 N288
  have F289 := F280.keep K288
  have Z290 := Nat.le_trans Z281 K288.1
  have e288 : T288.heap = T288.heap := rfl
  refine Go.via st288 ?_
  show Go p e below _ (T288.setTop (mkF m 131 #[.val (.int i0), .val (.int i1), .val (.int i2), .val (.int i3), .val (.int i4), .val (.int i5), .val (.long r250), .second, .val (.long r251), .second, .val (.long r252), .second, .val (.long r253), .second, .val (.long r254), .second, .val (.long r255), .second, .val (.long r256), .second, .val (.long r257), .second, .val (.long r258), .second, .val (.long r259), .second, .val (.long r260), .second, .val (.long r261), .second, .val (.ref a262), .unset, .unset, .unset, .unset, .unset, .unset, .unset, .unset, .unset, .unset, .unset, .unset, .unset, .unset] []))
  refine s_lload X288 hx (hb hby at_131) rfl 133 rfl ?_
  refine s_lload X288 hx (hb hby at_133) rfl 135 rfl ?_
  have B291 := Lb.add H250 H256 (by decide)
  refine s_ladd X288 hx (hb hby at_135) (r250 + r256) rfl 136 rfl ?_
  refine s_lstore X288 hx (hb hby at_136) #[.val (.int i0), .val (.int i1), .val (.int i2), .val (.int i3), .val (.int i4), .val (.int i5), .val (.long r250), .second, .val (.long r251), .second, .val (.long r252), .second, .val (.long r253), .second, .val (.long r254), .second, .val (.long r255), .second, .val (.long r256), .second, .val (.long r257), .second, .val (.long r258), .second, .val (.long r259), .second, .val (.long r260), .second, .val (.long r261), .second, .val (.ref a262), .val (.long (r250 + r256)), .second, .unset, .unset, .unset, .unset, .unset, .unset, .unset, .unset, .unset, .unset, .unset, .unset] rfl 138 rfl ?_
  refine s_lload X288 hx (hb hby at_138) rfl 140 rfl ?_
  refine s_lload X288 hx (hb hby at_140) rfl 142 rfl ?_
  have B292 := Lb.mul H254 H250 (by decide)
  refine s_lmul X288 hx (hb hby at_142) (r254 * r250) rfl 143 rfl ?_
  refine s_lload X288 hx (hb hby at_143) rfl 145 rfl ?_
  refine s_lload X288 hx (hb hby at_145) rfl 147 rfl ?_
  have B293 := Lb.mul H260 H256 (by decide)
  refine s_lmul X288 hx (hb hby at_147) (r260 * r256) rfl 148 rfl ?_
  have B294 := Lb.add B292 B293 (by decide)
  refine s_ladd X288 hx (hb hby at_148) ((r254 * r250) + (r260 * r256)) rfl 149 rfl ?_
  refine s_lstore X288 hx (hb hby at_149) #[.val (.int i0), .val (.int i1), .val (.int i2), .val (.int i3), .val (.int i4), .val (.int i5), .val (.long r250), .second, .val (.long r251), .second, .val (.long r252), .second, .val (.long r253), .second, .val (.long r254), .second, .val (.long r255), .second, .val (.long r256), .second, .val (.long r257), .second, .val (.long r258), .second, .val (.long r259), .second, .val (.long r260), .second, .val (.long r261), .second, .val (.ref a262), .val (.long (r250 + r256)), .second, .val (.long ((r254 * r250) + (r260 * r256))), .second, .unset, .unset, .unset, .unset, .unset, .unset, .unset, .unset, .unset, .unset] rfl 151 rfl ?_
  refine s_lload X288 hx (hb hby at_151) rfl 153 rfl ?_
  refine s_lload X288 hx (hb hby at_153) rfl 155 rfl ?_
  refine s_lload X288 hx (hb hby at_155) rfl 157 rfl ?_
  obtain ⟨v295, T295, L295, X295, hQ295, st295⟩ := callStat X288 hx hZ hown (wd hw 37 _ rfl) (wd hw 38 _ rfl) (wd hw 2 _ rfl) (wd hw 39 _ rfl) (by decide) (rm_tt l Z a0 hw [] r250 r254 r255 _ _ _ T288.heap n0 Z290 (H250.weak (by decide)) (H254.weak (by decide)) (H255.weak (by decide))) e288 (L := #[.val (.int i0), .val (.int i1), .val (.int i2), .val (.int i3), .val (.int i4), .val (.int i5), .val (.long r250), .second, .val (.long r251), .second, .val (.long r252), .second, .val (.long r253), .second, .val (.long r254), .second, .val (.long r255), .second, .val (.long r256), .second, .val (.long r257), .second, .val (.long r258), .second, .val (.long r259), .second, .val (.long r260), .second, .val (.long r261), .second, .val (.ref a262), .val (.long (r250 + r256)), .second, .val (.long ((r254 * r250) + (r260 * r256))), .second, .unset, .unset, .unset, .unset, .unset, .unset, .unset, .unset, .unset, .unset]) (hb hby at_157) (by rw [hml]; rfl) [.long r250, .long r254, .long r255] [] rfl rfl pd_5 rfl 0 (by show 2 * 0 + _ ≤ _; exact Nat.le_of_eq rfl) (by decide) (by decide) (by decide) (by decide)
  obtain ⟨r295, rfl, N295, hh295, H295⟩ := hQ295
  have M295 := Fr.app M288 N295
  refine Go.via st295 ?_
  show Go p e below _ (T295.setTop (mkF m 160 #[.val (.int i0), .val (.int i1), .val (.int i2), .val (.int i3), .val (.int i4), .val (.int i5), .val (.long r250), .second, .val (.long r251), .second, .val (.long r252), .second, .val (.long r253), .second, .val (.long r254), .second, .val (.long r255), .second, .val (.long r256), .second, .val (.long r257), .second, .val (.long r258), .second, .val (.long r259), .second, .val (.long r260), .second, .val (.long r261), .second, .val (.ref a262), .val (.long (r250 + r256)), .second, .val (.long ((r254 * r250) + (r260 * r256))), .second, .unset, .unset, .unset, .unset, .unset, .unset, .unset, .unset, .unset, .unset] [.long r295]))
  refine s_lload X295 hx (hb hby at_160) rfl 162 rfl ?_
  refine s_lload X295 hx (hb hby at_162) rfl 164 rfl ?_
  refine s_lload X295 hx (hb hby at_164) rfl 166 rfl ?_
  obtain ⟨v296, T296, L296, X296, hQ296, st296⟩ := callStat X295 hx hZ hown (wd hw 37 _ rfl) (wd hw 38 _ rfl) (wd hw 2 _ rfl) (wd hw 39 _ rfl) (by decide) (rm_tt l Z a0 hw [] r256 r260 r261 _ _ _ T288.heap n0 Z290 (H256.weak (by decide)) (H260.weak (by decide)) (H261.weak (by decide))) hh295 (L := #[.val (.int i0), .val (.int i1), .val (.int i2), .val (.int i3), .val (.int i4), .val (.int i5), .val (.long r250), .second, .val (.long r251), .second, .val (.long r252), .second, .val (.long r253), .second, .val (.long r254), .second, .val (.long r255), .second, .val (.long r256), .second, .val (.long r257), .second, .val (.long r258), .second, .val (.long r259), .second, .val (.long r260), .second, .val (.long r261), .second, .val (.ref a262), .val (.long (r250 + r256)), .second, .val (.long ((r254 * r250) + (r260 * r256))), .second, .unset, .unset, .unset, .unset, .unset, .unset, .unset, .unset, .unset, .unset]) (hb hby at_166) (by rw [hml]; rfl) [.long r256, .long r260, .long r261] [.long r295] rfl rfl pd_5 rfl 2 (by show 2 * 0 + _ ≤ _; exact Nat.le_of_eq rfl) (by decide) (by decide) (by decide) (by decide)
  obtain ⟨r296, rfl, N296, hh296, H296⟩ := hQ296
  have M296 := Fr.app M295 N296
  refine Go.via st296 ?_
  show Go p e below _ (T296.setTop (mkF m 169 #[.val (.int i0), .val (.int i1), .val (.int i2), .val (.int i3), .val (.int i4), .val (.int i5), .val (.long r250), .second, .val (.long r251), .second, .val (.long r252), .second, .val (.long r253), .second, .val (.long r254), .second, .val (.long r255), .second, .val (.long r256), .second, .val (.long r257), .second, .val (.long r258), .second, .val (.long r259), .second, .val (.long r260), .second, .val (.long r261), .second, .val (.ref a262), .val (.long (r250 + r256)), .second, .val (.long ((r254 * r250) + (r260 * r256))), .second, .unset, .unset, .unset, .unset, .unset, .unset, .unset, .unset, .unset, .unset] [.long r296, .long r295]))
  have B297 := Lb.add H295 H296 (by decide)
  refine s_ladd X296 hx (hb hby at_169) (r295 + r296) rfl 170 rfl ?_
  refine s_lstore X296 hx (hb hby at_170) #[.val (.int i0), .val (.int i1), .val (.int i2), .val (.int i3), .val (.int i4), .val (.int i5), .val (.long r250), .second, .val (.long r251), .second, .val (.long r252), .second, .val (.long r253), .second, .val (.long r254), .second, .val (.long r255), .second, .val (.long r256), .second, .val (.long r257), .second, .val (.long r258), .second, .val (.long r259), .second, .val (.long r260), .second, .val (.long r261), .second, .val (.ref a262), .val (.long (r250 + r256)), .second, .val (.long ((r254 * r250) + (r260 * r256))), .second, .val (.long (r295 + r296)), .second, .unset, .unset, .unset, .unset, .unset, .unset, .unset, .unset] rfl 172 rfl ?_
  refine s_lload X296 hx (hb hby at_172) rfl 174 rfl ?_
  refine s_lload X296 hx (hb hby at_174) rfl 176 rfl ?_
  have B298 := Lb.mul H251 H250 (by decide)
  refine s_lmul X296 hx (hb hby at_176) (r251 * r250) rfl 177 rfl ?_
  refine s_lload X296 hx (hb hby at_177) rfl 179 rfl ?_
  refine s_lload X296 hx (hb hby at_179) rfl 181 rfl ?_
  have B299 := Lb.mul H257 H256 (by decide)
  refine s_lmul X296 hx (hb hby at_181) (r257 * r256) rfl 182 rfl ?_
  have B300 := Lb.add B298 B299 (by decide)
  refine s_ladd X296 hx (hb hby at_182) ((r251 * r250) + (r257 * r256)) rfl 183 rfl ?_
  refine s_lstore X296 hx (hb hby at_183) #[.val (.int i0), .val (.int i1), .val (.int i2), .val (.int i3), .val (.int i4), .val (.int i5), .val (.long r250), .second, .val (.long r251), .second, .val (.long r252), .second, .val (.long r253), .second, .val (.long r254), .second, .val (.long r255), .second, .val (.long r256), .second, .val (.long r257), .second, .val (.long r258), .second, .val (.long r259), .second, .val (.long r260), .second, .val (.long r261), .second, .val (.ref a262), .val (.long (r250 + r256)), .second, .val (.long ((r254 * r250) + (r260 * r256))), .second, .val (.long (r295 + r296)), .second, .val (.long ((r251 * r250) + (r257 * r256))), .second, .unset, .unset, .unset, .unset, .unset, .unset] rfl 185 rfl ?_
  refine s_lload X296 hx (hb hby at_185) rfl 187 rfl ?_
  refine s_lload X296 hx (hb hby at_187) rfl 189 rfl ?_
  refine s_lload X296 hx (hb hby at_189) rfl 191 rfl ?_
  obtain ⟨v301, T301, L301, X301, hQ301, st301⟩ := callStat X296 hx hZ hown (wd hw 40 _ rfl) (wd hw 41 _ rfl) (wd hw 2 _ rfl) (wd hw 42 _ rfl) (by decide) (rm_dd l Z a0 hw [] r250 r251 r252 _ _ _ T288.heap n0 Z290 (H250.weak (by decide)) (H251.weak (by decide)) (H252.weak (by decide))) hh296 (L := #[.val (.int i0), .val (.int i1), .val (.int i2), .val (.int i3), .val (.int i4), .val (.int i5), .val (.long r250), .second, .val (.long r251), .second, .val (.long r252), .second, .val (.long r253), .second, .val (.long r254), .second, .val (.long r255), .second, .val (.long r256), .second, .val (.long r257), .second, .val (.long r258), .second, .val (.long r259), .second, .val (.long r260), .second, .val (.long r261), .second, .val (.ref a262), .val (.long (r250 + r256)), .second, .val (.long ((r254 * r250) + (r260 * r256))), .second, .val (.long (r295 + r296)), .second, .val (.long ((r251 * r250) + (r257 * r256))), .second, .unset, .unset, .unset, .unset, .unset, .unset]) (hb hby at_191) (by rw [hml]; rfl) [.long r250, .long r251, .long r252] [] rfl rfl pd_6 rfl 0 (by show 2 * 0 + _ ≤ _; exact Nat.le_of_eq rfl) (by decide) (by decide) (by decide) (by decide)
  obtain ⟨r301, rfl, N301, hh301, H301⟩ := hQ301
  have M301 := Fr.app M296 N301
  refine Go.via st301 ?_
  show Go p e below _ (T301.setTop (mkF m 194 #[.val (.int i0), .val (.int i1), .val (.int i2), .val (.int i3), .val (.int i4), .val (.int i5), .val (.long r250), .second, .val (.long r251), .second, .val (.long r252), .second, .val (.long r253), .second, .val (.long r254), .second, .val (.long r255), .second, .val (.long r256), .second, .val (.long r257), .second, .val (.long r258), .second, .val (.long r259), .second, .val (.long r260), .second, .val (.long r261), .second, .val (.ref a262), .val (.long (r250 + r256)), .second, .val (.long ((r254 * r250) + (r260 * r256))), .second, .val (.long (r295 + r296)), .second, .val (.long ((r251 * r250) + (r257 * r256))), .second, .unset, .unset, .unset, .unset, .unset, .unset] [.long r301]))
  refine s_lload X301 hx (hb hby at_194) rfl 196 rfl ?_
  refine s_lload X301 hx (hb hby at_196) rfl 198 rfl ?_
  refine s_lload X301 hx (hb hby at_198) rfl 200 rfl ?_
  obtain ⟨v302, T302, L302, X302, hQ302, st302⟩ := callStat X301 hx hZ hown (wd hw 40 _ rfl) (wd hw 41 _ rfl) (wd hw 2 _ rfl) (wd hw 42 _ rfl) (by decide) (rm_dd l Z a0 hw [] r256 r257 r258 _ _ _ T288.heap n0 Z290 (H256.weak (by decide)) (H257.weak (by decide)) (H258.weak (by decide))) hh301 (L := #[.val (.int i0), .val (.int i1), .val (.int i2), .val (.int i3), .val (.int i4), .val (.int i5), .val (.long r250), .second, .val (.long r251), .second, .val (.long r252), .second, .val (.long r253), .second, .val (.long r254), .second, .val (.long r255), .second, .val (.long r256), .second, .val (.long r257), .second, .val (.long r258), .second, .val (.long r259), .second, .val (.long r260), .second, .val (.long r261), .second, .val (.ref a262), .val (.long (r250 + r256)), .second, .val (.long ((r254 * r250) + (r260 * r256))), .second, .val (.long (r295 + r296)), .second, .val (.long ((r251 * r250) + (r257 * r256))), .second, .unset, .unset, .unset, .unset, .unset, .unset]) (hb hby at_200) (by rw [hml]; rfl) [.long r256, .long r257, .long r258] [.long r301] rfl rfl pd_6 rfl 2 (by show 2 * 0 + _ ≤ _; exact Nat.le_of_eq rfl) (by decide) (by decide) (by decide) (by decide)
  obtain ⟨r302, rfl, N302, hh302, H302⟩ := hQ302
  have M302 := Fr.app M301 N302
  refine Go.via st302 ?_
  show Go p e below _ (T302.setTop (mkF m 203 #[.val (.int i0), .val (.int i1), .val (.int i2), .val (.int i3), .val (.int i4), .val (.int i5), .val (.long r250), .second, .val (.long r251), .second, .val (.long r252), .second, .val (.long r253), .second, .val (.long r254), .second, .val (.long r255), .second, .val (.long r256), .second, .val (.long r257), .second, .val (.long r258), .second, .val (.long r259), .second, .val (.long r260), .second, .val (.long r261), .second, .val (.ref a262), .val (.long (r250 + r256)), .second, .val (.long ((r254 * r250) + (r260 * r256))), .second, .val (.long (r295 + r296)), .second, .val (.long ((r251 * r250) + (r257 * r256))), .second, .unset, .unset, .unset, .unset, .unset, .unset] [.long r302, .long r301]))
  have B303 := Lb.add H301 H302 (by decide)
  refine s_ladd X302 hx (hb hby at_203) (r301 + r302) rfl 204 rfl ?_
  refine s_lstore X302 hx (hb hby at_204) #[.val (.int i0), .val (.int i1), .val (.int i2), .val (.int i3), .val (.int i4), .val (.int i5), .val (.long r250), .second, .val (.long r251), .second, .val (.long r252), .second, .val (.long r253), .second, .val (.long r254), .second, .val (.long r255), .second, .val (.long r256), .second, .val (.long r257), .second, .val (.long r258), .second, .val (.long r259), .second, .val (.long r260), .second, .val (.long r261), .second, .val (.ref a262), .val (.long (r250 + r256)), .second, .val (.long ((r254 * r250) + (r260 * r256))), .second, .val (.long (r295 + r296)), .second, .val (.long ((r251 * r250) + (r257 * r256))), .second, .val (.long (r301 + r302)), .second, .unset, .unset, .unset, .unset] rfl 206 rfl ?_
  refine s_lload X302 hx (hb hby at_206) rfl 208 rfl ?_
  refine s_lload X302 hx (hb hby at_208) rfl 210 rfl ?_
  have B304 := Lb.mul H254 H251 (by decide)
  refine s_lmul X302 hx (hb hby at_210) (r254 * r251) rfl 211 rfl ?_
  refine s_lload X302 hx (hb hby at_211) rfl 213 rfl ?_
  have B305 := Lb.mul B304 H250 (by decide)
  refine s_lmul X302 hx (hb hby at_213) ((r254 * r251) * r250) rfl 214 rfl ?_
  refine s_lload X302 hx (hb hby at_214) rfl 216 rfl ?_
  refine s_lload X302 hx (hb hby at_216) rfl 218 rfl ?_
  have B306 := Lb.mul H260 H257 (by decide)
  refine s_lmul X302 hx (hb hby at_218) (r260 * r257) rfl 219 rfl ?_
  refine s_lload X302 hx (hb hby at_219) rfl 221 rfl ?_
  have B307 := Lb.mul B306 H256 (by decide)
  refine s_lmul X302 hx (hb hby at_221) ((r260 * r257) * r256) rfl 222 rfl ?_
  have B308 := Lb.add B305 B307 (by decide)
  refine s_ladd X302 hx (hb hby at_222) (((r254 * r251) * r250) + ((r260 * r257) * r256)) rfl 223 rfl ?_
  refine s_lstore X302 hx (hb hby at_223) #[.val (.int i0), .val (.int i1), .val (.int i2), .val (.int i3), .val (.int i4), .val (.int i5), .val (.long r250), .second, .val (.long r251), .second, .val (.long r252), .second, .val (.long r253), .second, .val (.long r254), .second, .val (.long r255), .second, .val (.long r256), .second, .val (.long r257), .second, .val (.long r258), .second, .val (.long r259), .second, .val (.long r260), .second, .val (.long r261), .second, .val (.ref a262), .val (.long (r250 + r256)), .second, .val (.long ((r254 * r250) + (r260 * r256))), .second, .val (.long (r295 + r296)), .second, .val (.long ((r251 * r250) + (r257 * r256))), .second, .val (.long (r301 + r302)), .second, .val (.long (((r254 * r251) * r250) + ((r260 * r257) * r256))), .second, .unset, .unset] rfl 225 rfl ?_
  refine s_lload X302 hx (hb hby at_225) rfl 227 rfl ?_
  refine s_lload X302 hx (hb hby at_227) rfl 229 rfl ?_
  refine s_lload X302 hx (hb hby at_229) rfl 231 rfl ?_
  refine s_lload X302 hx (hb hby at_231) rfl 233 rfl ?_
  obtain ⟨v309, T309, L309, X309, hQ309, st309⟩ := callStat X302 hx hZ hown (wd hw 43 _ rfl) (wd hw 44 _ rfl) (wd hw 2 _ rfl) (wd hw 45 _ rfl) (by decide) (rm_ddd l Z a0 hw [] r250 r251 r252 r253 _ _ _ _ T288.heap n0 Z290 (H250.weak (by decide)) (H251.weak (by decide)) (H252.weak (by decide)) (H253.weak (by decide))) hh302 (L := #[.val (.int i0), .val (.int i1), .val (.int i2), .val (.int i3), .val (.int i4), .val (.int i5), .val (.long r250), .second, .val (.long r251), .second, .val (.long r252), .second, .val (.long r253), .second, .val (.long r254), .second, .val (.long r255), .second, .val (.long r256), .second, .val (.long r257), .second, .val (.long r258), .second, .val (.long r259), .second, .val (.long r260), .second, .val (.long r261), .second, .val (.ref a262), .val (.long (r250 + r256)), .second, .val (.long ((r254 * r250) + (r260 * r256))), .second, .val (.long (r295 + r296)), .second, .val (.long ((r251 * r250) + (r257 * r256))), .second, .val (.long (r301 + r302)), .second, .val (.long (((r254 * r251) * r250) + ((r260 * r257) * r256))), .second, .unset, .unset]) (hb hby at_233) (by rw [hml]; rfl) [.long r250, .long r251, .long r252, .long r253] [] rfl rfl pd_7 rfl 0 (by show 2 * 0 + _ ≤ _; exact Nat.le_of_eq rfl) (by decide) (by decide) (by decide) (by decide)
  obtain ⟨r309, rfl, N309, hh309, H309⟩ := hQ309
  have M309 := Fr.app M302 N309
  refine Go.via st309 ?_
  show Go p e below _ (T309.setTop (mkF m 236 #[.val (.int i0), .val (.int i1), .val (.int i2), .val (.int i3), .val (.int i4), .val (.int i5), .val (.long r250), .second, .val (.long r251), .second, .val (.long r252), .second, .val (.long r253), .second, .val (.long r254), .second, .val (.long r255), .second, .val (.long r256), .second, .val (.long r257), .second, .val (.long r258), .second, .val (.long r259), .second, .val (.long r260), .second, .val (.long r261), .second, .val (.ref a262), .val (.long (r250 + r256)), .second, .val (.long ((r254 * r250) + (r260 * r256))), .second, .val (.long (r295 + r296)), .second, .val (.long ((r251 * r250) + (r257 * r256))), .second, .val (.long (r301 + r302)), .second, .val (.long (((r254 * r251) * r250) + ((r260 * r257) * r256))), .second, .unset, .unset] [.long r309]))
  refine s_lload X309 hx (hb hby at_236) rfl 238 rfl ?_
  refine s_lload X309 hx (hb hby at_238) rfl 240 rfl ?_
  refine s_lload X309 hx (hb hby at_240) rfl 242 rfl ?_
  refine s_lload X309 hx (hb hby at_242) rfl 244 rfl ?_
  obtain ⟨v310, T310, L310, X310, hQ310, st310⟩ := callStat X309 hx hZ hown (wd hw 43 _ rfl) (wd hw 44 _ rfl) (wd hw 2 _ rfl) (wd hw 45 _ rfl) (by decide) (rm_ddd l Z a0 hw [] r256 r257 r258 r259 _ _ _ _ T288.heap n0 Z290 (H256.weak (by decide)) (H257.weak (by decide)) (H258.weak (by decide)) (H259.weak (by decide))) hh309 (L := #[.val (.int i0), .val (.int i1), .val (.int i2), .val (.int i3), .val (.int i4), .val (.int i5), .val (.long r250), .second, .val (.long r251), .second, .val (.long r252), .second, .val (.long r253), .second, .val (.long r254), .second, .val (.long r255), .second, .val (.long r256), .second, .val (.long r257), .second, .val (.long r258), .second, .val (.long r259), .second, .val (.long r260), .second, .val (.long r261), .second, .val (.ref a262), .val (.long (r250 + r256)), .second, .val (.long ((r254 * r250) + (r260 * r256))), .second, .val (.long (r295 + r296)), .second, .val (.long ((r251 * r250) + (r257 * r256))), .second, .val (.long (r301 + r302)), .second, .val (.long (((r254 * r251) * r250) + ((r260 * r257) * r256))), .second, .unset, .unset]) (hb hby at_244) (by rw [hml]; rfl) [.long r256, .long r257, .long r258, .long r259] [.long r309] rfl rfl pd_7 rfl 2 (by show 2 * 0 + _ ≤ _; exact Nat.le_of_eq rfl) (by decide) (by decide) (by decide) (by decide)
  obtain ⟨r310, rfl, N310, hh310, H310⟩ := hQ310
  have M310 := Fr.app M309 N310
  refine Go.via st310 ?_
  show Go p e below _ (T310.setTop (mkF m 247 #[.val (.int i0), .val (.int i1), .val (.int i2), .val (.int i3), .val (.int i4), .val (.int i5), .val (.long r250), .second, .val (.long r251), .second, .val (.long r252), .second, .val (.long r253), .second, .val (.long r254), .second, .val (.long r255), .second, .val (.long r256), .second, .val (.long r257), .second, .val (.long r258), .second, .val (.long r259), .second, .val (.long r260), .second, .val (.long r261), .second, .val (.ref a262), .val (.long (r250 + r256)), .second, .val (.long ((r254 * r250) + (r260 * r256))), .second, .val (.long (r295 + r296)), .second, .val (.long ((r251 * r250) + (r257 * r256))), .second, .val (.long (r301 + r302)), .second, .val (.long (((r254 * r251) * r250) + ((r260 * r257) * r256))), .second, .unset, .unset] [.long r310, .long r309]))
  have B311 := Lb.add H309 H310 (by decide)
  refine s_ladd X310 hx (hb hby at_247) (r309 + r310) rfl 248 rfl ?_
  refine s_lstore X310 hx (hb hby at_248) #[.val (.int i0), .val (.int i1), .val (.int i2), .val (.int i3), .val (.int i4), .val (.int i5), .val (.long r250), .second, .val (.long r251), .second, .val (.long r252), .second, .val (.long r253), .second, .val (.long r254), .second, .val (.long r255), .second, .val (.long r256), .second, .val (.long r257), .second, .val (.long r258), .second, .val (.long r259), .second, .val (.long r260), .second, .val (.long r261), .second, .val (.ref a262), .val (.long (r250 + r256)), .second, .val (.long ((r254 * r250) + (r260 * r256))), .second, .val (.long (r295 + r296)), .second, .val (.long ((r251 * r250) + (r257 * r256))), .second, .val (.long (r301 + r302)), .second, .val (.long (((r254 * r251) * r250) + ((r260 * r257) * r256))), .second, .val (.long (r309 + r310)), .second] rfl 250 rfl ?_
  refine s_aload X310 hx (hb hby at_250) rfl rfl 252 rfl ?_
  obtain ⟨T312, X312, e312, st312⟩ := getF X310 hx hZ hown (host := "") (Or.inl (wd hw 48 _ rfl)) Via.refl hh310 G288_1 (g := (mkF m 252 #[.val (.int i0), .val (.int i1), .val (.int i2), .val (.int i3), .val (.int i4), .val (.int i5), .val (.long r250), .second, .val (.long r251), .second, .val (.long r252), .second, .val (.long r253), .second, .val (.long r254), .second, .val (.long r255), .second, .val (.long r256), .second, .val (.long r257), .second, .val (.long r258), .second, .val (.long r259), .second, .val (.long r260), .second, .val (.long r261), .second, .val (.ref a262), .val (.long (r250 + r256)), .second, .val (.long ((r254 * r250) + (r260 * r256))), .second, .val (.long (r295 + r296)), .second, .val (.long ((r251 * r250) + (r257 * r256))), .second, .val (.long (r301 + r302)), .second, .val (.long (((r254 * r251) * r250) + ((r260 * r257) * r256))), .second, .val (.long (r309 + r310)), .second] [.ref a262])) rfl rfl (hb hby at_252)
  refine Go.via st312 ?_
  show Go p e below _ (T312.setTop (mkF m 255 #[.val (.int i0), .val (.int i1), .val (.int i2), .val (.int i3), .val (.int i4), .val (.int i5), .val (.long r250), .second, .val (.long r251), .second, .val (.long r252), .second, .val (.long r253), .second, .val (.long r254), .second, .val (.long r255), .second, .val (.long r256), .second, .val (.long r257), .second, .val (.long r258), .second, .val (.long r259), .second, .val (.long r260), .second, .val (.long r261), .second, .val (.ref a262), .val (.long (r250 + r256)), .second, .val (.long ((r254 * r250) + (r260 * r256))), .second, .val (.long (r295 + r296)), .second, .val (.long ((r251 * r250) + (r257 * r256))), .second, .val (.long (r301 + r302)), .second, .val (.long (((r254 * r251) * r250) + ((r260 * r257) * r256))), .second, .val (.long (r309 + r310)), .second] [.double r288_1]))
  refine s_lload X312 hx (hb hby at_255) rfl 257 rfl ?_
  have Dd313 := Lb.l2d B291 (by decide)
  obtain ⟨d313, h_d313⟩ : ∃ v, (FP.l2d (r250 + r256)) = v := ⟨_, rfl⟩
  rw [h_d313] at Dd313
  refine s_l2d X312 hx (hb hby at_257) d313 h_d313 258 rfl ?_
  refine s_dcmp X312 hx (hb hby at_258) (0 : Int32) (by rw [show FP.dcmp r288_1 d313 = some .eq from (Db.eq H288_1 Dd313 (by grind))]; rfl) 259 rfl ?_
  refine s_ifN X312 hx (hb hby at_259) (by decide) 262 rfl ?_
  refine s_aload X312 hx (hb hby at_262) rfl rfl 264 rfl ?_
  obtain ⟨T314, X314, e314, st314⟩ := getF X312 hx hZ hown (host := "") (Or.inl (wd hw 49 _ rfl)) Via.refl e312 G288_2 (g := (mkF m 264 #[.val (.int i0), .val (.int i1), .val (.int i2), .val (.int i3), .val (.int i4), .val (.int i5), .val (.long r250), .second, .val (.long r251), .second, .val (.long r252), .second, .val (.long r253), .second, .val (.long r254), .second, .val (.long r255), .second, .val (.long r256), .second, .val (.long r257), .second, .val (.long r258), .second, .val (.long r259), .second, .val (.long r260), .second, .val (.long r261), .second, .val (.ref a262), .val (.long (r250 + r256)), .second, .val (.long ((r254 * r250) + (r260 * r256))), .second, .val (.long (r295 + r296)), .second, .val (.long ((r251 * r250) + (r257 * r256))), .second, .val (.long (r301 + r302)), .second, .val (.long (((r254 * r251) * r250) + ((r260 * r257) * r256))), .second, .val (.long (r309 + r310)), .second] [.ref a262])) rfl rfl (hb hby at_264)
  refine Go.via st314 ?_
  show Go p e below _ (T314.setTop (mkF m 267 #[.val (.int i0), .val (.int i1), .val (.int i2), .val (.int i3), .val (.int i4), .val (.int i5), .val (.long r250), .second, .val (.long r251), .second, .val (.long r252), .second, .val (.long r253), .second, .val (.long r254), .second, .val (.long r255), .second, .val (.long r256), .second, .val (.long r257), .second, .val (.long r258), .second, .val (.long r259), .second, .val (.long r260), .second, .val (.long r261), .second, .val (.ref a262), .val (.long (r250 + r256)), .second, .val (.long ((r254 * r250) + (r260 * r256))), .second, .val (.long (r295 + r296)), .second, .val (.long ((r251 * r250) + (r257 * r256))), .second, .val (.long (r301 + r302)), .second, .val (.long (((r254 * r251) * r250) + ((r260 * r257) * r256))), .second, .val (.long (r309 + r310)), .second] [.double r288_2]))
  refine s_lload X314 hx (hb hby at_267) rfl 269 rfl ?_
  have Dd315 := Lb.l2d B294 (by decide)
  obtain ⟨d315, h_d315⟩ : ∃ v, (FP.l2d ((r254 * r250) + (r260 * r256))) = v := ⟨_, rfl⟩
  rw [h_d315] at Dd315
  refine s_l2d X314 hx (hb hby at_269) d315 h_d315 270 rfl ?_
  refine s_dcmp X314 hx (hb hby at_270) (0 : Int32) (by rw [show FP.dcmp r288_2 d315 = some .eq from (Db.eq H288_2 Dd315 (by grind))]; rfl) 271 rfl ?_
  refine s_ifN X314 hx (hb hby at_271) (by decide) 274 rfl ?_
  refine s_aload X314 hx (hb hby at_274) rfl rfl 276 rfl ?_
  obtain ⟨T316, X316, e316, st316⟩ := getF X314 hx hZ hown (host := "") (Or.inl (wd hw 50 _ rfl)) Via.refl e314 G288_3 (g := (mkF m 276 #[.val (.int i0), .val (.int i1), .val (.int i2), .val (.int i3), .val (.int i4), .val (.int i5), .val (.long r250), .second, .val (.long r251), .second, .val (.long r252), .second, .val (.long r253), .second, .val (.long r254), .second, .val (.long r255), .second, .val (.long r256), .second, .val (.long r257), .second, .val (.long r258), .second, .val (.long r259), .second, .val (.long r260), .second, .val (.long r261), .second, .val (.ref a262), .val (.long (r250 + r256)), .second, .val (.long ((r254 * r250) + (r260 * r256))), .second, .val (.long (r295 + r296)), .second, .val (.long ((r251 * r250) + (r257 * r256))), .second, .val (.long (r301 + r302)), .second, .val (.long (((r254 * r251) * r250) + ((r260 * r257) * r256))), .second, .val (.long (r309 + r310)), .second] [.ref a262])) rfl rfl (hb hby at_276)
  refine Go.via st316 ?_
  show Go p e below _ (T316.setTop (mkF m 279 #[.val (.int i0), .val (.int i1), .val (.int i2), .val (.int i3), .val (.int i4), .val (.int i5), .val (.long r250), .second, .val (.long r251), .second, .val (.long r252), .second, .val (.long r253), .second, .val (.long r254), .second, .val (.long r255), .second, .val (.long r256), .second, .val (.long r257), .second, .val (.long r258), .second, .val (.long r259), .second, .val (.long r260), .second, .val (.long r261), .second, .val (.ref a262), .val (.long (r250 + r256)), .second, .val (.long ((r254 * r250) + (r260 * r256))), .second, .val (.long (r295 + r296)), .second, .val (.long ((r251 * r250) + (r257 * r256))), .second, .val (.long (r301 + r302)), .second, .val (.long (((r254 * r251) * r250) + ((r260 * r257) * r256))), .second, .val (.long (r309 + r310)), .second] [.double r288_3]))
  refine s_lload X316 hx (hb hby at_279) rfl 281 rfl ?_
  have Dd317 := Lb.l2d B297 (by decide)
  obtain ⟨d317, h_d317⟩ : ∃ v, (FP.l2d (r295 + r296)) = v := ⟨_, rfl⟩
  rw [h_d317] at Dd317
  refine s_l2d X316 hx (hb hby at_281) d317 h_d317 282 rfl ?_
  refine s_dcmp X316 hx (hb hby at_282) (0 : Int32) (by rw [show FP.dcmp r288_3 d317 = some .eq from (Db.eq H288_3 Dd317 (by grind))]; rfl) 283 rfl ?_
  refine s_ifN X316 hx (hb hby at_283) (by decide) 286 rfl ?_
  refine s_aload X316 hx (hb hby at_286) rfl rfl 288 rfl ?_
  obtain ⟨T318, X318, e318, st318⟩ := getF X316 hx hZ hown (host := "") (Or.inl (wd hw 51 _ rfl)) Via.refl e316 G288_4 (g := (mkF m 288 #[.val (.int i0), .val (.int i1), .val (.int i2), .val (.int i3), .val (.int i4), .val (.int i5), .val (.long r250), .second, .val (.long r251), .second, .val (.long r252), .second, .val (.long r253), .second, .val (.long r254), .second, .val (.long r255), .second, .val (.long r256), .second, .val (.long r257), .second, .val (.long r258), .second, .val (.long r259), .second, .val (.long r260), .second, .val (.long r261), .second, .val (.ref a262), .val (.long (r250 + r256)), .second, .val (.long ((r254 * r250) + (r260 * r256))), .second, .val (.long (r295 + r296)), .second, .val (.long ((r251 * r250) + (r257 * r256))), .second, .val (.long (r301 + r302)), .second, .val (.long (((r254 * r251) * r250) + ((r260 * r257) * r256))), .second, .val (.long (r309 + r310)), .second] [.ref a262])) rfl rfl (hb hby at_288)
  refine Go.via st318 ?_
  show Go p e below _ (T318.setTop (mkF m 291 #[.val (.int i0), .val (.int i1), .val (.int i2), .val (.int i3), .val (.int i4), .val (.int i5), .val (.long r250), .second, .val (.long r251), .second, .val (.long r252), .second, .val (.long r253), .second, .val (.long r254), .second, .val (.long r255), .second, .val (.long r256), .second, .val (.long r257), .second, .val (.long r258), .second, .val (.long r259), .second, .val (.long r260), .second, .val (.long r261), .second, .val (.ref a262), .val (.long (r250 + r256)), .second, .val (.long ((r254 * r250) + (r260 * r256))), .second, .val (.long (r295 + r296)), .second, .val (.long ((r251 * r250) + (r257 * r256))), .second, .val (.long (r301 + r302)), .second, .val (.long (((r254 * r251) * r250) + ((r260 * r257) * r256))), .second, .val (.long (r309 + r310)), .second] [.double r288_4]))
  refine s_lload X318 hx (hb hby at_291) rfl 293 rfl ?_
  have Dd319 := Lb.l2d B300 (by decide)
  obtain ⟨d319, h_d319⟩ : ∃ v, (FP.l2d ((r251 * r250) + (r257 * r256))) = v := ⟨_, rfl⟩
  rw [h_d319] at Dd319
  refine s_l2d X318 hx (hb hby at_293) d319 h_d319 294 rfl ?_
  refine s_dcmp X318 hx (hb hby at_294) (0 : Int32) (by rw [show FP.dcmp r288_4 d319 = some .eq from (Db.eq H288_4 Dd319 (by grind))]; rfl) 295 rfl ?_
  refine s_ifN X318 hx (hb hby at_295) (by decide) 298 rfl ?_
  refine s_aload X318 hx (hb hby at_298) rfl rfl 300 rfl ?_
  obtain ⟨T320, X320, e320, st320⟩ := getF X318 hx hZ hown (host := "") (Or.inl (wd hw 52 _ rfl)) Via.refl e318 G288_5 (g := (mkF m 300 #[.val (.int i0), .val (.int i1), .val (.int i2), .val (.int i3), .val (.int i4), .val (.int i5), .val (.long r250), .second, .val (.long r251), .second, .val (.long r252), .second, .val (.long r253), .second, .val (.long r254), .second, .val (.long r255), .second, .val (.long r256), .second, .val (.long r257), .second, .val (.long r258), .second, .val (.long r259), .second, .val (.long r260), .second, .val (.long r261), .second, .val (.ref a262), .val (.long (r250 + r256)), .second, .val (.long ((r254 * r250) + (r260 * r256))), .second, .val (.long (r295 + r296)), .second, .val (.long ((r251 * r250) + (r257 * r256))), .second, .val (.long (r301 + r302)), .second, .val (.long (((r254 * r251) * r250) + ((r260 * r257) * r256))), .second, .val (.long (r309 + r310)), .second] [.ref a262])) rfl rfl (hb hby at_300)
  refine Go.via st320 ?_
  show Go p e below _ (T320.setTop (mkF m 303 #[.val (.int i0), .val (.int i1), .val (.int i2), .val (.int i3), .val (.int i4), .val (.int i5), .val (.long r250), .second, .val (.long r251), .second, .val (.long r252), .second, .val (.long r253), .second, .val (.long r254), .second, .val (.long r255), .second, .val (.long r256), .second, .val (.long r257), .second, .val (.long r258), .second, .val (.long r259), .second, .val (.long r260), .second, .val (.long r261), .second, .val (.ref a262), .val (.long (r250 + r256)), .second, .val (.long ((r254 * r250) + (r260 * r256))), .second, .val (.long (r295 + r296)), .second, .val (.long ((r251 * r250) + (r257 * r256))), .second, .val (.long (r301 + r302)), .second, .val (.long (((r254 * r251) * r250) + ((r260 * r257) * r256))), .second, .val (.long (r309 + r310)), .second] [.double r288_5]))
  refine s_lload X320 hx (hb hby at_303) rfl 305 rfl ?_
  have Dd321 := Lb.l2d B303 (by decide)
  obtain ⟨d321, h_d321⟩ : ∃ v, (FP.l2d (r301 + r302)) = v := ⟨_, rfl⟩
  rw [h_d321] at Dd321
  refine s_l2d X320 hx (hb hby at_305) d321 h_d321 306 rfl ?_
  refine s_dcmp X320 hx (hb hby at_306) (0 : Int32) (by rw [show FP.dcmp r288_5 d321 = some .eq from (Db.eq H288_5 Dd321 (by grind))]; rfl) 307 rfl ?_
  refine s_ifN X320 hx (hb hby at_307) (by decide) 310 rfl ?_
  refine s_aload X320 hx (hb hby at_310) rfl rfl 312 rfl ?_
  obtain ⟨T322, X322, e322, st322⟩ := getF X320 hx hZ hown (host := "") (Or.inl (wd hw 53 _ rfl)) Via.refl e320 G288_6 (g := (mkF m 312 #[.val (.int i0), .val (.int i1), .val (.int i2), .val (.int i3), .val (.int i4), .val (.int i5), .val (.long r250), .second, .val (.long r251), .second, .val (.long r252), .second, .val (.long r253), .second, .val (.long r254), .second, .val (.long r255), .second, .val (.long r256), .second, .val (.long r257), .second, .val (.long r258), .second, .val (.long r259), .second, .val (.long r260), .second, .val (.long r261), .second, .val (.ref a262), .val (.long (r250 + r256)), .second, .val (.long ((r254 * r250) + (r260 * r256))), .second, .val (.long (r295 + r296)), .second, .val (.long ((r251 * r250) + (r257 * r256))), .second, .val (.long (r301 + r302)), .second, .val (.long (((r254 * r251) * r250) + ((r260 * r257) * r256))), .second, .val (.long (r309 + r310)), .second] [.ref a262])) rfl rfl (hb hby at_312)
  refine Go.via st322 ?_
  show Go p e below _ (T322.setTop (mkF m 315 #[.val (.int i0), .val (.int i1), .val (.int i2), .val (.int i3), .val (.int i4), .val (.int i5), .val (.long r250), .second, .val (.long r251), .second, .val (.long r252), .second, .val (.long r253), .second, .val (.long r254), .second, .val (.long r255), .second, .val (.long r256), .second, .val (.long r257), .second, .val (.long r258), .second, .val (.long r259), .second, .val (.long r260), .second, .val (.long r261), .second, .val (.ref a262), .val (.long (r250 + r256)), .second, .val (.long ((r254 * r250) + (r260 * r256))), .second, .val (.long (r295 + r296)), .second, .val (.long ((r251 * r250) + (r257 * r256))), .second, .val (.long (r301 + r302)), .second, .val (.long (((r254 * r251) * r250) + ((r260 * r257) * r256))), .second, .val (.long (r309 + r310)), .second] [.double r288_6]))
  refine s_lload X322 hx (hb hby at_315) rfl 317 rfl ?_
  have Dd323 := Lb.l2d B308 (by decide)
  obtain ⟨d323, h_d323⟩ : ∃ v, (FP.l2d (((r254 * r251) * r250) + ((r260 * r257) * r256))) = v := ⟨_, rfl⟩
  rw [h_d323] at Dd323
  refine s_l2d X322 hx (hb hby at_317) d323 h_d323 318 rfl ?_
  refine s_dcmp X322 hx (hb hby at_318) (0 : Int32) (by rw [show FP.dcmp r288_6 d323 = some .eq from (Db.eq H288_6 Dd323 (by grind))]; rfl) 319 rfl ?_
  refine s_ifN X322 hx (hb hby at_319) (by decide) 322 rfl ?_
  refine s_aload X322 hx (hb hby at_322) rfl rfl 324 rfl ?_
  obtain ⟨T324, X324, e324, st324⟩ := getF X322 hx hZ hown (host := "") (Or.inl (wd hw 54 _ rfl)) Via.refl e322 G288_7 (g := (mkF m 324 #[.val (.int i0), .val (.int i1), .val (.int i2), .val (.int i3), .val (.int i4), .val (.int i5), .val (.long r250), .second, .val (.long r251), .second, .val (.long r252), .second, .val (.long r253), .second, .val (.long r254), .second, .val (.long r255), .second, .val (.long r256), .second, .val (.long r257), .second, .val (.long r258), .second, .val (.long r259), .second, .val (.long r260), .second, .val (.long r261), .second, .val (.ref a262), .val (.long (r250 + r256)), .second, .val (.long ((r254 * r250) + (r260 * r256))), .second, .val (.long (r295 + r296)), .second, .val (.long ((r251 * r250) + (r257 * r256))), .second, .val (.long (r301 + r302)), .second, .val (.long (((r254 * r251) * r250) + ((r260 * r257) * r256))), .second, .val (.long (r309 + r310)), .second] [.ref a262])) rfl rfl (hb hby at_324)
  refine Go.via st324 ?_
  show Go p e below _ (T324.setTop (mkF m 327 #[.val (.int i0), .val (.int i1), .val (.int i2), .val (.int i3), .val (.int i4), .val (.int i5), .val (.long r250), .second, .val (.long r251), .second, .val (.long r252), .second, .val (.long r253), .second, .val (.long r254), .second, .val (.long r255), .second, .val (.long r256), .second, .val (.long r257), .second, .val (.long r258), .second, .val (.long r259), .second, .val (.long r260), .second, .val (.long r261), .second, .val (.ref a262), .val (.long (r250 + r256)), .second, .val (.long ((r254 * r250) + (r260 * r256))), .second, .val (.long (r295 + r296)), .second, .val (.long ((r251 * r250) + (r257 * r256))), .second, .val (.long (r301 + r302)), .second, .val (.long (((r254 * r251) * r250) + ((r260 * r257) * r256))), .second, .val (.long (r309 + r310)), .second] [.double r288_7]))
  refine s_lload X324 hx (hb hby at_327) rfl 329 rfl ?_
  have Dd325 := Lb.l2d B311 (by decide)
  obtain ⟨d325, h_d325⟩ : ∃ v, (FP.l2d (r309 + r310)) = v := ⟨_, rfl⟩
  rw [h_d325] at Dd325
  refine s_l2d X324 hx (hb hby at_329) d325 h_d325 330 rfl ?_
  refine s_dcmp X324 hx (hb hby at_330) (0 : Int32) (by rw [show FP.dcmp r288_7 d325 = some .eq from (Db.eq H288_7 Dd325 (by grind))]; rfl) 331 rfl ?_
  refine s_ifN X324 hx (hb hby at_331) (by decide) 334 rfl ?_
  refine s_iconst X324 hx (hb hby at_334) (1 : Int32) rfl 335 rfl ?_
  refine s_goto X324 hx (hb hby at_335) 339 (by decide) (by decide) ?_
  exact retZ X324 hx hlk hret (hb hby at_339) (by decide) e324 ⟨rfl, M310⟩ (by decide) (by decide)
set_option maxRecDepth 65536 in
set_option maxHeartbeats 40000000 in
theorem comes_1 {Post : Tables → Env → Array Value → State → Outcome → State → Prop} (hpost : ∀ tb e args s v u, (limb_1_1.after args s (.returned v) u = true ∧ limb_1_2.after args s (.returned v) u = true ∧ True) → FrameEnd s (.returned v) u (Jvm.fieldLocs frame_1_writes args s ++ Jvm.arrayLocs frame_1_arrays args s ++ Jvm.staticLocs frame_1_statics s) 16 128 → Post tb e args s (.returned v) u) :
    ArmFor flags0 classFile x code maxLocals ret World_1 tables_1 room_1 Calls_1 rest_1 Pre_1 Post := by
  intro l hfl _ _ p e ha hc hk s m args below hf hA hF happ hP
  obtain ⟨hcalls, hrest, hpre⟩ := hP
  obtain ⟨-, -, -, hnamed, -, -, -, hat⟩ := (Spec.applies_iff hf).mp happ
  obtain ⟨hg, hn⟩ := and_e (Cond.before_iff.mp (show (Jvm.Cond.and given_1 narrow_1).before args s = true from hpre))
  obtain ⟨hg0, hg1⟩ := and_e hg
  obtain ⟨w0, w1, w2, w3, w4, w5, rfl⟩ : ∃ w0 w1 w2 w3 w4 w5 : Value, args = #[w0, w1, w2, w3, w4, w5] := by
    have hs : args.size = 6 := by simpa [Cond.value, given_1] using hg0
    obtain ⟨L⟩ := args
    match L, hs with
    | [w0, w1, w2, w3, w4, w5], _ => exact ⟨w0, w1, w2, w3, w4, w5, rfl⟩
  have hw := fun d (hd : d ∈ tables_1) => atoms_spec (ws := Jvm.Cond.code x code maxLocals ret :: tables_1) hat d (List.mem_cons_of_mem _ hd)
  obtain ⟨ga0, hg2⟩ := and_e hg1
  obtain ⟨ga1, hg3⟩ := and_e hg2
  obtain ⟨ga2, hg4⟩ := and_e hg3
  obtain ⟨ga3, hg5⟩ := and_e hg4
  obtain ⟨ga4, hg6⟩ := and_e hg5
  have ga5 := hg6
  obtain ⟨i0, ei0⟩ := is_v ga0
  obtain rfl : w0 = .int i0 := Option.some.inj ei0
  obtain ⟨i1, ei1⟩ := is_v ga1
  obtain rfl : w1 = .int i1 := Option.some.inj ei1
  obtain ⟨i2, ei2⟩ := is_v ga2
  obtain rfl : w2 = .int i2 := Option.some.inj ei2
  obtain ⟨i3, ei3⟩ := is_v ga3
  obtain rfl : w3 = .int i3 := Option.some.inj ei3
  obtain ⟨i4, ei4⟩ := is_v ga4
  obtain rfl : w4 = .int i4 := Option.some.inj ei4
  obtain ⟨i5, ei5⟩ := is_v ga5
  obtain rfl : w5 = .int i5 := Option.some.inj ei5
  obtain ⟨n, o, h1, h2, h3, _, L, rfl, ⟨rfl, N⟩, hq⟩ := rm_law l s _ hw tables_1 i0 i1 i2 i3 i4 i5 s.heap s.heap.size (Nat.le_refl _) p e ha hc hk s m _ below hf ((Spec.applies_iff_loose hf).mp happ).1 ⟨rfl, State.Warmed39.refl s, rfl⟩ trivial
  refine ⟨n, _, h1, h2, h3, hpost _ _ _ _ _ _ ⟨Cond.after_iff.mpr rfl, Cond.after_iff.mpr (eq_i res_at (Term.int_eval (1)) rfl), trivial⟩ ⟨hq.1, hq.2.1, (hq.2.2.sift fun y hy => Or.inr (N y hy)).mono (by decide) (by decide)⟩⟩
theorem main_1_1 : Claimed_1_1 := comes_1 fun _ _ _ _ _ _ h hF => ⟨h.1, hF⟩
theorem main_1_2 : Claimed_1_2 := comes_1 fun _ _ _ _ _ _ h hF => ⟨h.2.1, hF⟩
end Jvm.Pilot.@@N@@
namespace Jvm.Pilot.@@N@@
open Jvm Jvm.ClassFile Sem Op Lib Jvm.Free Jvm.Stand Jvm.Pilot.@@N@@.Jvm.D
/-! MADE BY PROGRAM (witnessworld.py) out of the Statement's table words and the real class files: 9 classes; the members and pool entries that the words name. The judged class is class 1, her method 6. -/
namespace start1
open Jvm.ClassFile
def u (s : String) : CpInfo := .utf8 (stringToUtf16 s)
/-- a pool by its gaps: so many unusable entries, then the entry; so many at the end -/
def gap : Nat → List CpInfo → List CpInfo
  | 0, r => r
  | n + 1, r => .unusable :: gap n r
def poolList (es : List (Nat × CpInfo)) (last : Nat) : List CpInfo := es.foldr (fun e r => gap e.1 (e.2 :: r)) (gap last [])
def pool (es : List (Nat × CpInfo)) (last : Nat) : Array CpInfo := ⟨poolList es last⟩
def fileOf (pool : Array CpInfo) (this : Nat) (attrs : Array Attribute := #[]) (ms : Array MethodInfo := #[]) (fl : Nat := 33) (sup : Nat := 0) (ifs : Array Nat := #[]) (fds : Array FieldInfo := #[]) : ClassFile where
  minorVersion := 0
  majorVersion := 65
  constantPool := pool
  accessFlags := fl
  thisClass := this
  superClass := sup
  interfaces := ifs
  fields := fds
  methods := ms
  attributes := attrs
def plain (name : String) (sup : Option ClassId) : Class where
  name := name
  kind := .ordinary
  loader := none
  accessFlags := 33
  super := sup
  interfaces := #[]
  cf := none
  fields := #[]
  methods := #[]
  instanceTypes := #[]
  staticTypes := #[]
  resolved := #[]
  callSites := []
  init := .initialized
  statics := none
  mirror := none

def pool0 : Array CpInfo := pool [(5, u "<init>"), (0, u "()V"), (1, .class_ 10), (1, u "java/lang/Object")] 113

def k0c0 : Code := { maxStack := 0, maxLocals := 1, code := object_method_1_code, exceptionTable := #[], attributes := #[] }
def k0m0 : Method := { name := "<init>", desc := "()V", sig := { parameters := [], returnType := none }, accessFlags := 1, code := some k0c0 }
/-- java/lang/Object -/
def k0 : Class := { plain "java/lang/Object" none with
  accessFlags := 33
  interfaces := #[]
  cf := some (fileOf pool0 8 #[] #[{ accessFlags := 1, nameIndex := 5, descriptorIndex := 6, attributes := #[] }] 33 0 #[] #[])
  fields := #[]
  methods := #[k0m0]
  instanceTypes := #[]
  staticTypes := #[]
  resolved := Array.replicate 124 none
  statics := none }

def pool1 : Array CpInfo := pool [(2, .class_ 4), (0, .nameAndType 5 6), (0, u "java/lang/Object"), (0, u "<init>"), (0, u "()V"), (0, .long 3), (1, .long 2), (1, .methodref 12 13), (0, .class_ 14), (0, .nameAndType 15 16), (0, u "com/example/entalpi/entalpi/fluids/DerivativesAddSeparablePinLaw"), (0, u "lo"), (0, u "(I)J"), (0, .methodref 12 18), (0, .nameAndType 19 16), (0, u "hi"), (0, .class_ 21), (0, u "com/example/entalpi/entalpi/fluids/Derivatives"), (0, .methodref 20 3), (0, .methodref 20 24), (0, .nameAndType 25 26), (0, u "addSeparable"), (0, u "(DDDDDD)V"), (0, .methodref 12 28), (0, .nameAndType 29 30), (0, u "tauTau"), (0, u "(JJJ)J"), (0, .methodref 12 32), (0, .nameAndType 33 30), (0, u "deltaDelta"), (0, .methodref 12 35), (0, .nameAndType 36 37), (0, u "deltaDeltaDelta"), (0, u "(JJJJ)J"), (0, .fieldref 20 39), (0, .nameAndType 40 41), (0, u "alpha"), (0, u "D"), (0, .fieldref 20 43), (0, .nameAndType 44 41), (0, u "tauAlphaTau"), (0, .fieldref 20 46), (0, .nameAndType 47 41), (0, u "tauTauAlphaTauTau"), (0, .fieldref 20 49), (0, .nameAndType 50 41), (0, u "deltaResidualDelta"), (0, .fieldref 20 52), (0, .nameAndType 53 41), (0, u "deltaDeltaResidualDeltaDelta"), (0, .fieldref 20 55), (0, .nameAndType 56 41), (0, u "deltaTauResidualDeltaTau"), (0, .fieldref 20 58), (0, .nameAndType 59 41), (0, u "deltaDeltaDeltaResidualDeltaDeltaDelta"), (2, u "law"), (0, u "(IIIIII)Z")] 3

def k1m0 : Method := { name := "<init>", desc := "()V", sig := { parameters := [], returnType := none }, accessFlags := 1, code := none }
def k1c1 : Code := { maxStack := 2, maxLocals := 1, code := method_2_code, exceptionTable := #[], attributes := #[] }
def k1m1 : Method := { name := "lo", desc := "(I)J", sig := { parameters := [.int], returnType := some .long }, accessFlags := 10, code := some k1c1 }
def k1c2 : Code := { maxStack := 2, maxLocals := 1, code := method_3_code, exceptionTable := #[], attributes := #[] }
def k1m2 : Method := { name := "hi", desc := "(I)J", sig := { parameters := [.int], returnType := some .long }, accessFlags := 10, code := some k1c2 }
def k1c3 : Code := { maxStack := 4, maxLocals := 6, code := method_4_code, exceptionTable := #[], attributes := #[] }
def k1m3 : Method := { name := "tauTau", desc := "(JJJ)J", sig := { parameters := [.long, .long, .long], returnType := some .long }, accessFlags := 10, code := some k1c3 }
def k1c4 : Code := { maxStack := 4, maxLocals := 6, code := method_5_code, exceptionTable := #[], attributes := #[] }
def k1m4 : Method := { name := "deltaDelta", desc := "(JJJ)J", sig := { parameters := [.long, .long, .long], returnType := some .long }, accessFlags := 10, code := some k1c4 }
def k1c5 : Code := { maxStack := 6, maxLocals := 8, code := method_6_code, exceptionTable := #[], attributes := #[] }
def k1m5 : Method := { name := "deltaDeltaDelta", desc := "(JJJJ)J", sig := { parameters := [.long, .long, .long, .long], returnType := some .long }, accessFlags := 10, code := some k1c5 }
def k1c6 : Code := { maxStack := 13, maxLocals := 45, code := code, exceptionTable := #[], attributes := #[] }
def k1m6 : Method := { name := "law", desc := "(IIIIII)Z", sig := { parameters := [.int, .int, .int, .int, .int, .int], returnType := some .boolean }, accessFlags := 9, code := some k1c6 }
/-- com/example/entalpi/entalpi/fluids/DerivativesAddSeparablePinLaw -/
def k1 : Class := { plain "com/example/entalpi/entalpi/fluids/DerivativesAddSeparablePinLaw" (some 0) with
  accessFlags := 49
  interfaces := #[]
  cf := some (fileOf pool1 12 #[] #[{ accessFlags := 1, nameIndex := 5, descriptorIndex := 6, attributes := #[] }, { accessFlags := 10, nameIndex := 15, descriptorIndex := 16, attributes := #[] }, { accessFlags := 10, nameIndex := 19, descriptorIndex := 16, attributes := #[] }, { accessFlags := 10, nameIndex := 29, descriptorIndex := 30, attributes := #[] }, { accessFlags := 10, nameIndex := 33, descriptorIndex := 30, attributes := #[] }, { accessFlags := 10, nameIndex := 36, descriptorIndex := 37, attributes := #[] }, { accessFlags := 9, nameIndex := 62, descriptorIndex := 63, attributes := #[] }] 49 2 #[] #[])
  fields := #[]
  methods := #[k1m0, k1m1, k1m2, k1m3, k1m4, k1m5, k1m6]
  instanceTypes := #[]
  staticTypes := #[]
  resolved := Array.replicate 67 none
  statics := none }

def pool2 : Array CpInfo := pool [(1, .methodref 2 3), (0, .class_ 4), (0, .nameAndType 5 6), (0, u "java/lang/Object"), (0, u "<init>"), (0, u "()V"), (0, .fieldref 8 9), (0, .class_ 10), (0, .nameAndType 11 12), (0, u "com/example/entalpi/entalpi/fluids/Derivatives"), (0, u "alpha"), (0, u "D"), (0, .fieldref 8 14), (0, .nameAndType 15 12), (0, u "tauAlphaTau"), (0, .fieldref 8 17), (0, .nameAndType 18 12), (0, u "tauTauAlphaTauTau"), (0, .fieldref 8 20), (0, .nameAndType 21 12), (0, u "deltaResidualDelta"), (0, .fieldref 8 23), (0, .nameAndType 24 12), (0, u "deltaDeltaResidualDeltaDelta"), (0, .fieldref 8 26), (0, .nameAndType 27 12), (0, u "deltaTauResidualDeltaTau"), (0, .fieldref 8 29), (0, .nameAndType 30 12), (0, u "deltaDeltaDeltaResidualDeltaDeltaDelta"), (0, .double 4611686018427387904), (1, .double 4613937818241073152), (12, u "addSeparable"), (0, u "(DDDDDD)V")] 5

def k2c0 : Code := { maxStack := 1, maxLocals := 1, code := prog_7_method_1_code, exceptionTable := #[], attributes := #[] }
def k2m0 : Method := { name := "<init>", desc := "()V", sig := { parameters := [], returnType := none }, accessFlags := 0, code := some k2c0 }
def k2c1 : Code := { maxStack := 11, maxLocals := 13, code := prog_7_method_2_code, exceptionTable := #[], attributes := #[] }
def k2m1 : Method := { name := "addSeparable", desc := "(DDDDDD)V", sig := { parameters := [.double, .double, .double, .double, .double, .double], returnType := none }, accessFlags := 0, code := some k2c1 }
/-- com/example/entalpi/entalpi/fluids/Derivatives -/
def k2 : Class := { plain "com/example/entalpi/entalpi/fluids/Derivatives" (some 0) with
  accessFlags := 48
  interfaces := #[]
  cf := some (fileOf pool2 8 #[] #[{ accessFlags := 0, nameIndex := 5, descriptorIndex := 6, attributes := #[] }, { accessFlags := 0, nameIndex := 46, descriptorIndex := 47, attributes := #[] }] 48 2 #[] #[{ accessFlags := 0, nameIndex := 11, descriptorIndex := 12, attributes := #[] }, { accessFlags := 0, nameIndex := 15, descriptorIndex := 12, attributes := #[] }, { accessFlags := 0, nameIndex := 18, descriptorIndex := 12, attributes := #[] }, { accessFlags := 0, nameIndex := 21, descriptorIndex := 12, attributes := #[] }, { accessFlags := 0, nameIndex := 24, descriptorIndex := 12, attributes := #[] }, { accessFlags := 0, nameIndex := 27, descriptorIndex := 12, attributes := #[] }, { accessFlags := 0, nameIndex := 30, descriptorIndex := 12, attributes := #[] }])
  fields := #[{ name := "alpha", type := .double, accessFlags := 0, slot := 0, constantValue := 0 }, { name := "tauAlphaTau", type := .double, accessFlags := 0, slot := 1, constantValue := 0 }, { name := "tauTauAlphaTauTau", type := .double, accessFlags := 0, slot := 2, constantValue := 0 }, { name := "deltaResidualDelta", type := .double, accessFlags := 0, slot := 3, constantValue := 0 }, { name := "deltaDeltaResidualDeltaDelta", type := .double, accessFlags := 0, slot := 4, constantValue := 0 }, { name := "deltaTauResidualDeltaTau", type := .double, accessFlags := 0, slot := 5, constantValue := 0 }, { name := "deltaDeltaDeltaResidualDeltaDeltaDelta", type := .double, accessFlags := 0, slot := 6, constantValue := 0 }]
  methods := #[k2m0, k2m1]
  instanceTypes := #[.double, .double, .double, .double, .double, .double, .double]
  staticTypes := #[]
  resolved := Array.replicate 53 none
  statics := none }

def pool3 : Array CpInfo := pool [(1, u "java/lang/Cloneable"), (0, .class_ 1), (0, u "java/lang/Object"), (0, .class_ 3)] 3

/-- java/lang/Cloneable -/
def k3 : Class := { plain "java/lang/Cloneable" (some 0) with
  accessFlags := 1537
  interfaces := #[]
  cf := some (fileOf pool3 2 #[] #[] 1537 4 #[] #[])
  fields := #[]
  methods := #[]
  instanceTypes := #[]
  staticTypes := #[]
  resolved := Array.replicate 8 none
  statics := none }

def pool4 : Array CpInfo := pool [(1, u "java/io/Serializable"), (0, .class_ 1), (0, u "java/lang/Object"), (0, .class_ 3)] 3

/-- java/io/Serializable -/
def k4 : Class := { plain "java/io/Serializable" (some 0) with
  accessFlags := 1537
  interfaces := #[]
  cf := some (fileOf pool4 2 #[] #[] 1537 4 #[] #[])
  fields := #[]
  methods := #[]
  instanceTypes := #[]
  staticTypes := #[]
  resolved := Array.replicate 8 none
  statics := none }

/-- the primitive byte -/
def k5 : Class := { plain "byte" none with kind := .primitive 'B', accessFlags := 0x411 }
/-- [B -/
def k6 : Class := { plain "[B" (some 0) with kind := .array 5 .byte, interfaces := #[3, 4], accessFlags := 1041 }

/-- the primitive int -/
def k7 : Class := { plain "int" none with kind := .primitive 'I', accessFlags := 0x411 }
/-- [I -/
def k8 : Class := { plain "[I" (some 0) with kind := .array 7 .int, interfaces := #[3, 4], accessFlags := 1041 }

def heap : Heap := #[]
def classes : Array Class := #[k0, k1, k2, k3, k4, k5, k6, k7, k8]
def interned : List (Array UInt16 × Addr) := []
def slotsUsed : Nat := 0
def theMethod : MethodId := ⟨1, 6⟩
def args0 : Array Value := #[.int 3, .int 2, .int 5, .int 1, .int 2, .int 4]
def aboutOver (below : List Frame) : State where
  vm := { classes := classes, interned := interned.toArray }
  heap := heap
  slotsUsed := slotsUsed
  threads := #[{ frames := .invoking theMethod args0 :: below }]
def below0 : List Frame := [.native { method := ⟨0, 0⟩, args := #[] }]
def about1 : State := aboutOver below0
def p0 : Program := .bare "" "" ""
def e0 : Env := launch0.env 0 0 0
theorem w_frames : about1.frames = Frame.invoking theMethod args0 :: below0 := rfl
set_option maxRecDepth 65536 in
theorem w_args : argsFit about1.vm theMethod args0 = true := by decide +kernel
set_option maxRecDepth 65536 in
theorem w_heap : heapFits about1 = true := by decide +kernel
set_option maxRecDepth 65536 in
theorem w_runnable : about1.curStatus? = some .runnable := by decide +kernel
set_option maxRecDepth 65536 in
theorem w_alone : about1.alone = true := by decide +kernel
set_option maxRecDepth 65536 in
theorem w_named : about1.methodNamed? x = some theMethod := by decide +kernel
set_option maxRecDepth 65536 in
theorem w_hears : about1.hears theMethod below0 = true := by decide +kernel
set_option maxRecDepth 65536 in
theorem w_ripe : about1.ripe theMethod args0 below0 = true := by decide +kernel
theorem w_running : about1.status = .running := rfl
set_option maxRecDepth 65536 in
theorem w_room : about1.hasRoom e0.platform room_1 = true :=
  launch0.hasRoom_least _ room_1 (by decide +kernel) (by decide +kernel) (by decide +kernel) (by decide +kernel) (by decide +kernel) (by decide +kernel)
theorem allAtoms_all (ts : List Jvm.Cond) (a : Array Jvm.Value) (st : Jvm.State) : (allAtoms ts).before a st = ts.all (fun c => c.before a st) := by
  induction ts with
  | nil => rfl
  | cons c t ih =>
    show (Jvm.Cond.and c (allAtoms t)).before a st = _
    rw [Jvm.Cond.before_and, ih, List.all_cons]
def words1 : List Jvm.Cond := Jvm.Cond.code x code maxLocals ret :: tables_1
/-- a 'code' word, met by the world's own term for the bytes: nothing is compared byte by byte -/
theorem code_word {y : MethodName} {bytes : ByteArray} {mx : Nat} {rt : Option FieldType} {a : Array Value} {s : State} {m : MethodId} {meth : Method} {c : Code} (h1 : s.methodNamed? y = some m) (h2 : s.vm.method? m = some meth) (h3 : meth.code = some c) (h4 : c.code = bytes)
    (h5 : (c.maxLocals == mx && c.exceptionTable.isEmpty && decide (c.maxStack ≤ mostOperands) && decide (meth.sig.returnType = rt) && !meth.locks && decide (parseMethodDescriptor y.desc = some meth.sig)) = true) : (Jvm.Cond.code y bytes mx rt).before a s = true := by
  simp only [Bool.and_eq_true, beq_iff_eq, Bool.not_eq_true', decide_eq_true_eq] at h5
  obtain ⟨⟨⟨⟨⟨g1, g2⟩, g3⟩, g4⟩, g5⟩, g6⟩ := h5
  simp [Cond.before, Cond.holds, Cond.value, h1, h2, h3, h4, g1, g2, g3, g4, g5, g6]
def isCode : Jvm.Cond → Bool
  | .code _ _ _ _ => true
  | _ => false
theorem all_split {L : List Jvm.Cond} {P : Jvm.Cond → Bool} (h1 : L.all (fun c => isCode c || P c) = true) (h2 : ∀ c ∈ L.filter isCode, P c = true) : L.all P = true := by
  refine List.all_eq_true.mpr fun c hc => ?_
  have h := List.all_eq_true.mp h1 c hc
  rcases Bool.eq_false_or_eq_true (isCode c) with hi | hi
  · exact h2 c (List.mem_filter.mpr ⟨hc, hi⟩)
  · simpa [hi] using h
set_option maxRecDepth 65536 in
theorem w_c0 : (Jvm.Cond.code x code maxLocals ret).before args0 about1 = true := code_word (m := ⟨1, 6⟩) (meth := k1m6) (c := k1c6) (by decide +kernel) rfl rfl rfl (by decide +kernel)
set_option maxRecDepth 65536 in
theorem w_c1 : (Jvm.Cond.code ({ cls := "com/example/entalpi/entalpi/fluids/DerivativesAddSeparablePinLaw", name := "lo", desc := "(I)J" } : Jvm.MethodName) method_2_code (1 : Nat) (Option.some Jvm.ClassFile.FieldType.long)).before args0 about1 = true := code_word (m := ⟨1, 1⟩) (meth := k1m1) (c := k1c1) (by decide +kernel) rfl rfl rfl (by decide +kernel)
set_option maxRecDepth 65536 in
theorem w_c2 : (Jvm.Cond.code ({ cls := "com/example/entalpi/entalpi/fluids/DerivativesAddSeparablePinLaw", name := "hi", desc := "(I)J" } : Jvm.MethodName) method_3_code (1 : Nat) (Option.some Jvm.ClassFile.FieldType.long)).before args0 about1 = true := code_word (m := ⟨1, 2⟩) (meth := k1m2) (c := k1c2) (by decide +kernel) rfl rfl rfl (by decide +kernel)
set_option maxRecDepth 65536 in
theorem w_c3 : (Jvm.Cond.code ({ cls := "com/example/entalpi/entalpi/fluids/Derivatives", name := "<init>", desc := "()V" } : Jvm.MethodName) prog_7_method_1_code (1 : Nat) (Option.none : Option Jvm.ClassFile.FieldType)).before args0 about1 = true := code_word (m := ⟨2, 0⟩) (meth := k2m0) (c := k2c0) (by decide +kernel) rfl rfl rfl (by decide +kernel)
set_option maxRecDepth 65536 in
theorem w_c4 : (Jvm.Cond.code ({ cls := "java/lang/Object", name := "<init>", desc := "()V" } : Jvm.MethodName) object_method_1_code (1 : Nat) (Option.none : Option Jvm.ClassFile.FieldType)).before args0 about1 = true := code_word (m := ⟨0, 0⟩) (meth := k0m0) (c := k0c0) (by decide +kernel) rfl rfl rfl (by decide +kernel)
set_option maxRecDepth 65536 in
theorem w_c5 : (Jvm.Cond.code ({ cls := "com/example/entalpi/entalpi/fluids/Derivatives", name := "addSeparable", desc := "(DDDDDD)V" } : Jvm.MethodName) prog_7_method_2_code (13 : Nat) (Option.none : Option Jvm.ClassFile.FieldType)).before args0 about1 = true := code_word (m := ⟨2, 1⟩) (meth := k2m1) (c := k2c1) (by decide +kernel) rfl rfl rfl (by decide +kernel)
set_option maxRecDepth 65536 in
theorem w_c6 : (Jvm.Cond.code ({ cls := "com/example/entalpi/entalpi/fluids/DerivativesAddSeparablePinLaw", name := "tauTau", desc := "(JJJ)J" } : Jvm.MethodName) method_4_code (6 : Nat) (Option.some Jvm.ClassFile.FieldType.long)).before args0 about1 = true := code_word (m := ⟨1, 3⟩) (meth := k1m3) (c := k1c3) (by decide +kernel) rfl rfl rfl (by decide +kernel)
set_option maxRecDepth 65536 in
theorem w_c7 : (Jvm.Cond.code ({ cls := "com/example/entalpi/entalpi/fluids/DerivativesAddSeparablePinLaw", name := "deltaDelta", desc := "(JJJ)J" } : Jvm.MethodName) method_5_code (6 : Nat) (Option.some Jvm.ClassFile.FieldType.long)).before args0 about1 = true := code_word (m := ⟨1, 4⟩) (meth := k1m4) (c := k1c4) (by decide +kernel) rfl rfl rfl (by decide +kernel)
set_option maxRecDepth 65536 in
theorem w_c8 : (Jvm.Cond.code ({ cls := "com/example/entalpi/entalpi/fluids/DerivativesAddSeparablePinLaw", name := "deltaDeltaDelta", desc := "(JJJJ)J" } : Jvm.MethodName) method_6_code (8 : Nat) (Option.some Jvm.ClassFile.FieldType.long)).before args0 about1 = true := code_word (m := ⟨1, 5⟩) (meth := k1m5) (c := k1c5) (by decide +kernel) rfl rfl rfl (by decide +kernel)
def codes1 : List Jvm.Cond := [Jvm.Cond.code x code maxLocals ret, Jvm.Cond.code ({ cls := "com/example/entalpi/entalpi/fluids/DerivativesAddSeparablePinLaw", name := "lo", desc := "(I)J" } : Jvm.MethodName) method_2_code (1 : Nat) (Option.some Jvm.ClassFile.FieldType.long), Jvm.Cond.code ({ cls := "com/example/entalpi/entalpi/fluids/DerivativesAddSeparablePinLaw", name := "hi", desc := "(I)J" } : Jvm.MethodName) method_3_code (1 : Nat) (Option.some Jvm.ClassFile.FieldType.long), Jvm.Cond.code ({ cls := "com/example/entalpi/entalpi/fluids/Derivatives", name := "<init>", desc := "()V" } : Jvm.MethodName) prog_7_method_1_code (1 : Nat) (Option.none : Option Jvm.ClassFile.FieldType), Jvm.Cond.code ({ cls := "java/lang/Object", name := "<init>", desc := "()V" } : Jvm.MethodName) object_method_1_code (1 : Nat) (Option.none : Option Jvm.ClassFile.FieldType), Jvm.Cond.code ({ cls := "com/example/entalpi/entalpi/fluids/Derivatives", name := "addSeparable", desc := "(DDDDDD)V" } : Jvm.MethodName) prog_7_method_2_code (13 : Nat) (Option.none : Option Jvm.ClassFile.FieldType), Jvm.Cond.code ({ cls := "com/example/entalpi/entalpi/fluids/DerivativesAddSeparablePinLaw", name := "tauTau", desc := "(JJJ)J" } : Jvm.MethodName) method_4_code (6 : Nat) (Option.some Jvm.ClassFile.FieldType.long), Jvm.Cond.code ({ cls := "com/example/entalpi/entalpi/fluids/DerivativesAddSeparablePinLaw", name := "deltaDelta", desc := "(JJJ)J" } : Jvm.MethodName) method_5_code (6 : Nat) (Option.some Jvm.ClassFile.FieldType.long), Jvm.Cond.code ({ cls := "com/example/entalpi/entalpi/fluids/DerivativesAddSeparablePinLaw", name := "deltaDeltaDelta", desc := "(JJJJ)J" } : Jvm.MethodName) method_6_code (8 : Nat) (Option.some Jvm.ClassFile.FieldType.long)]
set_option maxRecDepth 65536 in
theorem codes_eq : words1.filter isCode = codes1 := rfl
theorem w_codes : ∀ c ∈ words1.filter isCode, c.before args0 about1 = true := by
  rw [codes_eq]
  intro c hc
  simp only [codes1, List.mem_cons, List.not_mem_nil, or_false] at hc
  rcases hc with rfl | rfl | rfl | rfl | rfl | rfl | rfl | rfl | rfl
  · exact w_c0
  · exact w_c1
  · exact w_c2
  · exact w_c3
  · exact w_c4
  · exact w_c5
  · exact w_c6
  · exact w_c7
  · exact w_c8
set_option maxRecDepth 65536 in
theorem w_t1 : (words1.take 24).all (fun c => isCode c || c.before args0 about1) = true := by decide +kernel
set_option maxRecDepth 65536 in
theorem w_t2 : ((words1.drop 24).take 24).all (fun c => isCode c || c.before args0 about1) = true := by decide +kernel
set_option maxRecDepth 65536 in
theorem w_t3 : ((words1.drop 24).drop 24).all (fun c => isCode c || c.before args0 about1) = true := by decide +kernel
theorem w_tables : (allAtoms (Jvm.Cond.code x code maxLocals ret :: tables_1)).before args0 about1 = true := by
  rw [allAtoms_all]
  show words1.all (fun c => c.before args0 about1) = true
  refine all_split ?_ w_codes
  rw [← List.take_append_drop 24 words1, List.all_append, w_t1, ← List.take_append_drop 24 (words1.drop 24), List.all_append, w_t2, w_t3]
  rfl
set_option maxRecDepth 65536 in
theorem w_case : (Jvm.Cond.and given_1 narrow_1).before args0 about1 = true := by decide +kernel
theorem w_applies : (headSpec (Jvm.Cond.code x code maxLocals ret :: tables_1) room_1).applies x e0.platform about1 = true :=
  (Spec.applies_iff w_frames).mpr ⟨w_running, w_runnable, w_alone, w_named, w_hears, w_ripe, w_room, w_tables⟩
theorem atStart : AtStart classFile x code maxLocals ret World_1 tables_1 room_1 Calls_1 rest_1 Pre_1 launch0 p0 e0 about1 theMethod args0 below0 :=
  ⟨lists_1, trivial, launch0.admits_env _ _ _, launch0.least_env, fairChoices_fair.cas, fairChoices_fair.clock, w_frames, w_args, w_heap, w_applies, trivial, trivial, w_case⟩
end start1
theorem witness_1 : WitnessClaimed_1 := ⟨start1.p0, start1.e0, start1.about1, start1.theMethod, start1.args0, start1.below0, start1.atStart⟩
end Jvm.Pilot.@@N@@
