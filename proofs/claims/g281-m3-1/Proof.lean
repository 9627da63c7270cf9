import JvmDerived
import JvmDerived.Pilot.@@N@@Statement
import JvmDerived.Pilot.@@N@@Code
set_option linter.unusedVariables false
set_option linter.unusedSimpArgs false
namespace Jvm.OwnGo
open Sem ClassFile Op Lib Jvm.Stand Jvm.Free Jvm.LawKit Jvm.RoadKit Jvm.Free.Fl
/-- from S the run comes to an end of which P speaks -/
def Go (p : Program) (e : Env) (below : List Frame) (P : Outcome → State → Prop) (S : State) : Prop := ∃ s₂ o, Steps p.tables e below S s₂ ∧ s₂.status = .running ∧ Ended s₂ below o ∧ P o s₂
/-- what a body's end says -/
def EndsAt (s : State) (Q : Option Value → Heap → List Loc → Prop) (rm : Room) : Outcome → State → Prop := fun o U' => ∃ v L, o = .returned v ∧ Q v U'.heap L ∧ FrameEnd s o U' L rm.cells rm.slots
/-- a body's contract -/
def Ct (l : Launch) (Z : State) (y : MethodName) (bytes : ByteArray) (ml : Nat) (ret : Option FieldType) (ws : List Jvm.Cond) (rm : Room) (as : Array Value) (h0 : Heap) (Q : Option Value → Heap → List Loc → Prop) : Prop :=
  MetFree l y (head1 (Jvm.Cond.code y bytes ml ret :: ws) rm) (fun a U => a = as ∧ Z.Warmed39 U.vm ∧ U.heap = h0) (fun _ _ _ _ _ => True) (fun _ U o U' => EndsAt U Q rm o U')
section Steps1
variable {p : Program} {l : Launch} {e : Env} {R : Room} {s : State} {m : MethodId} {args : Array Value} {below : List Frame} {meth : Method} {c : Code} {T : State} {locs : List Loc} {cells slots : Nat} {P : Outcome → State → Prop} {pc : Nat} {L L' : Array Slot} {st : List Value} {Z : State} {h h' : Heap} {a0 : Array Value} {rm : Room} {Q : Option Value → Heap → List Loc → Prop}
theorem Go.via {S S' : State} (k : ∀ t, Steps p.tables e below S' t → Steps p.tables e below S t) (g : Go p e below P S') : Go p e below P S := by
  obtain ⟨s2, o, h1, h2⟩ := g; exact ⟨s2, o, k _ h1, h2⟩
theorem Go.tr {S S' : State} (k : Steps p.tables e below S S') (g : Go p e below P S') : Go p e below P S := by
  obtain ⟨s2, o, h1, h2⟩ := g; exact ⟨s2, o, k.trans h1, h2⟩
theorem Ct.intro {y : MethodName} {bytes : ByteArray} {ml : Nat} {ret : Option FieldType} {ws : List Jvm.Cond} {as : Array Value} {h0 : Heap} (hpn : plainFor y = true) (L0 : Array Slot) (hef : ∀ m, entryFrame m as ml = mkF m 0 L0 [])
    (k : ∀ (p : Program) (e : Env) (s : State) (m : MethodId) (below : List Frame) (meth : Method) (c : Code) (T : State), Stand p l e rm s m as below meth c T [] 0 0 → p.tables.exec = Jvm.exec → Z.Warmed39 s.vm → c.code = bytes → c.maxLocals = ml → s.vm.findClass y.cls = some m.cls → meth.name = y.name → meth.sig.returnType = ret → meth.locks = false → T.heap = h0 → Go p e below (EndsAt s Q rm) (T.setTop (mkF m 0 L0 []))) :
    Ct l Z y bytes ml ret ws rm as h0 Q := by
  refine MetFree.of_bodySF hpn hisR ?_
  intro p e s m args below meth c s₁ Bd hml0 hP hK
  obtain ⟨rfl, hZ, hh⟩ := hP
  obtain ⟨s2, o, h1, h2, h3, h4⟩ := k p e s m below meth c s₁ (Stand.of_body Bd) Bd.exec hZ Bd.bytes hml0 (findClass_of_methodNamed Bd.named) (name_of_methodNamed Bd.named Bd.method).1 Bd.returns (BodyLoose.notSynchronized Bd) (by rw [← hh, Bd.state]; rfl)
  exact ⟨s2, o, castTop (hef m) h1, h2, h3, h4⟩
theorem retW (X : Stand p l e R s m args below meth c T locs cells slots) (hx : p.tables.exec = Jvm.exec) (hlk : meth.locks = false) {w : Value} {t : FieldType} {i : Instr} {rest : List Value} (hret : meth.sig.returnType = some t) (hn : narrow t w = w)
    (hi : (i = .ireturn ∧ (t = .int ∨ t = .boolean ∨ t = .byte ∨ t = .char ∨ t = .short) ∧ ∃ z, w = .int z) ∨ (i = .lreturn ∧ t = .long ∧ ∃ z, w = .long z) ∨ (i = .dreturn ∧ t = .double ∧ ∃ z, w = .double z) ∨ (i = .freturn ∧ t = .float ∧ ∃ z, w = .float z) ∨ (i = .areturn ∧ t.isReference = true ∧ w.isRef = true))
    (hd : decode c.code pc = .ok (i, 1)) (eT : T.heap = h) (hq : Q (some w) h locs) (hc : cells ≤ rm.cells) (hs : slots ≤ rm.slots) : Go p e below (EndsAt s Q rm) (T.setTop (mkF m pc L (w :: rest))) := by
  obtain ⟨fs, hr, hrun, hended, hW, hsame⟩ := X.leave (v := some w) (fun q => by rw [hret] at q; cases q) hlk
  refine ⟨_, _, retOut X hx hret hn hi hd hr, hrun, hended, _, _, rfl, ?_, ⟨_, rfl⟩, hW, hsame.mono hc hs⟩
  show Q (some w) T.heap locs
  rw [eT]; exact hq
theorem retI (X : Stand p l e R s m args below meth c T locs cells slots) (hx : p.tables.exec = Jvm.exec) (hlk : meth.locks = false) {z : Int32} {rest : List Value} (hret : meth.sig.returnType = some .int) (hd : decode c.code pc = .ok (.ireturn, 1)) (eT : T.heap = h) (hq : Q (some (.int z)) h locs) (hc : cells ≤ rm.cells) (hs : slots ≤ rm.slots) : Go p e below (EndsAt s Q rm) (T.setTop (mkF m pc L (.int z :: rest))) :=
  retW X hx hlk hret rfl (Or.inl ⟨rfl, Or.inl rfl, z, rfl⟩) hd eT hq hc hs
theorem retZ (X : Stand p l e R s m args below meth c T locs cells slots) (hx : p.tables.exec = Jvm.exec) (hlk : meth.locks = false) {z : Int32} {rest : List Value} (hret : meth.sig.returnType = some .boolean) (hd : decode c.code pc = .ok (.ireturn, 1)) (hn : narrow .boolean (.int z) = .int z) (eT : T.heap = h) (hq : Q (some (.int z)) h locs) (hc : cells ≤ rm.cells) (hs : slots ≤ rm.slots) : Go p e below (EndsAt s Q rm) (T.setTop (mkF m pc L (.int z :: rest))) :=
  retW X hx hlk hret hn (Or.inl ⟨rfl, Or.inr (Or.inl rfl), z, rfl⟩) hd eT hq hc hs
theorem retJ (X : Stand p l e R s m args below meth c T locs cells slots) (hx : p.tables.exec = Jvm.exec) (hlk : meth.locks = false) {z : Int64} {rest : List Value} (hret : meth.sig.returnType = some .long) (hd : decode c.code pc = .ok (.lreturn, 1)) (eT : T.heap = h) (hq : Q (some (.long z)) h locs) (hc : cells ≤ rm.cells) (hs : slots ≤ rm.slots) : Go p e below (EndsAt s Q rm) (T.setTop (mkF m pc L (.long z :: rest))) :=
  retW X hx hlk hret rfl (Or.inr (Or.inl ⟨rfl, rfl, z, rfl⟩)) hd eT hq hc hs
theorem retD (X : Stand p l e R s m args below meth c T locs cells slots) (hx : p.tables.exec = Jvm.exec) (hlk : meth.locks = false) {z : UInt64} {rest : List Value} (hret : meth.sig.returnType = some .double) (hd : decode c.code pc = .ok (.dreturn, 1)) (eT : T.heap = h) (hq : Q (some (.double z)) h locs) (hc : cells ≤ rm.cells) (hs : slots ≤ rm.slots) : Go p e below (EndsAt s Q rm) (T.setTop (mkF m pc L (.double z :: rest))) :=
  retW X hx hlk hret rfl (Or.inr (Or.inr (Or.inl ⟨rfl, rfl, z, rfl⟩))) hd eT hq hc hs
theorem retA (X : Stand p l e R s m args below meth c T locs cells slots) (hx : p.tables.exec = Jvm.exec) (hlk : meth.locks = false) {t : FieldType} {z : Addr} {rest : List Value} (hret : meth.sig.returnType = some t) (ht : t.isReference = true) (hn : narrow t (.ref z) = .ref z) (hd : decode c.code pc = .ok (.areturn, 1)) (eT : T.heap = h) (hq : Q (some (.ref z)) h locs) (hc : cells ≤ rm.cells) (hs : slots ≤ rm.slots) : Go p e below (EndsAt s Q rm) (T.setTop (mkF m pc L (.ref z :: rest))) :=
  retW X hx hlk hret hn (Or.inr (Or.inr (Or.inr (Or.inr ⟨rfl, ht, rfl⟩)))) hd eT hq hc hs
theorem retV (X : Stand p l e R s m args below meth c T locs cells slots) (hx : p.tables.exec = Jvm.exec) (hlk : meth.locks = false) (hret : meth.sig.returnType = none) (hd : decode c.code pc = .ok (.return_, 1)) (eT : T.heap = h) (hq : Q none h locs) (hc : cells ≤ rm.cells) (hs : slots ≤ rm.slots) : Go p e below (EndsAt s Q rm) (T.setTop (mkF m pc L [])) := by
  obtain ⟨fs, hr, hrun, hended, hW, hsame⟩ := X.leave (v := none) (fun _ => rfl) hlk
  refine ⟨_, _, X.returnOut hx hret hd hr, hrun, hended, _, _, rfl, ?_, ⟨_, rfl⟩, hW, hsame.mono hc hs⟩
  show Q none T.heap locs
  rw [eT]; exact hq
theorem s_iload (X : Stand p l e R s m args below meth c T locs cells slots) (hx : p.tables.exec = Jvm.exec) {k : Nat} {v : Int32} (hd : decode c.code pc = .ok (.iload k, 2)) (hl : L[k]? = some (.val (.int v))) (pc' : Nat) (hp : pc + 2 = pc') (g : Go p e below P (T.setTop (mkF m pc' L (.int v :: st)))) : Go p e below P (T.setTop (mkF m pc L (st))) := by
  subst hp; exact Go.via (fun _ k => XS.iload X.here hx rfl hd hl k) g
theorem s_iloadN (X : Stand p l e R s m args below meth c T locs cells slots) (hx : p.tables.exec = Jvm.exec) {k : Fin 4} {v : Int32} (hd : decode c.code pc = .ok (.iload_n k, 1)) (hl : L[k.val]? = some (.val (.int v))) (pc' : Nat) (hp : pc + 1 = pc') (g : Go p e below P (T.setTop (mkF m pc' L (.int v :: st)))) : Go p e below P (T.setTop (mkF m pc L (st))) := by
  subst hp; exact Go.via (fun _ k => XS.iloadN X.here hx rfl hd hl k) g
theorem s_istore (X : Stand p l e R s m args below meth c T locs cells slots) (hx : p.tables.exec = Jvm.exec) {k : Nat} {v : Int32} (hd : decode c.code pc = .ok (.istore k, 2)) (L' : Array Slot) (hl : storeLocals L k (.int v) = some L') (pc' : Nat) (hp : pc + 2 = pc') (g : Go p e below P (T.setTop (mkF m pc' L' (st)))) : Go p e below P (T.setTop (mkF m pc L (.int v :: st))) := by
  subst hp; exact Go.via (fun _ k => XS.istore X.here hx rfl hd rfl hl k) g
theorem s_istoreN (X : Stand p l e R s m args below meth c T locs cells slots) (hx : p.tables.exec = Jvm.exec) {k : Fin 4} {v : Int32} (hd : decode c.code pc = .ok (.istore_n k, 1)) (L' : Array Slot) (hl : storeLocals L k.val (.int v) = some L') (pc' : Nat) (hp : pc + 1 = pc') (g : Go p e below P (T.setTop (mkF m pc' L' (st)))) : Go p e below P (T.setTop (mkF m pc L (.int v :: st))) := by
  subst hp; exact Go.via (fun _ k => XS.istoreN X.here hx rfl hd rfl hl k) g
theorem s_lload (X : Stand p l e R s m args below meth c T locs cells slots) (hx : p.tables.exec = Jvm.exec) {k : Nat} {v : Int64} (hd : decode c.code pc = .ok (.lload k, 2)) (hl : L[k]? = some (.val (.long v))) (pc' : Nat) (hp : pc + 2 = pc') (g : Go p e below P (T.setTop (mkF m pc' L (.long v :: st)))) : Go p e below P (T.setTop (mkF m pc L (st))) := by
  subst hp; exact Go.via (fun _ k => XT.lload X.here hx rfl hd hl k) g
theorem s_lloadN (X : Stand p l e R s m args below meth c T locs cells slots) (hx : p.tables.exec = Jvm.exec) {k : Fin 4} {v : Int64} (hd : decode c.code pc = .ok (.lload_n k, 1)) (hl : L[k.val]? = some (.val (.long v))) (pc' : Nat) (hp : pc + 1 = pc') (g : Go p e below P (T.setTop (mkF m pc' L (.long v :: st)))) : Go p e below P (T.setTop (mkF m pc L (st))) := by
  subst hp; exact Go.via (fun _ k => XT.lloadN X.here hx rfl hd hl k) g
theorem s_lstore (X : Stand p l e R s m args below meth c T locs cells slots) (hx : p.tables.exec = Jvm.exec) {k : Nat} {v : Int64} (hd : decode c.code pc = .ok (.lstore k, 2)) (L' : Array Slot) (hl : storeLocals L k (.long v) = some L') (pc' : Nat) (hp : pc + 2 = pc') (g : Go p e below P (T.setTop (mkF m pc' L' (st)))) : Go p e below P (T.setTop (mkF m pc L (.long v :: st))) := by
  subst hp; exact Go.via (fun _ k => XT.lstore X.here hx rfl hd rfl hl k) g
theorem s_lstoreN (X : Stand p l e R s m args below meth c T locs cells slots) (hx : p.tables.exec = Jvm.exec) {k : Fin 4} {v : Int64} (hd : decode c.code pc = .ok (.lstore_n k, 1)) (L' : Array Slot) (hl : storeLocals L k.val (.long v) = some L') (pc' : Nat) (hp : pc + 1 = pc') (g : Go p e below P (T.setTop (mkF m pc' L' (st)))) : Go p e below P (T.setTop (mkF m pc L (.long v :: st))) := by
  subst hp; exact Go.via (fun _ k => XT.lstoreN X.here hx rfl hd rfl hl k) g
theorem s_dload (X : Stand p l e R s m args below meth c T locs cells slots) (hx : p.tables.exec = Jvm.exec) {k : Nat} {v : UInt64} (hd : decode c.code pc = .ok (.dload k, 2)) (hl : L[k]? = some (.val (.double v))) (pc' : Nat) (hp : pc + 2 = pc') (g : Go p e below P (T.setTop (mkF m pc' L (.double v :: st)))) : Go p e below P (T.setTop (mkF m pc L (st))) := by
  subst hp; exact Go.via (fun _ k => XS.dload X.here hx rfl hd hl k) g
theorem s_dloadN (X : Stand p l e R s m args below meth c T locs cells slots) (hx : p.tables.exec = Jvm.exec) {k : Fin 4} {v : UInt64} (hd : decode c.code pc = .ok (.dload_n k, 1)) (hl : L[k.val]? = some (.val (.double v))) (pc' : Nat) (hp : pc + 1 = pc') (g : Go p e below P (T.setTop (mkF m pc' L (.double v :: st)))) : Go p e below P (T.setTop (mkF m pc L (st))) := by
  subst hp; exact Go.via (fun _ k => XS.dloadN X.here hx rfl hd hl k) g
theorem s_dstore (X : Stand p l e R s m args below meth c T locs cells slots) (hx : p.tables.exec = Jvm.exec) {k : Nat} {v : UInt64} (hd : decode c.code pc = .ok (.dstore k, 2)) (L' : Array Slot) (hl : storeLocals L k (.double v) = some L') (pc' : Nat) (hp : pc + 2 = pc') (g : Go p e below P (T.setTop (mkF m pc' L' (st)))) : Go p e below P (T.setTop (mkF m pc L (.double v :: st))) := by
  subst hp; exact Go.via (fun _ k => XS.dstore X.here hx rfl hd rfl hl k) g
theorem s_dstoreN (X : Stand p l e R s m args below meth c T locs cells slots) (hx : p.tables.exec = Jvm.exec) {k : Fin 4} {v : UInt64} (hd : decode c.code pc = .ok (.dstore_n k, 1)) (L' : Array Slot) (hl : storeLocals L k.val (.double v) = some L') (pc' : Nat) (hp : pc + 1 = pc') (g : Go p e below P (T.setTop (mkF m pc' L' (st)))) : Go p e below P (T.setTop (mkF m pc L (.double v :: st))) := by
  subst hp; exact Go.via (fun _ k => XS.dstoreN X.here hx rfl hd rfl hl k) g
theorem s_aload (X : Stand p l e R s m args below meth c T locs cells slots) (hx : p.tables.exec = Jvm.exec) {k : Nat} {v : Value} (hd : decode c.code pc = .ok (.aload k, 2)) (hl : L[k]? = some (.val v)) (hv : v.isRef = true) (pc' : Nat) (hp : pc + 2 = pc') (g : Go p e below P (T.setTop (mkF m pc' L (v :: st)))) : Go p e below P (T.setTop (mkF m pc L (st))) := by
  subst hp; exact Go.via (fun _ k => XS.aload X.here hx rfl hd hl hv k) g
theorem s_aloadN (X : Stand p l e R s m args below meth c T locs cells slots) (hx : p.tables.exec = Jvm.exec) {k : Fin 4} {v : Value} (hd : decode c.code pc = .ok (.aload_n k, 1)) (hl : L[k.val]? = some (.val v)) (hv : v.isRef = true) (pc' : Nat) (hp : pc + 1 = pc') (g : Go p e below P (T.setTop (mkF m pc' L (v :: st)))) : Go p e below P (T.setTop (mkF m pc L (st))) := by
  subst hp; exact Go.via (fun _ k => XS.aloadN X.here hx rfl hd hl hv k) g
theorem s_astore (X : Stand p l e R s m args below meth c T locs cells slots) (hx : p.tables.exec = Jvm.exec) {k : Nat} {v : Value} (hd : decode c.code pc = .ok (.astore k, 2)) (hv : v.isRef = true) (L' : Array Slot) (hl : storeLocals L k v = some L') (pc' : Nat) (hp : pc + 2 = pc') (g : Go p e below P (T.setTop (mkF m pc' L' (st)))) : Go p e below P (T.setTop (mkF m pc L (v :: st))) := by
  subst hp; exact Go.via (fun _ k => XS.astore X.here hx rfl hd rfl hv hl k) g
theorem s_astoreN (X : Stand p l e R s m args below meth c T locs cells slots) (hx : p.tables.exec = Jvm.exec) {k : Fin 4} {v : Value} (hd : decode c.code pc = .ok (.astore_n k, 1)) (hv : v.isRef = true) (L' : Array Slot) (hl : storeLocals L k.val v = some L') (pc' : Nat) (hp : pc + 1 = pc') (g : Go p e below P (T.setTop (mkF m pc' L' (st)))) : Go p e below P (T.setTop (mkF m pc L (v :: st))) := by
  subst hp; exact Go.via (fun _ k => XS.astoreN X.here hx rfl hd rfl hv hl k) g
theorem s_iconst (X : Stand p l e R s m args below meth c T locs cells slots) (hx : p.tables.exec = Jvm.exec) {i : Int} (hd : decode c.code pc = .ok (.iconst i, 1)) (v : Int32) (hv : Int32.ofInt i = v) (pc' : Nat) (hp : pc + 1 = pc') (g : Go p e below P (T.setTop (mkF m pc' L (.int v :: st)))) : Go p e below P (T.setTop (mkF m pc L (st))) := by
  subst hp hv; exact Go.via (fun _ k => XS.iconst X.here hx rfl hd k) g
theorem s_bipush (X : Stand p l e R s m args below meth c T locs cells slots) (hx : p.tables.exec = Jvm.exec) {i : Int} (hd : decode c.code pc = .ok (.bipush i, 2)) (v : Int32) (hv : (Int8.ofInt i).toInt32 = v) (pc' : Nat) (hp : pc + 2 = pc') (g : Go p e below P (T.setTop (mkF m pc' L (.int v :: st)))) : Go p e below P (T.setTop (mkF m pc L (st))) := by
  subst hp hv; exact Go.via (fun _ k => XS.bipush X.here hx rfl hd k) g
theorem s_sipush (X : Stand p l e R s m args below meth c T locs cells slots) (hx : p.tables.exec = Jvm.exec) {i : Int} (hd : decode c.code pc = .ok (.sipush i, 3)) (v : Int32) (hv : (Int16.ofInt i).toInt32 = v) (pc' : Nat) (hp : pc + 3 = pc') (g : Go p e below P (T.setTop (mkF m pc' L (.int v :: st)))) : Go p e below P (T.setTop (mkF m pc L (st))) := by
  subst hp hv; exact Go.via (fun _ k => XS.sipush X.here hx rfl hd k) g
theorem s_lconst (X : Stand p l e R s m args below meth c T locs cells slots) (hx : p.tables.exec = Jvm.exec) {i : Fin 2} (hd : decode c.code pc = .ok (.lconst i, 1)) (v : Int64) (hv : Int64.ofNat i = v) (pc' : Nat) (hp : pc + 1 = pc') (g : Go p e below P (T.setTop (mkF m pc' L (.long v :: st)))) : Go p e below P (T.setTop (mkF m pc L (st))) := by
  subst hp; exact Go.via (fun _ k => XT.lconstV X.here hx rfl v hd hv k) g
theorem s_null (X : Stand p l e R s m args below meth c T locs cells slots) (hx : p.tables.exec = Jvm.exec)  (hd : decode c.code pc = .ok (.aconst_null, 1))  (pc' : Nat) (hp : pc + 1 = pc') (g : Go p e below P (T.setTop (mkF m pc' L (.null :: st)))) : Go p e below P (T.setTop (mkF m pc L (st))) := by
  subst hp; exact Go.via (fun _ k => XS.aconstNull X.here hx rfl hd k) g
theorem s_dconst0 (X : Stand p l e R s m args below meth c T locs cells slots) (hx : p.tables.exec = Jvm.exec)  (hd : decode c.code pc = .ok (.dconst 0, 1)) (v : UInt64) (hv : FP.dconst0 = v) (pc' : Nat) (hp : pc + 1 = pc') (g : Go p e below P (T.setTop (mkF m pc' L (.double v :: st)))) : Go p e below P (T.setTop (mkF m pc L (st))) := by
  subst hp; exact Go.via (fun _ k => XS.dconst0 X.here hx rfl hd hv k) g
theorem s_dconst1 (X : Stand p l e R s m args below meth c T locs cells slots) (hx : p.tables.exec = Jvm.exec)  (hd : decode c.code pc = .ok (.dconst 1, 1)) (v : UInt64) (hv : FP.dconst1 = v) (pc' : Nat) (hp : pc + 1 = pc') (g : Go p e below P (T.setTop (mkF m pc' L (.double v :: st)))) : Go p e below P (T.setTop (mkF m pc L (st))) := by
  subst hp; exact Go.via (fun _ k => XS.dconst1 X.here hx rfl hd hv k) g
theorem s_ldcI (X : Stand p l e R s m args below meth c T locs cells slots) (hx : p.tables.exec = Jvm.exec) {i : Nat} {v : Int32} (hd : decode c.code pc = .ok (.ldc i, 2)) (hZ : Z.Warmed39 s.vm) {own : String} (hown : s.vm.findClass own = some m.cls) (w : (Cond.constant own i v).before a0 Z = true) (pc' : Nat) (hp : pc + 2 = pc') (g : Go p e below P (T.setTop (mkF m pc' L (.int v :: st)))) : Go p e below P (T.setTop (mkF m pc L (st))) := by
  subst hp; exact Go.via (fun _ k => X.ldcI hx hown (mvT hZ w) rfl hd k) g
theorem s_ldc2J (X : Stand p l e R s m args below meth c T locs cells slots) (hx : p.tables.exec = Jvm.exec) {i : Nat} {v : Int64} (hd : decode c.code pc = .ok (.ldc2_w i, 3)) (hZ : Z.Warmed39 s.vm) {own : String} (hown : s.vm.findClass own = some m.cls) (w : (Cond.constantLong own i v).before a0 Z = true) (pc' : Nat) (hp : pc + 3 = pc') (g : Go p e below P (T.setTop (mkF m pc' L (.long v :: st)))) : Go p e below P (T.setTop (mkF m pc L (st))) := by
  subst hp; exact Go.via (fun _ k => X.ldc2J hx hown (mvT hZ w) rfl hd k) g
theorem s_ldc2D (X : Stand p l e R s m args below meth c T locs cells slots) (hx : p.tables.exec = Jvm.exec) {i : Nat} {v : UInt64} (hd : decode c.code pc = .ok (.ldc2_w i, 3)) (hZ : Z.Warmed39 s.vm) {own : String} (hown : s.vm.findClass own = some m.cls) (w : (Cond.constantDouble own i v).before a0 Z = true) (pc' : Nat) (hp : pc + 3 = pc') (g : Go p e below P (T.setTop (mkF m pc' L (.double v :: st)))) : Go p e below P (T.setTop (mkF m pc L (st))) := by
  subst hp; exact Go.via (fun _ k => X.ldc2DoubleC hx hown (mvT hZ w) (g := mkF m pc L st) rfl hd _ k) g
theorem s_iadd (X : Stand p l e R s m args below meth c T locs cells slots) (hx : p.tables.exec = Jvm.exec) {x y : Int32} (hd : decode c.code pc = .ok (.iadd, 1)) (v : Int32) (hv : x + y = v) (pc' : Nat) (hp : pc + 1 = pc') (g : Go p e below P (T.setTop (mkF m pc' L (.int v :: st)))) : Go p e below P (T.setTop (mkF m pc L (.int y :: .int x :: st))) := by
  subst hp hv; exact Go.via (fun _ k => XS.iadd X.here hx rfl hd rfl k) g
theorem s_isub (X : Stand p l e R s m args below meth c T locs cells slots) (hx : p.tables.exec = Jvm.exec) {x y : Int32} (hd : decode c.code pc = .ok (.isub, 1)) (v : Int32) (hv : x - y = v) (pc' : Nat) (hp : pc + 1 = pc') (g : Go p e below P (T.setTop (mkF m pc' L (.int v :: st)))) : Go p e below P (T.setTop (mkF m pc L (.int y :: .int x :: st))) := by
  subst hp hv; exact Go.via (fun _ k => XS.isub X.here hx rfl hd rfl k) g
theorem s_imul (X : Stand p l e R s m args below meth c T locs cells slots) (hx : p.tables.exec = Jvm.exec) {x y : Int32} (hd : decode c.code pc = .ok (.imul, 1)) (v : Int32) (hv : x * y = v) (pc' : Nat) (hp : pc + 1 = pc') (g : Go p e below P (T.setTop (mkF m pc' L (.int v :: st)))) : Go p e below P (T.setTop (mkF m pc L (.int y :: .int x :: st))) := by
  subst hp hv; exact Go.via (fun _ k => XS.imul X.here hx rfl hd rfl k) g
theorem s_iand (X : Stand p l e R s m args below meth c T locs cells slots) (hx : p.tables.exec = Jvm.exec) {x y : Int32} (hd : decode c.code pc = .ok (.iand, 1)) (v : Int32) (hv : x &&& y = v) (pc' : Nat) (hp : pc + 1 = pc') (g : Go p e below P (T.setTop (mkF m pc' L (.int v :: st)))) : Go p e below P (T.setTop (mkF m pc L (.int y :: .int x :: st))) := by
  subst hp hv; exact Go.via (fun _ k => XS.iand X.here hx rfl hd rfl k) g
theorem s_ixor (X : Stand p l e R s m args below meth c T locs cells slots) (hx : p.tables.exec = Jvm.exec) {x y : Int32} (hd : decode c.code pc = .ok (.ixor, 1)) (v : Int32) (hv : x ^^^ y = v) (pc' : Nat) (hp : pc + 1 = pc') (g : Go p e below P (T.setTop (mkF m pc' L (.int v :: st)))) : Go p e below P (T.setTop (mkF m pc L (.int y :: .int x :: st))) := by
  subst hp hv; exact Go.via (fun _ k => XT.ixor X.here hx rfl hd rfl k) g
theorem s_ior (X : Stand p l e R s m args below meth c T locs cells slots) (hx : p.tables.exec = Jvm.exec) {x y : Int32} (hd : decode c.code pc = .ok (.ior, 1)) (v : Int32) (hv : x ||| y = v) (pc' : Nat) (hp : pc + 1 = pc') (g : Go p e below P (T.setTop (mkF m pc' L (.int v :: st)))) : Go p e below P (T.setTop (mkF m pc L (.int y :: .int x :: st))) := by
  subst hp hv; exact Go.via (fun _ k => XT.ior X.here hx rfl hd rfl k) g
theorem s_ishl (X : Stand p l e R s m args below meth c T locs cells slots) (hx : p.tables.exec = Jvm.exec) {x y : Int32} (hd : decode c.code pc = .ok (.ishl, 1)) (v : Int32) (hv : x <<< (y &&& 31) = v) (pc' : Nat) (hp : pc + 1 = pc') (g : Go p e below P (T.setTop (mkF m pc' L (.int v :: st)))) : Go p e below P (T.setTop (mkF m pc L (.int y :: .int x :: st))) := by
  subst hp hv; exact Go.via (fun _ k => XT.ishl X.here hx rfl hd rfl k) g
theorem s_ishr (X : Stand p l e R s m args below meth c T locs cells slots) (hx : p.tables.exec = Jvm.exec) {x y : Int32} (hd : decode c.code pc = .ok (.ishr, 1)) (v : Int32) (hv : x >>> (y &&& 31) = v) (pc' : Nat) (hp : pc + 1 = pc') (g : Go p e below P (T.setTop (mkF m pc' L (.int v :: st)))) : Go p e below P (T.setTop (mkF m pc L (.int y :: .int x :: st))) := by
  subst hp hv; exact Go.via (fun _ k => XT.ishr X.here hx rfl hd rfl k) g
theorem s_iushr (X : Stand p l e R s m args below meth c T locs cells slots) (hx : p.tables.exec = Jvm.exec) {x y : Int32} (hd : decode c.code pc = .ok (.iushr, 1)) (v : Int32) (hv : XT.ushr x y = v) (pc' : Nat) (hp : pc + 1 = pc') (g : Go p e below P (T.setTop (mkF m pc' L (.int v :: st)))) : Go p e below P (T.setTop (mkF m pc L (.int y :: .int x :: st))) := by
  subst hp hv; exact Go.via (fun _ k => XT.iushr X.here hx rfl hd rfl k) g
theorem s_idiv (X : Stand p l e R s m args below meth c T locs cells slots) (hx : p.tables.exec = Jvm.exec) {x y : Int32} (hd : decode c.code pc = .ok (.idiv, 1)) (hy : y ≠ 0) (v : Int32) (hv : x / y = v) (pc' : Nat) (hp : pc + 1 = pc') (g : Go p e below P (T.setTop (mkF m pc' L (.int v :: st)))) : Go p e below P (T.setTop (mkF m pc L (.int y :: .int x :: st))) := by
  subst hp hv; exact Go.via (fun _ k => XS.idiv X.here hx rfl hd rfl hy k) g
theorem s_irem (X : Stand p l e R s m args below meth c T locs cells slots) (hx : p.tables.exec = Jvm.exec) {x y : Int32} (hd : decode c.code pc = .ok (.irem, 1)) (hy : y ≠ 0) (v : Int32) (hv : x % y = v) (pc' : Nat) (hp : pc + 1 = pc') (g : Go p e below P (T.setTop (mkF m pc' L (.int v :: st)))) : Go p e below P (T.setTop (mkF m pc L (.int y :: .int x :: st))) := by
  subst hp hv; exact Go.via (fun _ k => RoadKit.iremM X hx rfl hd rfl hy k) g
theorem s_ineg (X : Stand p l e R s m args below meth c T locs cells slots) (hx : p.tables.exec = Jvm.exec) {x : Int32} (hd : decode c.code pc = .ok (.ineg, 1)) (v : Int32) (hv : -x = v) (pc' : Nat) (hp : pc + 1 = pc') (g : Go p e below P (T.setTop (mkF m pc' L (.int v :: st)))) : Go p e below P (T.setTop (mkF m pc L (.int x :: st))) := by
  subst hp hv; exact Go.via (fun _ k => XS.ineg X.here hx rfl hd rfl k) g
theorem s_ladd (X : Stand p l e R s m args below meth c T locs cells slots) (hx : p.tables.exec = Jvm.exec) {x y : Int64} (hd : decode c.code pc = .ok (.ladd, 1)) (v : Int64) (hv : x + y = v) (pc' : Nat) (hp : pc + 1 = pc') (g : Go p e below P (T.setTop (mkF m pc' L (.long v :: st)))) : Go p e below P (T.setTop (mkF m pc L (.long y :: .long x :: st))) := by
  subst hp hv; exact Go.via (fun _ k => XT.ladd X.here hx rfl hd rfl k) g
theorem s_lsub (X : Stand p l e R s m args below meth c T locs cells slots) (hx : p.tables.exec = Jvm.exec) {x y : Int64} (hd : decode c.code pc = .ok (.lsub, 1)) (v : Int64) (hv : x - y = v) (pc' : Nat) (hp : pc + 1 = pc') (g : Go p e below P (T.setTop (mkF m pc' L (.long v :: st)))) : Go p e below P (T.setTop (mkF m pc L (.long y :: .long x :: st))) := by
  subst hp hv; exact Go.via (fun _ k => XT.lsub X.here hx rfl hd rfl k) g
theorem s_lmul (X : Stand p l e R s m args below meth c T locs cells slots) (hx : p.tables.exec = Jvm.exec) {x y : Int64} (hd : decode c.code pc = .ok (.lmul, 1)) (v : Int64) (hv : x * y = v) (pc' : Nat) (hp : pc + 1 = pc') (g : Go p e below P (T.setTop (mkF m pc' L (.long v :: st)))) : Go p e below P (T.setTop (mkF m pc L (.long y :: .long x :: st))) := by
  subst hp hv; exact Go.via (fun _ k => XT.lmul X.here hx rfl hd rfl k) g
theorem s_land (X : Stand p l e R s m args below meth c T locs cells slots) (hx : p.tables.exec = Jvm.exec) {x y : Int64} (hd : decode c.code pc = .ok (.land, 1)) (v : Int64) (hv : x &&& y = v) (pc' : Nat) (hp : pc + 1 = pc') (g : Go p e below P (T.setTop (mkF m pc' L (.long v :: st)))) : Go p e below P (T.setTop (mkF m pc L (.long y :: .long x :: st))) := by
  subst hp hv; exact Go.via (fun _ k => XT.land X.here hx rfl hd rfl k) g
theorem s_lor (X : Stand p l e R s m args below meth c T locs cells slots) (hx : p.tables.exec = Jvm.exec) {x y : Int64} (hd : decode c.code pc = .ok (.lor, 1)) (v : Int64) (hv : x ||| y = v) (pc' : Nat) (hp : pc + 1 = pc') (g : Go p e below P (T.setTop (mkF m pc' L (.long v :: st)))) : Go p e below P (T.setTop (mkF m pc L (.long y :: .long x :: st))) := by
  subst hp hv; exact Go.via (fun _ k => XT.lor X.here hx rfl hd rfl k) g
theorem s_lxor (X : Stand p l e R s m args below meth c T locs cells slots) (hx : p.tables.exec = Jvm.exec) {x y : Int64} (hd : decode c.code pc = .ok (.lxor, 1)) (v : Int64) (hv : x ^^^ y = v) (pc' : Nat) (hp : pc + 1 = pc') (g : Go p e below P (T.setTop (mkF m pc' L (.long v :: st)))) : Go p e below P (T.setTop (mkF m pc L (.long y :: .long x :: st))) := by
  subst hp hv; exact Go.via (fun _ k => XT.lxor X.here hx rfl hd rfl k) g
theorem s_ldiv (X : Stand p l e R s m args below meth c T locs cells slots) (hx : p.tables.exec = Jvm.exec) {x y : Int64} (hd : decode c.code pc = .ok (.ldiv, 1)) (hy : y ≠ 0) (v : Int64) (hv : x / y = v) (pc' : Nat) (hp : pc + 1 = pc') (g : Go p e below P (T.setTop (mkF m pc' L (.long v :: st)))) : Go p e below P (T.setTop (mkF m pc L (.long y :: .long x :: st))) := by
  subst hp hv; exact Go.via (fun _ k => XT.ldiv X.here hx rfl hd rfl hy k) g
theorem s_lrem (X : Stand p l e R s m args below meth c T locs cells slots) (hx : p.tables.exec = Jvm.exec) {x y : Int64} (hd : decode c.code pc = .ok (.lrem, 1)) (hy : y ≠ 0) (v : Int64) (hv : x - (x / y) * y = v) (pc' : Nat) (hp : pc + 1 = pc') (g : Go p e below P (T.setTop (mkF m pc' L (.long v :: st)))) : Go p e below P (T.setTop (mkF m pc L (.long y :: .long x :: st))) := by
  subst hp hv; exact Go.via (fun _ k => XT.lrem X.here hx rfl hd rfl hy k) g
theorem s_lneg (X : Stand p l e R s m args below meth c T locs cells slots) (hx : p.tables.exec = Jvm.exec) {x : Int64} (hd : decode c.code pc = .ok (.lneg, 1)) (v : Int64) (hv : -x = v) (pc' : Nat) (hp : pc + 1 = pc') (g : Go p e below P (T.setTop (mkF m pc' L (.long v :: st)))) : Go p e below P (T.setTop (mkF m pc L (.long x :: st))) := by
  subst hp hv; exact Go.via (fun _ k => XT.lneg X.here hx rfl hd rfl k) g
theorem sh64 (y : Int32) : (y.toInt64 &&& 63) = (y &&& 0x3f).toInt64 := by rw [Int32.toInt64_and]; rfl
theorem s_lshl (X : Stand p l e R s m args below meth c T locs cells slots) (hx : p.tables.exec = Jvm.exec) {x : Int64} {y : Int32} (hd : decode c.code pc = .ok (.lshl, 1)) (v : Int64) (hv : x <<< (y &&& 0x3f).toInt64 = v) (pc' : Nat) (hp : pc + 1 = pc') (g : Go p e below P (T.setTop (mkF m pc' L (.long v :: st)))) : Go p e below P (T.setTop (mkF m pc L (.int y :: .long x :: st))) := by
  subst hp hv; exact Go.via (fun _ k => XT.lshl X.here hx rfl hd rfl (by rw [sh64]; exact k)) g
theorem s_lshr (X : Stand p l e R s m args below meth c T locs cells slots) (hx : p.tables.exec = Jvm.exec) {x : Int64} {y : Int32} (hd : decode c.code pc = .ok (.lshr, 1)) (v : Int64) (hv : x >>> (y &&& 0x3f).toInt64 = v) (pc' : Nat) (hp : pc + 1 = pc') (g : Go p e below P (T.setTop (mkF m pc' L (.long v :: st)))) : Go p e below P (T.setTop (mkF m pc L (.int y :: .long x :: st))) := by
  subst hp hv; exact Go.via (fun _ k => XT.lshr X.here hx rfl hd rfl (by rw [sh64]; exact k)) g
theorem s_lushr (X : Stand p l e R s m args below meth c T locs cells slots) (hx : p.tables.exec = Jvm.exec) {x : Int64} {y : Int32} (hd : decode c.code pc = .ok (.lushr, 1)) (v : Int64) (hv : XT.ushrL x y = v) (pc' : Nat) (hp : pc + 1 = pc') (g : Go p e below P (T.setTop (mkF m pc' L (.long v :: st)))) : Go p e below P (T.setTop (mkF m pc L (.int y :: .long x :: st))) := by
  subst hp hv; exact Go.via (fun _ k => XT.lushr X.here hx rfl hd rfl k) g
theorem s_i2l (X : Stand p l e R s m args below meth c T locs cells slots) (hx : p.tables.exec = Jvm.exec) {x : Int32} (hd : decode c.code pc = .ok (.i2l, 1)) (v : Int64) (hv : x.toInt64 = v) (pc' : Nat) (hp : pc + 1 = pc') (g : Go p e below P (T.setTop (mkF m pc' L (.long v :: st)))) : Go p e below P (T.setTop (mkF m pc L (.int x :: st))) := by
  subst hp hv; exact Go.via (fun _ k => XT.i2l X.here hx rfl hd rfl k) g
theorem s_l2i (X : Stand p l e R s m args below meth c T locs cells slots) (hx : p.tables.exec = Jvm.exec) {x : Int64} (hd : decode c.code pc = .ok (.l2i, 1)) (v : Int32) (hv : x.toInt32 = v) (pc' : Nat) (hp : pc + 1 = pc') (g : Go p e below P (T.setTop (mkF m pc' L (.int v :: st)))) : Go p e below P (T.setTop (mkF m pc L (.long x :: st))) := by
  subst hp hv; exact Go.via (fun _ k => XT.l2i X.here hx rfl hd rfl k) g
theorem s_i2b (X : Stand p l e R s m args below meth c T locs cells slots) (hx : p.tables.exec = Jvm.exec) {x : Int32} (hd : decode c.code pc = .ok (.i2b, 1)) (v : Int32) (hv : x.toInt8.toInt32 = v) (pc' : Nat) (hp : pc + 1 = pc') (g : Go p e below P (T.setTop (mkF m pc' L (.int v :: st)))) : Go p e below P (T.setTop (mkF m pc L (.int x :: st))) := by
  subst hp hv; exact Go.via (fun _ k => XT.i2b X.here hx rfl hd rfl k) g
theorem s_i2s (X : Stand p l e R s m args below meth c T locs cells slots) (hx : p.tables.exec = Jvm.exec) {x : Int32} (hd : decode c.code pc = .ok (.i2s, 1)) (v : Int32) (hv : x.toInt16.toInt32 = v) (pc' : Nat) (hp : pc + 1 = pc') (g : Go p e below P (T.setTop (mkF m pc' L (.int v :: st)))) : Go p e below P (T.setTop (mkF m pc L (.int x :: st))) := by
  subst hp hv; exact Go.via (fun _ k => XT.i2s X.here hx rfl hd rfl k) g
theorem s_i2d (X : Stand p l e R s m args below meth c T locs cells slots) (hx : p.tables.exec = Jvm.exec) {x : Int32} (hd : decode c.code pc = .ok (.i2d, 1)) (v : UInt64) (hv : FP.i2d x = v) (pc' : Nat) (hp : pc + 1 = pc') (g : Go p e below P (T.setTop (mkF m pc' L (.double v :: st)))) : Go p e below P (T.setTop (mkF m pc L (.int x :: st))) := by
  subst hp; exact Go.via (fun _ k => XS.i2dS X.here hx rfl hd rfl hv k) g
theorem s_l2d (X : Stand p l e R s m args below meth c T locs cells slots) (hx : p.tables.exec = Jvm.exec) {x : Int64} (hd : decode c.code pc = .ok (.l2d, 1)) (v : UInt64) (hv : FP.l2d x = v) (pc' : Nat) (hp : pc + 1 = pc') (g : Go p e below P (T.setTop (mkF m pc' L (.double v :: st)))) : Go p e below P (T.setTop (mkF m pc L (.long x :: st))) := by
  subst hp; exact Go.via (fun _ k => XS.l2dS X.here hx rfl hd rfl hv k) g
theorem s_dneg (X : Stand p l e R s m args below meth c T locs cells slots) (hx : p.tables.exec = Jvm.exec) {x : UInt64} (hd : decode c.code pc = .ok (.dneg, 1)) (v : UInt64) (hv : FP.dneg x = v) (pc' : Nat) (hp : pc + 1 = pc') (g : Go p e below P (T.setTop (mkF m pc' L (.double v :: st)))) : Go p e below P (T.setTop (mkF m pc L (.double x :: st))) := by
  subst hp; exact Go.via (fun _ k => XS.dnegS X.here hx rfl hd rfl hv k) g
theorem s_dadd (X : Stand p l e R s m args below meth c T locs cells slots) (hx : p.tables.exec = Jvm.exec) {x y : UInt64} (hd : decode c.code pc = .ok (.dadd, 1)) (v : UInt64) (hv : FP.dadd x y = v) (hn : NoNaN64 v) (pc' : Nat) (hp : pc + 1 = pc') (g : Go p e below P (T.setTop (mkF m pc' L (.double v :: st)))) : Go p e below P (T.setTop (mkF m pc L (.double y :: .double x :: st))) := by
  subst hp hv; exact Go.via (fun _ k => XS.daddS X.here hx rfl hd rfl hn rfl k) g
theorem s_dsub (X : Stand p l e R s m args below meth c T locs cells slots) (hx : p.tables.exec = Jvm.exec) {x y : UInt64} (hd : decode c.code pc = .ok (.dsub, 1)) (v : UInt64) (hv : FP.dsub x y = v) (hn : NoNaN64 v) (pc' : Nat) (hp : pc + 1 = pc') (g : Go p e below P (T.setTop (mkF m pc' L (.double v :: st)))) : Go p e below P (T.setTop (mkF m pc L (.double y :: .double x :: st))) := by
  subst hp hv; exact Go.via (fun _ k => XS.dsubS X.here hx rfl hd rfl hn rfl k) g
theorem s_dmul (X : Stand p l e R s m args below meth c T locs cells slots) (hx : p.tables.exec = Jvm.exec) {x y : UInt64} (hd : decode c.code pc = .ok (.dmul, 1)) (v : UInt64) (hv : FP.dmul x y = v) (hn : NoNaN64 v) (pc' : Nat) (hp : pc + 1 = pc') (g : Go p e below P (T.setTop (mkF m pc' L (.double v :: st)))) : Go p e below P (T.setTop (mkF m pc L (.double y :: .double x :: st))) := by
  subst hp hv; exact Go.via (fun _ k => XS.dmulS X.here hx rfl hd rfl hn rfl k) g
theorem s_ddiv (X : Stand p l e R s m args below meth c T locs cells slots) (hx : p.tables.exec = Jvm.exec) {x y : UInt64} (hd : decode c.code pc = .ok (.ddiv, 1)) (v : UInt64) (hv : FP.ddiv x y = v) (hn : NoNaN64 v) (pc' : Nat) (hp : pc + 1 = pc') (g : Go p e below P (T.setTop (mkF m pc' L (.double v :: st)))) : Go p e below P (T.setTop (mkF m pc L (.double y :: .double x :: st))) := by
  subst hp hv; exact Go.via (fun _ k => XS.ddivS X.here hx rfl hd rfl hn rfl k) g
theorem s_dcmp (X : Stand p l e R s m args below meth c T locs cells slots) (hx : p.tables.exec = Jvm.exec) {x y : UInt64} {o : CmpOp} (hd : decode c.code pc = .ok (.dcmp o, 1)) (v : Int32) (hv : cmpValue (FP.dcmp x y) o = v) (pc' : Nat) (hp : pc + 1 = pc') (g : Go p e below P (T.setTop (mkF m pc' L (.int v :: st)))) : Go p e below P (T.setTop (mkF m pc L (.double y :: .double x :: st))) := by
  subst hp; exact Go.via (fun _ k => XS.dcmpS X.here hx rfl hd rfl hv k) g
theorem s_lcmp (X : Stand p l e R s m args below meth c T locs cells slots) (hx : p.tables.exec = Jvm.exec) {x y : Int64} (hd : decode c.code pc = .ok (.lcmp, 1)) (v : Int32) (hv : XT.cmpL x y = v) (pc' : Nat) (hp : pc + 1 = pc') (g : Go p e below P (T.setTop (mkF m pc' L (.int v :: st)))) : Go p e below P (T.setTop (mkF m pc L (.long y :: .long x :: st))) := by
  subst hp hv; exact Go.via (fun _ k => XT.lcmp X.here hx rfl hd rfl k) g
theorem s_dup (X : Stand p l e R s m args below meth c T locs cells slots) (hx : p.tables.exec = Jvm.exec) {x : Value} (hd : decode c.code pc = .ok (.dup, 1)) (hc : x.category = 1) (pc' : Nat) (hp : pc + 1 = pc') (g : Go p e below P (T.setTop (mkF m pc' L (x :: x :: st)))) : Go p e below P (T.setTop (mkF m pc L (x :: st))) := by
  subst hp; exact Go.via (fun _ k => XS.dup X.here hx rfl hd rfl hc k) g
theorem s_pop (X : Stand p l e R s m args below meth c T locs cells slots) (hx : p.tables.exec = Jvm.exec) {x : Value} (hd : decode c.code pc = .ok (.pop, 1)) (hc : x.category = 1) (pc' : Nat) (hp : pc + 1 = pc') (g : Go p e below P (T.setTop (mkF m pc' L (st)))) : Go p e below P (T.setTop (mkF m pc L (x :: st))) := by
  subst hp; exact Go.via (fun _ k => XT.pop X.here hx rfl hd rfl hc k) g
theorem s_dupX1 (X : Stand p l e R s m args below meth c T locs cells slots) (hx : p.tables.exec = Jvm.exec) {x y : Value} (hd : decode c.code pc = .ok (.dup_x1, 1)) (hc : x.category = 1) (hc' : y.category = 1) (pc' : Nat) (hp : pc + 1 = pc') (g : Go p e below P (T.setTop (mkF m pc' L (x :: y :: x :: st)))) : Go p e below P (T.setTop (mkF m pc L (x :: y :: st))) := by
  subst hp; exact Go.via (fun _ k => XT.dupX1 X.here hx rfl hd rfl hc hc' k) g
theorem s_dup2 (X : Stand p l e R s m args below meth c T locs cells slots) (hx : p.tables.exec = Jvm.exec) {x y : Value} (hd : decode c.code pc = .ok (.dup2, 1)) (hc : x.category = 1) (hc' : y.category = 1) (pc' : Nat) (hp : pc + 1 = pc') (g : Go p e below P (T.setTop (mkF m pc' L (x :: y :: x :: y :: st)))) : Go p e below P (T.setTop (mkF m pc L (x :: y :: st))) := by
  subst hp; exact Go.via (fun _ k => XT.dup2 X.here hx rfl hd rfl hc hc' k) g
theorem s_iinc (X : Stand p l e R s m args below meth c T locs cells slots) (hx : p.tables.exec = Jvm.exec) {k : Nat} {cst : Int} {x : Int32} (hd : decode c.code pc = .ok (.iinc k cst, 3)) (v : Int32) (hv : x + Int32.ofInt cst = v) (hl : L[k]? = some (.val (.int x))) (L' : Array Slot) (hl' : storeLocals L k (.int v) = some L') (pc' : Nat) (hp : pc + 3 = pc') (g : Go p e below P (T.setTop (mkF m pc' L' (st)))) : Go p e below P (T.setTop (mkF m pc L (st))) := by
  subst hp hv; exact Go.via (fun _ k => XS.iinc X.here hx rfl hd hl hl' k) g
theorem s_goto (X : Stand p l e R s m args below meth c T locs cells slots) (hx : p.tables.exec = Jvm.exec) {o : Int} (hd : decode c.code pc = .ok (.goto o, 3)) (pc' : Nat) (ho : 0 ≤ (pc : Int) + o) (hp : ((pc : Int) + o).toNat = pc') (g : Go p e below P (T.setTop (mkF m pc' L st))) : Go p e below P (T.setTop (mkF m pc L st)) := Go.via (fun _ k => XS.goto X.here hx rfl rfl hd ho hp k) g
theorem s_ifY (X : Stand p l e R s m args below meth c T locs cells slots) (hx : p.tables.exec = Jvm.exec) {cd : ClassFile.Cond} {o : Int} {x : Int32} (hd : decode c.code pc = .ok (.ifCond cd o, 3)) (hc : ifCond.holds cd x = true) (pc' : Nat) (ho : 0 ≤ (pc : Int) + o) (hp : ((pc : Int) + o).toNat = pc') (g : Go p e below P (T.setTop (mkF m pc' L st))) : Go p e below P (T.setTop (mkF m pc L (.int x :: st))) := Go.via (fun _ k => XS.ifYes X.here hx rfl rfl hd rfl hc ho hp k) g
theorem s_ifN (X : Stand p l e R s m args below meth c T locs cells slots) (hx : p.tables.exec = Jvm.exec) {cd : ClassFile.Cond} {o : Int} {x : Int32} (hd : decode c.code pc = .ok (.ifCond cd o, 3)) (hc : ifCond.holds cd x = false) (pc' : Nat) (hp : pc + 3 = pc') (g : Go p e below P (T.setTop (mkF m pc' L (st)))) : Go p e below P (T.setTop (mkF m pc L (.int x :: st))) := by
  subst hp; exact Go.via (fun _ k => XS.ifNo X.here hx rfl hd rfl hc k) g
theorem s_icmpY (X : Stand p l e R s m args below meth c T locs cells slots) (hx : p.tables.exec = Jvm.exec) {cd : ClassFile.Cond} {o : Int} {x y : Int32} (hd : decode c.code pc = .ok (.if_icmp cd o, 3)) (hc : if_icmp.holds cd x y = true) (pc' : Nat) (ho : 0 ≤ (pc : Int) + o) (hp : ((pc : Int) + o).toNat = pc') (g : Go p e below P (T.setTop (mkF m pc' L st))) : Go p e below P (T.setTop (mkF m pc L (.int y :: .int x :: st))) := Go.via (fun _ k => XS.icmpYes X.here hx rfl rfl hd rfl hc ho hp k) g
theorem s_icmpN (X : Stand p l e R s m args below meth c T locs cells slots) (hx : p.tables.exec = Jvm.exec) {cd : ClassFile.Cond} {o : Int} {x y : Int32} (hd : decode c.code pc = .ok (.if_icmp cd o, 3)) (hc : if_icmp.holds cd x y = false) (pc' : Nat) (hp : pc + 3 = pc') (g : Go p e below P (T.setTop (mkF m pc' L (st)))) : Go p e below P (T.setTop (mkF m pc L (.int y :: .int x :: st))) := by
  subst hp; exact Go.via (fun _ k => XS.icmpNo X.here hx rfl hd rfl hc k) g
theorem s_acmpY (X : Stand p l e R s m args below meth c T locs cells slots) (hx : p.tables.exec = Jvm.exec) {cd : ClassFile.ACond} {o : Int} {x y : Value} (hd : decode c.code pc = .ok (.if_acmp cd o, 3)) (h1 : x.isRef = true) (h2 : y.isRef = true) (hc : XT.acmp cd x y = true) (pc' : Nat) (ho : 0 ≤ (pc : Int) + o) (hp : ((pc : Int) + o).toNat = pc') (g : Go p e below P (T.setTop (mkF m pc' L st))) : Go p e below P (T.setTop (mkF m pc L (y :: x :: st))) := Go.via (fun _ k => XT.acmpYes X.here hx rfl rfl hd rfl h1 h2 hc ho hp k) g
theorem s_acmpN (X : Stand p l e R s m args below meth c T locs cells slots) (hx : p.tables.exec = Jvm.exec) {cd : ClassFile.ACond} {o : Int} {x y : Value} (hd : decode c.code pc = .ok (.if_acmp cd o, 3)) (h1 : x.isRef = true) (h2 : y.isRef = true) (hc : XT.acmp cd x y = false) (pc' : Nat) (hp : pc + 3 = pc') (g : Go p e below P (T.setTop (mkF m pc' L (st)))) : Go p e below P (T.setTop (mkF m pc L (y :: x :: st))) := by
  subst hp; exact Go.via (fun _ k => XT.acmpNo X.here hx rfl hd rfl h1 h2 hc k) g
theorem s_ifnullN (X : Stand p l e R s m args below meth c T locs cells slots) (hx : p.tables.exec = Jvm.exec) {o : Int} {b : Addr} (hd : decode c.code pc = .ok (.ifnull o, 3))  (pc' : Nat) (hp : pc + 3 = pc') (g : Go p e below P (T.setTop (mkF m pc' L (st)))) : Go p e below P (T.setTop (mkF m pc L (.ref b :: st))) := by
  subst hp; exact Go.via (fun _ k => XS.ifnullNo X.here hx rfl hd rfl k) g
theorem s_ifnullY (X : Stand p l e R s m args below meth c T locs cells slots) (hx : p.tables.exec = Jvm.exec) {o : Int} (hd : decode c.code pc = .ok (.ifnull o, 3)) (pc' : Nat) (ho : 0 ≤ (pc : Int) + o) (hp : ((pc : Int) + o).toNat = pc') (g : Go p e below P (T.setTop (mkF m pc' L st))) : Go p e below P (T.setTop (mkF m pc L (.null :: st))) := Go.via (fun _ k => XS.ifnullYes X.here hx rfl rfl hd rfl ho hp k) g
theorem s_ifnonnullN (X : Stand p l e R s m args below meth c T locs cells slots) (hx : p.tables.exec = Jvm.exec) {o : Int} (hd : decode c.code pc = .ok (.ifnonnull o, 3))  (pc' : Nat) (hp : pc + 3 = pc') (g : Go p e below P (T.setTop (mkF m pc' L (st)))) : Go p e below P (T.setTop (mkF m pc L (.null :: st))) := by
  subst hp; exact Go.via (fun _ k => XT.ifnonnullNo X.here hx rfl hd rfl k) g
theorem s_ifnonnullY (X : Stand p l e R s m args below meth c T locs cells slots) (hx : p.tables.exec = Jvm.exec) {o : Int} {b : Addr} (hd : decode c.code pc = .ok (.ifnonnull o, 3)) (pc' : Nat) (ho : 0 ≤ (pc : Int) + o) (hp : ((pc : Int) + o).toNat = pc') (g : Go p e below P (T.setTop (mkF m pc' L st))) : Go p e below P (T.setTop (mkF m pc L (.ref b :: st))) := Go.via (fun _ k => XT.ifnonnullYes X.here hx rfl rfl hd rfl ho hp k) g
section Cmp
variable {r : Option Ordering} {o : CmpOp}
theorem dd_ne_t (h : r ≠ some .eq) : ifCond.holds .ne (cmpValue r o) = true := by rcases r with _ | (_ | _ | _) <;> cases o <;> first | rfl | exact absurd rfl h
theorem dd_ne_f (h : r = some .eq) : ifCond.holds .ne (cmpValue r o) = false := by subst h; cases o <;> rfl
theorem dd_eq_t (h : r = some .eq) : ifCond.holds .eq (cmpValue r o) = true := by subst h; cases o <;> rfl
theorem dd_eq_f (h : r ≠ some .eq) : ifCond.holds .eq (cmpValue r o) = false := by rcases r with _ | (_ | _ | _) <;> cases o <;> first | rfl | exact absurd rfl h
theorem dd_ge_t (h : r ≠ some .lt) : ifCond.holds .ge (cmpValue r .g) = true := by rcases r with _ | (_ | _ | _) <;> first | rfl | exact absurd rfl h
theorem dd_ge_f (h : r = some .lt) : ifCond.holds .ge (cmpValue r .g) = false := by subst h; rfl
theorem dd_le_t (h : r ≠ some .gt) : ifCond.holds .le (cmpValue r .l) = true := by rcases r with _ | (_ | _ | _) <;> first | rfl | exact absurd rfl h
theorem dd_le_f (h : r = some .gt) : ifCond.holds .le (cmpValue r .l) = false := by subst h; rfl
theorem dd_gt_f (h : r = some .lt ∨ r = some .eq) : ifCond.holds .gt (cmpValue r .g) = false := by rcases h with h | h <;> (subst h; rfl)
theorem dd_lt_f (h : r = some .gt ∨ r = some .eq) : ifCond.holds .lt (cmpValue r .l) = false := by rcases h with h | h <;> (subst h; rfl)
theorem dd_lt_t (h : r = some .lt) : ifCond.holds .lt (cmpValue r o) = true := by subst h; cases o <;> rfl
end Cmp
end Steps1
/-! ## arrays, by the list of what they hold -/
section Arrays
variable {p : Program} {l : Launch} {e : Env} {R : Room} {s : State} {m : MethodId} {args : Array Value} {below : List Frame} {meth : Method} {c : Code} {T : State} {locs : List Loc} {cells slots : Nat} {P : Outcome → State → Prop} {pc : Nat} {L : Array Slot} {st : List Value} {Z : State} {h h' : Heap} {a b : Addr} {a0 : Array Value} {k : ClassId} {ty : FieldType} {vs : List Value} {v : Value} {sl : Nat} {ws : List Addr}
/-- at a lies an array of components ty, of the class numbered k, that holds vs -/
def AR (Z : State) (h : Heap) (a : Addr) (k : ClassId) (ty : FieldType) (vs : List Value) : Prop := ∃ c : Cell, Arr Z h a c ty ∧ c.cls = k ∧ c.slots = vs.toArray
theorem AR.lt (F : AR Z h a k ty vs) : a < h.size := by obtain ⟨c, A, -⟩ := F; exact A.lt
theorem AR.ext (F : AR Z h a k ty vs) (E : Ext h h') : AR Z h' a k ty vs := by obtain ⟨c, A, r⟩ := F; exact ⟨c, A.ext E, r⟩
theorem AR.other (F : AR Z h b k ty vs) (W : Wr h h' a sl v) (q : b ≠ a) : AR Z h' b k ty vs := by obtain ⟨c, A, r⟩ := F; exact ⟨c, A.other W q, r⟩
theorem AR.keep (F : AR Z h a k ty vs) (K : Keep h h' ws) (q : a ∉ ws) : AR Z h' a k ty vs := by obtain ⟨c, A, r⟩ := F; exact ⟨c, ⟨K.2.1 a c A.1 q, A.2⟩, r⟩
theorem AR.same (F : AR Z h a k ty vs) (W : Wr h h' a sl v) : AR Z h' a k ty (vs.set sl v) := by
  obtain ⟨c, A, r1, r2⟩ := F
  exact ⟨c.setSlot sl v, A.same W, r1, by simp [Cell.setSlot, r2]⟩
theorem ar_len {c : Cell} (r : c.slots = vs.toArray) : c.slots.size = vs.length := by rw [r]; simp
theorem ar_in {c : Cell} (r : c.slots = vs.toArray) {j : Int32} {i : Nat} (hj : ¬ j < 0 ∧ j.toNatClampNeg = i) (hv : vs[i]? = some v) : ¬ (j < 0 ∨ c.slots.size ≤ j.toNatClampNeg) ∧ c.slots[j.toNatClampNeg]? = some v := by
  obtain ⟨h1, rfl⟩ := hj
  have h2 : j.toNatClampNeg < vs.length := (List.getElem?_eq_some_iff.mp hv).1
  refine ⟨?_, by rw [r]; simpa using hv⟩
  rintro (q | q)
  · exact h1 q
  · rw [ar_len r] at q; omega
theorem s_len (X : Stand p l e R s m args below meth c T locs cells slots) (hx : p.tables.exec = Jvm.exec) (hZ : Z.Warmed39 s.vm) (eT : T.heap = h) (F : AR Z h a k ty vs) (hd : decode c.code pc = .ok (.arraylength, 1)) (n : Int32) (hn : vs.length.toInt32 = n) (pc' : Nat) (hp : pc + 1 = pc') (g : Go p e below P (T.setTop (mkF m pc' L (.int n :: st)))) : Go p e below P (T.setTop (mkF m pc L (.ref a :: st))) := by
  obtain ⟨cl, A, r1, r2⟩ := F
  subst hp hn
  rw [← ar_len r2] at g
  exact Go.via (fun _ k => X.arraylength hx (by rw [eT]; exact A.1) (State.isArrayOf_alike hZ.alike A.2.1) (g := mkF m pc L (.ref a :: st)) rfl rfl hd _ k) g
theorem s_iaload (X : Stand p l e R s m args below meth c T locs cells slots) (hx : p.tables.exec = Jvm.exec) (hZ : Z.Warmed39 s.vm) (eT : T.heap = h) (F : AR Z h a k .int vs) (hd : decode c.code pc = .ok (.iaload, 1)) {j : Int32} (i : Nat) (hj : ¬ j < 0 ∧ j.toNatClampNeg = i) (v : Value) (hv : vs[i]? = some v) (pc' : Nat) (hp : pc + 1 = pc') (g : Go p e below P (T.setTop (mkF m pc' L (v :: st)))) : Go p e below P (T.setTop (mkF m pc L (.int j :: .ref a :: st))) := by
  obtain ⟨cl, A, r1, r2⟩ := F
  obtain ⟨q1, q2⟩ := ar_in r2 hj hv
  subst hp
  exact Go.via (fun _ k => X.iaload hx (by rw [eT]; exact A.1) (State.isArrayOf_alike hZ.alike A.2.1) A.2.2 q1 q2 (g := mkF m pc L (.int j :: .ref a :: st)) rfl rfl hd _ k) g
theorem s_laload (X : Stand p l e R s m args below meth c T locs cells slots) (hx : p.tables.exec = Jvm.exec) (hZ : Z.Warmed39 s.vm) (eT : T.heap = h) (F : AR Z h a k .long vs) (hd : decode c.code pc = .ok (.laload, 1)) {j : Int32} (i : Nat) (hj : ¬ j < 0 ∧ j.toNatClampNeg = i) (v : Value) (hv : vs[i]? = some v) (pc' : Nat) (hp : pc + 1 = pc') (g : Go p e below P (T.setTop (mkF m pc' L (v :: st)))) : Go p e below P (T.setTop (mkF m pc L (.int j :: .ref a :: st))) := by
  obtain ⟨cl, A, r1, r2⟩ := F
  obtain ⟨q1, q2⟩ := ar_in r2 hj hv
  subst hp
  exact Go.via (fun _ k => X.laload hx (by rw [eT]; exact A.1) (State.isArrayOf_alike hZ.alike A.2.1) A.2.2 q1 q2 (g := mkF m pc L (.int j :: .ref a :: st)) rfl rfl hd _ k) g
theorem s_daload (X : Stand p l e R s m args below meth c T locs cells slots) (hx : p.tables.exec = Jvm.exec) (hZ : Z.Warmed39 s.vm) (eT : T.heap = h) (F : AR Z h a k .double vs) (hd : decode c.code pc = .ok (.daload, 1)) {j : Int32} (i : Nat) (hj : ¬ j < 0 ∧ j.toNatClampNeg = i) (v : Value) (hv : vs[i]? = some v) (pc' : Nat) (hp : pc + 1 = pc') (g : Go p e below P (T.setTop (mkF m pc' L (v :: st)))) : Go p e below P (T.setTop (mkF m pc L (.int j :: .ref a :: st))) := by
  obtain ⟨cl, A, r1, r2⟩ := F
  obtain ⟨q1, q2⟩ := ar_in r2 hj hv
  subst hp
  exact Go.via (fun _ k => X.daload hx (by rw [eT]; exact A.1) (State.isArrayOf_alike hZ.alike A.2.1) A.2.2 q1 q2 (g := mkF m pc L (.int j :: .ref a :: st)) rfl rfl hd _ k) g
theorem s_aaload (X : Stand p l e R s m args below meth c T locs cells slots) (hx : p.tables.exec = Jvm.exec) (hZ : Z.Warmed39 s.vm) (eT : T.heap = h) (F : AR Z h a k ty vs) (ht : ty.isReference = true) (hd : decode c.code pc = .ok (.aaload, 1)) {j : Int32} (i : Nat) (hj : ¬ j < 0 ∧ j.toNatClampNeg = i) (v : Value) (hv : vs[i]? = some v) (pc' : Nat) (hp : pc + 1 = pc') (g : Go p e below P (T.setTop (mkF m pc' L (v :: st)))) : Go p e below P (T.setTop (mkF m pc L (.int j :: .ref a :: st))) := by
  obtain ⟨cl, A, r1, r2⟩ := F
  obtain ⟨q1, q2⟩ := ar_in r2 hj hv
  subst hp
  exact Go.via (fun _ k => X.aaload hx (by rw [eT]; exact A.1) (State.isArrayOf_alike hZ.alike A.2.1) ht A.2.2 q1 q2 (g := mkF m pc L (.int j :: .ref a :: st)) rfl rfl hd _ k) g
theorem s_iastore (X : Stand p l e R s m args below meth c T locs cells slots) (hx : p.tables.exec = Jvm.exec) (hZ : Z.Warmed39 s.vm) (eT : T.heap = h) (F : AR Z h a k .int vs) (hd : decode c.code pc = .ok (.iastore, 1)) (L : Array Slot) (st : List Value) {j : Int32} (i : Nat) (hj : ¬ j < 0 ∧ j.toNatClampNeg = i) (hi : i < vs.length) (x : Int32) (vs' : List Value) (hvs : vs.set i (.int x) = vs') (pc' : Nat) (hp : pc + 1 = pc') :
    ∃ T' h', Stand p l e R s m args below meth c T' (locs ++ [⟨a, i⟩]) cells slots ∧ T'.heap = h' ∧ Wr h h' a i (.int x) ∧ AR Z h' a k .int vs' ∧ ∀ t, Steps p.tables e below (T'.setTop (mkF m pc' L st)) t → Steps p.tables e below (T.setTop (mkF m pc L (.int x :: .int j :: .ref a :: st))) t := by
  obtain ⟨cl, A, r1, r2⟩ := F
  obtain ⟨q1, -⟩ := ar_in r2 hj (List.getElem?_eq_getElem hi)
  obtain ⟨hj1, rfl⟩ := hj
  subst hp hvs
  obtain ⟨T', h', X', e', W, st'⟩ := stI X hx hZ eT A q1 (g := mkF m pc L (.int x :: .int j :: .ref a :: st)) rfl rfl hd
  exact ⟨T', h', X', e', W, AR.same ⟨cl, A, r1, r2⟩ W, st'⟩
theorem s_lastore (X : Stand p l e R s m args below meth c T locs cells slots) (hx : p.tables.exec = Jvm.exec) (hZ : Z.Warmed39 s.vm) (eT : T.heap = h) (F : AR Z h a k .long vs) (hd : decode c.code pc = .ok (.lastore, 1)) (L : Array Slot) (st : List Value) {j : Int32} (i : Nat) (hj : ¬ j < 0 ∧ j.toNatClampNeg = i) (hi : i < vs.length) (x : Int64) (vs' : List Value) (hvs : vs.set i (.long x) = vs') (pc' : Nat) (hp : pc + 1 = pc') :
    ∃ T' h', Stand p l e R s m args below meth c T' (locs ++ [⟨a, i⟩]) cells slots ∧ T'.heap = h' ∧ Wr h h' a i (.long x) ∧ AR Z h' a k .long vs' ∧ ∀ t, Steps p.tables e below (T'.setTop (mkF m pc' L st)) t → Steps p.tables e below (T.setTop (mkF m pc L (.long x :: .int j :: .ref a :: st))) t := by
  obtain ⟨cl, A, r1, r2⟩ := F
  obtain ⟨q1, -⟩ := ar_in r2 hj (List.getElem?_eq_getElem hi)
  obtain ⟨hj1, rfl⟩ := hj
  subst hp hvs
  obtain ⟨T', h', X', e', W, st'⟩ := stJ X hx hZ eT A q1 (g := mkF m pc L (.long x :: .int j :: .ref a :: st)) rfl rfl hd
  exact ⟨T', h', X', e', W, AR.same ⟨cl, A, r1, r2⟩ W, st'⟩
theorem s_dastore (X : Stand p l e R s m args below meth c T locs cells slots) (hx : p.tables.exec = Jvm.exec) (hZ : Z.Warmed39 s.vm) (eT : T.heap = h) (F : AR Z h a k .double vs) (hd : decode c.code pc = .ok (.dastore, 1)) (L : Array Slot) (st : List Value) {j : Int32} (i : Nat) (hj : ¬ j < 0 ∧ j.toNatClampNeg = i) (hi : i < vs.length) (x : UInt64) (vs' : List Value) (hvs : vs.set i (.double x) = vs') (pc' : Nat) (hp : pc + 1 = pc') :
    ∃ T' h', Stand p l e R s m args below meth c T' (locs ++ [⟨a, i⟩]) cells slots ∧ T'.heap = h' ∧ Wr h h' a i (.double x) ∧ AR Z h' a k .double vs' ∧ ∀ t, Steps p.tables e below (T'.setTop (mkF m pc' L st)) t → Steps p.tables e below (T.setTop (mkF m pc L (.double x :: .int j :: .ref a :: st))) t := by
  obtain ⟨cl, A, r1, r2⟩ := F
  obtain ⟨q1, -⟩ := ar_in r2 hj (List.getElem?_eq_getElem hi)
  obtain ⟨hj1, rfl⟩ := hj
  subst hp hvs
  obtain ⟨T', h', X', e', W, st'⟩ := stD X hx hZ eT A q1 (g := mkF m pc L (.double x :: .int j :: .ref a :: st)) rfl rfl hd
  exact ⟨T', h', X', e', W, AR.same ⟨cl, A, r1, r2⟩ W, st'⟩
theorem s_aastore (X : Stand p l e R s m args below meth c T locs cells slots) (hx : p.tables.exec = Jvm.exec) (hZ : Z.Warmed39 s.vm) (eT : T.heap = h) (F : AR Z h a k ty vs) (ht : ty.isReference = true) (hd : decode c.code pc = .ok (.aastore, 1)) (L : Array Slot) (st : List Value) {j : Int32} (i : Nat) (hj : ¬ j < 0 ∧ j.toNatClampNeg = i) (hi : i < vs.length) (x : Value) (S : Sto Z h a x) (vs' : List Value) (hvs : vs.set i x = vs') (pc' : Nat) (hp : pc + 1 = pc') :
    ∃ T' h', Stand p l e R s m args below meth c T' (locs ++ [⟨a, i⟩]) cells slots ∧ T'.heap = h' ∧ Wr h h' a i x ∧ AR Z h' a k ty vs' ∧ ∀ t, Steps p.tables e below (T'.setTop (mkF m pc' L st)) t → Steps p.tables e below (T.setTop (mkF m pc L (x :: .int j :: .ref a :: st))) t := by
  obtain ⟨cl, A, r1, r2⟩ := F
  obtain ⟨q1, -⟩ := ar_in r2 hj (List.getElem?_eq_getElem hi)
  obtain ⟨hj1, rfl⟩ := hj
  subst hp hvs
  obtain ⟨T', h', X', e', W, st'⟩ := stR X hx hZ eT A q1 ht S (g := mkF m pc L (x :: .int j :: .ref a :: st)) rfl rfl hd
  exact ⟨T', h', X', e', W, AR.same ⟨cl, A, r1, r2⟩ W, st'⟩
theorem s_newarray (X : Stand p l e R s m args below meth c T locs cells slots) (hx : p.tables.exec = Jvm.exec) (hZ : Z.Warmed39 s.vm) {aty : ArrayType} (w : (Cond.arrayClass (newarray.typeOf aty)).before a0 Z = true) (eT : T.heap = h) (hd : decode c.code pc = .ok (.newarray aty, 2)) (L : Array Slot) (st : List Value) {n : Int32} (cap : Nat) (hn : ¬ n < 0 ∧ n.toNatClampNeg = cap) (vs : List Value) (hvs : List.replicate cap (defaultValue (newarray.typeOf aty)) = vs) (hb : cap * 8 ≤ 536870912) (hc : cells + 1 ≤ R.cells) (hl : slots + cap ≤ R.slots) (pc' : Nat) (hp : pc + 2 = pc') :
    ∃ T' h' cA, Stand p l e R s m args below meth c T' locs (cells + 1) (slots + cap) ∧ T'.heap = h' ∧ Ext h h' ∧ AR Z h' h.size cA (newarray.typeOf aty) vs ∧ ∀ t, Steps p.tables e below (T'.setTop (mkF m pc' L (.ref h.size :: st))) t → Steps p.tables e below (T.setTop (mkF m pc L (.int n :: st))) t := by
  obtain ⟨n1, n2⟩ := hn
  obtain ⟨T', h', cA, X', e', E, A, st'⟩ := newP X hx hZ w eT (g := mkF m pc L (.int n :: st)) rfl hd rfl n1 (cap := cap) (Nat.le_of_eq n2) hb hc hl
  subst hp hvs
  exact ⟨T', h', cA, X', e', E, ⟨_, A, rfl, by simp [newA, n2]⟩, st'⟩
end Arrays
/-! ## calls by contract -/
section Calls
variable {p : Program} {l : Launch} {e : Env} {R : Room} {s : State} {m : MethodId} {args : Array Value} {below : List Frame} {meth : Method} {c : Code} {T : State} {locs : List Loc} {cells slots : Nat} {P : Outcome → State → Prop} {pc : Nat} {L : Array Slot} {st : List Value} {Z : State} {h h' : Heap} {a0 : Array Value} {own : String} {index : Nat} {y : MethodName} {bytes : ByteArray} {ml : Nat} {rm : Room} {as : Array Value} {Q : Option Value → Heap → List Loc → Prop}
theorem ct_back {ret : Option FieldType} {len W : Nat} (C : Ct l Z y bytes ml ret [] rm as h Q) (hZ : Z.Warmed39 s.vm) (wc : (Cond.code y bytes ml ret).before a0 Z = true) (wz : (Cond.initialized y.cls).before a0 Z = true) (hf : rm.frames + 1 ≤ R.frames) (hl : W + (ml + 11) + rm.locals ≤ R.locals) :
    Back l R p e below s args y len W (fun A a => a = as ∧ A.U.heap = h ∧ A.cells + rm.cells ≤ R.cells ∧ A.slots + rm.slots ≤ R.slots)
      (fun A _ v B => ∃ L, Q v B.U.heap L ∧ B.locs = A.locs ++ L ∧ B.cells = A.cells + rm.cells ∧ B.slots = A.slots + rm.slots) := backOf C hZ wc wz hf hl
theorem callStat {ret : Option FieldType} (X : Stand p l e R s m args below meth c T locs cells slots) (hx : p.tables.exec = Jvm.exec) (hZ : Z.Warmed39 s.vm) (hown : s.vm.findClass own = some m.cls) (w1 : (Cond.methodLink own index y).before a0 Z = true) (w2 : (Cond.static y).before a0 Z = true) (w3 : (Cond.initialized y.cls).before a0 Z = true) (w4 : (Cond.code y bytes ml ret).before a0 Z = true) (hy : y.cls ≠ "java/lang/invoke/MethodHandle" ∧ y.cls ≠ "java/lang/invoke/VarHandle") (C : Ct l Z y bytes ml ret [] rm as h Q) (eT : T.heap = h) (hd : decode c.code pc = .ok (.invokestatic index, 3)) (hml : L.size = c.maxLocals) (argsL rest : List Value) (hst : st = argsL.reverse ++ rest) (has : argsL.toArray = as) {ps : List FieldType} {r : Option FieldType} (hpd : parseMethodDescriptor y.desc = some ⟨ps, r⟩) (hln : argsL.length = ps.length) (W : Nat) (hW : 2 * 0 + (rest.map fun v => v.category).sum ≤ W) (hfr : rm.frames + 1 ≤ R.frames) (hlo : W + (ml + 11) + rm.locals ≤ R.locals) (hc : cells + rm.cells ≤ R.cells) (hs : slots + rm.slots ≤ R.slots) :
    ∃ v T' L', Stand p l e R s m args below meth c T' (locs ++ L') (cells + rm.cells) (slots + rm.slots) ∧ Q v T'.heap L' ∧ ∀ t, Steps p.tables e below (T'.setTop (mkF m (pc + 3) L (v.toList ++ rest))) t → Steps p.tables e below (T.setTop (mkF m pc L st)) t := by
  obtain ⟨v, _, ⟨T', L1, k1, n1⟩, -, X', ⟨L', hQ, l1, y1, z1⟩, st'⟩ := Jvm.LawKit.callS X hx (y := y) hown (mvT hZ w1) (mvT hZ w2) (mvT hZ w3) (mvT hZ w4) hy (ct_back (W := W) C hZ w4 w3 hfr hlo) (g := mkF m pc L st) rfl hml (argsL := argsL) (rest := rest) (lenOf hpd hln) hst hW hd (fun _ _ => ⟨has, eT, hc, hs⟩)
  dsimp only [Pt.U, Pt.locs, Pt.cells, Pt.slots] at X' l1 y1 z1 st' hQ
  subst l1 y1 z1
  exact ⟨v, T', L', X', hQ, st'⟩
theorem callInit (X : Stand p l e R s m args below meth c T locs cells slots) (hx : p.tables.exec = Jvm.exec) (hZ : Z.Warmed39 s.vm) (hown : s.vm.findClass own = some m.cls) (hin : y.name = "<init>") (w1 : (Cond.methodLink own index y).before a0 Z = true) (w2 : (Cond.instanceMethod y).before a0 Z = true) (w3 : (Cond.initialized y.cls).before a0 Z = true) (w4 : (Cond.code y bytes ml none).before a0 Z = true) (hy : y.cls ≠ "java/lang/invoke/MethodHandle" ∧ y.cls ≠ "java/lang/invoke/VarHandle") (C : Ct l Z y bytes ml none [] rm as h Q) (eT : T.heap = h) (hd : decode c.code pc = .ok (.invokespecial index, 3)) (hml : L.size = c.maxLocals) (a : Addr) (argsL rest : List Value) (hst : st = argsL.reverse ++ .ref a :: rest) (has : (.ref a :: argsL).toArray = as) {ps : List FieldType} {r : Option FieldType} (hpd : parseMethodDescriptor y.desc = some ⟨ps, r⟩) (hln : argsL.length = ps.length) (W : Nat) (hW : 2 * 0 + (rest.map fun v => v.category).sum ≤ W) (hfr : rm.frames + 1 ≤ R.frames) (hlo : W + (ml + 11) + rm.locals ≤ R.locals) (hc : cells + rm.cells ≤ R.cells) (hs : slots + rm.slots ≤ R.slots) :
    ∃ v T' L', Stand p l e R s m args below meth c T' (locs ++ L') (cells + rm.cells) (slots + rm.slots) ∧ Q v T'.heap L' ∧ ∀ t, Steps p.tables e below (T'.setTop (mkF m (pc + 3) L (v.toList ++ rest))) t → Steps p.tables e below (T.setTop (mkF m pc L st)) t := by
  obtain ⟨v, _, ⟨T', L1, k1, n1⟩, -, X', ⟨L', hQ, l1, y1, z1⟩, st'⟩ := X.specialBack hx (y := y) hin hown (mvT hZ w1) (mvT hZ w2) (mvT hZ w4) hy (ct_back (W := W) C hZ w4 w3 hfr hlo) (g := mkF m pc L st) rfl hml (Steps.refl _) (a := a) (argsL := argsL) (rest := rest) (lenOf hpd hln) hst hW hd (fun _ _ => ⟨has, eT, hc, hs⟩)
  dsimp only [Pt.U, Pt.locs, Pt.cells, Pt.slots] at X' l1 y1 z1 st' hQ
  subst l1 y1 z1
  exact ⟨v, T', L', X', hQ, fun t k => st'.trans k⟩
theorem callVirt {ret : Option FieldType} {C0 : String} (X : Stand p l e R s m args below meth c T locs cells slots) (hx : p.tables.exec = Jvm.exec) (hZ : Z.Warmed39 s.vm) (hown : s.vm.findClass own = some m.cls) (w1 : (Cond.methodLink own index y).before a0 Z = true) (w2 : (Cond.declares y).before a0 Z = true) (w3 : (Cond.selects C0 y y).before a0 Z = true) (w4 : (Cond.instanceMethod y).before a0 Z = true) (w5 : (Cond.initialized y.cls).before a0 Z = true) (w6 : (Cond.code y bytes ml ret).before a0 Z = true) (hy : y.cls ≠ "java/lang/invoke/MethodHandle" ∧ y.cls ≠ "java/lang/invoke/VarHandle") (C : Ct l Z y bytes ml ret [] rm as h Q) (eT : T.heap = h) (a : Addr) (E : Exa Z h a C0) (hd : decode c.code pc = .ok (.invokevirtual index, 3)) (hml : L.size = c.maxLocals) (argsL rest : List Value) (hst : st = argsL.reverse ++ .ref a :: rest) (has : (.ref a :: argsL).toArray = as) {ps : List FieldType} {r : Option FieldType} (hpd : parseMethodDescriptor y.desc = some ⟨ps, r⟩) (hln : argsL.length = ps.length) (W : Nat) (hW : 2 * 0 + (rest.map fun v => v.category).sum ≤ W) (hfr : rm.frames + 1 ≤ R.frames) (hlo : W + (ml + 11) + rm.locals ≤ R.locals) (hc : cells + rm.cells ≤ R.cells) (hs : slots + rm.slots ≤ R.slots) :
    ∃ v T' L', Stand p l e R s m args below meth c T' (locs ++ L') (cells + rm.cells) (slots + rm.slots) ∧ Q v T'.heap L' ∧ ∀ t, Steps p.tables e below (T'.setTop (mkF m (pc + 3) L (v.toList ++ rest))) t → Steps p.tables e below (T.setTop (mkF m pc L st)) t := by
  obtain ⟨cq, kq, qa, qb, qc⟩ := isOf hZ eT E
  obtain ⟨v, _, ⟨T', L1, k1, n1⟩, -, X', ⟨L', hQ, l1, y1, z1⟩, st'⟩ := X.virtualBack hx (y := y) (z := y) hown (mvT hZ w1) (mvT hZ w2) (notFace_of_selects (args := #[]) (mvT hZ w3)) (mvT hZ w3) (mvT hZ w4) hy (ct_back (W := W) C hZ w6 w5 hfr hlo) qa qc (g := mkF m pc L st) rfl hml (Steps.refl _) (argsL := argsL) (rest := rest) (lenOf hpd hln) hst hW hd (fun _ _ => ⟨has, eT, hc, hs⟩)
  dsimp only [Pt.U, Pt.locs, Pt.cells, Pt.slots] at X' l1 y1 z1 st' hQ
  subst l1 y1 z1
  exact ⟨v, T', L', X', hQ, fun t k => st'.trans k⟩
end Calls
end Jvm.OwnGo
namespace Jvm.OwnFP
open Jvm.FP Jvm.FP.Core Jvm.Free.Fl
/-- a * 2^x = b -/
def PE (a b : Nat) (x : Int) : Prop := a * 2 ^ x.toNat = b * 2 ^ (-x).toNat
theorem pe_iff {a b : Nat} {x : Int} (y z : Nat) (h : x = (y : Int) - z) : PE a b x ↔ a * 2 ^ y = b * 2 ^ z := by
  unfold PE
  obtain ⟨d, rfl, rfl⟩ : ∃ d, y = x.toNat + d ∧ z = (-x).toNat + d := ⟨min y z, by omega, by omega⟩
  have p1 : 0 < 2 ^ d := Nat.two_pow_pos _
  rw [Nat.pow_add, Nat.pow_add, ← Nat.mul_assoc, ← Nat.mul_assoc]
  exact ⟨fun q => by rw [q], fun q => Nat.eq_of_mul_eq_mul_right p1 q⟩
theorem PE.symm {a b : Nat} {x : Int} (h : PE a b x) : PE b a (-x) := by
  unfold PE at h ⊢; rw [Int.neg_neg]; exact h.symm
theorem PE.trans {a b c : Nat} {x y : Int} (h : PE a b x) (g : PE b c y) : PE a c (x + y) := by
  rw [pe_iff (x.toNat + y.toNat) ((-x).toNat + (-y).toNat) (by omega)]
  unfold PE at h g
  rw [Nat.pow_add, Nat.pow_add, ← Nat.mul_assoc, h, Nat.mul_right_comm, g, Nat.mul_assoc, Nat.mul_comm (2 ^ (-y).toNat)]
theorem PE.mul {a b : Nat} {x : Int} (h : PE a b x) (c : Nat) : PE (c * a) (c * b) x := by
  unfold PE at h ⊢; rw [Nat.mul_assoc, Nat.mul_assoc, h]
theorem PE.of {a b : Nat} {y z : Nat} (h : a * 2 ^ y = b * 2 ^ z) : PE a b ((y : Int) - z) := (pe_iff y z rfl).mpr h
theorem PE.cast {a b : Nat} {x y : Int} (h : PE a b x) (e : x = y) : PE a b y := e ▸ h
/-- the datum times 2^k -/
def sh (k : Int) : Datum → Datum
  | .fin s c q => .fin s c (q + k)
  | d => d
/-- the double a is i / 2^k, just so -/
def Dy (i : Int) (k : Nat) (a : UInt64) : Prop := Whole i (sh k (val64 a))
theorem Dy.fin {i : Int} {k : Nat} {a : UInt64} (h : Dy i k a) : ∃ s c q, val64 a = .fin s c q := by
  unfold Dy at h
  cases hv : val64 a with
  | nan => rw [hv] at h; exact h.elim
  | inf s => rw [hv] at h; exact h.elim
  | fin s c q => exact ⟨s, c, q, rfl⟩
theorem Dy.dfin {i : Int} {k : Nat} {a : UInt64} (h : Dy i k a) : DFin a := h.fin
theorem Dy.fin64 {i : Int} {k : Nat} {a : UInt64} (h : Dy i k a) : Fin64 a := fin64_core.mpr h.fin
theorem Dy.nn {i : Int} {k : Nat} {a : UInt64} (h : Dy i k a) : NoNaN64 a := h.fin64.noNaN
theorem Dy.ne {i : Int} {k : Nat} {a : UInt64} (h : Dy i k a) : val64 a ≠ .nan := h.dfin.ne_nan
theorem dy_int {i : Int} {a : UInt64} (h : DInt i a) : Dy i 0 a := by
  unfold DInt at h; unfold Dy
  cases hv : val64 a with
  | nan => rw [hv] at h; exact h.elim
  | inf s => rw [hv] at h; exact h.elim
  | fin s c q => rw [hv] at h; show Whole i (.fin s c (q + 0)); rw [Int.add_zero]; exact h
theorem Dy.int {i : Int} {a : UInt64} (h : Dy i 0 a) : DInt i a := by
  obtain ⟨s, c, q, hv⟩ := h.fin
  unfold Dy at h; unfold DInt
  rw [hv] at h ⊢
  have h : Whole i (.fin s c (q + 0)) := h
  rw [Int.add_zero] at h; exact h
theorem dy_i2d (x : Int32) : Dy x.toInt 0 (FP.i2d x) := dy_int (i2d_int x)
theorem dy_l2d {x : Int64} (h : x.toInt.natAbs ≤ 2 ^ 53) : Dy x.toInt 0 (FP.l2d x) := dy_int (l2d_int h)
theorem whole_pe {i : Int} {s : Bool} {c : Nat} {q : Int} (h : Whole i (.fin s c q)) : PE c i.natAbs q := whole_natAbs h
/-- what is so small a multiple of a power of two is a double -/
theorem dy_rnd {i : Int} {k : Nat} {s : Bool} {n : Nat} (hn : i.natAbs = n) (hs : i ≠ 0 → s = decide (i < 0)) (hi : n ≤ 2 ^ 53) (hk : k ≤ 1000) : Whole i (sh k (roundRatio b64 s n 1 (-(k : Int)))) := by
  by_cases h0 : n = 0
  · have : i = 0 := by omega
    subst this
    unfold roundRatio
    rw [if_pos h0]
    show signed s (0 * _) = 0 * _
    rw [Nat.zero_mul, Int.zero_mul]; exact signed_zero s
  · obtain ⟨c, q, hfit, hv⟩ := natFit good_b64 wide_b64 s (n := n) hi
    have hq : q = -1074 ∨ b64.tails ≤ c := by have := hfit.2.2.2; rw [qmin_b64] at this; exact this
    have hv' : n * 2 ^ (-q).toNat = c * 2 ^ q.toNat := by
      rw [show (0 - q).toNat = (-q).toNat by omega, show (q - 0).toNat = q.toNat by omega, Nat.mul_one] at hv; exact hv
    have hc : c < 2 ^ 53 := hfit.1
    have hq2 : q ≤ b64.qmax := hfit.2.2.1
    have hq1 : -53 ≤ q := by
      refine Int.le_of_not_gt fun hlt => ?_
      have e1 : q.toNat = 0 := by omega
      rw [e1, Nat.pow_zero, Nat.mul_one] at hv'
      have : 2 ^ 53 ≤ 2 ^ (-q).toNat := Nat.pow_le_pow_right (by decide) (by omega)
      have h2 : 1 * 2 ^ 53 ≤ n * 2 ^ (-q).toNat := Nat.mul_le_mul (by omega) this
      omega
    have hfit2 : Core.fits b64 (.fin s c (q - k)) := by
      refine ⟨hfit.1, ?_, by omega, Or.inr ?_⟩
      · rw [qmin_b64]; omega
      · rcases hq with hq | hq
        · omega
        · exact hq
    rw [roundRatio_exact good_b64 (by decide) hfit2 (by
      rw [show (-(k : Int) - (q - k)).toNat = (-q).toNat by omega, show (q - (k : Int) - -(k : Int)).toNat = q.toNat by omega, Nat.mul_one]; exact hv')]
    show Whole i (.fin s c (q - k + k))
    rw [show q - (k : Int) + k = q by omega]
    show signed s (c * 2 ^ q.toNat) = i * _
    rw [← hv', signed_mul, hs (by omega)]
    congr 1
    unfold signed
    by_cases h : i < 0 <;> simp [h] <;> omega
theorem dy_round {i : Int} {k : Nat} {s : Bool} {c : Nat} {q : Int} (h : Whole i (.fin s c (q + k))) (hi : i.natAbs ≤ 2 ^ 53) (hk : k ≤ 1000) : Whole i (sh k (round b64 (.fin s c q))) := by
  have e : round b64 (.fin s c q) = roundRatio b64 s i.natAbs 1 (-(k : Int)) := by
    refine roundRatio_congr (by decide) (by decide) ?_
    have := whole_natAbs h
    rw [show (q - -(k : Int)).toNat = (q + k).toNat by omega, show (-(k : Int) - q).toNat = (-(q + k)).toNat by omega]
    simpa using this
  rw [e]
  exact dy_rnd rfl (fun hz => whole_sign h hz) hi hk
theorem sh_sum (k : Int) (s : Bool) (c : Nat) (q : Int) (t : Bool) (d : Nat) (r : Int) : sh k (exactSum (.fin s c q) (.fin t d r)) = exactSum (.fin s c (q + k)) (.fin t d (r + k)) := by
  have e : min (q + k) (r + k) = min q r + k := by omega
  simp only [exactSum, sh, e, sumUnits, inUnits]
  rw [show q + k - (min q r + k) = q - min q r by omega, show r + k - (min q r + k) = r - min q r by omega]
theorem dy_add {i j : Int} {k : Nat} {a b : UInt64} (ha : Dy i k a) (hb : Dy j k b) (h : (i + j).natAbs ≤ 2 ^ 53) (hk : k ≤ 1000) : Dy (i + j) k (FP.dadd a b) := by
  obtain ⟨s, c, q, ea⟩ := ha.fin
  obtain ⟨t, d, r, eb⟩ := hb.fin
  unfold Dy at ha hb ⊢
  rw [ea] at ha; rw [eb] at hb
  have w : Whole (i + j) (sh k (exactSum (.fin s c q) (.fin t d r))) := by rw [sh_sum]; exact whole_sum ha hb
  rw [show FP.dadd a b = Core.dadd a b from rfl, val64_dadd, ea, eb]
  exact dy_round w h hk
theorem dy_neg {i : Int} {k : Nat} {a : UInt64} (ha : Dy i k a) : Dy (-i) k (FP.dneg a) := by
  obtain ⟨s, c, q, ea⟩ := ha.fin
  unfold Dy at ha ⊢
  rw [ea] at ha
  rw [FP.val64_dneg, ea]
  exact whole_negate ha
theorem dy_sub {i j : Int} {k : Nat} {a b : UInt64} (ha : Dy i k a) (hb : Dy j k b) (h : (i - j).natAbs ≤ 2 ^ 53) (hk : k ≤ 1000) : Dy (i - j) k (FP.dsub a b) := by
  obtain ⟨s, c, q, ea⟩ := ha.fin
  obtain ⟨t, d, r, eb⟩ := hb.fin
  unfold Dy at ha hb ⊢
  rw [ea] at ha; rw [eb] at hb
  have hb' : Whole (-j) (.fin (!t) d (r + k)) := whole_negate hb
  have w : Whole (i - j) (sh k (exactSum (.fin s c q) (.fin (!t) d r))) := by rw [sh_sum]; exact whole_sum ha hb'
  rw [show FP.dsub a b = Core.dsub a b from rfl, val64_dsub, ea, eb]
  exact dy_round w h hk
theorem dy_mul {i j : Int} {k n : Nat} {a b : UInt64} (ha : Dy i k a) (hb : Dy j n b) (h : (i * j).natAbs ≤ 2 ^ 53) (hk : k + n ≤ 1000) : Dy (i * j) (k + n) (FP.dmul a b) := by
  obtain ⟨s, c, q, ea⟩ := ha.fin
  obtain ⟨t, d, r, eb⟩ := hb.fin
  unfold Dy at ha hb ⊢
  rw [ea] at ha; rw [eb] at hb
  have w : Whole (i * j) (.fin (s != t) (c * d) (q + r + (k + n : Nat))) := by
    have := whole_product ha hb
    rw [show q + r + ((k + n : Nat) : Int) = q + k + (r + n) by omega]; exact this
  rw [show FP.dmul a b = Core.dmul a b from rfl, val64_dmul, ea, eb]
  exact dy_round w h hk
theorem dy_up {i : Int} {k : Nat} {a : UInt64} (n : Nat) (ha : Dy i k a) : Dy (i * (2 ^ n : Nat)) (k + n) a := by
  obtain ⟨s, c, q, ea⟩ := ha.fin
  unfold Dy at ha ⊢
  rw [ea] at ha ⊢
  have ha : signed s (c * 2 ^ (q + k).toNat) = i * ((2 ^ (-(q + k)).toNat : Nat) : Int) := ha
  show signed s (c * 2 ^ (q + (k + n : Nat)).toNat) = i * (2 ^ n : Nat) * ((2 ^ (-(q + (k + n : Nat))).toNat : Nat) : Int)
  have p2 : ((2 ^ (-(q + (k : Int))).toNat : Nat) : Int) ≠ 0 := by have := Nat.two_pow_pos (-(q + (k : Int))).toNat; omega
  have e1 : (q + ((k + n : Nat) : Int)).toNat + (-(q + (k : Int))).toNat = (q + (k : Int)).toNat + (n + (-(q + ((k + n : Nat) : Int))).toNat) := by omega
  rw [signed_mul] at ha ⊢
  refine Int.eq_of_mul_eq_mul_right p2 ?_
  rw [Int.mul_assoc, ← Int.natCast_mul, ← Nat.pow_add, e1, Nat.pow_add, Int.natCast_mul, ← Int.mul_assoc, ha, Nat.pow_add, Int.natCast_mul]
  ac_rfl
theorem dy_cmp {i j : Int} {k : Nat} {a b : UInt64} (ha : Dy i k a) (hb : Dy j k b) : FP.dcmp a b = some (compare i j) := by
  obtain ⟨s, c, q, ea⟩ := ha.fin
  obtain ⟨t, d, r, eb⟩ := hb.fin
  unfold Dy at ha hb
  rw [ea] at ha; rw [eb] at hb
  have w := order_whole ha hb
  show order (val64 a) (val64 b) = _
  rw [ea, eb, ← w]
  have e : min (q + k) (r + k) = min q r + k := by omega
  simp only [order, sh, e, inUnits]
  rw [show q + k - (min q r + k) = q - min q r by omega, show r + k - (min q r + k) = r - min q r by omega]
theorem dy_div {i j t : Int} {k n r : Nat} {a b : UInt64} (ha : Dy i k a) (hb : Dy j n b) (hj : j ≠ 0) (h : i * (2 ^ (n + r) : Nat) = t * j * (2 ^ k : Nat)) (ht : t.natAbs ≤ 2 ^ 53) (hr : r ≤ 1000) : Dy t r (FP.ddiv a b) := by
  obtain ⟨s, c, q, ea⟩ := ha.fin
  obtain ⟨u, d, z, eb⟩ := hb.fin
  unfold Dy at ha hb ⊢
  rw [ea] at ha; rw [eb] at hb
  have ha : Whole i (.fin s c (q + k)) := ha
  have hb : Whole j (.fin u d (z + n)) := hb
  have hd : d ≠ 0 := fun e => hj ((whole_zero hb).mp e)
  rw [show FP.ddiv a b = Core.ddiv a b from rfl, val64_ddiv, ea, eb]
  show Whole t (sh r (if d = 0 then _ else roundRatio b64 (s != u) c d (q - z)))
  rw [if_neg hd]
  have pn : (0 : Int) < ((2 ^ (n + r) : Nat) : Int) := by have := Nat.two_pow_pos (n + r); omega
  have pk : (0 : Int) < ((2 ^ k : Nat) : Int) := by have := Nat.two_pow_pos k; omega
  have hn : i.natAbs * 2 ^ (n + r) = t.natAbs * j.natAbs * 2 ^ k := by
    have := congrArg Int.natAbs h
    rw [Int.natAbs_mul, Int.natAbs_mul, Int.natAbs_mul, Int.natAbs_natCast, Int.natAbs_natCast] at this
    exact this
  have e : roundRatio b64 (s != u) c d (q - z) = roundRatio b64 (s != u) t.natAbs 1 (-(r : Int)) := by
    refine roundRatio_congr (by omega) (by decide) ?_
    have g := ((whole_pe ha).trans (PE.of hn)).trans ((whole_pe hb).symm.mul t.natAbs)
    have g' : PE c (t.natAbs * d) (q - z + r) := g.cast (by omega)
    unfold PE at g'
    rw [show (q - z - -(r : Int)).toNat = (q - z + r).toNat by omega, show (-(r : Int) - (q - z)).toNat = (-(q - z + r)).toNat by omega, Nat.mul_one]
    exact g'
  rw [e]
  refine dy_rnd rfl (fun hz => ?_) ht hr
  have hi : i ≠ 0 := by
    rintro rfl
    rw [Int.zero_mul] at h
    rcases Int.mul_eq_zero.mp h.symm with q | q
    · rcases Int.mul_eq_zero.mp q with q | q
      · exact hz q
      · exact hj q
    · omega
  rw [whole_sign ha hi, whole_sign hb hj]
  have g1 : i < 0 ↔ t * j < 0 := by
    constructor
    · intro q
      have : t * j * ((2 ^ k : Nat) : Int) < 0 := by rw [← h]; exact Int.mul_neg_of_neg_of_pos q pn
      exact Int.lt_of_not_ge fun q' => by have := Int.mul_nonneg q' (Int.le_of_lt pk); omega
    · intro q
      have : i * ((2 ^ (n + r) : Nat) : Int) < 0 := by rw [h]; exact Int.mul_neg_of_neg_of_pos q pk
      exact Int.lt_of_not_ge fun q' => by have := Int.mul_nonneg q' (Int.le_of_lt pn); omega
  rcases Int.lt_or_lt_of_ne hz with ht0 | ht0 <;> rcases Int.lt_or_lt_of_ne hj with hj0 | hj0
  · have q1 := Int.mul_pos_of_neg_of_neg ht0 hj0
    have q2 : ¬ i < 0 := by rw [g1]; omega
    simp [ht0, hj0, q2]
  · have q1 := Int.mul_neg_of_neg_of_pos ht0 hj0
    have q2 : i < 0 := by rw [g1]; exact q1
    have q3 : ¬ j < 0 := by omega
    simp [ht0, q2, q3]
  · have q1 := Int.mul_neg_of_pos_of_neg ht0 hj0
    have q2 : i < 0 := by rw [g1]; exact q1
    have q3 : ¬ t < 0 := by omega
    simp [hj0, q2, q3]
  · have q1 := Int.mul_pos ht0 hj0
    have q2 : ¬ i < 0 := by rw [g1]; omega
    have q3 : ¬ t < 0 := by omega
    have q4 : ¬ j < 0 := by omega
    simp [q2, q3, q4]
theorem dy_eq {i j : Int} {k : Nat} {a b : UInt64} (ha : Dy i k a) (hb : Dy j k b) (h : i = j) : FP.dcmp a b = some .eq := by
  rw [dy_cmp ha hb, h, compare_self_int]
theorem dy_lt {i j : Int} {k : Nat} {a b : UInt64} (ha : Dy i k a) (hb : Dy j k b) (h : i < j) : FP.dcmp a b = some .lt := by
  rw [dy_cmp ha hb, (compare_lt_iff i j).mpr h]
theorem dy_gt {i j : Int} {k : Nat} {a b : UInt64} (ha : Dy i k a) (hb : Dy j k b) (h : j < i) : FP.dcmp a b = some .gt := by
  rw [dy_cmp ha hb, (compare_gt_iff i j).mpr h]
theorem dy_cast {i j : Int} {k n : Nat} {a : UInt64} (h : Dy i k a) (e : i = j) (e' : k = n) : Dy j n a := by subst e e'; exact h
theorem dy_zero : Dy 0 0 (0 : UInt64) := by
  show Whole 0 (sh 0 (val64 0)); rw [val64_zero]
  show signed false (0 * _) = 0 * _
  rw [Nat.zero_mul, Int.zero_mul]; rfl
end Jvm.OwnFP
namespace Jvm.OwnFP
open Jvm.FP Jvm.FP.Core Jvm.Free.Fl
/-! ## numbers with a bound: an int, a long, a double that is i (over 2^k), i at most N -/
def Ib (N : Nat) (i : Int) (x : Int32) : Prop := x.toInt = i ∧ i.natAbs ≤ N
def Lb (N : Nat) (i : Int) (x : Int64) : Prop := x.toInt = i ∧ i.natAbs ≤ N
def Db (N : Nat) (i : Int) (k : Nat) (a : UInt64) : Prop := Dy i k a ∧ i.natAbs ≤ N
theorem Ib.lit (N : Nat) (i : Int) (x : Int32) (h : x.toInt = i ∧ i.natAbs ≤ N := by decide) : Ib N i x := h
theorem Lb.lit (N : Nat) (i : Int) (x : Int64) (h : x.toInt = i ∧ i.natAbs ≤ N := by decide) : Lb N i x := h
theorem Ib.any (x : Int32) : Ib (2 ^ 31) x.toInt x := ⟨rfl, by have := x.toInt_lt; have := x.le_toInt; omega⟩
theorem Ib.cast {N M : Nat} {i j : Int} {x : Int32} (h : Ib N i x) (e : i = j) (g : j.natAbs ≤ M) : Ib M j x := ⟨h.1.trans e, g⟩
theorem Lb.cast {N M : Nat} {i j : Int} {x : Int64} (h : Lb N i x) (e : i = j) (g : j.natAbs ≤ M) : Lb M j x := ⟨h.1.trans e, g⟩
theorem Db.cast {N M : Nat} {i j : Int} {k : Nat} {a : UInt64} (h : Db N i k a) (e : i = j) (g : j.natAbs ≤ M) : Db M j k a := by subst e; exact ⟨h.1, g⟩
theorem bn_add {a b : Int} {N M : Nat} (h1 : a.natAbs ≤ N) (h2 : b.natAbs ≤ M) : (a + b).natAbs ≤ N + M := by omega
theorem bn_sub {a b : Int} {N M : Nat} (h1 : a.natAbs ≤ N) (h2 : b.natAbs ≤ M) : (a - b).natAbs ≤ N + M := by omega
theorem bn_mul {a b : Int} {N M : Nat} (h1 : a.natAbs ≤ N) (h2 : b.natAbs ≤ M) : (a * b).natAbs ≤ N * M := by rw [Int.natAbs_mul]; exact Nat.mul_le_mul h1 h2
section
variable {N M : Nat} {i j : Int} {k n : Nat}
theorem Ib.add {x y : Int32} (h1 : Ib N i x) (h2 : Ib M j y) (h : N + M < 2147483648) : Ib (N + M) (i + j) (x + y) := by
  obtain ⟨rfl, b1⟩ := h1
  obtain ⟨rfl, b2⟩ := h2
  have b := bn_add b1 b2
  exact ⟨Jvm.Free.XT.add32 ⟨by omega, by omega⟩, b⟩
theorem Ib.sub {x y : Int32} (h1 : Ib N i x) (h2 : Ib M j y) (h : N + M < 2147483648) : Ib (N + M) (i - j) (x - y) := by
  obtain ⟨rfl, b1⟩ := h1
  obtain ⟨rfl, b2⟩ := h2
  have b := bn_sub b1 b2
  exact ⟨Jvm.Free.XT.sub32 ⟨by omega, by omega⟩, b⟩
theorem Ib.mul {x y : Int32} (h1 : Ib N i x) (h2 : Ib M j y) (h : N * M < 2147483648) : Ib (N * M) (i * j) (x * y) := by
  obtain ⟨rfl, b1⟩ := h1
  obtain ⟨rfl, b2⟩ := h2
  have b := bn_mul b1 b2
  exact ⟨Jvm.Free.XT.mul32 ⟨by omega, by omega⟩, b⟩
theorem Lb.add {x y : Int64} (h1 : Lb N i x) (h2 : Lb M j y) (h : N + M < 9223372036854775808) : Lb (N + M) (i + j) (x + y) := by
  obtain ⟨rfl, b1⟩ := h1
  obtain ⟨rfl, b2⟩ := h2
  have b := bn_add b1 b2
  exact ⟨Jvm.Free.XT.add64 ⟨by omega, by omega⟩, b⟩
theorem Lb.sub {x y : Int64} (h1 : Lb N i x) (h2 : Lb M j y) (h : N + M < 9223372036854775808) : Lb (N + M) (i - j) (x - y) := by
  obtain ⟨rfl, b1⟩ := h1
  obtain ⟨rfl, b2⟩ := h2
  have b := bn_sub b1 b2
  exact ⟨Jvm.Free.XT.sub64 ⟨by omega, by omega⟩, b⟩
theorem Lb.mul {x y : Int64} (h1 : Lb N i x) (h2 : Lb M j y) (h : N * M < 9223372036854775808) : Lb (N * M) (i * j) (x * y) := by
  obtain ⟨rfl, b1⟩ := h1
  obtain ⟨rfl, b2⟩ := h2
  have b := bn_mul b1 b2
  exact ⟨Jvm.Free.XT.mul64 ⟨by omega, by omega⟩, b⟩
theorem Lb.neg {x : Int64} (h1 : Lb N i x) (h : N < 9223372036854775808) : Lb N (-i) (-x) := by
  obtain ⟨rfl, h2⟩ := h1
  exact ⟨int64_neg (by omega), by omega⟩
theorem Ib.i2l {x : Int32} (h : Ib N i x) : Lb N i x.toInt64 := ⟨(Int32.toInt_toInt64 x).trans h.1, h.2⟩
theorem Lb.l2i {x : Int64} (h : Lb N i x) (hN : N < 2147483648) : Ib N i x.toInt32 := by
  obtain ⟨rfl, h2⟩ := h
  exact ⟨int64_toInt32 (by omega) (by omega), h2⟩
theorem Ib.i2d {x : Int32} (h : Ib N i x) : Db N i 0 (FP.i2d x) := by obtain ⟨rfl, h2⟩ := h; exact ⟨dy_i2d x, h2⟩
theorem Lb.l2d {x : Int64} (h : Lb N i x) (hN : N ≤ 9007199254740992) : Db N i 0 (FP.l2d x) := by obtain ⟨rfl, h2⟩ := h; exact ⟨dy_l2d (Nat.le_trans h2 hN), h2⟩
theorem Db.nn {a : UInt64} (h : Db N i k a) : NoNaN64 a := h.1.nn
theorem Db.add {a b : UInt64} (h1 : Db N i k a) (h2 : Db M j k b) (h : N + M ≤ 9007199254740992 ∧ k ≤ 1000) : Db (N + M) (i + j) k (FP.dadd a b) :=
  ⟨dy_add h1.1 h2.1 (Nat.le_trans (bn_add h1.2 h2.2) h.1) h.2, bn_add h1.2 h2.2⟩
theorem Db.sub {a b : UInt64} (h1 : Db N i k a) (h2 : Db M j k b) (h : N + M ≤ 9007199254740992 ∧ k ≤ 1000) : Db (N + M) (i - j) k (FP.dsub a b) :=
  ⟨dy_sub h1.1 h2.1 (Nat.le_trans (bn_sub h1.2 h2.2) h.1) h.2, bn_sub h1.2 h2.2⟩
theorem Db.mul {a b : UInt64} (h1 : Db N i k a) (h2 : Db M j n b) (h : N * M ≤ 9007199254740992 ∧ k + n ≤ 1000) : Db (N * M) (i * j) (k + n) (FP.dmul a b) :=
  ⟨dy_mul h1.1 h2.1 (Nat.le_trans (bn_mul h1.2 h2.2) h.1) h.2, bn_mul h1.2 h2.2⟩
theorem Db.neg {a : UInt64} (h1 : Db N i k a) : Db N (-i) k (FP.dneg a) := ⟨dy_neg h1.1, by have := h1.2; omega⟩
theorem Db.eq {a b : UInt64} (h1 : Db N i k a) (h2 : Db M j k b) (e : i = j) : FP.dcmp a b = some .eq := dy_eq h1.1 h2.1 e
theorem Db.up {a : UInt64} (h : Db N i k a) (n : Nat) : Db (N * 2 ^ n) (i * (2 ^ n : Nat)) (k + n) a := ⟨dy_up n h.1, by rw [Int.natAbs_mul, Int.natAbs_natCast]; exact Nat.mul_le_mul_right _ h.2⟩
theorem Db.zero : Db 0 0 0 (0 : UInt64) := ⟨dy_zero, Nat.le_refl _⟩
theorem Db.div2 {a b : UInt64} (e : Nat) (h1 : Db N i k a) (h2 : Db M ((2 ^ e : Nat) : Int) 0 b) (h : N ≤ 9007199254740992 ∧ k + e ≤ 1000) : Db N i (k + e) (FP.ddiv a b) := by
  refine ⟨dy_div h1.1 h2.1 (by have := Nat.two_pow_pos e; omega) ?_ (Nat.le_trans h1.2 h.1) h.2, h1.2⟩
  rw [Nat.zero_add, Nat.pow_add, Int.natCast_mul, Int.mul_assoc, Int.mul_comm ((2 ^ k : Nat) : Int)]
theorem Db.lit {a : UInt64} (s : Bool) (c : Nat) (q : Int) (N : Nat) (i : Int) (k : Nat) (e : val64 a = .fin s c q) (w : signed s (c * 2 ^ (q + k).toNat) = i * ((2 ^ (-(q + (k : Int))).toNat : Nat) : Int) ∧ i.natAbs ≤ N) : Db N i k a := by
  refine ⟨?_, w.2⟩
  unfold Dy; rw [e]; exact w.1
theorem Ib.re {x : Int32} (h : Ib N i x) : Ib N x.toInt x := ⟨rfl, by rw [h.1]; exact h.2⟩
theorem Lb.re {x : Int64} (h : Lb N i x) : Lb N x.toInt x := ⟨rfl, by rw [h.1]; exact h.2⟩
theorem Db.weak {M : Nat} {a : UInt64} (h : Db N i k a) (q : N ≤ M) : Db M i k a := ⟨h.1, Nat.le_trans h.2 q⟩
theorem Lb.weak {M : Nat} {a : Int64} (h : Lb N i a) (q : N ≤ M) : Lb M i a := ⟨h.1, Nat.le_trans h.2 q⟩
theorem Ib.weak {M : Nat} {a : Int32} (h : Ib N i a) (q : N ≤ M) : Ib M i a := ⟨h.1, Nat.le_trans h.2 q⟩
end
end Jvm.OwnFP
namespace Jvm.OwnPlain
open Jvm.FP Jvm.FP.Core Jvm.Free.Fl Jvm.OwnFP
theorem own_m8 (x : Int32) : ∃ n : Fin 8, (x &&& (7 : Int32)) = Int32.ofNat n.val := by
  refine ⟨⟨(x &&& 7).toBitVec.toNat, ?_⟩, ?_⟩
  · simp only [Int32.toBitVec_and, BitVec.toNat_and]
    exact Nat.lt_of_le_of_lt Nat.and_le_right (by decide)
  · apply Int32.toBitVec_inj.mp
    show _ = BitVec.ofNat 32 _
    rw [BitVec.ofNat_toNat]; simp
theorem own_k (x : Int32) : 0 ≤ (x &&& (2147483647 : Int32)).toInt ∧ (x &&& (2147483647 : Int32)).toInt ≤ 2147483647 := by
  have h := Jvm.RoadKit.c_mask x 2147483647 31 (by decide) (by decide); omega
theorem own_p32 : ∀ n : Fin 8, ((1 : Int32) <<< (Int32.ofNat n.val &&& 31)).toInt = ((2 ^ n.val : Nat) : Int) := by decide
theorem own_up : ∀ n : Fin 8, ((1 : Int64) <<< ((Int32.ofNat n.val + (8 : Int32)) &&& 0x3f).toInt64).toInt = ((2 ^ (n.val + 8) : Nat) : Int) := by decide
theorem own_dn : ∀ n : Fin 8, ((1 : Int64) <<< (((8 : Int32) - Int32.ofNat n.val) &&& 0x3f).toInt64).toInt = ((2 ^ (8 - n.val) : Nat) : Int) := by decide
theorem own_ku (x : Int64) (h0 : 0 ≤ x.toInt) (h1 : x.toInt ≤ 2147483647) : ∀ n : Fin 8, (x <<< ((Int32.ofNat n.val + (7 : Int32)) &&& 0x3f).toInt64).toInt = x.toInt * ((2 ^ (n.val + 7) : Nat) : Int) := by
  intro n
  have hk : (Int32.ofNat n.val + (7 : Int32)).toBitVec.toNat % 64 = n.val + 7 := by revert n; decide
  have h := Jvm.RoadKit.c_lshl x (Int32.ofNat n.val + (7 : Int32)) (n.val + 7) hk
  have hb := Jvm.RoadKit.rng64 (x <<< ((Int32.ofNat n.val + (7 : Int32)) &&& 0x3f).toInt64)
  generalize (x <<< ((Int32.ofNat n.val + (7 : Int32)) &&& 0x3f).toInt64).toInt = y at *
  have hn : n.val = 0 ∨ n.val = 1 ∨ n.val = 2 ∨ n.val = 3 ∨ n.val = 4 ∨ n.val = 5 ∨ n.val = 6 ∨ n.val = 7 := by omega
  rcases hn with q | q | q | q | q | q | q | q <;> rw [q] at h ⊢ <;> simp only [Nat.reduceAdd, Nat.reducePow, Nat.reduceSub] at h ⊢ <;> omega
theorem own_kd (x : Int64) (h0 : 0 ≤ x.toInt) (h1 : x.toInt ≤ 2147483647) : ∀ n : Fin 8, (x <<< (((7 : Int32) - Int32.ofNat n.val) &&& 0x3f).toInt64).toInt = x.toInt * ((2 ^ (7 - n.val) : Nat) : Int) := by
  intro n
  have hk : ((7 : Int32) - Int32.ofNat n.val).toBitVec.toNat % 64 = 7 - n.val := by revert n; decide
  have h := Jvm.RoadKit.c_lshl x ((7 : Int32) - Int32.ofNat n.val) (7 - n.val) hk
  have hb := Jvm.RoadKit.rng64 (x <<< (((7 : Int32) - Int32.ofNat n.val) &&& 0x3f).toInt64)
  generalize (x <<< (((7 : Int32) - Int32.ofNat n.val) &&& 0x3f).toInt64).toInt = y at *
  have hn : n.val = 0 ∨ n.val = 1 ∨ n.val = 2 ∨ n.val = 3 ∨ n.val = 4 ∨ n.val = 5 ∨ n.val = 6 ∨ n.val = 7 := by omega
  rcases hn with q | q | q | q | q | q | q | q <;> rw [q] at h ⊢ <;> simp only [Nat.reduceAdd, Nat.reducePow, Nat.reduceSub] at h ⊢ <;> omega

theorem own_mag {n : Nat} (hn : n ≤ 15) : ((2 ^ n : Nat) : Int).natAbs ≤ 32768 := by rw [Int.natAbs_natCast]; exact Nat.le_trans (Nat.pow_le_pow_right (by decide) hn) (by decide)
theorem own_ppos (n : Nat) : (0 : Int) < ((2 ^ n : Nat) : Int) := Int.natCast_pos.mpr (Nat.two_pow_pos n)
/-- the first price, 2 / m, over 2^7 -/
theorem own_m1 {m : UInt64} {n : Nat} (hn : n < 8) (h : Dy 1 n m) : Dy ((2 ^ (n + 8) : Nat) : Int) 7 (FP.ddiv 4611686018427387904 m) := by
  have d2 : Dy 2 0 (4611686018427387904 : UInt64) := (Db.lit false 4503599627370496 (-51) 2 2 0 (by decide +kernel) (by decide +kernel)).1
  have := own_mag (n := n + 8) (by omega)
  refine dy_div d2 h (by decide) ?_ (Nat.le_trans this (by decide)) (by decide)
  rw [Int.mul_one, Nat.pow_zero, Nat.pow_add, Nat.pow_add, Int.natCast_mul, Int.natCast_mul]; generalize ((2 ^ n : Nat) : Int) = z; simp; omega
theorem own_m0 {m : UInt64} {n : Nat} (hn : n < 8) (h : Dy ((2 ^ n : Nat) : Int) 0 m) : Dy ((2 ^ (8 - n) : Nat) : Int) 7 (FP.ddiv 4611686018427387904 m) := by
  have d2 : Dy 2 0 (4611686018427387904 : UInt64) := (Db.lit false 4503599627370496 (-51) 2 2 0 (by decide +kernel) (by decide +kernel)).1
  have := own_mag (n := 8 - n) (by omega)
  refine dy_div d2 h (Int.ne_of_gt (own_ppos n)) ?_ (Nat.le_trans this (by decide)) (by decide)
  rw [← Int.natCast_mul, ← Nat.pow_add, show 8 - n + n = 8 by omega]; rfl
/-- the second price, s / c, over 2^7 -/
theorem own_c1 {s c : UInt64} {k : Int} {n : Nat} (hn : n < 8) (k0 : 0 ≤ k) (k1 : k ≤ 2147483647) (hs : Dy k 0 s) (h : Dy 1 n c) : Dy (k * ((2 ^ (n + 7) : Nat) : Int)) 7 (FP.ddiv s c) := by
  have := own_mag (n := n + 7) (by omega)
  have b := bn_mul (a := k) (b := ((2 ^ (n + 7) : Nat) : Int)) (N := 2147483647) (M := 32768) (by omega) this
  refine dy_div hs h (by decide) ?_ (by omega) (by decide)
  rw [Int.mul_one, Nat.pow_zero]; simp
theorem own_c0 {s c : UInt64} {k : Int} {n : Nat} (hn : n < 8) (k0 : 0 ≤ k) (k1 : k ≤ 2147483647) (hs : Dy k 0 s) (h : Dy ((2 ^ n : Nat) : Int) 0 c) : Dy (k * ((2 ^ (7 - n) : Nat) : Int)) 7 (FP.ddiv s c) := by
  have := own_mag (n := 7 - n) (by omega)
  have b := bn_mul (a := k) (b := ((2 ^ (7 - n) : Nat) : Int)) (N := 2147483647) (M := 32768) (by omega) this
  refine dy_div hs h (Int.ne_of_gt (own_ppos n)) ?_ (by omega) (by decide)
  rw [Int.mul_assoc k, ← Int.natCast_mul, ← Nat.pow_add, show 7 - n + n = 7 by omega]; simp
/-- the sum, times 128, is the long -/
theorem own_sum {u v : UInt64} {P Q : Int} {e : Int64} (hP : 0 ≤ P ∧ P ≤ 32768) (hQ : 0 ≤ Q ∧ Q ≤ 35184372088832) (hu : Dy P 7 u) (hv : Dy Q 7 v) (he : e.toInt = P + Q) :
    NoNaN64 (FP.dadd u v) ∧ NoNaN64 (FP.dmul (FP.dadd u v) 4638707616191610880) ∧ FP.dcmp (FP.dmul (FP.dadd u v) 4638707616191610880) (FP.l2d e) = some .eq := by
  have ds := dy_add hu hv (by omega) (by decide)
  have d1 : Dy 128 0 (4638707616191610880 : UInt64) := (Db.lit false 4503599627370496 (-45) 128 128 0 (by decide +kernel) (by decide +kernel)).1
  have dm := dy_mul ds d1 (by omega) (by decide)
  have dl := dy_up 7 (dy_l2d (x := e) (by omega))
  refine ⟨ds.nn, dm.nn, dy_eq dm dl (by rw [he]; simp)⟩
theorem own_bd {k : Int} {n : Nat} (k0 : 0 ≤ k) (k1 : k ≤ 2147483647) (hn : n ≤ 14) : 0 ≤ k * ((2 ^ n : Nat) : Int) ∧ k * ((2 ^ n : Nat) : Int) ≤ 35184372088832 := by
  have p : ((2 ^ n : Nat) : Int).natAbs ≤ 16384 := by rw [Int.natAbs_natCast]; exact Nat.le_trans (Nat.pow_le_pow_right (by decide) hn) (by decide)
  refine ⟨Int.mul_nonneg k0 (Int.le_of_lt (own_ppos n)), ?_⟩
  have b := bn_mul (a := k) (b := ((2 ^ n : Nat) : Int)) (N := 2147483647) (M := 16384) (by omega) p
  omega
theorem own_pb {n : Nat} (hn : n ≤ 15) : 0 ≤ ((2 ^ n : Nat) : Int) ∧ ((2 ^ n : Nat) : Int) ≤ 32768 := by
  have := own_mag hn; have := own_ppos n
  generalize ((2 ^ n : Nat) : Int) = z at *; omega
/-- a number that is not below nought, and finite -/
theorem own_ok {i : Int} {k : Nat} {a : UInt64} (h : Dy i k a) (h0 : 0 ≤ i) : (FP.dcmp a 0 = some .gt ∨ FP.dcmp a 0 = some .eq) ∧ FP.dcmp a 9218868437227405312 = some .lt := by
  have z : Dy (0 * ((2 ^ k : Nat) : Int)) (0 + k) (0 : UInt64) := dy_up k dy_zero
  rw [Int.zero_mul, Nat.zero_add] at z
  refine ⟨?_, (fin_lt_inf h.dfin).1⟩
  rw [dy_cmp h z]
  rcases Int.lt_or_eq_of_le h0 with q | q
  · exact Or.inl (by rw [(compare_gt_iff i 0).mpr q])
  · exact Or.inr (by rw [(compare_eq_iff i 0).mpr q.symm])
theorem own_pos {i : Int} {k : Nat} {a : UInt64} (h : Dy i k a) (h0 : 0 < i) : FP.dcmp a 0 = some .gt := by
  have z : Dy (0 * ((2 ^ k : Nat) : Int)) (0 + k) (0 : UInt64) := dy_up k dy_zero
  rw [Int.zero_mul, Nat.zero_add] at z
  rw [dy_cmp h z, (compare_gt_iff i 0).mpr h0]
theorem own_inv {x : Int32} {n : Nat} (hn : n < 8) (h : x.toInt = ((2 ^ n : Nat) : Int)) : Dy 1 n (FP.ddiv 4607182418800017408 (FP.i2d x)) := by
  have d1 : Dy 1 0 (4607182418800017408 : UInt64) := (Db.lit false 4503599627370496 (-52) 1 1 0 (by decide +kernel) (by decide +kernel)).1
  have d2 := dy_i2d x
  refine dy_div d1 d2 (by rw [h]; exact Int.ne_of_gt (own_ppos n)) (by rw [h]; simp) (by decide) (by omega)
theorem own_pl {x : Int32} {n : Nat} (h : x.toInt = ((2 ^ n : Nat) : Int)) : Dy ((2 ^ n : Nat) : Int) 0 (FP.i2d x) := by have := dy_i2d x; rwa [h] at this
end Jvm.OwnPlain
namespace Jvm.Pilot.@@N@@
open Jvm Jvm.ClassFile Sem Op Lib Jvm.Free Jvm.Stand Jvm.LawKit Jvm.RoadKit Bundle Jvm.Pilot.@@N@@.Jvm.D Jvm.OwnGo
theorem wd {a0 : Array Value} {Z : State} (hw : ∀ d ∈ tables_1, d.before a0 Z = true) (k : Nat) (d : Jvm.Cond) (hd : tables_1[k]? = some d) : d.before a0 Z = true := hw _ (List.mem_of_getElem? hd)
theorem pn_law : plainFor x = true := plainFor_of_name (by show plainName "com/example/trunkwright/trunkwright/planning/SizingLimitsCcsCostPinLaw" = true; first | (simp [plainName, overriddenIn]; done) | decide +kernel)
open Jvm.OwnPlain Jvm.OwnFP
theorem d0_0 : decode prog_10_method_1_code 0 = .ok (.aload_n 0, 1) := by decide +kernel
theorem d0_1 : decode prog_10_method_1_code 1 = .ok (.invokespecial 1, 3) := by decide +kernel
theorem d0_4 : decode prog_10_method_1_code 4 = .ok (.dload_n 1, 1) := by decide +kernel
theorem d0_5 : decode prog_10_method_1_code 5 = .ok (.dconst 0, 1) := by decide +kernel
theorem d0_6 : decode prog_10_method_1_code 6 = .ok (.dcmp .l, 1) := by decide +kernel
theorem d0_7 : decode prog_10_method_1_code 7 = .ok (.ifCond .lt 11, 3) := by decide +kernel
theorem d0_10 : decode prog_10_method_1_code 10 = .ok (.dload_n 1, 1) := by decide +kernel
theorem d0_11 : decode prog_10_method_1_code 11 = .ok (.ldc2_w 9, 3) := by decide +kernel
theorem d0_14 : decode prog_10_method_1_code 14 = .ok (.dcmp .g, 1) := by decide +kernel
theorem d0_15 : decode prog_10_method_1_code 15 = .ok (.ifCond .lt 17, 3) := by decide +kernel
theorem d0_18 : decode prog_10_method_1_code 18 = .ok (.new 11, 3) := by decide +kernel
theorem d0_21 : decode prog_10_method_1_code 21 = .ok (.dup, 1) := by decide +kernel
theorem d0_22 : decode prog_10_method_1_code 22 = .ok (.dload_n 1, 1) := by decide +kernel
theorem d0_23 : decode prog_10_method_1_code 23 = .ok (.invokedynamic 13, 5) := by decide +kernel
theorem d0_28 : decode prog_10_method_1_code 28 = .ok (.invokespecial 17, 3) := by decide +kernel
theorem d0_31 : decode prog_10_method_1_code 31 = .ok (.athrow, 1) := by decide +kernel
theorem d0_32 : decode prog_10_method_1_code 32 = .ok (.dload_n 3, 1) := by decide +kernel
theorem d0_33 : decode prog_10_method_1_code 33 = .ok (.dconst 0, 1) := by decide +kernel
theorem d0_34 : decode prog_10_method_1_code 34 = .ok (.dcmp .l, 1) := by decide +kernel
theorem d0_35 : decode prog_10_method_1_code 35 = .ok (.ifCond .lt 11, 3) := by decide +kernel
theorem d0_38 : decode prog_10_method_1_code 38 = .ok (.dload_n 3, 1) := by decide +kernel
theorem d0_39 : decode prog_10_method_1_code 39 = .ok (.ldc2_w 9, 3) := by decide +kernel
theorem d0_42 : decode prog_10_method_1_code 42 = .ok (.dcmp .g, 1) := by decide +kernel
theorem d0_43 : decode prog_10_method_1_code 43 = .ok (.ifCond .lt 17, 3) := by decide +kernel
theorem d0_46 : decode prog_10_method_1_code 46 = .ok (.new 11, 3) := by decide +kernel
theorem d0_49 : decode prog_10_method_1_code 49 = .ok (.dup, 1) := by decide +kernel
theorem d0_50 : decode prog_10_method_1_code 50 = .ok (.dload_n 3, 1) := by decide +kernel
theorem d0_51 : decode prog_10_method_1_code 51 = .ok (.invokedynamic 20, 5) := by decide +kernel
theorem d0_56 : decode prog_10_method_1_code 56 = .ok (.invokespecial 17, 3) := by decide +kernel
theorem d0_59 : decode prog_10_method_1_code 59 = .ok (.athrow, 1) := by decide +kernel
theorem d0_60 : decode prog_10_method_1_code 60 = .ok (.dload 5, 2) := by decide +kernel
theorem d0_62 : decode prog_10_method_1_code 62 = .ok (.dconst 0, 1) := by decide +kernel
theorem d0_63 : decode prog_10_method_1_code 63 = .ok (.dcmp .l, 1) := by decide +kernel
theorem d0_64 : decode prog_10_method_1_code 64 = .ok (.ifCond .le 12, 3) := by decide +kernel
theorem d0_67 : decode prog_10_method_1_code 67 = .ok (.dload 5, 2) := by decide +kernel
theorem d0_69 : decode prog_10_method_1_code 69 = .ok (.ldc2_w 9, 3) := by decide +kernel
theorem d0_72 : decode prog_10_method_1_code 72 = .ok (.dcmp .g, 1) := by decide +kernel
theorem d0_73 : decode prog_10_method_1_code 73 = .ok (.ifCond .lt 18, 3) := by decide +kernel
theorem d0_76 : decode prog_10_method_1_code 76 = .ok (.new 11, 3) := by decide +kernel
theorem d0_79 : decode prog_10_method_1_code 79 = .ok (.dup, 1) := by decide +kernel
theorem d0_80 : decode prog_10_method_1_code 80 = .ok (.dload 5, 2) := by decide +kernel
theorem d0_82 : decode prog_10_method_1_code 82 = .ok (.invokedynamic 21, 5) := by decide +kernel
theorem d0_87 : decode prog_10_method_1_code 87 = .ok (.invokespecial 17, 3) := by decide +kernel
theorem d0_90 : decode prog_10_method_1_code 90 = .ok (.athrow, 1) := by decide +kernel
theorem d0_91 : decode prog_10_method_1_code 91 = .ok (.aload_n 0, 1) := by decide +kernel
theorem d0_92 : decode prog_10_method_1_code 92 = .ok (.dload_n 1, 1) := by decide +kernel
theorem d0_93 : decode prog_10_method_1_code 93 = .ok (.putfield 22, 3) := by decide +kernel
theorem d0_96 : decode prog_10_method_1_code 96 = .ok (.aload_n 0, 1) := by decide +kernel
theorem d0_97 : decode prog_10_method_1_code 97 = .ok (.dload_n 3, 1) := by decide +kernel
theorem d0_98 : decode prog_10_method_1_code 98 = .ok (.putfield 28, 3) := by decide +kernel
theorem d0_101 : decode prog_10_method_1_code 101 = .ok (.aload_n 0, 1) := by decide +kernel
theorem d0_102 : decode prog_10_method_1_code 102 = .ok (.dload 5, 2) := by decide +kernel
theorem d0_104 : decode prog_10_method_1_code 104 = .ok (.putfield 31, 3) := by decide +kernel
theorem d0_107 : decode prog_10_method_1_code 107 = .ok (.return_, 1) := by decide +kernel
theorem pd_0 : parseMethodDescriptor "(DDD)V" = some ⟨[.double, .double, .double], none⟩ := by decide +kernel
theorem pn_0 : plainFor (⟨"com/example/trunkwright/trunkwright/planning/CostRates", "<init>", "(DDD)V"⟩ : MethodName) = true := plainFor_of_name (by show plainName "com/example/trunkwright/trunkwright/planning/CostRates" = true; first | (simp [plainName, overriddenIn]; done) | decide +kernel)
set_option maxRecDepth 65536 in
set_option maxHeartbeats 40000000 in
theorem rm_init (l : Launch) (Z : State) (a0 : Array Value) (hw : ∀ d ∈ tables_1, d.before a0 Z = true) (ws : List Jvm.Cond) (a1 : Addr) (x0 x1 x2 : UInt64) (h0 : Heap) (n0 : Nat) (Z0 : n0 ≤ h0.size) (E1 : Exa Z h0 a1 "com/example/trunkwright/trunkwright/planning/CostRates") (g1 : n0 ≤ a1) (F_0 : Fld Z h0 a1 "com/example/trunkwright/trunkwright/planning/CostRates" "trunkCost" "D" (.double (0 : UInt64))) (F_1 : Fld Z h0 a1 "com/example/trunkwright/trunkwright/planning/CostRates" "switchCost" "D" (.double (0 : UInt64))) (F_2 : Fld Z h0 a1 "com/example/trunkwright/trunkwright/planning/CostRates" "ccsPerTrunk" "D" (.double (0 : UInt64))) (k0 : (FP.dcmp x0 0 = some .gt ∨ FP.dcmp x0 0 = some .eq) ∧ FP.dcmp x0 (9218868437227405312 : UInt64) = some .lt) (k1 : (FP.dcmp x1 0 = some .gt ∨ FP.dcmp x1 0 = some .eq) ∧ FP.dcmp x1 (9218868437227405312 : UInt64) = some .lt) (k2 : FP.dcmp x2 0 = some .gt ∧ FP.dcmp x2 (9218868437227405312 : UInt64) = some .lt) :
    Ct l Z (⟨"com/example/trunkwright/trunkwright/planning/CostRates", "<init>", "(DDD)V"⟩ : MethodName) prog_10_method_1_code 7 none ws ({ frames := 1, cells := 0, slots := 0, locals := 12 } : Room) #[.ref a1, .double x0, .double x1, .double x2] h0 (fun w h L => w = none ∧ Fr n0 L ∧ Keep h0 h [a1] ∧ Fld Z h a1 "com/example/trunkwright/trunkwright/planning/CostRates" "trunkCost" "D" (.double x0) ∧ Fld Z h a1 "com/example/trunkwright/trunkwright/planning/CostRates" "switchCost" "D" (.double x1) ∧ Fld Z h a1 "com/example/trunkwright/trunkwright/planning/CostRates" "ccsPerTrunk" "D" (.double x2)) := by
  refine Ct.intro pn_0 #[.val (.ref a1), .val (.double x0), .second, .val (.double x1), .second, .val (.double x2), .second] (fun _ => by first | (simp [entryFrame, mkF, argsToLocals, Value.category, maxLocals]; done) | rfl) ?_
  intro p e s m below meth c T0 X0 hx hZ hby hml hown hnm hret hlk e0
  have N0 := Fr.nil n0
  have K0 := Keep.refl h0 [a1]
  refine s_aloadN X0 hx (hb hby d0_0) rfl rfl 1 rfl ?_
  obtain ⟨T1, X1, e1, st1⟩ := initO X0 hx hZ hown (wd hw 7 _ rfl) (wd hw 8 _ rfl) (wd hw 9 _ rfl) e0 (g := (mkF m 1 #[.val (.ref a1), .val (.double x0), .second, .val (.double x1), .second, .val (.double x2), .second] [.ref a1])) rfl (by rw [hml]; rfl) rfl (hb hby d0_1) (by decide) (W := 0) (by show 2 * 0 + _ ≤ _; exact Nat.le_of_eq rfl) (by decide)
  refine Go.via st1 ?_
  show Go p e below _ (T1.setTop (mkF m 4 #[.val (.ref a1), .val (.double x0), .second, .val (.double x1), .second, .val (.double x2), .second] []))
  refine s_dloadN X1 hx (hb hby d0_4) rfl 5 rfl ?_
  refine s_dconst0 X1 hx (hb hby d0_5) (0 : UInt64) rfl 6 rfl ?_
  refine s_dcmp X1 hx (hb hby d0_6) (cmpValue (FP.dcmp x0 (0 : UInt64)) .l) rfl 7 rfl ?_
  refine s_ifN X1 hx (hb hby d0_7) (dd_lt_f k0.1) 10 rfl ?_
  refine s_dloadN X1 hx (hb hby d0_10) rfl 11 rfl ?_
  refine s_ldc2D X1 hx (hb hby d0_11) hZ hown (wd hw 10 _ rfl) 14 rfl ?_
  refine s_dcmp X1 hx (hb hby d0_14) (cmpValue (FP.dcmp x0 (9218868437227405312 : UInt64)) .g) rfl 15 rfl ?_
  refine s_ifY X1 hx (hb hby d0_15) (dd_lt_t k0.2) 32 (by decide) (by decide) ?_
  refine s_dloadN X1 hx (hb hby d0_32) rfl 33 rfl ?_
  refine s_dconst0 X1 hx (hb hby d0_33) (0 : UInt64) rfl 34 rfl ?_
  refine s_dcmp X1 hx (hb hby d0_34) (cmpValue (FP.dcmp x1 (0 : UInt64)) .l) rfl 35 rfl ?_
  refine s_ifN X1 hx (hb hby d0_35) (dd_lt_f k1.1) 38 rfl ?_
  refine s_dloadN X1 hx (hb hby d0_38) rfl 39 rfl ?_
  refine s_ldc2D X1 hx (hb hby d0_39) hZ hown (wd hw 10 _ rfl) 42 rfl ?_
  refine s_dcmp X1 hx (hb hby d0_42) (cmpValue (FP.dcmp x1 (9218868437227405312 : UInt64)) .g) rfl 43 rfl ?_
  refine s_ifY X1 hx (hb hby d0_43) (dd_lt_t k1.2) 60 (by decide) (by decide) ?_
  refine s_dload X1 hx (hb hby d0_60) rfl 62 rfl ?_
  refine s_dconst0 X1 hx (hb hby d0_62) (0 : UInt64) rfl 63 rfl ?_
  refine s_dcmp X1 hx (hb hby d0_63) (cmpValue (FP.dcmp x2 (0 : UInt64)) .l) rfl 64 rfl ?_
  refine s_ifN X1 hx (hb hby d0_64) (dd_le_f k2.1) 67 rfl ?_
  refine s_dload X1 hx (hb hby d0_67) rfl 69 rfl ?_
  refine s_ldc2D X1 hx (hb hby d0_69) hZ hown (wd hw 10 _ rfl) 72 rfl ?_
  refine s_dcmp X1 hx (hb hby d0_72) (cmpValue (FP.dcmp x2 (9218868437227405312 : UInt64)) .g) rfl 73 rfl ?_
  refine s_ifY X1 hx (hb hby d0_73) (dd_lt_t k2.2) 91 (by decide) (by decide) ?_
  refine s_aloadN X1 hx (hb hby d0_91) rfl rfl 92 rfl ?_
  refine s_dloadN X1 hx (hb hby d0_92) rfl 93 rfl ?_
  obtain ⟨T2, h2, X2, e2, W2, st2⟩ := putF X1 hx hZ hown (host := "") (Or.inl (wd hw 11 _ rfl)) Via.refl e1 F_0 E1 (Or.inr ⟨(wd hw 12 _ rfl), rfl, hnm⟩) (wd hw 2 _ rfl) (ty := .double) (by decide) rfl rfl (g := (mkF m 93 #[.val (.ref a1), .val (.double x0), .second, .val (.double x1), .second, .val (.double x2), .second] [.double x0, .ref a1])) rfl rfl (hb hby d0_93)
  have N2 := Fr.snoc X2 N0 g1
  have F3 := F_0.same W2
  have F4 := E1.wr W2
  have F5 := F_1.other W2 (Or.inr (slot_ne (a0 := a0) (t := .double) (t' := .double) (Or.inr (wd hw 14 _ rfl)) (Or.inr (wd hw 12 _ rfl)) (by decide) (by decide) (by decide)))
  have F6 := F_2.other W2 (Or.inr (slot_ne (a0 := a0) (t := .double) (t' := .double) (Or.inr (wd hw 16 _ rfl)) (Or.inr (wd hw 12 _ rfl)) (by decide) (by decide) (by decide)))
  have Z7 : n0 ≤ h2.size := by rw [W2.size]; exact Z0
  have K8 := K0.wr W2 (Or.inl (by simp))
  refine Go.via st2 ?_
  show Go p e below _ (T2.setTop (mkF m 96 #[.val (.ref a1), .val (.double x0), .second, .val (.double x1), .second, .val (.double x2), .second] []))
  refine s_aloadN X2 hx (hb hby d0_96) rfl rfl 97 rfl ?_
  refine s_dloadN X2 hx (hb hby d0_97) rfl 98 rfl ?_
  obtain ⟨T9, h9, X9, e9, W9, st9⟩ := putF X2 hx hZ hown (host := "") (Or.inl (wd hw 13 _ rfl)) Via.refl e2 F5 F4 (Or.inr ⟨(wd hw 14 _ rfl), rfl, hnm⟩) (wd hw 2 _ rfl) (ty := .double) (by decide) rfl rfl (g := (mkF m 98 #[.val (.ref a1), .val (.double x0), .second, .val (.double x1), .second, .val (.double x2), .second] [.double x1, .ref a1])) rfl rfl (hb hby d0_98)
  have N9 := Fr.snoc X9 N2 g1
  have F10 := F5.same W9
  have F11 := F4.wr W9
  have F12 := F3.other W9 (Or.inr (slot_ne (a0 := a0) (t := .double) (t' := .double) (Or.inr (wd hw 12 _ rfl)) (Or.inr (wd hw 14 _ rfl)) (by decide) (by decide) (by decide)))
  have F13 := F6.other W9 (Or.inr (slot_ne (a0 := a0) (t := .double) (t' := .double) (Or.inr (wd hw 16 _ rfl)) (Or.inr (wd hw 14 _ rfl)) (by decide) (by decide) (by decide)))
  have Z14 : n0 ≤ h9.size := by rw [W9.size]; exact Z7
  have K15 := K8.wr W9 (Or.inl (by simp))
  refine Go.via st9 ?_
  show Go p e below _ (T9.setTop (mkF m 101 #[.val (.ref a1), .val (.double x0), .second, .val (.double x1), .second, .val (.double x2), .second] []))
  refine s_aloadN X9 hx (hb hby d0_101) rfl rfl 102 rfl ?_
  refine s_dload X9 hx (hb hby d0_102) rfl 104 rfl ?_
  obtain ⟨T16, h16, X16, e16, W16, st16⟩ := putF X9 hx hZ hown (host := "") (Or.inl (wd hw 15 _ rfl)) Via.refl e9 F13 F11 (Or.inr ⟨(wd hw 16 _ rfl), rfl, hnm⟩) (wd hw 2 _ rfl) (ty := .double) (by decide) rfl rfl (g := (mkF m 104 #[.val (.ref a1), .val (.double x0), .second, .val (.double x1), .second, .val (.double x2), .second] [.double x2, .ref a1])) rfl rfl (hb hby d0_104)
  have N16 := Fr.snoc X16 N9 g1
  have F17 := F13.same W16
  have F18 := F11.wr W16
  have F19 := F12.other W16 (Or.inr (slot_ne (a0 := a0) (t := .double) (t' := .double) (Or.inr (wd hw 12 _ rfl)) (Or.inr (wd hw 16 _ rfl)) (by decide) (by decide) (by decide)))
  have F20 := F10.other W16 (Or.inr (slot_ne (a0 := a0) (t := .double) (t' := .double) (Or.inr (wd hw 14 _ rfl)) (Or.inr (wd hw 16 _ rfl)) (by decide) (by decide) (by decide)))
  have Z21 : n0 ≤ h16.size := by rw [W16.size]; exact Z14
  have K22 := K15.wr W16 (Or.inl (by simp))
  refine Go.via st16 ?_
  show Go p e below _ (T16.setTop (mkF m 107 #[.val (.ref a1), .val (.double x0), .second, .val (.double x1), .second, .val (.double x2), .second] []))
  exact retV X16 hx hlk hret (hb hby d0_107) e16 ⟨rfl, N16, K22, F19, F20, F17⟩ (by decide) (by decide)
theorem d5_0 : decode prog_10_method_2_code 0 = .ok (.aload_n 0, 1) := by decide +kernel
theorem d5_1 : decode prog_10_method_2_code 1 = .ok (.getfield 22, 3) := by decide +kernel
theorem d5_4 : decode prog_10_method_2_code 4 = .ok (.dreturn, 1) := by decide +kernel
theorem pd_5 : parseMethodDescriptor "()D" = some ⟨[], some .double⟩ := by decide +kernel
theorem pn_5 : plainFor (⟨"com/example/trunkwright/trunkwright/planning/CostRates", "trunkCost", "()D"⟩ : MethodName) = true := plainFor_of_name (by show plainName "com/example/trunkwright/trunkwright/planning/CostRates" = true; first | (simp [plainName, overriddenIn]; done) | decide +kernel)
set_option maxRecDepth 65536 in
set_option maxHeartbeats 40000000 in
theorem rm_trunkCost (l : Launch) (Z : State) (a0 : Array Value) (hw : ∀ d ∈ tables_1, d.before a0 Z = true) (ws : List Jvm.Cond) (a1 : Addr) (x0 : UInt64) (h0 : Heap) (n0 : Nat) (Z0 : n0 ≤ h0.size) (F_0 : Fld Z h0 a1 "com/example/trunkwright/trunkwright/planning/CostRates" "trunkCost" "D" (.double x0)) :
    Ct l Z (⟨"com/example/trunkwright/trunkwright/planning/CostRates", "trunkCost", "()D"⟩ : MethodName) prog_10_method_2_code 1 (some .double) ws ({ frames := 0, cells := 0, slots := 0, locals := 0 } : Room) #[.ref a1] h0 (fun v h L => v = some (.double x0) ∧ Fr n0 L ∧ h = h0) := by
  refine Ct.intro pn_5 #[.val (.ref a1)] (fun _ => by first | (simp [entryFrame, mkF, argsToLocals, Value.category, maxLocals]; done) | rfl) ?_
  intro p e s m below meth c T0 X0 hx hZ hby hml hown hnm hret hlk e0
  have N0 := Fr.nil n0
  refine s_aloadN X0 hx (hb hby d5_0) rfl rfl 1 rfl ?_
  obtain ⟨T23, X23, e23, st23⟩ := getF X0 hx hZ hown (host := "") (Or.inl (wd hw 11 _ rfl)) Via.refl e0 F_0 (g := (mkF m 1 #[.val (.ref a1)] [.ref a1])) rfl rfl (hb hby d5_1)
  refine Go.via st23 ?_
  show Go p e below _ (T23.setTop (mkF m 4 #[.val (.ref a1)] [.double x0]))
  exact retD X23 hx hlk hret (hb hby d5_4) e23 ⟨rfl, N0, rfl⟩ (by decide) (by decide)
theorem d4_0 : decode prog_10_method_3_code 0 = .ok (.aload_n 0, 1) := by decide +kernel
theorem d4_1 : decode prog_10_method_3_code 1 = .ok (.getfield 28, 3) := by decide +kernel
theorem d4_4 : decode prog_10_method_3_code 4 = .ok (.dreturn, 1) := by decide +kernel
theorem pd_4 : parseMethodDescriptor "()D" = some ⟨[], some .double⟩ := by decide +kernel
theorem pn_4 : plainFor (⟨"com/example/trunkwright/trunkwright/planning/CostRates", "switchCost", "()D"⟩ : MethodName) = true := plainFor_of_name (by show plainName "com/example/trunkwright/trunkwright/planning/CostRates" = true; first | (simp [plainName, overriddenIn]; done) | decide +kernel)
set_option maxRecDepth 65536 in
set_option maxHeartbeats 40000000 in
theorem rm_switchCost (l : Launch) (Z : State) (a0 : Array Value) (hw : ∀ d ∈ tables_1, d.before a0 Z = true) (ws : List Jvm.Cond) (a1 : Addr) (x0 : UInt64) (h0 : Heap) (n0 : Nat) (Z0 : n0 ≤ h0.size) (F_0 : Fld Z h0 a1 "com/example/trunkwright/trunkwright/planning/CostRates" "switchCost" "D" (.double x0)) :
    Ct l Z (⟨"com/example/trunkwright/trunkwright/planning/CostRates", "switchCost", "()D"⟩ : MethodName) prog_10_method_3_code 1 (some .double) ws ({ frames := 0, cells := 0, slots := 0, locals := 0 } : Room) #[.ref a1] h0 (fun v h L => v = some (.double x0) ∧ Fr n0 L ∧ h = h0) := by
  refine Ct.intro pn_4 #[.val (.ref a1)] (fun _ => by first | (simp [entryFrame, mkF, argsToLocals, Value.category, maxLocals]; done) | rfl) ?_
  intro p e s m below meth c T0 X0 hx hZ hby hml hown hnm hret hlk e0
  have N0 := Fr.nil n0
  refine s_aloadN X0 hx (hb hby d4_0) rfl rfl 1 rfl ?_
  obtain ⟨T24, X24, e24, st24⟩ := getF X0 hx hZ hown (host := "") (Or.inl (wd hw 13 _ rfl)) Via.refl e0 F_0 (g := (mkF m 1 #[.val (.ref a1)] [.ref a1])) rfl rfl (hb hby d4_1)
  refine Go.via st24 ?_
  show Go p e below _ (T24.setTop (mkF m 4 #[.val (.ref a1)] [.double x0]))
  exact retD X24 hx hlk hret (hb hby d4_4) e24 ⟨rfl, N0, rfl⟩ (by decide) (by decide)
theorem d3_0 : decode prog_10_method_4_code 0 = .ok (.aload_n 0, 1) := by decide +kernel
theorem d3_1 : decode prog_10_method_4_code 1 = .ok (.getfield 31, 3) := by decide +kernel
theorem d3_4 : decode prog_10_method_4_code 4 = .ok (.dreturn, 1) := by decide +kernel
theorem pd_3 : parseMethodDescriptor "()D" = some ⟨[], some .double⟩ := by decide +kernel
theorem pn_3 : plainFor (⟨"com/example/trunkwright/trunkwright/planning/CostRates", "ccsPerTrunk", "()D"⟩ : MethodName) = true := plainFor_of_name (by show plainName "com/example/trunkwright/trunkwright/planning/CostRates" = true; first | (simp [plainName, overriddenIn]; done) | decide +kernel)
set_option maxRecDepth 65536 in
set_option maxHeartbeats 40000000 in
theorem rm_ccsPerTrunk (l : Launch) (Z : State) (a0 : Array Value) (hw : ∀ d ∈ tables_1, d.before a0 Z = true) (ws : List Jvm.Cond) (a1 : Addr) (x0 : UInt64) (h0 : Heap) (n0 : Nat) (Z0 : n0 ≤ h0.size) (F_0 : Fld Z h0 a1 "com/example/trunkwright/trunkwright/planning/CostRates" "ccsPerTrunk" "D" (.double x0)) :
    Ct l Z (⟨"com/example/trunkwright/trunkwright/planning/CostRates", "ccsPerTrunk", "()D"⟩ : MethodName) prog_10_method_4_code 1 (some .double) ws ({ frames := 0, cells := 0, slots := 0, locals := 0 } : Room) #[.ref a1] h0 (fun v h L => v = some (.double x0) ∧ Fr n0 L ∧ h = h0) := by
  refine Ct.intro pn_3 #[.val (.ref a1)] (fun _ => by first | (simp [entryFrame, mkF, argsToLocals, Value.category, maxLocals]; done) | rfl) ?_
  intro p e s m below meth c T0 X0 hx hZ hby hml hown hnm hret hlk e0
  have N0 := Fr.nil n0
  refine s_aloadN X0 hx (hb hby d3_0) rfl rfl 1 rfl ?_
  obtain ⟨T25, X25, e25, st25⟩ := getF X0 hx hZ hown (host := "") (Or.inl (wd hw 15 _ rfl)) Via.refl e0 F_0 (g := (mkF m 1 #[.val (.ref a1)] [.ref a1])) rfl rfl (hb hby d3_1)
  refine Go.via st25 ?_
  show Go p e below _ (T25.setTop (mkF m 4 #[.val (.ref a1)] [.double x0]))
  exact retD X25 hx hlk hret (hb hby d3_4) e25 ⟨rfl, N0, rfl⟩ (by decide) (by decide)
theorem d2_0 : decode prog_26_method_3_code 0 = .ok (.ldc2_w 68, 3) := by decide +kernel
theorem d2_3 : decode prog_26_method_3_code 3 = .ok (.aload_n 0, 1) := by decide +kernel
theorem d2_4 : decode prog_26_method_3_code 4 = .ok (.invokevirtual 70, 3) := by decide +kernel
theorem d2_7 : decode prog_26_method_3_code 7 = .ok (.ddiv, 1) := by decide +kernel
theorem d2_8 : decode prog_26_method_3_code 8 = .ok (.aload_n 0, 1) := by decide +kernel
theorem d2_9 : decode prog_26_method_3_code 9 = .ok (.invokevirtual 73, 3) := by decide +kernel
theorem d2_12 : decode prog_26_method_3_code 12 = .ok (.aload_n 0, 1) := by decide +kernel
theorem d2_13 : decode prog_26_method_3_code 13 = .ok (.invokevirtual 9, 3) := by decide +kernel
theorem d2_16 : decode prog_26_method_3_code 16 = .ok (.ddiv, 1) := by decide +kernel
theorem d2_17 : decode prog_26_method_3_code 17 = .ok (.dadd, 1) := by decide +kernel
theorem d2_18 : decode prog_26_method_3_code 18 = .ok (.dreturn, 1) := by decide +kernel
theorem pd_2 : parseMethodDescriptor "(Lcom/example/trunkwright/trunkwright/planning/CostRates;)D" = some ⟨[.object "com/example/trunkwright/trunkwright/planning/CostRates"], some .double⟩ := by decide +kernel
theorem pn_2 : plainFor (⟨"com/example/trunkwright/trunkwright/planning/SizingLimits", "ccsCost", "(Lcom/example/trunkwright/trunkwright/planning/CostRates;)D"⟩ : MethodName) = true := plainFor_of_name (by show plainName "com/example/trunkwright/trunkwright/planning/SizingLimits" = true; first | (simp [plainName, overriddenIn]; done) | decide +kernel)
set_option maxRecDepth 65536 in
set_option maxHeartbeats 40000000 in
theorem rm_ccs (l : Launch) (Z : State) (a0 : Array Value) (hw : ∀ d ∈ tables_1, d.before a0 Z = true) (ws : List Jvm.Cond) (a1 : Addr) (x0 x1 x2 : UInt64) (h0 : Heap) (n0 : Nat) (Z0 : n0 ≤ h0.size) (E1 : Exa Z h0 a1 "com/example/trunkwright/trunkwright/planning/CostRates") (F_0 : Fld Z h0 a1 "com/example/trunkwright/trunkwright/planning/CostRates" "trunkCost" "D" (.double x0)) (F_1 : Fld Z h0 a1 "com/example/trunkwright/trunkwright/planning/CostRates" "switchCost" "D" (.double x1)) (F_2 : Fld Z h0 a1 "com/example/trunkwright/trunkwright/planning/CostRates" "ccsPerTrunk" "D" (.double x2)) (n1 : Jvm.Free.Fl.NoNaN64 (FP.ddiv (4611686018427387904 : UInt64) x2)) (n2 : Jvm.Free.Fl.NoNaN64 (FP.ddiv x1 x0)) (n3 : Jvm.Free.Fl.NoNaN64 (FP.dadd (FP.ddiv (4611686018427387904 : UInt64) x2) (FP.ddiv x1 x0))) :
    Ct l Z (⟨"com/example/trunkwright/trunkwright/planning/SizingLimits", "ccsCost", "(Lcom/example/trunkwright/trunkwright/planning/CostRates;)D"⟩ : MethodName) prog_26_method_3_code 1 (some .double) ws ({ frames := 1, cells := 0, slots := 0, locals := 16 } : Room) #[.ref a1] h0 (fun v h L => v = some (.double (FP.dadd (FP.ddiv (4611686018427387904 : UInt64) x2) (FP.ddiv x1 x0))) ∧ Fr n0 L ∧ h = h0) := by
  refine Ct.intro pn_2 #[.val (.ref a1)] (fun _ => by first | (simp [entryFrame, mkF, argsToLocals, Value.category, maxLocals]; done) | rfl) ?_
  intro p e s m below meth c T0 X0 hx hZ hby hml hown hnm hret hlk e0
  have N0 := Fr.nil n0
  refine s_ldc2D X0 hx (hb hby d2_0) hZ hown (wd hw 21 _ rfl) 3 rfl ?_
  refine s_aloadN X0 hx (hb hby d2_3) rfl rfl 4 rfl ?_
  obtain ⟨v26, T26, L26, X26, hQ26, st26⟩ := callVirt X0 hx hZ hown (wd hw 22 _ rfl) (wd hw 23 _ rfl) (wd hw 25 _ rfl) (wd hw 24 _ rfl) (wd hw 3 _ rfl) (wd hw 26 _ rfl) (by decide) (rm_ccsPerTrunk l Z a0 hw [] a1 x2 h0 n0 Z0 F_2) e0 a1 E1 (L := #[.val (.ref a1)]) (hb hby d2_4) (by rw [hml]; rfl) [] [.double (4611686018427387904 : UInt64)] rfl rfl pd_3 rfl 2 (by show 2 * 0 + _ ≤ _; exact Nat.le_of_eq rfl) (by decide) (by decide) (by decide) (by decide)
  obtain ⟨rfl, N26, hh26⟩ := hQ26
  have M26 := Fr.app N0 N26
  refine Go.via st26 ?_
  show Go p e below _ (T26.setTop (mkF m 7 #[.val (.ref a1)] [.double x2, .double (4611686018427387904 : UInt64)]))
  refine s_ddiv X26 hx (hb hby d2_7) (FP.ddiv (4611686018427387904 : UInt64) x2) rfl n1 8 rfl ?_
  refine s_aloadN X26 hx (hb hby d2_8) rfl rfl 9 rfl ?_
  obtain ⟨v27, T27, L27, X27, hQ27, st27⟩ := callVirt X26 hx hZ hown (wd hw 27 _ rfl) (wd hw 28 _ rfl) (wd hw 30 _ rfl) (wd hw 29 _ rfl) (wd hw 3 _ rfl) (wd hw 31 _ rfl) (by decide) (rm_switchCost l Z a0 hw [] a1 x1 h0 n0 Z0 F_1) hh26 a1 E1 (L := #[.val (.ref a1)]) (hb hby d2_9) (by rw [hml]; rfl) [] [.double (FP.ddiv (4611686018427387904 : UInt64) x2)] rfl rfl pd_4 rfl 2 (by show 2 * 0 + _ ≤ _; exact Nat.le_of_eq rfl) (by decide) (by decide) (by decide) (by decide)
  obtain ⟨rfl, N27, hh27⟩ := hQ27
  have M27 := Fr.app M26 N27
  refine Go.via st27 ?_
  show Go p e below _ (T27.setTop (mkF m 12 #[.val (.ref a1)] [.double x1, .double (FP.ddiv (4611686018427387904 : UInt64) x2)]))
  refine s_aloadN X27 hx (hb hby d2_12) rfl rfl 13 rfl ?_
  obtain ⟨v28, T28, L28, X28, hQ28, st28⟩ := callVirt X27 hx hZ hown (wd hw 32 _ rfl) (wd hw 33 _ rfl) (wd hw 35 _ rfl) (wd hw 34 _ rfl) (wd hw 3 _ rfl) (wd hw 36 _ rfl) (by decide) (rm_trunkCost l Z a0 hw [] a1 x0 h0 n0 Z0 F_0) hh27 a1 E1 (L := #[.val (.ref a1)]) (hb hby d2_13) (by rw [hml]; rfl) [] [.double x1, .double (FP.ddiv (4611686018427387904 : UInt64) x2)] rfl rfl pd_5 rfl 4 (by show 2 * 0 + _ ≤ _; exact Nat.le_of_eq rfl) (by decide) (by decide) (by decide) (by decide)
  obtain ⟨rfl, N28, hh28⟩ := hQ28
  have M28 := Fr.app M27 N28
  refine Go.via st28 ?_
  show Go p e below _ (T28.setTop (mkF m 16 #[.val (.ref a1)] [.double x0, .double x1, .double (FP.ddiv (4611686018427387904 : UInt64) x2)]))
  refine s_ddiv X28 hx (hb hby d2_16) (FP.ddiv x1 x0) rfl n2 17 rfl ?_
  refine s_dadd X28 hx (hb hby d2_17) (FP.dadd (FP.ddiv (4611686018427387904 : UInt64) x2) (FP.ddiv x1 x0)) rfl n3 18 rfl ?_
  exact retD X28 hx hlk hret (hb hby d2_18) hh28 ⟨rfl, M28, rfl⟩ (by decide) (by decide)
set_option maxRecDepth 65536 in
set_option maxHeartbeats 40000000 in
theorem rm_law (l : Launch) (Z : State) (a0 : Array Value) (hw : ∀ d ∈ tables_1, d.before a0 Z = true) (ws : List Jvm.Cond) (i0 i1 : Int32) (h0 : Heap) (n0 : Nat) (Z0 : n0 ≤ h0.size)  :
    Ct l Z x code maxLocals ret ws room_1 #[.int i0, .int i1] h0 (fun v h L => v = some (.int 1) ∧ Fr n0 L) := by
  refine Ct.intro pn_law #[.val (.int i0), .val (.int i1), .unset, .unset, .unset, .unset, .unset, .unset, .unset, .unset, .unset, .unset, .unset, .unset, .unset, .unset, .unset, .unset, .unset, .unset, .unset, .unset] (fun _ => by first | (simp [entryFrame, mkF, argsToLocals, Value.category, maxLocals]; done) | rfl) ?_
  intro p e s m below meth c T0 X0 hx hZ hby hml hown hnm hret hlk e0
  have N0 := Fr.nil n0
  refine s_iloadN X0 hx (hb hby at_0) rfl 1 rfl ?_
  refine s_ldcI X0 hx (hb hby at_1) hZ hown (wd hw 0 _ rfl) 3 rfl ?_
  refine s_iand X0 hx (hb hby at_3) (i0 &&& (2147483647 : Int32)) rfl 4 rfl ?_
  obtain ⟨kk, h_kk⟩ : ∃ v, v = (i0 &&& (2147483647 : Int32)) := ⟨_, rfl⟩
  refine s_istoreN X0 hx (hb hby at_4) #[.val (.int i0), .val (.int i1), .val (.int kk), .unset, .unset, .unset, .unset, .unset, .unset, .unset, .unset, .unset, .unset, .unset, .unset, .unset, .unset, .unset, .unset, .unset, .unset, .unset] (by rw [h_kk]; rfl) 5 rfl ?_
  refine s_iloadN X0 hx (hb hby at_5) rfl 6 rfl ?_
  refine s_bipush X0 hx (hb hby at_6) (7 : Int32) rfl 8 rfl ?_
  refine s_iand X0 hx (hb hby at_8) (i1 &&& (7 : Int32)) rfl 9 rfl ?_
  obtain ⟨a1, h_a1⟩ : ∃ v, v = (i1 &&& (7 : Int32)) := ⟨_, rfl⟩
  refine s_istoreN X0 hx (hb hby at_9) #[.val (.int i0), .val (.int i1), .val (.int kk), .val (.int a1), .unset, .unset, .unset, .unset, .unset, .unset, .unset, .unset, .unset, .unset, .unset, .unset, .unset, .unset, .unset, .unset, .unset, .unset] (by rw [h_a1]; rfl) 10 rfl ?_
  refine s_iloadN X0 hx (hb hby at_10) rfl 11 rfl ?_
  refine s_iconst X0 hx (hb hby at_11) (3 : Int32) rfl 12 rfl ?_
  refine s_iushr X0 hx (hb hby at_12) (XT.ushr i1 (3 : Int32)) rfl 13 rfl ?_
  refine s_bipush X0 hx (hb hby at_13) (7 : Int32) rfl 15 rfl ?_
  refine s_iand X0 hx (hb hby at_15) ((XT.ushr i1 (3 : Int32)) &&& (7 : Int32)) rfl 16 rfl ?_
  obtain ⟨b1, h_b1⟩ : ∃ v, v = ((XT.ushr i1 (3 : Int32)) &&& (7 : Int32)) := ⟨_, rfl⟩
  refine s_istore X0 hx (hb hby at_16) #[.val (.int i0), .val (.int i1), .val (.int kk), .val (.int a1), .val (.int b1), .unset, .unset, .unset, .unset, .unset, .unset, .unset, .unset, .unset, .unset, .unset, .unset, .unset, .unset, .unset, .unset, .unset] (by rw [h_b1]; rfl) 18 rfl ?_
  obtain ⟨na, hna⟩ := own_m8 i1
  rw [← h_a1] at hna
  obtain ⟨nb, hnb⟩ := own_m8 (XT.ushr i1 (3 : Int32))
  rw [← h_b1] at hnb
  have hk := own_k i0
  rw [← h_kk] at hk
  refine s_iloadN X0 hx (hb hby at_18) rfl 19 rfl ?_
  refine s_bipush X0 hx (hb hby at_19) (6 : Int32) rfl 21 rfl ?_
  refine s_iushr X0 hx (hb hby at_21) (XT.ushr i1 (6 : Int32)) rfl 22 rfl ?_
  refine s_iconst X0 hx (hb hby at_22) (1 : Int32) rfl 23 rfl ?_
  refine s_iand X0 hx (hb hby at_23) ((XT.ushr i1 (6 : Int32)) &&& (1 : Int32)) rfl 24 rfl ?_
  by_cases hmi : ((XT.ushr i1 (6 : Int32)) &&& (1 : Int32)) = 0
  · skip
    refine s_ifY X0 hx (hb hby at_24) (XT.i0_eq_t hmi) 31 (by decide) (by decide) ?_
    refine s_iconst X0 hx (hb hby at_31) (0 : Int32) rfl 32 rfl ?_
    refine s_istore X0 hx (hb hby at_32) #[.val (.int i0), .val (.int i1), .val (.int kk), .val (.int a1), .val (.int b1), .val (.int (0 : Int32)), .unset, .unset, .unset, .unset, .unset, .unset, .unset, .unset, .unset, .unset, .unset, .unset, .unset, .unset, .unset, .unset] rfl 34 rfl ?_
    refine s_iloadN X0 hx (hb hby at_34) rfl 35 rfl ?_
    refine s_bipush X0 hx (hb hby at_35) (7 : Int32) rfl 37 rfl ?_
    refine s_iushr X0 hx (hb hby at_37) (XT.ushr i1 (7 : Int32)) rfl 38 rfl ?_
    refine s_iconst X0 hx (hb hby at_38) (1 : Int32) rfl 39 rfl ?_
    refine s_iand X0 hx (hb hby at_39) ((XT.ushr i1 (7 : Int32)) &&& (1 : Int32)) rfl 40 rfl ?_
    by_cases hci : ((XT.ushr i1 (7 : Int32)) &&& (1 : Int32)) = 0
    · skip
      refine s_ifY X0 hx (hb hby at_40) (XT.i0_eq_t hci) 47 (by decide) (by decide) ?_
      refine s_iconst X0 hx (hb hby at_47) (0 : Int32) rfl 48 rfl ?_
      refine s_istore X0 hx (hb hby at_48) #[.val (.int i0), .val (.int i1), .val (.int kk), .val (.int a1), .val (.int b1), .val (.int (0 : Int32)), .val (.int (0 : Int32)), .unset, .unset, .unset, .unset, .unset, .unset, .unset, .unset, .unset, .unset, .unset, .unset, .unset, .unset, .unset] rfl 50 rfl ?_
      refine s_iload X0 hx (hb hby at_50) rfl 52 rfl ?_
      refine s_ifY X0 hx (hb hby at_52) (by decide) 64 (by decide) (by decide) ?_
      refine s_iconst X0 hx (hb hby at_64) (1 : Int32) rfl 65 rfl ?_
      refine s_iloadN X0 hx (hb hby at_65) rfl 66 rfl ?_
      obtain ⟨pa, h_pa⟩ : ∃ v, v = ((1 : Int32) <<< (a1 &&& 31)) := ⟨_, rfl⟩
      refine s_ishl X0 hx (hb hby at_66) pa h_pa.symm 67 rfl ?_
      have h_paN : pa.toInt = ((2 ^ na.val : Nat) : Int) := by rw [h_pa, hna]; exact own_p32 na
      refine s_i2d X0 hx (hb hby at_67) (FP.i2d pa) rfl 68 rfl ?_
      obtain ⟨mm, h_mm⟩ : ∃ v, v = (FP.i2d pa) := ⟨_, rfl⟩
      refine s_dstore X0 hx (hb hby at_68) #[.val (.int i0), .val (.int i1), .val (.int kk), .val (.int a1), .val (.int b1), .val (.int (0 : Int32)), .val (.int (0 : Int32)), .val (.double mm), .second, .unset, .unset, .unset, .unset, .unset, .unset, .unset, .unset, .unset, .unset, .unset, .unset, .unset] (by rw [h_mm]; rfl) 70 rfl ?_
      refine s_iload X0 hx (hb hby at_70) rfl 72 rfl ?_
      refine s_ifY X0 hx (hb hby at_72) (by decide) 85 (by decide) (by decide) ?_
      refine s_iconst X0 hx (hb hby at_85) (1 : Int32) rfl 86 rfl ?_
      refine s_iload X0 hx (hb hby at_86) rfl 88 rfl ?_
      obtain ⟨pb, h_pb⟩ : ∃ v, v = ((1 : Int32) <<< (b1 &&& 31)) := ⟨_, rfl⟩
      refine s_ishl X0 hx (hb hby at_88) pb h_pb.symm 89 rfl ?_
      have h_pbN : pb.toInt = ((2 ^ nb.val : Nat) : Int) := by rw [h_pb, hnb]; exact own_p32 nb
      refine s_i2d X0 hx (hb hby at_89) (FP.i2d pb) rfl 90 rfl ?_
      obtain ⟨cc, h_cc⟩ : ∃ v, v = (FP.i2d pb) := ⟨_, rfl⟩
      refine s_dstore X0 hx (hb hby at_90) #[.val (.int i0), .val (.int i1), .val (.int kk), .val (.int a1), .val (.int b1), .val (.int (0 : Int32)), .val (.int (0 : Int32)), .val (.double mm), .second, .val (.double cc), .second, .unset, .unset, .unset, .unset, .unset, .unset, .unset, .unset, .unset, .unset, .unset] (by rw [h_cc]; rfl) 92 rfl ?_
      refine s_iloadN X0 hx (hb hby at_92) rfl 93 rfl ?_
      refine s_i2d X0 hx (hb hby at_93) (FP.i2d kk) rfl 94 rfl ?_
      obtain ⟨ss, h_ss⟩ : ∃ v, v = (FP.i2d kk) := ⟨_, rfl⟩
      refine s_dstore X0 hx (hb hby at_94) #[.val (.int i0), .val (.int i1), .val (.int kk), .val (.int a1), .val (.int b1), .val (.int (0 : Int32)), .val (.int (0 : Int32)), .val (.double mm), .second, .val (.double cc), .second, .val (.double ss), .second, .unset, .unset, .unset, .unset, .unset, .unset, .unset, .unset, .unset] (by rw [h_ss]; rfl) 96 rfl ?_
      have hm : Dy ((2 ^ na.val : Nat) : Int) 0 mm := by rw [h_mm]; exact own_pl h_paN
      have hcc : Dy ((2 ^ nb.val : Nat) : Int) 0 cc := by rw [h_cc]; exact own_pl h_pbN
      have hss : Dy kk.toInt 0 ss := by rw [h_ss]; exact dy_i2d kk
      have hmp : (0 : Int) < ((2 ^ na.val : Nat) : Int) := own_ppos _
      have hcp : (0 : Int) < ((2 ^ nb.val : Nat) : Int) := own_ppos _
      have kc := own_ok hcc (Int.le_of_lt hcp)
      have ks := own_ok hss hk.1
      have km := own_pos hm hmp
      have dP := own_m0 na.isLt hm
      have dQ := own_c0 nb.isLt hk.1 hk.2 hss hcc
      have bP := own_pb (n := 8 - na.val) (by omega)
      have bQ := own_bd (k := kk.toInt) (n := 7 - nb.val) hk.1 hk.2 (by omega)
      obtain ⟨T29, h29, X29, e29, E29, A29, D29, -, st29⟩ := newO X0 hx hZ hown (wd hw 1 _ rfl) (wd hw 2 _ rfl) (wd hw 3 _ rfl) e0 (g := (mkF m 96 #[.val (.int i0), .val (.int i1), .val (.int kk), .val (.int a1), .val (.int b1), .val (.int (0 : Int32)), .val (.int (0 : Int32)), .val (.double mm), .second, .val (.double cc), .second, .val (.double ss), .second, .unset, .unset, .unset, .unset, .unset, .unset, .unset, .unset, .unset] [])) rfl (hb hby at_96) (by decide) (by decide)
      obtain ⟨a29, g29⟩ : ∃ z, z = h0.size := ⟨_, rfl⟩
      rw [← g29] at A29 D29 st29
      have q30 : n0 ≤ a29 := by rw [g29]; exact Z0
      have Z31 := Nat.le_trans Z0 E29.1
      have F32 : Fld Z h29 a29 "com/example/trunkwright/trunkwright/planning/CostRates" "trunkCost" "D" (.double (0 : UInt64)) := D29 (Or.inr (wd hw 12 _ rfl)) (ty := .double) (by decide)
      have F33 : Fld Z h29 a29 "com/example/trunkwright/trunkwright/planning/CostRates" "switchCost" "D" (.double (0 : UInt64)) := D29 (Or.inr (wd hw 14 _ rfl)) (ty := .double) (by decide)
      have F34 : Fld Z h29 a29 "com/example/trunkwright/trunkwright/planning/CostRates" "ccsPerTrunk" "D" (.double (0 : UInt64)) := D29 (Or.inr (wd hw 16 _ rfl)) (ty := .double) (by decide)
      refine Go.via st29 ?_
      show Go p e below _ (T29.setTop (mkF m 99 #[.val (.int i0), .val (.int i1), .val (.int kk), .val (.int a1), .val (.int b1), .val (.int (0 : Int32)), .val (.int (0 : Int32)), .val (.double mm), .second, .val (.double cc), .second, .val (.double ss), .second, .unset, .unset, .unset, .unset, .unset, .unset, .unset, .unset, .unset] [.ref a29]))
      refine s_dup X29 hx (hb hby at_99) rfl 100 rfl ?_
      refine s_dload X29 hx (hb hby at_100) rfl 102 rfl ?_
      refine s_dload X29 hx (hb hby at_102) rfl 104 rfl ?_
      refine s_dload X29 hx (hb hby at_104) rfl 106 rfl ?_
      obtain ⟨v35, T35, L35, X35, hQ35, st35⟩ := callInit X29 hx hZ hown rfl (wd hw 4 _ rfl) (wd hw 5 _ rfl) (wd hw 3 _ rfl) (wd hw 6 _ rfl) (by decide) (rm_init l Z a0 hw [] a29 cc ss mm h29 n0 Z31 A29 q30 F32 F33 F34 kc ks ⟨km, (own_ok hm (Int.le_of_lt hmp)).2⟩) e29 (L := #[.val (.int i0), .val (.int i1), .val (.int kk), .val (.int a1), .val (.int b1), .val (.int (0 : Int32)), .val (.int (0 : Int32)), .val (.double mm), .second, .val (.double cc), .second, .val (.double ss), .second, .unset, .unset, .unset, .unset, .unset, .unset, .unset, .unset, .unset]) (hb hby at_106) (by rw [hml]; rfl) a29 [.double cc, .double ss, .double mm] [.ref a29] rfl rfl pd_0 rfl 1 (by show 2 * 0 + _ ≤ _; exact Nat.le_of_eq rfl) (by decide) (by decide) (by decide) (by decide)
      obtain ⟨rfl, N35, K35, G35_0, G35_1, G35_2⟩ := hQ35
      have M35 := Fr.app N0 N35
      have F36 := A29.keep K35
      have Z37 := Nat.le_trans Z31 K35.1
      have e35 : T35.heap = T35.heap := rfl
      refine Go.via st35 ?_
      show Go p e below _ (T35.setTop (mkF m 109 #[.val (.int i0), .val (.int i1), .val (.int kk), .val (.int a1), .val (.int b1), .val (.int (0 : Int32)), .val (.int (0 : Int32)), .val (.double mm), .second, .val (.double cc), .second, .val (.double ss), .second, .unset, .unset, .unset, .unset, .unset, .unset, .unset, .unset, .unset] [.ref a29]))
      refine s_astore X35 hx (hb hby at_109) rfl #[.val (.int i0), .val (.int i1), .val (.int kk), .val (.int a1), .val (.int b1), .val (.int (0 : Int32)), .val (.int (0 : Int32)), .val (.double mm), .second, .val (.double cc), .second, .val (.double ss), .second, .val (.ref a29), .unset, .unset, .unset, .unset, .unset, .unset, .unset, .unset] rfl 111 rfl ?_
      refine s_aload X35 hx (hb hby at_111) rfl rfl 113 rfl ?_
      obtain ⟨v38, T38, L38, X38, hQ38, st38⟩ := callStat X35 hx hZ hown (wd hw 17 _ rfl) (wd hw 18 _ rfl) (wd hw 19 _ rfl) (wd hw 20 _ rfl) (by decide) (rm_ccs l Z a0 hw [] a29 cc ss mm T35.heap n0 Z37 F36 G35_0 G35_1 G35_2 dP.nn dQ.nn (dy_add dP dQ (by omega) (by decide)).nn) e35 (L := #[.val (.int i0), .val (.int i1), .val (.int kk), .val (.int a1), .val (.int b1), .val (.int (0 : Int32)), .val (.int (0 : Int32)), .val (.double mm), .second, .val (.double cc), .second, .val (.double ss), .second, .val (.ref a29), .unset, .unset, .unset, .unset, .unset, .unset, .unset, .unset]) (hb hby at_113) (by rw [hml]; rfl) [.ref a29] [] rfl rfl pd_2 rfl 0 (by show 2 * 0 + _ ≤ _; exact Nat.le_of_eq rfl) (by decide) (by decide) (by decide) (by decide)
      obtain ⟨rfl, N38, hh38⟩ := hQ38
      have M38 := Fr.app M35 N38
      refine Go.via st38 ?_
      show Go p e below _ (T38.setTop (mkF m 116 #[.val (.int i0), .val (.int i1), .val (.int kk), .val (.int a1), .val (.int b1), .val (.int (0 : Int32)), .val (.int (0 : Int32)), .val (.double mm), .second, .val (.double cc), .second, .val (.double ss), .second, .val (.ref a29), .unset, .unset, .unset, .unset, .unset, .unset, .unset, .unset] [.double (FP.dadd (FP.ddiv (4611686018427387904 : UInt64) mm) (FP.ddiv ss cc))]))
      refine s_dstore X38 hx (hb hby at_116) #[.val (.int i0), .val (.int i1), .val (.int kk), .val (.int a1), .val (.int b1), .val (.int (0 : Int32)), .val (.int (0 : Int32)), .val (.double mm), .second, .val (.double cc), .second, .val (.double ss), .second, .val (.ref a29), .val (.double (FP.dadd (FP.ddiv (4611686018427387904 : UInt64) mm) (FP.ddiv ss cc))), .second, .unset, .unset, .unset, .unset, .unset, .unset] rfl 118 rfl ?_
      refine s_iload X38 hx (hb hby at_118) rfl 120 rfl ?_
      refine s_ifY X38 hx (hb hby at_120) (by decide) 132 (by decide) (by decide) ?_
      refine s_lconst X38 hx (hb hby at_132) (1 : Int64) rfl 133 rfl ?_
      refine s_bipush X38 hx (hb hby at_133) (8 : Int32) rfl 135 rfl ?_
      refine s_iloadN X38 hx (hb hby at_135) rfl 136 rfl ?_
      refine s_isub X38 hx (hb hby at_136) ((8 : Int32) - a1) rfl 137 rfl ?_
      refine s_lshl X38 hx (hb hby at_137) ((1 : Int64) <<< (((8 : Int32) - a1) &&& 0x3f).toInt64) rfl 138 rfl ?_
      obtain ⟨tt, h_tt⟩ : ∃ v, v = ((1 : Int64) <<< (((8 : Int32) - a1) &&& 0x3f).toInt64) := ⟨_, rfl⟩
      refine s_lstore X38 hx (hb hby at_138) #[.val (.int i0), .val (.int i1), .val (.int kk), .val (.int a1), .val (.int b1), .val (.int (0 : Int32)), .val (.int (0 : Int32)), .val (.double mm), .second, .val (.double cc), .second, .val (.double ss), .second, .val (.ref a29), .val (.double (FP.dadd (FP.ddiv (4611686018427387904 : UInt64) mm) (FP.ddiv ss cc))), .second, .val (.long tt), .second, .unset, .unset, .unset, .unset] (by rw [h_tt]; rfl) 140 rfl ?_
      refine s_iload X38 hx (hb hby at_140) rfl 142 rfl ?_
      refine s_ifY X38 hx (hb hby at_142) (by decide) 156 (by decide) (by decide) ?_
      refine s_iloadN X38 hx (hb hby at_156) rfl 157 rfl ?_
      refine s_i2l X38 hx (hb hby at_157) kk.toInt64 rfl 158 rfl ?_
      refine s_bipush X38 hx (hb hby at_158) (7 : Int32) rfl 160 rfl ?_
      refine s_iload X38 hx (hb hby at_160) rfl 162 rfl ?_
      refine s_isub X38 hx (hb hby at_162) ((7 : Int32) - b1) rfl 163 rfl ?_
      refine s_lshl X38 hx (hb hby at_163) (kk.toInt64 <<< (((7 : Int32) - b1) &&& 0x3f).toInt64) rfl 164 rfl ?_
      obtain ⟨uu, h_uu⟩ : ∃ v, v = (kk.toInt64 <<< (((7 : Int32) - b1) &&& 0x3f).toInt64) := ⟨_, rfl⟩
      refine s_lstore X38 hx (hb hby at_164) #[.val (.int i0), .val (.int i1), .val (.int kk), .val (.int a1), .val (.int b1), .val (.int (0 : Int32)), .val (.int (0 : Int32)), .val (.double mm), .second, .val (.double cc), .second, .val (.double ss), .second, .val (.ref a29), .val (.double (FP.dadd (FP.ddiv (4611686018427387904 : UInt64) mm) (FP.ddiv ss cc))), .second, .val (.long tt), .second, .val (.long uu), .second, .unset, .unset] (by rw [h_uu]; rfl) 166 rfl ?_
      refine s_lload X38 hx (hb hby at_166) rfl 168 rfl ?_
      refine s_lload X38 hx (hb hby at_168) rfl 170 rfl ?_
      refine s_ladd X38 hx (hb hby at_170) (tt + uu) rfl 171 rfl ?_
      obtain ⟨ee, h_ee⟩ : ∃ v, v = (tt + uu) := ⟨_, rfl⟩
      refine s_lstore X38 hx (hb hby at_171) #[.val (.int i0), .val (.int i1), .val (.int kk), .val (.int a1), .val (.int b1), .val (.int (0 : Int32)), .val (.int (0 : Int32)), .val (.double mm), .second, .val (.double cc), .second, .val (.double ss), .second, .val (.ref a29), .val (.double (FP.dadd (FP.ddiv (4611686018427387904 : UInt64) mm) (FP.ddiv ss cc))), .second, .val (.long tt), .second, .val (.long uu), .second, .val (.long ee), .second] (by rw [h_ee]; rfl) 173 rfl ?_
      have ht : tt.toInt = ((2 ^ (8 - na.val) : Nat) : Int) := by rw [h_tt, hna]; exact own_dn na
      have hu : uu.toInt = kk.toInt * ((2 ^ (7 - nb.val) : Nat) : Int) := by rw [h_uu, hnb, own_kd kk.toInt64 (by rw [Int32.toInt_toInt64]; exact hk.1) (by rw [Int32.toInt_toInt64]; exact hk.2) nb, Int32.toInt_toInt64]
      have he : ee.toInt = tt.toInt + uu.toInt := by rw [h_ee]; exact Jvm.FP.Core.int64_add (by rw [ht, hu]; omega) (by rw [ht, hu]; omega)
      have hsum := own_sum bP bQ dP dQ (he.trans (by rw [ht, hu]))
      refine s_dload X38 hx (hb hby at_173) rfl 175 rfl ?_
      refine s_ldc2D X38 hx (hb hby at_175) hZ hown (wd hw 37 _ rfl) 178 rfl ?_
      refine s_dmul X38 hx (hb hby at_178) (FP.dmul (FP.dadd (FP.ddiv (4611686018427387904 : UInt64) mm) (FP.ddiv ss cc)) (4638707616191610880 : UInt64)) rfl hsum.2.1 179 rfl ?_
      refine s_lload X38 hx (hb hby at_179) rfl 181 rfl ?_
      refine s_l2d X38 hx (hb hby at_181) (FP.l2d ee) rfl 182 rfl ?_
      refine s_dcmp X38 hx (hb hby at_182) (0 : Int32) (by rw [show FP.dcmp (FP.dmul (FP.dadd (FP.ddiv (4611686018427387904 : UInt64) mm) (FP.ddiv ss cc)) (4638707616191610880 : UInt64)) (FP.l2d ee) = some .eq from hsum.2.2]; rfl) 183 rfl ?_
      refine s_ifN X38 hx (hb hby at_183) (by decide) 186 rfl ?_
      refine s_iconst X38 hx (hb hby at_186) (1 : Int32) rfl 187 rfl ?_
      refine s_goto X38 hx (hb hby at_187) 191 (by decide) (by decide) ?_
      exact retZ X38 hx hlk hret (hb hby at_191) (by decide) hh38 ⟨rfl, M38⟩ (by decide) (by decide)
    · skip
      refine s_ifN X0 hx (hb hby at_40) (XT.i0_eq_f hci) 43 rfl ?_
      refine s_iconst X0 hx (hb hby at_43) (1 : Int32) rfl 44 rfl ?_
      refine s_goto X0 hx (hb hby at_44) 48 (by decide) (by decide) ?_
      refine s_istore X0 hx (hb hby at_48) #[.val (.int i0), .val (.int i1), .val (.int kk), .val (.int a1), .val (.int b1), .val (.int (0 : Int32)), .val (.int (1 : Int32)), .unset, .unset, .unset, .unset, .unset, .unset, .unset, .unset, .unset, .unset, .unset, .unset, .unset, .unset, .unset] rfl 50 rfl ?_
      refine s_iload X0 hx (hb hby at_50) rfl 52 rfl ?_
      refine s_ifY X0 hx (hb hby at_52) (by decide) 64 (by decide) (by decide) ?_
      refine s_iconst X0 hx (hb hby at_64) (1 : Int32) rfl 65 rfl ?_
      refine s_iloadN X0 hx (hb hby at_65) rfl 66 rfl ?_
      obtain ⟨pa, h_pa⟩ : ∃ v, v = ((1 : Int32) <<< (a1 &&& 31)) := ⟨_, rfl⟩
      refine s_ishl X0 hx (hb hby at_66) pa h_pa.symm 67 rfl ?_
      have h_paN : pa.toInt = ((2 ^ na.val : Nat) : Int) := by rw [h_pa, hna]; exact own_p32 na
      refine s_i2d X0 hx (hb hby at_67) (FP.i2d pa) rfl 68 rfl ?_
      obtain ⟨mm, h_mm⟩ : ∃ v, v = (FP.i2d pa) := ⟨_, rfl⟩
      refine s_dstore X0 hx (hb hby at_68) #[.val (.int i0), .val (.int i1), .val (.int kk), .val (.int a1), .val (.int b1), .val (.int (0 : Int32)), .val (.int (1 : Int32)), .val (.double mm), .second, .unset, .unset, .unset, .unset, .unset, .unset, .unset, .unset, .unset, .unset, .unset, .unset, .unset] (by rw [h_mm]; rfl) 70 rfl ?_
      refine s_iload X0 hx (hb hby at_70) rfl 72 rfl ?_
      refine s_ifN X0 hx (hb hby at_72) (by decide) 75 rfl ?_
      refine s_dconst1 X0 hx (hb hby at_75) (4607182418800017408 : UInt64) rfl 76 rfl ?_
      refine s_iconst X0 hx (hb hby at_76) (1 : Int32) rfl 77 rfl ?_
      refine s_iload X0 hx (hb hby at_77) rfl 79 rfl ?_
      obtain ⟨pb, h_pb⟩ : ∃ v, v = ((1 : Int32) <<< (b1 &&& 31)) := ⟨_, rfl⟩
      refine s_ishl X0 hx (hb hby at_79) pb h_pb.symm 80 rfl ?_
      have h_pbN : pb.toInt = ((2 ^ nb.val : Nat) : Int) := by rw [h_pb, hnb]; exact own_p32 nb
      refine s_i2d X0 hx (hb hby at_80) (FP.i2d pb) rfl 81 rfl ?_
      refine s_ddiv X0 hx (hb hby at_81) (FP.ddiv (4607182418800017408 : UInt64) (FP.i2d pb)) rfl ((own_inv nb.isLt h_pbN).nn) 82 rfl ?_
      refine s_goto X0 hx (hb hby at_82) 90 (by decide) (by decide) ?_
      obtain ⟨cc, h_cc⟩ : ∃ v, v = (FP.ddiv (4607182418800017408 : UInt64) (FP.i2d pb)) := ⟨_, rfl⟩
      refine s_dstore X0 hx (hb hby at_90) #[.val (.int i0), .val (.int i1), .val (.int kk), .val (.int a1), .val (.int b1), .val (.int (0 : Int32)), .val (.int (1 : Int32)), .val (.double mm), .second, .val (.double cc), .second, .unset, .unset, .unset, .unset, .unset, .unset, .unset, .unset, .unset, .unset, .unset] (by rw [h_cc]; rfl) 92 rfl ?_
      refine s_iloadN X0 hx (hb hby at_92) rfl 93 rfl ?_
      refine s_i2d X0 hx (hb hby at_93) (FP.i2d kk) rfl 94 rfl ?_
      obtain ⟨ss, h_ss⟩ : ∃ v, v = (FP.i2d kk) := ⟨_, rfl⟩
      refine s_dstore X0 hx (hb hby at_94) #[.val (.int i0), .val (.int i1), .val (.int kk), .val (.int a1), .val (.int b1), .val (.int (0 : Int32)), .val (.int (1 : Int32)), .val (.double mm), .second, .val (.double cc), .second, .val (.double ss), .second, .unset, .unset, .unset, .unset, .unset, .unset, .unset, .unset, .unset] (by rw [h_ss]; rfl) 96 rfl ?_
      have hm : Dy ((2 ^ na.val : Nat) : Int) 0 mm := by rw [h_mm]; exact own_pl h_paN
      have hcc : Dy 1 nb.val cc := by rw [h_cc]; exact own_inv nb.isLt h_pbN
      have hss : Dy kk.toInt 0 ss := by rw [h_ss]; exact dy_i2d kk
      have hmp : (0 : Int) < ((2 ^ na.val : Nat) : Int) := own_ppos _
      have hcp : (0 : Int) < 1 := by decide
      have kc := own_ok hcc (Int.le_of_lt hcp)
      have ks := own_ok hss hk.1
      have km := own_pos hm hmp
      have dP := own_m0 na.isLt hm
      have dQ := own_c1 nb.isLt hk.1 hk.2 hss hcc
      have bP := own_pb (n := 8 - na.val) (by omega)
      have bQ := own_bd (k := kk.toInt) (n := nb.val + 7) hk.1 hk.2 (by omega)
      obtain ⟨T39, h39, X39, e39, E39, A39, D39, -, st39⟩ := newO X0 hx hZ hown (wd hw 1 _ rfl) (wd hw 2 _ rfl) (wd hw 3 _ rfl) e0 (g := (mkF m 96 #[.val (.int i0), .val (.int i1), .val (.int kk), .val (.int a1), .val (.int b1), .val (.int (0 : Int32)), .val (.int (1 : Int32)), .val (.double mm), .second, .val (.double cc), .second, .val (.double ss), .second, .unset, .unset, .unset, .unset, .unset, .unset, .unset, .unset, .unset] [])) rfl (hb hby at_96) (by decide) (by decide)
      obtain ⟨a39, g39⟩ : ∃ z, z = h0.size := ⟨_, rfl⟩
      rw [← g39] at A39 D39 st39
      have q40 : n0 ≤ a39 := by rw [g39]; exact Z0
      have Z41 := Nat.le_trans Z0 E39.1
      have F42 : Fld Z h39 a39 "com/example/trunkwright/trunkwright/planning/CostRates" "trunkCost" "D" (.double (0 : UInt64)) := D39 (Or.inr (wd hw 12 _ rfl)) (ty := .double) (by decide)
      have F43 : Fld Z h39 a39 "com/example/trunkwright/trunkwright/planning/CostRates" "switchCost" "D" (.double (0 : UInt64)) := D39 (Or.inr (wd hw 14 _ rfl)) (ty := .double) (by decide)
      have F44 : Fld Z h39 a39 "com/example/trunkwright/trunkwright/planning/CostRates" "ccsPerTrunk" "D" (.double (0 : UInt64)) := D39 (Or.inr (wd hw 16 _ rfl)) (ty := .double) (by decide)
      refine Go.via st39 ?_
      show Go p e below _ (T39.setTop (mkF m 99 #[.val (.int i0), .val (.int i1), .val (.int kk), .val (.int a1), .val (.int b1), .val (.int (0 : Int32)), .val (.int (1 : Int32)), .val (.double mm), .second, .val (.double cc), .second, .val (.double ss), .second, .unset, .unset, .unset, .unset, .unset, .unset, .unset, .unset, .unset] [.ref a39]))
      refine s_dup X39 hx (hb hby at_99) rfl 100 rfl ?_
      refine s_dload X39 hx (hb hby at_100) rfl 102 rfl ?_
      refine s_dload X39 hx (hb hby at_102) rfl 104 rfl ?_
      refine s_dload X39 hx (hb hby at_104) rfl 106 rfl ?_
      obtain ⟨v45, T45, L45, X45, hQ45, st45⟩ := callInit X39 hx hZ hown rfl (wd hw 4 _ rfl) (wd hw 5 _ rfl) (wd hw 3 _ rfl) (wd hw 6 _ rfl) (by decide) (rm_init l Z a0 hw [] a39 cc ss mm h39 n0 Z41 A39 q40 F42 F43 F44 kc ks ⟨km, (own_ok hm (Int.le_of_lt hmp)).2⟩) e39 (L := #[.val (.int i0), .val (.int i1), .val (.int kk), .val (.int a1), .val (.int b1), .val (.int (0 : Int32)), .val (.int (1 : Int32)), .val (.double mm), .second, .val (.double cc), .second, .val (.double ss), .second, .unset, .unset, .unset, .unset, .unset, .unset, .unset, .unset, .unset]) (hb hby at_106) (by rw [hml]; rfl) a39 [.double cc, .double ss, .double mm] [.ref a39] rfl rfl pd_0 rfl 1 (by show 2 * 0 + _ ≤ _; exact Nat.le_of_eq rfl) (by decide) (by decide) (by decide) (by decide)
      obtain ⟨rfl, N45, K45, G45_0, G45_1, G45_2⟩ := hQ45
      have M45 := Fr.app N0 N45
      have F46 := A39.keep K45
      have Z47 := Nat.le_trans Z41 K45.1
      have e45 : T45.heap = T45.heap := rfl
      refine Go.via st45 ?_
      show Go p e below _ (T45.setTop (mkF m 109 #[.val (.int i0), .val (.int i1), .val (.int kk), .val (.int a1), .val (.int b1), .val (.int (0 : Int32)), .val (.int (1 : Int32)), .val (.double mm), .second, .val (.double cc), .second, .val (.double ss), .second, .unset, .unset, .unset, .unset, .unset, .unset, .unset, .unset, .unset] [.ref a39]))
      refine s_astore X45 hx (hb hby at_109) rfl #[.val (.int i0), .val (.int i1), .val (.int kk), .val (.int a1), .val (.int b1), .val (.int (0 : Int32)), .val (.int (1 : Int32)), .val (.double mm), .second, .val (.double cc), .second, .val (.double ss), .second, .val (.ref a39), .unset, .unset, .unset, .unset, .unset, .unset, .unset, .unset] rfl 111 rfl ?_
      refine s_aload X45 hx (hb hby at_111) rfl rfl 113 rfl ?_
      obtain ⟨v48, T48, L48, X48, hQ48, st48⟩ := callStat X45 hx hZ hown (wd hw 17 _ rfl) (wd hw 18 _ rfl) (wd hw 19 _ rfl) (wd hw 20 _ rfl) (by decide) (rm_ccs l Z a0 hw [] a39 cc ss mm T45.heap n0 Z47 F46 G45_0 G45_1 G45_2 dP.nn dQ.nn (dy_add dP dQ (by omega) (by decide)).nn) e45 (L := #[.val (.int i0), .val (.int i1), .val (.int kk), .val (.int a1), .val (.int b1), .val (.int (0 : Int32)), .val (.int (1 : Int32)), .val (.double mm), .second, .val (.double cc), .second, .val (.double ss), .second, .val (.ref a39), .unset, .unset, .unset, .unset, .unset, .unset, .unset, .unset]) (hb hby at_113) (by rw [hml]; rfl) [.ref a39] [] rfl rfl pd_2 rfl 0 (by show 2 * 0 + _ ≤ _; exact Nat.le_of_eq rfl) (by decide) (by decide) (by decide) (by decide)
      obtain ⟨rfl, N48, hh48⟩ := hQ48
      have M48 := Fr.app M45 N48
      refine Go.via st48 ?_
      show Go p e below _ (T48.setTop (mkF m 116 #[.val (.int i0), .val (.int i1), .val (.int kk), .val (.int a1), .val (.int b1), .val (.int (0 : Int32)), .val (.int (1 : Int32)), .val (.double mm), .second, .val (.double cc), .second, .val (.double ss), .second, .val (.ref a39), .unset, .unset, .unset, .unset, .unset, .unset, .unset, .unset] [.double (FP.dadd (FP.ddiv (4611686018427387904 : UInt64) mm) (FP.ddiv ss cc))]))
      refine s_dstore X48 hx (hb hby at_116) #[.val (.int i0), .val (.int i1), .val (.int kk), .val (.int a1), .val (.int b1), .val (.int (0 : Int32)), .val (.int (1 : Int32)), .val (.double mm), .second, .val (.double cc), .second, .val (.double ss), .second, .val (.ref a39), .val (.double (FP.dadd (FP.ddiv (4611686018427387904 : UInt64) mm) (FP.ddiv ss cc))), .second, .unset, .unset, .unset, .unset, .unset, .unset] rfl 118 rfl ?_
      refine s_iload X48 hx (hb hby at_118) rfl 120 rfl ?_
      refine s_ifY X48 hx (hb hby at_120) (by decide) 132 (by decide) (by decide) ?_
      refine s_lconst X48 hx (hb hby at_132) (1 : Int64) rfl 133 rfl ?_
      refine s_bipush X48 hx (hb hby at_133) (8 : Int32) rfl 135 rfl ?_
      refine s_iloadN X48 hx (hb hby at_135) rfl 136 rfl ?_
      refine s_isub X48 hx (hb hby at_136) ((8 : Int32) - a1) rfl 137 rfl ?_
      refine s_lshl X48 hx (hb hby at_137) ((1 : Int64) <<< (((8 : Int32) - a1) &&& 0x3f).toInt64) rfl 138 rfl ?_
      obtain ⟨tt, h_tt⟩ : ∃ v, v = ((1 : Int64) <<< (((8 : Int32) - a1) &&& 0x3f).toInt64) := ⟨_, rfl⟩
      refine s_lstore X48 hx (hb hby at_138) #[.val (.int i0), .val (.int i1), .val (.int kk), .val (.int a1), .val (.int b1), .val (.int (0 : Int32)), .val (.int (1 : Int32)), .val (.double mm), .second, .val (.double cc), .second, .val (.double ss), .second, .val (.ref a39), .val (.double (FP.dadd (FP.ddiv (4611686018427387904 : UInt64) mm) (FP.ddiv ss cc))), .second, .val (.long tt), .second, .unset, .unset, .unset, .unset] (by rw [h_tt]; rfl) 140 rfl ?_
      refine s_iload X48 hx (hb hby at_140) rfl 142 rfl ?_
      refine s_ifN X48 hx (hb hby at_142) (by decide) 145 rfl ?_
      refine s_iloadN X48 hx (hb hby at_145) rfl 146 rfl ?_
      refine s_i2l X48 hx (hb hby at_146) kk.toInt64 rfl 147 rfl ?_
      refine s_iload X48 hx (hb hby at_147) rfl 149 rfl ?_
      refine s_bipush X48 hx (hb hby at_149) (7 : Int32) rfl 151 rfl ?_
      refine s_iadd X48 hx (hb hby at_151) (b1 + (7 : Int32)) rfl 152 rfl ?_
      refine s_lshl X48 hx (hb hby at_152) (kk.toInt64 <<< ((b1 + (7 : Int32)) &&& 0x3f).toInt64) rfl 153 rfl ?_
      refine s_goto X48 hx (hb hby at_153) 164 (by decide) (by decide) ?_
      obtain ⟨uu, h_uu⟩ : ∃ v, v = (kk.toInt64 <<< ((b1 + (7 : Int32)) &&& 0x3f).toInt64) := ⟨_, rfl⟩
      refine s_lstore X48 hx (hb hby at_164) #[.val (.int i0), .val (.int i1), .val (.int kk), .val (.int a1), .val (.int b1), .val (.int (0 : Int32)), .val (.int (1 : Int32)), .val (.double mm), .second, .val (.double cc), .second, .val (.double ss), .second, .val (.ref a39), .val (.double (FP.dadd (FP.ddiv (4611686018427387904 : UInt64) mm) (FP.ddiv ss cc))), .second, .val (.long tt), .second, .val (.long uu), .second, .unset, .unset] (by rw [h_uu]; rfl) 166 rfl ?_
      refine s_lload X48 hx (hb hby at_166) rfl 168 rfl ?_
      refine s_lload X48 hx (hb hby at_168) rfl 170 rfl ?_
      refine s_ladd X48 hx (hb hby at_170) (tt + uu) rfl 171 rfl ?_
      obtain ⟨ee, h_ee⟩ : ∃ v, v = (tt + uu) := ⟨_, rfl⟩
      refine s_lstore X48 hx (hb hby at_171) #[.val (.int i0), .val (.int i1), .val (.int kk), .val (.int a1), .val (.int b1), .val (.int (0 : Int32)), .val (.int (1 : Int32)), .val (.double mm), .second, .val (.double cc), .second, .val (.double ss), .second, .val (.ref a39), .val (.double (FP.dadd (FP.ddiv (4611686018427387904 : UInt64) mm) (FP.ddiv ss cc))), .second, .val (.long tt), .second, .val (.long uu), .second, .val (.long ee), .second] (by rw [h_ee]; rfl) 173 rfl ?_
      have ht : tt.toInt = ((2 ^ (8 - na.val) : Nat) : Int) := by rw [h_tt, hna]; exact own_dn na
      have hu : uu.toInt = kk.toInt * ((2 ^ (nb.val + 7) : Nat) : Int) := by rw [h_uu, hnb, own_ku kk.toInt64 (by rw [Int32.toInt_toInt64]; exact hk.1) (by rw [Int32.toInt_toInt64]; exact hk.2) nb, Int32.toInt_toInt64]
      have he : ee.toInt = tt.toInt + uu.toInt := by rw [h_ee]; exact Jvm.FP.Core.int64_add (by rw [ht, hu]; omega) (by rw [ht, hu]; omega)
      have hsum := own_sum bP bQ dP dQ (he.trans (by rw [ht, hu]))
      refine s_dload X48 hx (hb hby at_173) rfl 175 rfl ?_
      refine s_ldc2D X48 hx (hb hby at_175) hZ hown (wd hw 37 _ rfl) 178 rfl ?_
      refine s_dmul X48 hx (hb hby at_178) (FP.dmul (FP.dadd (FP.ddiv (4611686018427387904 : UInt64) mm) (FP.ddiv ss cc)) (4638707616191610880 : UInt64)) rfl hsum.2.1 179 rfl ?_
      refine s_lload X48 hx (hb hby at_179) rfl 181 rfl ?_
      refine s_l2d X48 hx (hb hby at_181) (FP.l2d ee) rfl 182 rfl ?_
      refine s_dcmp X48 hx (hb hby at_182) (0 : Int32) (by rw [show FP.dcmp (FP.dmul (FP.dadd (FP.ddiv (4611686018427387904 : UInt64) mm) (FP.ddiv ss cc)) (4638707616191610880 : UInt64)) (FP.l2d ee) = some .eq from hsum.2.2]; rfl) 183 rfl ?_
      refine s_ifN X48 hx (hb hby at_183) (by decide) 186 rfl ?_
      refine s_iconst X48 hx (hb hby at_186) (1 : Int32) rfl 187 rfl ?_
      refine s_goto X48 hx (hb hby at_187) 191 (by decide) (by decide) ?_
      exact retZ X48 hx hlk hret (hb hby at_191) (by decide) hh48 ⟨rfl, M48⟩ (by decide) (by decide)
  · skip
    refine s_ifN X0 hx (hb hby at_24) (XT.i0_eq_f hmi) 27 rfl ?_
    refine s_iconst X0 hx (hb hby at_27) (1 : Int32) rfl 28 rfl ?_
    refine s_goto X0 hx (hb hby at_28) 32 (by decide) (by decide) ?_
    refine s_istore X0 hx (hb hby at_32) #[.val (.int i0), .val (.int i1), .val (.int kk), .val (.int a1), .val (.int b1), .val (.int (1 : Int32)), .unset, .unset, .unset, .unset, .unset, .unset, .unset, .unset, .unset, .unset, .unset, .unset, .unset, .unset, .unset, .unset] rfl 34 rfl ?_
    refine s_iloadN X0 hx (hb hby at_34) rfl 35 rfl ?_
    refine s_bipush X0 hx (hb hby at_35) (7 : Int32) rfl 37 rfl ?_
    refine s_iushr X0 hx (hb hby at_37) (XT.ushr i1 (7 : Int32)) rfl 38 rfl ?_
    refine s_iconst X0 hx (hb hby at_38) (1 : Int32) rfl 39 rfl ?_
    refine s_iand X0 hx (hb hby at_39) ((XT.ushr i1 (7 : Int32)) &&& (1 : Int32)) rfl 40 rfl ?_
    by_cases hci : ((XT.ushr i1 (7 : Int32)) &&& (1 : Int32)) = 0
    · skip
      refine s_ifY X0 hx (hb hby at_40) (XT.i0_eq_t hci) 47 (by decide) (by decide) ?_
      refine s_iconst X0 hx (hb hby at_47) (0 : Int32) rfl 48 rfl ?_
      refine s_istore X0 hx (hb hby at_48) #[.val (.int i0), .val (.int i1), .val (.int kk), .val (.int a1), .val (.int b1), .val (.int (1 : Int32)), .val (.int (0 : Int32)), .unset, .unset, .unset, .unset, .unset, .unset, .unset, .unset, .unset, .unset, .unset, .unset, .unset, .unset, .unset] rfl 50 rfl ?_
      refine s_iload X0 hx (hb hby at_50) rfl 52 rfl ?_
      refine s_ifN X0 hx (hb hby at_52) (by decide) 55 rfl ?_
      refine s_dconst1 X0 hx (hb hby at_55) (4607182418800017408 : UInt64) rfl 56 rfl ?_
      refine s_iconst X0 hx (hb hby at_56) (1 : Int32) rfl 57 rfl ?_
      refine s_iloadN X0 hx (hb hby at_57) rfl 58 rfl ?_
      obtain ⟨pa, h_pa⟩ : ∃ v, v = ((1 : Int32) <<< (a1 &&& 31)) := ⟨_, rfl⟩
      refine s_ishl X0 hx (hb hby at_58) pa h_pa.symm 59 rfl ?_
      have h_paN : pa.toInt = ((2 ^ na.val : Nat) : Int) := by rw [h_pa, hna]; exact own_p32 na
      refine s_i2d X0 hx (hb hby at_59) (FP.i2d pa) rfl 60 rfl ?_
      refine s_ddiv X0 hx (hb hby at_60) (FP.ddiv (4607182418800017408 : UInt64) (FP.i2d pa)) rfl ((own_inv na.isLt h_paN).nn) 61 rfl ?_
      refine s_goto X0 hx (hb hby at_61) 68 (by decide) (by decide) ?_
      obtain ⟨mm, h_mm⟩ : ∃ v, v = (FP.ddiv (4607182418800017408 : UInt64) (FP.i2d pa)) := ⟨_, rfl⟩
      refine s_dstore X0 hx (hb hby at_68) #[.val (.int i0), .val (.int i1), .val (.int kk), .val (.int a1), .val (.int b1), .val (.int (1 : Int32)), .val (.int (0 : Int32)), .val (.double mm), .second, .unset, .unset, .unset, .unset, .unset, .unset, .unset, .unset, .unset, .unset, .unset, .unset, .unset] (by rw [h_mm]; rfl) 70 rfl ?_
      refine s_iload X0 hx (hb hby at_70) rfl 72 rfl ?_
      refine s_ifY X0 hx (hb hby at_72) (by decide) 85 (by decide) (by decide) ?_
      refine s_iconst X0 hx (hb hby at_85) (1 : Int32) rfl 86 rfl ?_
      refine s_iload X0 hx (hb hby at_86) rfl 88 rfl ?_
      obtain ⟨pb, h_pb⟩ : ∃ v, v = ((1 : Int32) <<< (b1 &&& 31)) := ⟨_, rfl⟩
      refine s_ishl X0 hx (hb hby at_88) pb h_pb.symm 89 rfl ?_
      have h_pbN : pb.toInt = ((2 ^ nb.val : Nat) : Int) := by rw [h_pb, hnb]; exact own_p32 nb
      refine s_i2d X0 hx (hb hby at_89) (FP.i2d pb) rfl 90 rfl ?_
      obtain ⟨cc, h_cc⟩ : ∃ v, v = (FP.i2d pb) := ⟨_, rfl⟩
      refine s_dstore X0 hx (hb hby at_90) #[.val (.int i0), .val (.int i1), .val (.int kk), .val (.int a1), .val (.int b1), .val (.int (1 : Int32)), .val (.int (0 : Int32)), .val (.double mm), .second, .val (.double cc), .second, .unset, .unset, .unset, .unset, .unset, .unset, .unset, .unset, .unset, .unset, .unset] (by rw [h_cc]; rfl) 92 rfl ?_
      refine s_iloadN X0 hx (hb hby at_92) rfl 93 rfl ?_
      refine s_i2d X0 hx (hb hby at_93) (FP.i2d kk) rfl 94 rfl ?_
      obtain ⟨ss, h_ss⟩ : ∃ v, v = (FP.i2d kk) := ⟨_, rfl⟩
      refine s_dstore X0 hx (hb hby at_94) #[.val (.int i0), .val (.int i1), .val (.int kk), .val (.int a1), .val (.int b1), .val (.int (1 : Int32)), .val (.int (0 : Int32)), .val (.double mm), .second, .val (.double cc), .second, .val (.double ss), .second, .unset, .unset, .unset, .unset, .unset, .unset, .unset, .unset, .unset] (by rw [h_ss]; rfl) 96 rfl ?_
      have hm : Dy 1 na.val mm := by rw [h_mm]; exact own_inv na.isLt h_paN
      have hcc : Dy ((2 ^ nb.val : Nat) : Int) 0 cc := by rw [h_cc]; exact own_pl h_pbN
      have hss : Dy kk.toInt 0 ss := by rw [h_ss]; exact dy_i2d kk
      have hmp : (0 : Int) < 1 := by decide
      have hcp : (0 : Int) < ((2 ^ nb.val : Nat) : Int) := own_ppos _
      have kc := own_ok hcc (Int.le_of_lt hcp)
      have ks := own_ok hss hk.1
      have km := own_pos hm hmp
      have dP := own_m1 na.isLt hm
      have dQ := own_c0 nb.isLt hk.1 hk.2 hss hcc
      have bP := own_pb (n := na.val + 8) (by omega)
      have bQ := own_bd (k := kk.toInt) (n := 7 - nb.val) hk.1 hk.2 (by omega)
      obtain ⟨T49, h49, X49, e49, E49, A49, D49, -, st49⟩ := newO X0 hx hZ hown (wd hw 1 _ rfl) (wd hw 2 _ rfl) (wd hw 3 _ rfl) e0 (g := (mkF m 96 #[.val (.int i0), .val (.int i1), .val (.int kk), .val (.int a1), .val (.int b1), .val (.int (1 : Int32)), .val (.int (0 : Int32)), .val (.double mm), .second, .val (.double cc), .second, .val (.double ss), .second, .unset, .unset, .unset, .unset, .unset, .unset, .unset, .unset, .unset] [])) rfl (hb hby at_96) (by decide) (by decide)
      obtain ⟨a49, g49⟩ : ∃ z, z = h0.size := ⟨_, rfl⟩
      rw [← g49] at A49 D49 st49
      have q50 : n0 ≤ a49 := by rw [g49]; exact Z0
      have Z51 := Nat.le_trans Z0 E49.1
      have F52 : Fld Z h49 a49 "com/example/trunkwright/trunkwright/planning/CostRates" "trunkCost" "D" (.double (0 : UInt64)) := D49 (Or.inr (wd hw 12 _ rfl)) (ty := .double) (by decide)
      have F53 : Fld Z h49 a49 "com/example/trunkwright/trunkwright/planning/CostRates" "switchCost" "D" (.double (0 : UInt64)) := D49 (Or.inr (wd hw 14 _ rfl)) (ty := .double) (by decide)
      have F54 : Fld Z h49 a49 "com/example/trunkwright/trunkwright/planning/CostRates" "ccsPerTrunk" "D" (.double (0 : UInt64)) := D49 (Or.inr (wd hw 16 _ rfl)) (ty := .double) (by decide)
      refine Go.via st49 ?_
      show Go p e below _ (T49.setTop (mkF m 99 #[.val (.int i0), .val (.int i1), .val (.int kk), .val (.int a1), .val (.int b1), .val (.int (1 : Int32)), .val (.int (0 : Int32)), .val (.double mm), .second, .val (.double cc), .second, .val (.double ss), .second, .unset, .unset, .unset, .unset, .unset, .unset, .unset, .unset, .unset] [.ref a49]))
      refine s_dup X49 hx (hb hby at_99) rfl 100 rfl ?_
      refine s_dload X49 hx (hb hby at_100) rfl 102 rfl ?_
      refine s_dload X49 hx (hb hby at_102) rfl 104 rfl ?_
      refine s_dload X49 hx (hb hby at_104) rfl 106 rfl ?_
      obtain ⟨v55, T55, L55, X55, hQ55, st55⟩ := callInit X49 hx hZ hown rfl (wd hw 4 _ rfl) (wd hw 5 _ rfl) (wd hw 3 _ rfl) (wd hw 6 _ rfl) (by decide) (rm_init l Z a0 hw [] a49 cc ss mm h49 n0 Z51 A49 q50 F52 F53 F54 kc ks ⟨km, (own_ok hm (Int.le_of_lt hmp)).2⟩) e49 (L := #[.val (.int i0), .val (.int i1), .val (.int kk), .val (.int a1), .val (.int b1), .val (.int (1 : Int32)), .val (.int (0 : Int32)), .val (.double mm), .second, .val (.double cc), .second, .val (.double ss), .second, .unset, .unset, .unset, .unset, .unset, .unset, .unset, .unset, .unset]) (hb hby at_106) (by rw [hml]; rfl) a49 [.double cc, .double ss, .double mm] [.ref a49] rfl rfl pd_0 rfl 1 (by show 2 * 0 + _ ≤ _; exact Nat.le_of_eq rfl) (by decide) (by decide) (by decide) (by decide)
      obtain ⟨rfl, N55, K55, G55_0, G55_1, G55_2⟩ := hQ55
      have M55 := Fr.app N0 N55
      have F56 := A49.keep K55
      have Z57 := Nat.le_trans Z51 K55.1
      have e55 : T55.heap = T55.heap := rfl
      refine Go.via st55 ?_
      show Go p e below _ (T55.setTop (mkF m 109 #[.val (.int i0), .val (.int i1), .val (.int kk), .val (.int a1), .val (.int b1), .val (.int (1 : Int32)), .val (.int (0 : Int32)), .val (.double mm), .second, .val (.double cc), .second, .val (.double ss), .second, .unset, .unset, .unset, .unset, .unset, .unset, .unset, .unset, .unset] [.ref a49]))
      refine s_astore X55 hx (hb hby at_109) rfl #[.val (.int i0), .val (.int i1), .val (.int kk), .val (.int a1), .val (.int b1), .val (.int (1 : Int32)), .val (.int (0 : Int32)), .val (.double mm), .second, .val (.double cc), .second, .val (.double ss), .second, .val (.ref a49), .unset, .unset, .unset, .unset, .unset, .unset, .unset, .unset] rfl 111 rfl ?_
      refine s_aload X55 hx (hb hby at_111) rfl rfl 113 rfl ?_
      obtain ⟨v58, T58, L58, X58, hQ58, st58⟩ := callStat X55 hx hZ hown (wd hw 17 _ rfl) (wd hw 18 _ rfl) (wd hw 19 _ rfl) (wd hw 20 _ rfl) (by decide) (rm_ccs l Z a0 hw [] a49 cc ss mm T55.heap n0 Z57 F56 G55_0 G55_1 G55_2 dP.nn dQ.nn (dy_add dP dQ (by omega) (by decide)).nn) e55 (L := #[.val (.int i0), .val (.int i1), .val (.int kk), .val (.int a1), .val (.int b1), .val (.int (1 : Int32)), .val (.int (0 : Int32)), .val (.double mm), .second, .val (.double cc), .second, .val (.double ss), .second, .val (.ref a49), .unset, .unset, .unset, .unset, .unset, .unset, .unset, .unset]) (hb hby at_113) (by rw [hml]; rfl) [.ref a49] [] rfl rfl pd_2 rfl 0 (by show 2 * 0 + _ ≤ _; exact Nat.le_of_eq rfl) (by decide) (by decide) (by decide) (by decide)
      obtain ⟨rfl, N58, hh58⟩ := hQ58
      have M58 := Fr.app M55 N58
      refine Go.via st58 ?_
      show Go p e below _ (T58.setTop (mkF m 116 #[.val (.int i0), .val (.int i1), .val (.int kk), .val (.int a1), .val (.int b1), .val (.int (1 : Int32)), .val (.int (0 : Int32)), .val (.double mm), .second, .val (.double cc), .second, .val (.double ss), .second, .val (.ref a49), .unset, .unset, .unset, .unset, .unset, .unset, .unset, .unset] [.double (FP.dadd (FP.ddiv (4611686018427387904 : UInt64) mm) (FP.ddiv ss cc))]))
      refine s_dstore X58 hx (hb hby at_116) #[.val (.int i0), .val (.int i1), .val (.int kk), .val (.int a1), .val (.int b1), .val (.int (1 : Int32)), .val (.int (0 : Int32)), .val (.double mm), .second, .val (.double cc), .second, .val (.double ss), .second, .val (.ref a49), .val (.double (FP.dadd (FP.ddiv (4611686018427387904 : UInt64) mm) (FP.ddiv ss cc))), .second, .unset, .unset, .unset, .unset, .unset, .unset] rfl 118 rfl ?_
      refine s_iload X58 hx (hb hby at_118) rfl 120 rfl ?_
      refine s_ifN X58 hx (hb hby at_120) (by decide) 123 rfl ?_
      refine s_lconst X58 hx (hb hby at_123) (1 : Int64) rfl 124 rfl ?_
      refine s_iloadN X58 hx (hb hby at_124) rfl 125 rfl ?_
      refine s_bipush X58 hx (hb hby at_125) (8 : Int32) rfl 127 rfl ?_
      refine s_iadd X58 hx (hb hby at_127) (a1 + (8 : Int32)) rfl 128 rfl ?_
      refine s_lshl X58 hx (hb hby at_128) ((1 : Int64) <<< ((a1 + (8 : Int32)) &&& 0x3f).toInt64) rfl 129 rfl ?_
      refine s_goto X58 hx (hb hby at_129) 138 (by decide) (by decide) ?_
      obtain ⟨tt, h_tt⟩ : ∃ v, v = ((1 : Int64) <<< ((a1 + (8 : Int32)) &&& 0x3f).toInt64) := ⟨_, rfl⟩
      refine s_lstore X58 hx (hb hby at_138) #[.val (.int i0), .val (.int i1), .val (.int kk), .val (.int a1), .val (.int b1), .val (.int (1 : Int32)), .val (.int (0 : Int32)), .val (.double mm), .second, .val (.double cc), .second, .val (.double ss), .second, .val (.ref a49), .val (.double (FP.dadd (FP.ddiv (4611686018427387904 : UInt64) mm) (FP.ddiv ss cc))), .second, .val (.long tt), .second, .unset, .unset, .unset, .unset] (by rw [h_tt]; rfl) 140 rfl ?_
      refine s_iload X58 hx (hb hby at_140) rfl 142 rfl ?_
      refine s_ifY X58 hx (hb hby at_142) (by decide) 156 (by decide) (by decide) ?_
      refine s_iloadN X58 hx (hb hby at_156) rfl 157 rfl ?_
      refine s_i2l X58 hx (hb hby at_157) kk.toInt64 rfl 158 rfl ?_
      refine s_bipush X58 hx (hb hby at_158) (7 : Int32) rfl 160 rfl ?_
      refine s_iload X58 hx (hb hby at_160) rfl 162 rfl ?_
      refine s_isub X58 hx (hb hby at_162) ((7 : Int32) - b1) rfl 163 rfl ?_
      refine s_lshl X58 hx (hb hby at_163) (kk.toInt64 <<< (((7 : Int32) - b1) &&& 0x3f).toInt64) rfl 164 rfl ?_
      obtain ⟨uu, h_uu⟩ : ∃ v, v = (kk.toInt64 <<< (((7 : Int32) - b1) &&& 0x3f).toInt64) := ⟨_, rfl⟩
      refine s_lstore X58 hx (hb hby at_164) #[.val (.int i0), .val (.int i1), .val (.int kk), .val (.int a1), .val (.int b1), .val (.int (1 : Int32)), .val (.int (0 : Int32)), .val (.double mm), .second, .val (.double cc), .second, .val (.double ss), .second, .val (.ref a49), .val (.double (FP.dadd (FP.ddiv (4611686018427387904 : UInt64) mm) (FP.ddiv ss cc))), .second, .val (.long tt), .second, .val (.long uu), .second, .unset, .unset] (by rw [h_uu]; rfl) 166 rfl ?_
      refine s_lload X58 hx (hb hby at_166) rfl 168 rfl ?_
      refine s_lload X58 hx (hb hby at_168) rfl 170 rfl ?_
      refine s_ladd X58 hx (hb hby at_170) (tt + uu) rfl 171 rfl ?_
      obtain ⟨ee, h_ee⟩ : ∃ v, v = (tt + uu) := ⟨_, rfl⟩
      refine s_lstore X58 hx (hb hby at_171) #[.val (.int i0), .val (.int i1), .val (.int kk), .val (.int a1), .val (.int b1), .val (.int (1 : Int32)), .val (.int (0 : Int32)), .val (.double mm), .second, .val (.double cc), .second, .val (.double ss), .second, .val (.ref a49), .val (.double (FP.dadd (FP.ddiv (4611686018427387904 : UInt64) mm) (FP.ddiv ss cc))), .second, .val (.long tt), .second, .val (.long uu), .second, .val (.long ee), .second] (by rw [h_ee]; rfl) 173 rfl ?_
      have ht : tt.toInt = ((2 ^ (na.val + 8) : Nat) : Int) := by rw [h_tt, hna]; exact own_up na
      have hu : uu.toInt = kk.toInt * ((2 ^ (7 - nb.val) : Nat) : Int) := by rw [h_uu, hnb, own_kd kk.toInt64 (by rw [Int32.toInt_toInt64]; exact hk.1) (by rw [Int32.toInt_toInt64]; exact hk.2) nb, Int32.toInt_toInt64]
      have he : ee.toInt = tt.toInt + uu.toInt := by rw [h_ee]; exact Jvm.FP.Core.int64_add (by rw [ht, hu]; omega) (by rw [ht, hu]; omega)
      have hsum := own_sum bP bQ dP dQ (he.trans (by rw [ht, hu]))
      refine s_dload X58 hx (hb hby at_173) rfl 175 rfl ?_
      refine s_ldc2D X58 hx (hb hby at_175) hZ hown (wd hw 37 _ rfl) 178 rfl ?_
      refine s_dmul X58 hx (hb hby at_178) (FP.dmul (FP.dadd (FP.ddiv (4611686018427387904 : UInt64) mm) (FP.ddiv ss cc)) (4638707616191610880 : UInt64)) rfl hsum.2.1 179 rfl ?_
      refine s_lload X58 hx (hb hby at_179) rfl 181 rfl ?_
      refine s_l2d X58 hx (hb hby at_181) (FP.l2d ee) rfl 182 rfl ?_
      refine s_dcmp X58 hx (hb hby at_182) (0 : Int32) (by rw [show FP.dcmp (FP.dmul (FP.dadd (FP.ddiv (4611686018427387904 : UInt64) mm) (FP.ddiv ss cc)) (4638707616191610880 : UInt64)) (FP.l2d ee) = some .eq from hsum.2.2]; rfl) 183 rfl ?_
      refine s_ifN X58 hx (hb hby at_183) (by decide) 186 rfl ?_
      refine s_iconst X58 hx (hb hby at_186) (1 : Int32) rfl 187 rfl ?_
      refine s_goto X58 hx (hb hby at_187) 191 (by decide) (by decide) ?_
      exact retZ X58 hx hlk hret (hb hby at_191) (by decide) hh58 ⟨rfl, M58⟩ (by decide) (by decide)
    · skip
      refine s_ifN X0 hx (hb hby at_40) (XT.i0_eq_f hci) 43 rfl ?_
      refine s_iconst X0 hx (hb hby at_43) (1 : Int32) rfl 44 rfl ?_
      refine s_goto X0 hx (hb hby at_44) 48 (by decide) (by decide) ?_
      refine s_istore X0 hx (hb hby at_48) #[.val (.int i0), .val (.int i1), .val (.int kk), .val (.int a1), .val (.int b1), .val (.int (1 : Int32)), .val (.int (1 : Int32)), .unset, .unset, .unset, .unset, .unset, .unset, .unset, .unset, .unset, .unset, .unset, .unset, .unset, .unset, .unset] rfl 50 rfl ?_
      refine s_iload X0 hx (hb hby at_50) rfl 52 rfl ?_
      refine s_ifN X0 hx (hb hby at_52) (by decide) 55 rfl ?_
      refine s_dconst1 X0 hx (hb hby at_55) (4607182418800017408 : UInt64) rfl 56 rfl ?_
      refine s_iconst X0 hx (hb hby at_56) (1 : Int32) rfl 57 rfl ?_
      refine s_iloadN X0 hx (hb hby at_57) rfl 58 rfl ?_
      obtain ⟨pa, h_pa⟩ : ∃ v, v = ((1 : Int32) <<< (a1 &&& 31)) := ⟨_, rfl⟩
      refine s_ishl X0 hx (hb hby at_58) pa h_pa.symm 59 rfl ?_
      have h_paN : pa.toInt = ((2 ^ na.val : Nat) : Int) := by rw [h_pa, hna]; exact own_p32 na
      refine s_i2d X0 hx (hb hby at_59) (FP.i2d pa) rfl 60 rfl ?_
      refine s_ddiv X0 hx (hb hby at_60) (FP.ddiv (4607182418800017408 : UInt64) (FP.i2d pa)) rfl ((own_inv na.isLt h_paN).nn) 61 rfl ?_
      refine s_goto X0 hx (hb hby at_61) 68 (by decide) (by decide) ?_
      obtain ⟨mm, h_mm⟩ : ∃ v, v = (FP.ddiv (4607182418800017408 : UInt64) (FP.i2d pa)) := ⟨_, rfl⟩
      refine s_dstore X0 hx (hb hby at_68) #[.val (.int i0), .val (.int i1), .val (.int kk), .val (.int a1), .val (.int b1), .val (.int (1 : Int32)), .val (.int (1 : Int32)), .val (.double mm), .second, .unset, .unset, .unset, .unset, .unset, .unset, .unset, .unset, .unset, .unset, .unset, .unset, .unset] (by rw [h_mm]; rfl) 70 rfl ?_
      refine s_iload X0 hx (hb hby at_70) rfl 72 rfl ?_
      refine s_ifN X0 hx (hb hby at_72) (by decide) 75 rfl ?_
      refine s_dconst1 X0 hx (hb hby at_75) (4607182418800017408 : UInt64) rfl 76 rfl ?_
      refine s_iconst X0 hx (hb hby at_76) (1 : Int32) rfl 77 rfl ?_
      refine s_iload X0 hx (hb hby at_77) rfl 79 rfl ?_
      obtain ⟨pb, h_pb⟩ : ∃ v, v = ((1 : Int32) <<< (b1 &&& 31)) := ⟨_, rfl⟩
      refine s_ishl X0 hx (hb hby at_79) pb h_pb.symm 80 rfl ?_
      have h_pbN : pb.toInt = ((2 ^ nb.val : Nat) : Int) := by rw [h_pb, hnb]; exact own_p32 nb
      refine s_i2d X0 hx (hb hby at_80) (FP.i2d pb) rfl 81 rfl ?_
      refine s_ddiv X0 hx (hb hby at_81) (FP.ddiv (4607182418800017408 : UInt64) (FP.i2d pb)) rfl ((own_inv nb.isLt h_pbN).nn) 82 rfl ?_
      refine s_goto X0 hx (hb hby at_82) 90 (by decide) (by decide) ?_
      obtain ⟨cc, h_cc⟩ : ∃ v, v = (FP.ddiv (4607182418800017408 : UInt64) (FP.i2d pb)) := ⟨_, rfl⟩
      refine s_dstore X0 hx (hb hby at_90) #[.val (.int i0), .val (.int i1), .val (.int kk), .val (.int a1), .val (.int b1), .val (.int (1 : Int32)), .val (.int (1 : Int32)), .val (.double mm), .second, .val (.double cc), .second, .unset, .unset, .unset, .unset, .unset, .unset, .unset, .unset, .unset, .unset, .unset] (by rw [h_cc]; rfl) 92 rfl ?_
      refine s_iloadN X0 hx (hb hby at_92) rfl 93 rfl ?_
      refine s_i2d X0 hx (hb hby at_93) (FP.i2d kk) rfl 94 rfl ?_
      obtain ⟨ss, h_ss⟩ : ∃ v, v = (FP.i2d kk) := ⟨_, rfl⟩
      refine s_dstore X0 hx (hb hby at_94) #[.val (.int i0), .val (.int i1), .val (.int kk), .val (.int a1), .val (.int b1), .val (.int (1 : Int32)), .val (.int (1 : Int32)), .val (.double mm), .second, .val (.double cc), .second, .val (.double ss), .second, .unset, .unset, .unset, .unset, .unset, .unset, .unset, .unset, .unset] (by rw [h_ss]; rfl) 96 rfl ?_
      have hm : Dy 1 na.val mm := by rw [h_mm]; exact own_inv na.isLt h_paN
      have hcc : Dy 1 nb.val cc := by rw [h_cc]; exact own_inv nb.isLt h_pbN
      have hss : Dy kk.toInt 0 ss := by rw [h_ss]; exact dy_i2d kk
      have hmp : (0 : Int) < 1 := by decide
      have hcp : (0 : Int) < 1 := by decide
      have kc := own_ok hcc (Int.le_of_lt hcp)
      have ks := own_ok hss hk.1
      have km := own_pos hm hmp
      have dP := own_m1 na.isLt hm
      have dQ := own_c1 nb.isLt hk.1 hk.2 hss hcc
      have bP := own_pb (n := na.val + 8) (by omega)
      have bQ := own_bd (k := kk.toInt) (n := nb.val + 7) hk.1 hk.2 (by omega)
      obtain ⟨T59, h59, X59, e59, E59, A59, D59, -, st59⟩ := newO X0 hx hZ hown (wd hw 1 _ rfl) (wd hw 2 _ rfl) (wd hw 3 _ rfl) e0 (g := (mkF m 96 #[.val (.int i0), .val (.int i1), .val (.int kk), .val (.int a1), .val (.int b1), .val (.int (1 : Int32)), .val (.int (1 : Int32)), .val (.double mm), .second, .val (.double cc), .second, .val (.double ss), .second, .unset, .unset, .unset, .unset, .unset, .unset, .unset, .unset, .unset] [])) rfl (hb hby at_96) (by decide) (by decide)
      obtain ⟨a59, g59⟩ : ∃ z, z = h0.size := ⟨_, rfl⟩
      rw [← g59] at A59 D59 st59
      have q60 : n0 ≤ a59 := by rw [g59]; exact Z0
      have Z61 := Nat.le_trans Z0 E59.1
      have F62 : Fld Z h59 a59 "com/example/trunkwright/trunkwright/planning/CostRates" "trunkCost" "D" (.double (0 : UInt64)) := D59 (Or.inr (wd hw 12 _ rfl)) (ty := .double) (by decide)
      have F63 : Fld Z h59 a59 "com/example/trunkwright/trunkwright/planning/CostRates" "switchCost" "D" (.double (0 : UInt64)) := D59 (Or.inr (wd hw 14 _ rfl)) (ty := .double) (by decide)
      have F64 : Fld Z h59 a59 "com/example/trunkwright/trunkwright/planning/CostRates" "ccsPerTrunk" "D" (.double (0 : UInt64)) := D59 (Or.inr (wd hw 16 _ rfl)) (ty := .double) (by decide)
      refine Go.via st59 ?_
      show Go p e below _ (T59.setTop (mkF m 99 #[.val (.int i0), .val (.int i1), .val (.int kk), .val (.int a1), .val (.int b1), .val (.int (1 : Int32)), .val (.int (1 : Int32)), .val (.double mm), .second, .val (.double cc), .second, .val (.double ss), .second, .unset, .unset, .unset, .unset, .unset, .unset, .unset, .unset, .unset] [.ref a59]))
      refine s_dup X59 hx (hb hby at_99) rfl 100 rfl ?_
      refine s_dload X59 hx (hb hby at_100) rfl 102 rfl ?_
      refine s_dload X59 hx (hb hby at_102) rfl 104 rfl ?_
      refine s_dload X59 hx (hb hby at_104) rfl 106 rfl ?_
      obtain ⟨v65, T65, L65, X65, hQ65, st65⟩ := callInit X59 hx hZ hown rfl (wd hw 4 _ rfl) (wd hw 5 _ rfl) (wd hw 3 _ rfl) (wd hw 6 _ rfl) (by decide) (rm_init l Z a0 hw [] a59 cc ss mm h59 n0 Z61 A59 q60 F62 F63 F64 kc ks ⟨km, (own_ok hm (Int.le_of_lt hmp)).2⟩) e59 (L := #[.val (.int i0), .val (.int i1), .val (.int kk), .val (.int a1), .val (.int b1), .val (.int (1 : Int32)), .val (.int (1 : Int32)), .val (.double mm), .second, .val (.double cc), .second, .val (.double ss), .second, .unset, .unset, .unset, .unset, .unset, .unset, .unset, .unset, .unset]) (hb hby at_106) (by rw [hml]; rfl) a59 [.double cc, .double ss, .double mm] [.ref a59] rfl rfl pd_0 rfl 1 (by show 2 * 0 + _ ≤ _; exact Nat.le_of_eq rfl) (by decide) (by decide) (by decide) (by decide)
      obtain ⟨rfl, N65, K65, G65_0, G65_1, G65_2⟩ := hQ65
      have M65 := Fr.app N0 N65
      have F66 := A59.keep K65
      have Z67 := Nat.le_trans Z61 K65.1
      have e65 : T65.heap = T65.heap := rfl
      refine Go.via st65 ?_
      show Go p e below _ (T65.setTop (mkF m 109 #[.val (.int i0), .val (.int i1), .val (.int kk), .val (.int a1), .val (.int b1), .val (.int (1 : Int32)), .val (.int (1 : Int32)), .val (.double mm), .second, .val (.double cc), .second, .val (.double ss), .second, .unset, .unset, .unset, .unset, .unset, .unset, .unset, .unset, .unset] [.ref a59]))
      refine s_astore X65 hx (hb hby at_109) rfl #[.val (.int i0), .val (.int i1), .val (.int kk), .val (.int a1), .val (.int b1), .val (.int (1 : Int32)), .val (.int (1 : Int32)), .val (.double mm), .second, .val (.double cc), .second, .val (.double ss), .second, .val (.ref a59), .unset, .unset, .unset, .unset, .unset, .unset, .unset, .unset] rfl 111 rfl ?_
      refine s_aload X65 hx (hb hby at_111) rfl rfl 113 rfl ?_
      obtain ⟨v68, T68, L68, X68, hQ68, st68⟩ := callStat X65 hx hZ hown (wd hw 17 _ rfl) (wd hw 18 _ rfl) (wd hw 19 _ rfl) (wd hw 20 _ rfl) (by decide) (rm_ccs l Z a0 hw [] a59 cc ss mm T65.heap n0 Z67 F66 G65_0 G65_1 G65_2 dP.nn dQ.nn (dy_add dP dQ (by omega) (by decide)).nn) e65 (L := #[.val (.int i0), .val (.int i1), .val (.int kk), .val (.int a1), .val (.int b1), .val (.int (1 : Int32)), .val (.int (1 : Int32)), .val (.double mm), .second, .val (.double cc), .second, .val (.double ss), .second, .val (.ref a59), .unset, .unset, .unset, .unset, .unset, .unset, .unset, .unset]) (hb hby at_113) (by rw [hml]; rfl) [.ref a59] [] rfl rfl pd_2 rfl 0 (by show 2 * 0 + _ ≤ _; exact Nat.le_of_eq rfl) (by decide) (by decide) (by decide) (by decide)
      obtain ⟨rfl, N68, hh68⟩ := hQ68
      have M68 := Fr.app M65 N68
      refine Go.via st68 ?_
      show Go p e below _ (T68.setTop (mkF m 116 #[.val (.int i0), .val (.int i1), .val (.int kk), .val (.int a1), .val (.int b1), .val (.int (1 : Int32)), .val (.int (1 : Int32)), .val (.double mm), .second, .val (.double cc), .second, .val (.double ss), .second, .val (.ref a59), .unset, .unset, .unset, .unset, .unset, .unset, .unset, .unset] [.double (FP.dadd (FP.ddiv (4611686018427387904 : UInt64) mm) (FP.ddiv ss cc))]))
      refine s_dstore X68 hx (hb hby at_116) #[.val (.int i0), .val (.int i1), .val (.int kk), .val (.int a1), .val (.int b1), .val (.int (1 : Int32)), .val (.int (1 : Int32)), .val (.double mm), .second, .val (.double cc), .second, .val (.double ss), .second, .val (.ref a59), .val (.double (FP.dadd (FP.ddiv (4611686018427387904 : UInt64) mm) (FP.ddiv ss cc))), .second, .unset, .unset, .unset, .unset, .unset, .unset] rfl 118 rfl ?_
      refine s_iload X68 hx (hb hby at_118) rfl 120 rfl ?_
      refine s_ifN X68 hx (hb hby at_120) (by decide) 123 rfl ?_
      refine s_lconst X68 hx (hb hby at_123) (1 : Int64) rfl 124 rfl ?_
      refine s_iloadN X68 hx (hb hby at_124) rfl 125 rfl ?_
      refine s_bipush X68 hx (hb hby at_125) (8 : Int32) rfl 127 rfl ?_
      refine s_iadd X68 hx (hb hby at_127) (a1 + (8 : Int32)) rfl 128 rfl ?_
      refine s_lshl X68 hx (hb hby at_128) ((1 : Int64) <<< ((a1 + (8 : Int32)) &&& 0x3f).toInt64) rfl 129 rfl ?_
      refine s_goto X68 hx (hb hby at_129) 138 (by decide) (by decide) ?_
      obtain ⟨tt, h_tt⟩ : ∃ v, v = ((1 : Int64) <<< ((a1 + (8 : Int32)) &&& 0x3f).toInt64) := ⟨_, rfl⟩
      refine s_lstore X68 hx (hb hby at_138) #[.val (.int i0), .val (.int i1), .val (.int kk), .val (.int a1), .val (.int b1), .val (.int (1 : Int32)), .val (.int (1 : Int32)), .val (.double mm), .second, .val (.double cc), .second, .val (.double ss), .second, .val (.ref a59), .val (.double (FP.dadd (FP.ddiv (4611686018427387904 : UInt64) mm) (FP.ddiv ss cc))), .second, .val (.long tt), .second, .unset, .unset, .unset, .unset] (by rw [h_tt]; rfl) 140 rfl ?_
      refine s_iload X68 hx (hb hby at_140) rfl 142 rfl ?_
      refine s_ifN X68 hx (hb hby at_142) (by decide) 145 rfl ?_
      refine s_iloadN X68 hx (hb hby at_145) rfl 146 rfl ?_
      refine s_i2l X68 hx (hb hby at_146) kk.toInt64 rfl 147 rfl ?_
      refine s_iload X68 hx (hb hby at_147) rfl 149 rfl ?_
      refine s_bipush X68 hx (hb hby at_149) (7 : Int32) rfl 151 rfl ?_
      refine s_iadd X68 hx (hb hby at_151) (b1 + (7 : Int32)) rfl 152 rfl ?_
      refine s_lshl X68 hx (hb hby at_152) (kk.toInt64 <<< ((b1 + (7 : Int32)) &&& 0x3f).toInt64) rfl 153 rfl ?_
      refine s_goto X68 hx (hb hby at_153) 164 (by decide) (by decide) ?_
      obtain ⟨uu, h_uu⟩ : ∃ v, v = (kk.toInt64 <<< ((b1 + (7 : Int32)) &&& 0x3f).toInt64) := ⟨_, rfl⟩
      refine s_lstore X68 hx (hb hby at_164) #[.val (.int i0), .val (.int i1), .val (.int kk), .val (.int a1), .val (.int b1), .val (.int (1 : Int32)), .val (.int (1 : Int32)), .val (.double mm), .second, .val (.double cc), .second, .val (.double ss), .second, .val (.ref a59), .val (.double (FP.dadd (FP.ddiv (4611686018427387904 : UInt64) mm) (FP.ddiv ss cc))), .second, .val (.long tt), .second, .val (.long uu), .second, .unset, .unset] (by rw [h_uu]; rfl) 166 rfl ?_
      refine s_lload X68 hx (hb hby at_166) rfl 168 rfl ?_
      refine s_lload X68 hx (hb hby at_168) rfl 170 rfl ?_
      refine s_ladd X68 hx (hb hby at_170) (tt + uu) rfl 171 rfl ?_
      obtain ⟨ee, h_ee⟩ : ∃ v, v = (tt + uu) := ⟨_, rfl⟩
      refine s_lstore X68 hx (hb hby at_171) #[.val (.int i0), .val (.int i1), .val (.int kk), .val (.int a1), .val (.int b1), .val (.int (1 : Int32)), .val (.int (1 : Int32)), .val (.double mm), .second, .val (.double cc), .second, .val (.double ss), .second, .val (.ref a59), .val (.double (FP.dadd (FP.ddiv (4611686018427387904 : UInt64) mm) (FP.ddiv ss cc))), .second, .val (.long tt), .second, .val (.long uu), .second, .val (.long ee), .second] (by rw [h_ee]; rfl) 173 rfl ?_
      have ht : tt.toInt = ((2 ^ (na.val + 8) : Nat) : Int) := by rw [h_tt, hna]; exact own_up na
      have hu : uu.toInt = kk.toInt * ((2 ^ (nb.val + 7) : Nat) : Int) := by rw [h_uu, hnb, own_ku kk.toInt64 (by rw [Int32.toInt_toInt64]; exact hk.1) (by rw [Int32.toInt_toInt64]; exact hk.2) nb, Int32.toInt_toInt64]
      have he : ee.toInt = tt.toInt + uu.toInt := by rw [h_ee]; exact Jvm.FP.Core.int64_add (by rw [ht, hu]; omega) (by rw [ht, hu]; omega)
      have hsum := own_sum bP bQ dP dQ (he.trans (by rw [ht, hu]))
      refine s_dload X68 hx (hb hby at_173) rfl 175 rfl ?_
      refine s_ldc2D X68 hx (hb hby at_175) hZ hown (wd hw 37 _ rfl) 178 rfl ?_
      refine s_dmul X68 hx (hb hby at_178) (FP.dmul (FP.dadd (FP.ddiv (4611686018427387904 : UInt64) mm) (FP.ddiv ss cc)) (4638707616191610880 : UInt64)) rfl hsum.2.1 179 rfl ?_
      refine s_lload X68 hx (hb hby at_179) rfl 181 rfl ?_
      refine s_l2d X68 hx (hb hby at_181) (FP.l2d ee) rfl 182 rfl ?_
      refine s_dcmp X68 hx (hb hby at_182) (0 : Int32) (by rw [show FP.dcmp (FP.dmul (FP.dadd (FP.ddiv (4611686018427387904 : UInt64) mm) (FP.ddiv ss cc)) (4638707616191610880 : UInt64)) (FP.l2d ee) = some .eq from hsum.2.2]; rfl) 183 rfl ?_
      refine s_ifN X68 hx (hb hby at_183) (by decide) 186 rfl ?_
      refine s_iconst X68 hx (hb hby at_186) (1 : Int32) rfl 187 rfl ?_
      refine s_goto X68 hx (hb hby at_187) 191 (by decide) (by decide) ?_
      exact retZ X68 hx hlk hret (hb hby at_191) (by decide) hh68 ⟨rfl, M68⟩ (by decide) (by decide)
set_option maxRecDepth 65536 in
set_option maxHeartbeats 40000000 in
theorem comes_1 {Post : Tables → Env → Array Value → State → Outcome → State → Prop} (hpost : ∀ tb e args s v u, (limb_1_1.after args s (.returned v) u = true ∧ limb_1_2.after args s (.returned v) u = true ∧ True) → FrameEnd s (.returned v) u (Jvm.fieldLocs frame_1_writes args s ++ Jvm.arrayLocs frame_1_arrays args s ++ Jvm.staticLocs frame_1_statics s) 16 128 → Post tb e args s (.returned v) u) :
    ArmFor flags0 classFile x code maxLocals ret World_1 tables_1 room_1 Calls_1 rest_1 Pre_1 Post := by
  intro l hfl _ _ p e ha hc hk s m args below hf hA hF happ hP
  obtain ⟨hcalls, hrest, hpre⟩ := hP
  obtain ⟨-, -, -, hnamed, -, -, -, hat⟩ := (Spec.applies_iff hf).mp happ
  obtain ⟨hg, hn⟩ := and_e (Cond.before_iff.mp (show (Jvm.Cond.and given_1 narrow_1).before args s = true from hpre))
  obtain ⟨hg0, hg1⟩ := and_e hg
  obtain ⟨w0, w1, rfl⟩ : ∃ w0 w1 : Value, args = #[w0, w1] := by
    have hs : args.size = 2 := by simpa [Cond.value, given_1] using hg0
    obtain ⟨L⟩ := args
    match L, hs with
    | [w0, w1], _ => exact ⟨w0, w1, rfl⟩
  have hw := fun d (hd : d ∈ tables_1) => atoms_spec (ws := Jvm.Cond.code x code maxLocals ret :: tables_1) hat d (List.mem_cons_of_mem _ hd)
  obtain ⟨ga0, hg2⟩ := and_e hg1
  have ga1 := hg2
  obtain ⟨i0, ei0⟩ := is_v ga0
  obtain rfl : w0 = .int i0 := Option.some.inj ei0
  obtain ⟨i1, ei1⟩ := is_v ga1
  obtain rfl : w1 = .int i1 := Option.some.inj ei1
  obtain ⟨n, o, h1, h2, h3, _, L, rfl, ⟨rfl, N⟩, hq⟩ := rm_law l s _ hw tables_1 i0 i1 s.heap s.heap.size (Nat.le_refl _) p e ha hc hk s m _ below hf ((Spec.applies_iff_loose hf).mp happ).1 ⟨rfl, State.Warmed39.refl s, rfl⟩ trivial
  refine ⟨n, _, h1, h2, h3, hpost _ _ _ _ _ _ ⟨Cond.after_iff.mpr rfl, Cond.after_iff.mpr (eq_i res_at (Term.int_eval (1)) rfl), trivial⟩ ⟨hq.1, hq.2.1, (hq.2.2.sift fun y hy => Or.inr (N y hy)).mono (by decide) (by decide)⟩⟩
theorem main_1_1 : Claimed_1_1 := comes_1 fun _ _ _ _ _ _ h hF => ⟨h.1, hF⟩
theorem main_1_2 : Claimed_1_2 := comes_1 fun _ _ _ _ _ _ h hF => ⟨h.2.1, hF⟩
end Jvm.Pilot.@@N@@
namespace Jvm.Pilot.@@N@@
open Jvm Jvm.ClassFile Sem Op Lib Jvm.Free Jvm.Stand Jvm.Pilot.@@N@@.Jvm.D
/-! MADE BY PROGRAM (witnessworld.py) out of the Statement's table words and the real class files: 10 classes; the members and pool entries that the words name. The judged class is class 1, her method 1. -/
namespace start1
open Jvm.ClassFile
def u (s : String) : CpInfo := .utf8 (stringToUtf16 s)
/-- a pool by its gaps: so many unusable entries, then the entry; so many at the end -/
def gap : Nat → List CpInfo → List CpInfo
  | 0, r => r
  | n + 1, r => .unusable :: gap n r
def poolList (es : List (Nat × CpInfo)) (last : Nat) : List CpInfo := es.foldr (fun e r => gap e.1 (e.2 :: r)) (gap last [])
def pool (es : List (Nat × CpInfo)) (last : Nat) : Array CpInfo := ⟨poolList es last⟩
def fileOf (pool : Array CpInfo) (this : Nat) (attrs : Array Attribute := #[]) (ms : Array MethodInfo := #[]) (fl : Nat := 33) (sup : Nat := 0) (ifs : Array Nat := #[]) (fds : Array FieldInfo := #[]) : ClassFile where
  minorVersion := 0
  majorVersion := 65
  constantPool := pool
  accessFlags := fl
  thisClass := this
  superClass := sup
  interfaces := ifs
  fields := fds
  methods := ms
  attributes := attrs
def plain (name : String) (sup : Option ClassId) : Class where
  name := name
  kind := .ordinary
  loader := none
  accessFlags := 33
  super := sup
  interfaces := #[]
  cf := none
  fields := #[]
  methods := #[]
  instanceTypes := #[]
  staticTypes := #[]
  resolved := #[]
  callSites := []
  init := .initialized
  statics := none
  mirror := none

def pool0 : Array CpInfo := pool [(5, u "<init>"), (0, u "()V"), (1, .class_ 10), (1, u "java/lang/Object")] 113

def k0c0 : Code := { maxStack := 0, maxLocals := 1, code := object_method_1_code, exceptionTable := #[], attributes := #[] }
def k0m0 : Method := { name := "<init>", desc := "()V", sig := { parameters := [], returnType := none }, accessFlags := 1, code := some k0c0 }
/-- java/lang/Object -/
def k0 : Class := { plain "java/lang/Object" none with
  accessFlags := 33
  interfaces := #[]
  cf := some (fileOf pool0 8 #[] #[{ accessFlags := 1, nameIndex := 5, descriptorIndex := 6, attributes := #[] }] 33 0 #[] #[])
  fields := #[]
  methods := #[k0m0]
  instanceTypes := #[]
  staticTypes := #[]
  resolved := Array.replicate 124 none
  statics := none }

def pool1 : Array CpInfo := pool [(2, .class_ 4), (1, u "java/lang/Object"), (0, u "<init>"), (0, u "()V"), (0, .integer 2147483647), (0, .class_ 9), (0, u "com/example/trunkwright/trunkwright/planning/CostRates"), (0, .methodref 8 11), (0, .nameAndType 5 12), (0, u "(DDD)V"), (0, .methodref 14 15), (0, .class_ 16), (0, .nameAndType 17 18), (0, u "com/example/trunkwright/trunkwright/planning/SizingLimits"), (0, u "ccsCost"), (0, u "(Lcom/example/trunkwright/trunkwright/planning/CostRates;)D"), (0, .double 4638707616191610880), (1, .class_ 22), (0, u "com/example/trunkwright/trunkwright/planning/SizingLimitsCcsCostPinLaw"), (2, u "law"), (0, u "(II)Z")] 3

def k1m0 : Method := { name := "<init>", desc := "()V", sig := { parameters := [], returnType := none }, accessFlags := 2, code := none }
def k1c1 : Code := { maxStack := 8, maxLocals := 22, code := code, exceptionTable := #[], attributes := #[] }
def k1m1 : Method := { name := "law", desc := "(II)Z", sig := { parameters := [.int, .int], returnType := some .boolean }, accessFlags := 9, code := some k1c1 }
/-- com/example/trunkwright/trunkwright/planning/SizingLimitsCcsCostPinLaw -/
def k1 : Class := { plain "com/example/trunkwright/trunkwright/planning/SizingLimitsCcsCostPinLaw" (some 0) with
  accessFlags := 49
  interfaces := #[]
  cf := some (fileOf pool1 21 #[] #[{ accessFlags := 2, nameIndex := 5, descriptorIndex := 6, attributes := #[] }, { accessFlags := 9, nameIndex := 25, descriptorIndex := 26, attributes := #[] }] 49 2 #[] #[])
  fields := #[]
  methods := #[k1m0, k1m1]
  instanceTypes := #[]
  staticTypes := #[]
  resolved := Array.replicate 30 none
  statics := none }

def pool2 : Array CpInfo := pool [(1, .methodref 2 3), (0, .class_ 4), (0, .nameAndType 5 6), (0, u "java/lang/Object"), (0, u "<init>"), (0, u "()V"), (2, .double 9218868437227405312), (12, .fieldref 23 24), (0, .class_ 25), (0, .nameAndType 26 27), (0, u "com/example/trunkwright/trunkwright/planning/CostRates"), (0, u "trunkCost"), (0, u "D"), (0, .fieldref 23 29), (0, .nameAndType 30 27), (0, u "switchCost"), (0, .fieldref 23 32), (0, .nameAndType 33 27), (0, u "ccsPerTrunk"), (0, u "(DDD)V"), (3, u "()D")] 21

def k2c0 : Code := { maxStack := 4, maxLocals := 7, code := prog_10_method_1_code, exceptionTable := #[], attributes := #[] }
def k2m0 : Method := { name := "<init>", desc := "(DDD)V", sig := { parameters := [.double, .double, .double], returnType := none }, accessFlags := 1, code := some k2c0 }
def k2c1 : Code := { maxStack := 2, maxLocals := 1, code := prog_10_method_2_code, exceptionTable := #[], attributes := #[] }
def k2m1 : Method := { name := "trunkCost", desc := "()D", sig := { parameters := [], returnType := some .double }, accessFlags := 1, code := some k2c1 }
def k2c2 : Code := { maxStack := 2, maxLocals := 1, code := prog_10_method_3_code, exceptionTable := #[], attributes := #[] }
def k2m2 : Method := { name := "switchCost", desc := "()D", sig := { parameters := [], returnType := some .double }, accessFlags := 1, code := some k2c2 }
def k2c3 : Code := { maxStack := 2, maxLocals := 1, code := prog_10_method_4_code, exceptionTable := #[], attributes := #[] }
def k2m3 : Method := { name := "ccsPerTrunk", desc := "()D", sig := { parameters := [], returnType := some .double }, accessFlags := 1, code := some k2c3 }
/-- com/example/trunkwright/trunkwright/planning/CostRates -/
def k2 : Class := { plain "com/example/trunkwright/trunkwright/planning/CostRates" (some 0) with
  accessFlags := 49
  interfaces := #[]
  cf := some (fileOf pool2 23 #[] #[{ accessFlags := 1, nameIndex := 5, descriptorIndex := 34, attributes := #[] }, { accessFlags := 1, nameIndex := 26, descriptorIndex := 38, attributes := #[] }, { accessFlags := 1, nameIndex := 30, descriptorIndex := 38, attributes := #[] }, { accessFlags := 1, nameIndex := 33, descriptorIndex := 38, attributes := #[] }] 49 2 #[] #[{ accessFlags := 18, nameIndex := 26, descriptorIndex := 27, attributes := #[] }, { accessFlags := 18, nameIndex := 30, descriptorIndex := 27, attributes := #[] }, { accessFlags := 18, nameIndex := 33, descriptorIndex := 27, attributes := #[] }])
  fields := #[{ name := "trunkCost", type := .double, accessFlags := 18, slot := 0, constantValue := 0 }, { name := "switchCost", type := .double, accessFlags := 18, slot := 1, constantValue := 0 }, { name := "ccsPerTrunk", type := .double, accessFlags := 18, slot := 2, constantValue := 0 }]
  methods := #[k2m0, k2m1, k2m2, k2m3]
  instanceTypes := #[.double, .double, .double]
  staticTypes := #[]
  resolved := Array.replicate 60 none
  statics := none }

def pool3 : Array CpInfo := pool [(4, .class_ 6), (1, u "java/lang/Object"), (0, u "<init>"), (0, u "()V"), (0, .methodref 10 11), (0, .class_ 12), (0, .nameAndType 13 14), (0, u "com/example/trunkwright/trunkwright/planning/CostRates"), (0, u "trunkCost"), (0, u "()D"), (8, .class_ 25), (1, u "com/example/trunkwright/trunkwright/planning/SizingLimits"), (0, u "ccsCost"), (0, u "(Lcom/example/trunkwright/trunkwright/planning/CostRates;)D"), (40, .double 4611686018427387904), (1, .methodref 10 71), (0, .nameAndType 72 14), (0, u "ccsPerTrunk"), (0, .methodref 10 74), (0, .nameAndType 75 14), (0, u "switchCost"), (0, u "CCS_COST_RANGE"), (0, u "D"), (1, u "LARGEST_LOAD")] 24

def k3m0 : Method := { name := "<init>", desc := "()V", sig := { parameters := [], returnType := none }, accessFlags := 2, code := none }
def k3c1 : Code := { maxStack := 6, maxLocals := 1, code := prog_26_method_3_code, exceptionTable := #[], attributes := #[] }
def k3m1 : Method := { name := "ccsCost", desc := "(Lcom/example/trunkwright/trunkwright/planning/CostRates;)D", sig := { parameters := [(.object "com/example/trunkwright/trunkwright/planning/CostRates")], returnType := some .double }, accessFlags := 8, code := some k3c1 }
/-- com/example/trunkwright/trunkwright/planning/SizingLimits -/
def k3 : Class := { plain "com/example/trunkwright/trunkwright/planning/SizingLimits" (some 0) with
  accessFlags := 48
  interfaces := #[]
  cf := some (fileOf pool3 23 #[] #[{ accessFlags := 2, nameIndex := 7, descriptorIndex := 8, attributes := #[] }, { accessFlags := 8, nameIndex := 26, descriptorIndex := 27, attributes := #[] }] 48 4 #[] #[{ accessFlags := 26, nameIndex := 76, descriptorIndex := 77, attributes := #[] }, { accessFlags := 26, nameIndex := 79, descriptorIndex := 77, attributes := #[] }])
  fields := #[{ name := "CCS_COST_RANGE", type := .double, accessFlags := 26, slot := 0, constantValue := 0 }, { name := "LARGEST_LOAD", type := .double, accessFlags := 26, slot := 1, constantValue := 0 }]
  methods := #[k3m0, k3m1]
  instanceTypes := #[]
  staticTypes := #[.double, .double]
  resolved := Array.replicate 104 none
  statics := none }

def pool4 : Array CpInfo := pool [(1, u "java/lang/Cloneable"), (0, .class_ 1), (0, u "java/lang/Object"), (0, .class_ 3)] 3

/-- java/lang/Cloneable -/
def k4 : Class := { plain "java/lang/Cloneable" (some 0) with
  accessFlags := 1537
  interfaces := #[]
  cf := some (fileOf pool4 2 #[] #[] 1537 4 #[] #[])
  fields := #[]
  methods := #[]
  instanceTypes := #[]
  staticTypes := #[]
  resolved := Array.replicate 8 none
  statics := none }

def pool5 : Array CpInfo := pool [(1, u "java/io/Serializable"), (0, .class_ 1), (0, u "java/lang/Object"), (0, .class_ 3)] 3

/-- java/io/Serializable -/
def k5 : Class := { plain "java/io/Serializable" (some 0) with
  accessFlags := 1537
  interfaces := #[]
  cf := some (fileOf pool5 2 #[] #[] 1537 4 #[] #[])
  fields := #[]
  methods := #[]
  instanceTypes := #[]
  staticTypes := #[]
  resolved := Array.replicate 8 none
  statics := none }

/-- the primitive byte -/
def k6 : Class := { plain "byte" none with kind := .primitive 'B', accessFlags := 0x411 }
/-- [B -/
def k7 : Class := { plain "[B" (some 0) with kind := .array 6 .byte, interfaces := #[4, 5], accessFlags := 1041 }

/-- the primitive int -/
def k8 : Class := { plain "int" none with kind := .primitive 'I', accessFlags := 0x411 }
/-- [I -/
def k9 : Class := { plain "[I" (some 0) with kind := .array 8 .int, interfaces := #[4, 5], accessFlags := 1041 }

def heap : Heap := #[]
def classes : Array Class := #[k0, k1, k2, k3, k4, k5, k6, k7, k8, k9]
def interned : List (Array UInt16 × Addr) := []
def slotsUsed : Nat := 0
def theMethod : MethodId := ⟨1, 1⟩
def args0 : Array Value := #[.int 3, .int 2]
def aboutOver (below : List Frame) : State where
  vm := { classes := classes, interned := interned.toArray }
  heap := heap
  slotsUsed := slotsUsed
  threads := #[{ frames := .invoking theMethod args0 :: below }]
def below0 : List Frame := [.native { method := ⟨0, 0⟩, args := #[] }]
def about1 : State := aboutOver below0
def p0 : Program := .bare "" "" ""
def e0 : Env := launch0.env 0 0 0
theorem w_frames : about1.frames = Frame.invoking theMethod args0 :: below0 := rfl
set_option maxRecDepth 65536 in
theorem w_args : argsFit about1.vm theMethod args0 = true := by decide +kernel
set_option maxRecDepth 65536 in
theorem w_heap : heapFits about1 = true := by decide +kernel
set_option maxRecDepth 65536 in
theorem w_runnable : about1.curStatus? = some .runnable := by decide +kernel
set_option maxRecDepth 65536 in
theorem w_alone : about1.alone = true := by decide +kernel
set_option maxRecDepth 65536 in
theorem w_named : about1.methodNamed? x = some theMethod := by decide +kernel
set_option maxRecDepth 65536 in
theorem w_hears : about1.hears theMethod below0 = true := by decide +kernel
set_option maxRecDepth 65536 in
theorem w_ripe : about1.ripe theMethod args0 below0 = true := by decide +kernel
theorem w_running : about1.status = .running := rfl
set_option maxRecDepth 65536 in
theorem w_room : about1.hasRoom e0.platform room_1 = true :=
  launch0.hasRoom_least _ room_1 (by decide +kernel) (by decide +kernel) (by decide +kernel) (by decide +kernel) (by decide +kernel) (by decide +kernel)
theorem allAtoms_all (ts : List Jvm.Cond) (a : Array Jvm.Value) (st : Jvm.State) : (allAtoms ts).before a st = ts.all (fun c => c.before a st) := by
  induction ts with
  | nil => rfl
  | cons c t ih =>
    show (Jvm.Cond.and c (allAtoms t)).before a st = _
    rw [Jvm.Cond.before_and, ih, List.all_cons]
def words1 : List Jvm.Cond := Jvm.Cond.code x code maxLocals ret :: tables_1
/-- a 'code' word, met by the world's own term for the bytes: nothing is compared byte by byte -/
theorem code_word {y : MethodName} {bytes : ByteArray} {mx : Nat} {rt : Option FieldType} {a : Array Value} {s : State} {m : MethodId} {meth : Method} {c : Code} (h1 : s.methodNamed? y = some m) (h2 : s.vm.method? m = some meth) (h3 : meth.code = some c) (h4 : c.code = bytes)
    (h5 : (c.maxLocals == mx && c.exceptionTable.isEmpty && decide (c.maxStack ≤ mostOperands) && decide (meth.sig.returnType = rt) && !meth.locks && decide (parseMethodDescriptor y.desc = some meth.sig)) = true) : (Jvm.Cond.code y bytes mx rt).before a s = true := by
  simp only [Bool.and_eq_true, beq_iff_eq, Bool.not_eq_true', decide_eq_true_eq] at h5
  obtain ⟨⟨⟨⟨⟨g1, g2⟩, g3⟩, g4⟩, g5⟩, g6⟩ := h5
  simp [Cond.before, Cond.holds, Cond.value, h1, h2, h3, h4, g1, g2, g3, g4, g5, g6]
def isCode : Jvm.Cond → Bool
  | .code _ _ _ _ => true
  | _ => false
theorem all_split {L : List Jvm.Cond} {P : Jvm.Cond → Bool} (h1 : L.all (fun c => isCode c || P c) = true) (h2 : ∀ c ∈ L.filter isCode, P c = true) : L.all P = true := by
  refine List.all_eq_true.mpr fun c hc => ?_
  have h := List.all_eq_true.mp h1 c hc
  rcases Bool.eq_false_or_eq_true (isCode c) with hi | hi
  · exact h2 c (List.mem_filter.mpr ⟨hc, hi⟩)
  · simpa [hi] using h
set_option maxRecDepth 65536 in
theorem w_c0 : (Jvm.Cond.code x code maxLocals ret).before args0 about1 = true := code_word (m := ⟨1, 1⟩) (meth := k1m1) (c := k1c1) (by decide +kernel) rfl rfl rfl (by decide +kernel)
set_option maxRecDepth 65536 in
theorem w_c1 : (Jvm.Cond.code ({ cls := "com/example/trunkwright/trunkwright/planning/CostRates", name := "<init>", desc := "(DDD)V" } : Jvm.MethodName) prog_10_method_1_code (7 : Nat) (Option.none : Option Jvm.ClassFile.FieldType)).before args0 about1 = true := code_word (m := ⟨2, 0⟩) (meth := k2m0) (c := k2c0) (by decide +kernel) rfl rfl rfl (by decide +kernel)
set_option maxRecDepth 65536 in
theorem w_c2 : (Jvm.Cond.code ({ cls := "java/lang/Object", name := "<init>", desc := "()V" } : Jvm.MethodName) object_method_1_code (1 : Nat) (Option.none : Option Jvm.ClassFile.FieldType)).before args0 about1 = true := code_word (m := ⟨0, 0⟩) (meth := k0m0) (c := k0c0) (by decide +kernel) rfl rfl rfl (by decide +kernel)
set_option maxRecDepth 65536 in
theorem w_c3 : (Jvm.Cond.code ({ cls := "com/example/trunkwright/trunkwright/planning/SizingLimits", name := "ccsCost", desc := "(Lcom/example/trunkwright/trunkwright/planning/CostRates;)D" } : Jvm.MethodName) prog_26_method_3_code (1 : Nat) (Option.some Jvm.ClassFile.FieldType.double)).before args0 about1 = true := code_word (m := ⟨3, 1⟩) (meth := k3m1) (c := k3c1) (by decide +kernel) rfl rfl rfl (by decide +kernel)
set_option maxRecDepth 65536 in
theorem w_c4 : (Jvm.Cond.code ({ cls := "com/example/trunkwright/trunkwright/planning/CostRates", name := "ccsPerTrunk", desc := "()D" } : Jvm.MethodName) prog_10_method_4_code (1 : Nat) (Option.some Jvm.ClassFile.FieldType.double)).before args0 about1 = true := code_word (m := ⟨2, 3⟩) (meth := k2m3) (c := k2c3) (by decide +kernel) rfl rfl rfl (by decide +kernel)
set_option maxRecDepth 65536 in
theorem w_c5 : (Jvm.Cond.code ({ cls := "com/example/trunkwright/trunkwright/planning/CostRates", name := "switchCost", desc := "()D" } : Jvm.MethodName) prog_10_method_3_code (1 : Nat) (Option.some Jvm.ClassFile.FieldType.double)).before args0 about1 = true := code_word (m := ⟨2, 2⟩) (meth := k2m2) (c := k2c2) (by decide +kernel) rfl rfl rfl (by decide +kernel)
set_option maxRecDepth 65536 in
theorem w_c6 : (Jvm.Cond.code ({ cls := "com/example/trunkwright/trunkwright/planning/CostRates", name := "trunkCost", desc := "()D" } : Jvm.MethodName) prog_10_method_2_code (1 : Nat) (Option.some Jvm.ClassFile.FieldType.double)).before args0 about1 = true := code_word (m := ⟨2, 1⟩) (meth := k2m1) (c := k2c1) (by decide +kernel) rfl rfl rfl (by decide +kernel)
def codes1 : List Jvm.Cond := [Jvm.Cond.code x code maxLocals ret, Jvm.Cond.code ({ cls := "com/example/trunkwright/trunkwright/planning/CostRates", name := "<init>", desc := "(DDD)V" } : Jvm.MethodName) prog_10_method_1_code (7 : Nat) (Option.none : Option Jvm.ClassFile.FieldType), Jvm.Cond.code ({ cls := "java/lang/Object", name := "<init>", desc := "()V" } : Jvm.MethodName) object_method_1_code (1 : Nat) (Option.none : Option Jvm.ClassFile.FieldType), Jvm.Cond.code ({ cls := "com/example/trunkwright/trunkwright/planning/SizingLimits", name := "ccsCost", desc := "(Lcom/example/trunkwright/trunkwright/planning/CostRates;)D" } : Jvm.MethodName) prog_26_method_3_code (1 : Nat) (Option.some Jvm.ClassFile.FieldType.double), Jvm.Cond.code ({ cls := "com/example/trunkwright/trunkwright/planning/CostRates", name := "ccsPerTrunk", desc := "()D" } : Jvm.MethodName) prog_10_method_4_code (1 : Nat) (Option.some Jvm.ClassFile.FieldType.double), Jvm.Cond.code ({ cls := "com/example/trunkwright/trunkwright/planning/CostRates", name := "switchCost", desc := "()D" } : Jvm.MethodName) prog_10_method_3_code (1 : Nat) (Option.some Jvm.ClassFile.FieldType.double), Jvm.Cond.code ({ cls := "com/example/trunkwright/trunkwright/planning/CostRates", name := "trunkCost", desc := "()D" } : Jvm.MethodName) prog_10_method_2_code (1 : Nat) (Option.some Jvm.ClassFile.FieldType.double)]
set_option maxRecDepth 65536 in
theorem codes_eq : words1.filter isCode = codes1 := rfl
theorem w_codes : ∀ c ∈ words1.filter isCode, c.before args0 about1 = true := by
  rw [codes_eq]
  intro c hc
  simp only [codes1, List.mem_cons, List.not_mem_nil, or_false] at hc
  rcases hc with rfl | rfl | rfl | rfl | rfl | rfl | rfl
  · exact w_c0
  · exact w_c1
  · exact w_c2
  · exact w_c3
  · exact w_c4
  · exact w_c5
  · exact w_c6
set_option maxRecDepth 65536 in
theorem w_t1 : (words1.take 24).all (fun c => isCode c || c.before args0 about1) = true := by decide +kernel
set_option maxRecDepth 65536 in
theorem w_t2 : (words1.drop 24).all (fun c => isCode c || c.before args0 about1) = true := by decide +kernel
theorem w_tables : (allAtoms (Jvm.Cond.code x code maxLocals ret :: tables_1)).before args0 about1 = true := by
  rw [allAtoms_all]
  show words1.all (fun c => c.before args0 about1) = true
  refine all_split ?_ w_codes
  rw [← List.take_append_drop 24 words1, List.all_append, w_t1, w_t2]
  rfl
set_option maxRecDepth 65536 in
theorem w_case : (Jvm.Cond.and given_1 narrow_1).before args0 about1 = true := by decide +kernel
theorem w_applies : (headSpec (Jvm.Cond.code x code maxLocals ret :: tables_1) room_1).applies x e0.platform about1 = true :=
  (Spec.applies_iff w_frames).mpr ⟨w_running, w_runnable, w_alone, w_named, w_hears, w_ripe, w_room, w_tables⟩
theorem atStart : AtStart classFile x code maxLocals ret World_1 tables_1 room_1 Calls_1 rest_1 Pre_1 launch0 p0 e0 about1 theMethod args0 below0 :=
  ⟨lists_1, trivial, launch0.admits_env _ _ _, launch0.least_env, fairChoices_fair.cas, fairChoices_fair.clock, w_frames, w_args, w_heap, w_applies, trivial, trivial, w_case⟩
end start1
theorem witness_1 : WitnessClaimed_1 := ⟨start1.p0, start1.e0, start1.about1, start1.theMethod, start1.args0, start1.below0, start1.atStart⟩
end Jvm.Pilot.@@N@@
